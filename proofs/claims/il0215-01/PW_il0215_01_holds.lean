import PyProof.Rows.All
import Wide.All
import OpenK.AllK
import Wide.FinOn
import PySem.Challenge.RW_il0215_01
set_option Elab.async false
set_option linter.unusedVariables false
set_option maxRecDepth 100000
namespace Mine
open PySem PySem.W PyProof.Rows PySem.Calls

theorem lt_mil {a : Nat} (h : a < 1000000) : (a : Int) < 1000000 := by (first | lia | omega)

/-! A value-level logic: data as PyData, all lists but the owned ones immutable. -/

abbrev KeepAll (h h' : Heap) : Prop := ∀ b o, h.get? b = some o → h'.get? b = some o

theorem KeepAll.trans {h₁ h₂ h₃ : Heap} (x : KeepAll h₁ h₂) (y : KeepAll h₂ h₃) : KeepAll h₁ h₃ := fun b o e => y b o (x b o e)
theorem KeepAll.push (h : Heap) (o : Obj) : KeepAll h (h.push o) := fun _ _ e => Heap.get?_push_of_some _ e

theorem keeps_refl (s : Shared) : Keeps s s := ⟨s.heap, s.toks, rfl, fun _ _ e => e⟩
theorem keeps_trans {s₁ s₂ s₃ : Shared} (x : Keeps s₁ s₂) (y : Keeps s₂ s₃) : Keeps s₁ s₃ := by
  obtain ⟨h, t, rfl, k⟩ := x
  obtain ⟨h', t', rfl, k'⟩ := y
  exact ⟨h', t', rfl, fun b o e => k' b o (k b o e)⟩
theorem keeps_heap {s s' : Shared} (x : Keeps s s') : KeepAll s.heap s'.heap := by
  obtain ⟨h, t, rfl, k⟩ := x
  exact k
theorem keeps_tok (s : Shared) (t : Nat) : Keeps s { s with toks := t } := ⟨s.heap, t, rfl, fun _ _ e => e⟩
theorem keeps_push (s : Shared) (o : Obj) : Keeps s { s with heap := s.heap.push o } := ⟨_, s.toks, rfl, fun _ _ e => Heap.get?_push_of_some _ e⟩
theorem get?_size (h : Heap) : h.get? h.objs.size = none := by
  cases e : h.get? h.objs.size with
  | none => rfl
  | some o => exact absurd (Heap.lt_size e) (Nat.lt_irrefl _)

theorem isList_keeps {h h' : Heap} {a : Addr} {vs : Array Value} (x : h.IsList a vs) (k : ∀ o, h.get? a = some o → h'.get? a = some o) : h'.IsList a vs := x.at k
theorem isTuple_keeps {h h' : Heap} {a : Addr} {vs : Array Value} (x : h.IsTuple a vs) (k : ∀ o, h.get? a = some o → h'.get? a = some o) : h'.IsTuple a vs :=
  let ⟨o, ho, r⟩ := x; ⟨o, k o ho, r⟩

abbrev Gh := Addr → Option Obj
def GIn (h0 : Gh) (h : Heap) : Prop := ∀ b o, h0 b = some o → h.get? b = some o
theorem GIn.keeps {h0 : Gh} {h h' : Heap} (x : GIn h0 h) (k : KeepAll h h') : GIn h0 h' := fun b o e => k b o (x b o e)

/-- a list, and no dict of its own -/
def LAt (h : Heap) (a : Addr) (vs : Array Value) : Prop := h.IsList a vs ∧ ∃ o, h.get? a = some o ∧ o.dict = none
theorem LAt.of {h : Heap} {a : Addr} {vs : Array Value} {n : Nat} (e : h.get? a = some (listOf vs n)) : LAt h a vs := ⟨⟨_, e, rfl, n, rfl⟩, _, e, rfl⟩
theorem LAt.keeps {h h' : Heap} {a : Addr} {vs : Array Value} (x : LAt h a vs) (k : ∀ o, h.get? a = some o → h'.get? a = some o) : LAt h' a vs :=
  ⟨isList_keeps x.1 k, let ⟨o, e, d⟩ := x.2; ⟨o, k o e, d⟩⟩

mutual
inductive Rep (W : Addr → Prop) (h : Heap) : Value → PyData → Prop
  | none : Rep W h .none .none
  | bool (b : Bool) : Rep W h (.bool b) (.bool b)
  | int (i : Int) (t : Tok) : Rep W h (.int i t) (.int i)
  | str (x : Str) (t : Tok) : Rep W h (.str x t) (.str x)
  | list {a : Addr} {vs : List Value} {ds : List PyData} : ¬ W a → LAt h a vs.toArray → RepAll W h vs ds → Rep W h (.ref a) (.list ds)
  | tuple {a : Addr} {vs : List Value} {ds : List PyData} : ¬ W a → h.IsTuple a vs.toArray → RepAll W h vs ds → Rep W h (.ref a) (.tuple ds)
inductive RepAll (W : Addr → Prop) (h : Heap) : List Value → List PyData → Prop
  | nil : RepAll W h [] []
  | cons {v : Value} {vs : List Value} {d : PyData} {ds : List PyData} : Rep W h v d → RepAll W h vs ds → RepAll W h (v :: vs) (d :: ds)
end

section
variable {W W' : Addr → Prop} {h h' : Heap}
theorem Rep.gen (hW : ∀ a, W' a → W a ∨ h.get? a = Option.none) (hk : ∀ b o, ¬ W b → h.get? b = some o → h'.get? b = some o) {v : Value} {d : PyData} (r : Rep W h v d) : Rep W' h' v d :=
  Rep.rec (motive_1 := fun v d _ => Rep W' h' v d) (motive_2 := fun vs ds _ => RepAll W' h' vs ds) Rep.none (fun b => .bool b) (fun i t => .int i t) (fun x t => .str x t)
    (fun {a _ _} hn hl _ ih => .list (fun w => (hW a w).elim hn fun e => by obtain ⟨o, ho, _⟩ := hl.1; rw [e] at ho; cases ho) (hl.keeps fun o => hk a o hn) ih)
    (fun {a _ _} hn hl _ ih => .tuple (fun w => (hW a w).elim hn fun e => by obtain ⟨o, ho, _⟩ := hl; rw [e] at ho; cases ho) (isTuple_keeps hl fun o => hk a o hn) ih) .nil (fun _ _ ih1 ih2 => .cons ih1 ih2) r
theorem RepAll.gen (hW : ∀ a, W' a → W a ∨ h.get? a = Option.none) (hk : ∀ b o, ¬ W b → h.get? b = some o → h'.get? b = some o) {vs : List Value} {ds : List PyData} (r : RepAll W h vs ds) : RepAll W' h' vs ds :=
  RepAll.rec (motive_1 := fun v d _ => Rep W' h' v d) (motive_2 := fun vs ds _ => RepAll W' h' vs ds) Rep.none (fun b => .bool b) (fun i t => .int i t) (fun x t => .str x t)
    (fun hn hl r _ => Rep.gen hW hk (.list hn hl r)) (fun hn hl r _ => Rep.gen hW hk (.tuple hn hl r)) .nil (fun _ _ ih1 ih2 => .cons ih1 ih2) r
theorem Rep.keeps {v : Value} {d : PyData} (x : Rep W h v d) (hk : KeepAll h h') : Rep W h' v d := x.gen (fun _ w => .inl w) fun b o _ e => hk b o e
theorem RepAll.keeps {v : List Value} {d : List PyData} (x : RepAll W h v d) (hk : KeepAll h h') : RepAll W h' v d := x.gen (fun _ w => .inl w) fun b o _ e => hk b o e
theorem Rep.less {v : Value} {d : PyData} (x : Rep W h v d) (hW : ∀ a, W' a → W a) : Rep W' h v d := x.gen (fun a w => .inl (hW a w)) fun b o _ e => e
theorem RepAll.less {v : List Value} {d : List PyData} (x : RepAll W h v d) (hW : ∀ a, W' a → W a) : RepAll W' h v d := x.gen (fun a w => .inl (hW a w)) fun b o _ e => e

theorem RepAll.length {vs : List Value} {ds : List PyData} (x : RepAll W h vs ds) : vs.length = ds.length := by
  induction vs generalizing ds with
  | nil => cases x; rfl
  | cons v vs ih => cases x with | cons _ r => simp [ih r]
theorem RepAll.get {vs : List Value} {ds : List PyData} (x : RepAll W h vs ds) {i : Nat} {d : PyData} (hi : ds[i]? = some d) : ∃ v, vs[i]? = some v ∧ Rep W h v d := by
  induction vs generalizing ds i with
  | nil => cases x; simp at hi
  | cons v vs ih =>
    cases x with
    | cons hv r =>
      cases i with
      | zero => simp at hi; subst hi; exact ⟨v, by simp, hv⟩
      | succ i => simp at hi; simpa using ih r hi
theorem RepAll.get' {vs : List Value} {ds : List PyData} (x : RepAll W h vs ds) {i : Nat} {v : Value} (hi : vs[i]? = some v) : ∃ d, ds[i]? = some d ∧ Rep W h v d := by
  induction vs generalizing ds i with
  | nil => simp at hi
  | cons u vs ih =>
    cases x with
    | cons hv r =>
      cases i with
      | zero => simp at hi; subst hi; exact ⟨_, by simp, hv⟩
      | succ i => simp at hi; simpa using ih r hi
theorem RepAll.append {vs ws : List Value} {ds es : List PyData} (x : RepAll W h vs ds) (y : RepAll W h ws es) : RepAll W h (vs ++ ws) (ds ++ es) := by
  induction vs generalizing ds with
  | nil => cases x; exact y
  | cons v vs ih => cases x with | cons hv r => exact .cons hv (ih r)
theorem RepAll.take {vs : List Value} {ds : List PyData} (x : RepAll W h vs ds) (n : Nat) : RepAll W h (vs.take n) (ds.take n) := by
  induction vs generalizing ds n with
  | nil => cases x; simp; exact .nil
  | cons v vs ih =>
    cases x with
    | cons hv r =>
      cases n with
      | zero => simp; exact .nil
      | succ n => simp; exact .cons hv (ih r n)
theorem RepAll.drop {vs : List Value} {ds : List PyData} (x : RepAll W h vs ds) (n : Nat) : RepAll W h (vs.drop n) (ds.drop n) := by
  induction vs generalizing ds n with
  | nil => cases x; simp; exact .nil
  | cons v vs ih =>
    cases x with
    | cons hv r =>
      cases n with
      | zero => simp; exact .cons hv r
      | succ n => simp; exact ih r n
theorem RepAll.reverse {vs : List Value} {ds : List PyData} (x : RepAll W h vs ds) : RepAll W h vs.reverse ds.reverse := by
  induction vs generalizing ds with
  | nil => cases x; exact .nil
  | cons v vs ih => cases x with | cons hv r => simpa using (ih r).append (.cons hv .nil)
end

/-! ### Kinds of knowledge about a value -/
inductive Bd where
  | dat (d : PyData)
  | lst (ds : List PyData)
  | val (v : Value)

def BRep (W : Addr → Prop) (h : Heap) (v : Value) : Bd → Prop
  | .dat d => Rep W h v d
  | .lst ds => ∃ l vs, v = .ref l ∧ h.IsList l vs.toArray ∧ RepAll W h vs ds
  | .val u => v = u

theorem BRep.keeps {W : Addr → Prop} {h h' : Heap} {v : Value} {b : Bd} (x : BRep W h v b) (hk : KeepAll h h') : BRep W h' v b := by
  cases b with
  | dat d => exact Rep.keeps x hk
  | lst ds => obtain ⟨l, vs, e, hl, r⟩ := x; exact ⟨l, vs, e, isList_keeps hl (hk l), r.keeps hk⟩
  | val u => exact x
theorem BRep.less {W W' : Addr → Prop} {h : Heap} {v : Value} {b : Bd} (x : BRep W h v b) (hW : ∀ a, W' a → W a) : BRep W' h v b := by
  cases b with
  | dat d => exact Rep.less x hW
  | lst ds => obtain ⟨l, vs, e, hl, r⟩ := x; exact ⟨l, vs, e, hl, r.less hW⟩
  | val u => exact x
theorem BRep.lst_of_dat {W : Addr → Prop} {h : Heap} {v : Value} {ds : List PyData} (x : BRep W h v (.dat (.list ds))) : BRep W h v (.lst ds) := by
  cases x with
  | list hn hl r => exact ⟨_, _, rfl, hl.1, r⟩

inductive BAll (W : Addr → Prop) (h : Heap) : List Value → List Bd → Prop
  | nil : BAll W h [] []
  | cons {v : Value} {vs : List Value} {b : Bd} {bs : List Bd} : BRep W h v b → BAll W h vs bs → BAll W h (v :: vs) (b :: bs)
theorem BAll.keeps {W : Addr → Prop} {h h' : Heap} {vs : List Value} {bs : List Bd} (x : BAll W h vs bs) (hk : KeepAll h h') : BAll W h' vs bs := by
  induction x with
  | nil => exact .nil
  | cons a _ ih => exact .cons (a.keeps hk) ih
theorem BAll.inv0 {W : Addr → Prop} {h : Heap} {vs : List Value} (x : BAll W h vs []) : vs = [] := by cases x; rfl
theorem BAll.inv_cons {W : Addr → Prop} {h : Heap} {vs : List Value} {b : Bd} {bs : List Bd} (x : BAll W h vs (b :: bs)) : ∃ v us, vs = v :: us ∧ BRep W h v b ∧ BAll W h us bs := by
  cases x with
  | cons r x => exact ⟨_, _, rfl, r, x⟩
theorem BAll.inv1 {W : Addr → Prop} {h : Heap} {vs : List Value} {a : Bd} (x : BAll W h vs [a]) : ∃ u, vs = [u] ∧ BRep W h u a := by
  obtain ⟨u, _, rfl, r, x⟩ := x.inv_cons
  obtain rfl := x.inv0
  exact ⟨u, rfl, r⟩
theorem BAll.inv2 {W : Addr → Prop} {h : Heap} {vs : List Value} {a b : Bd} (x : BAll W h vs [a, b]) : ∃ u v, vs = [u, v] ∧ BRep W h u a ∧ BRep W h v b := by
  obtain ⟨u, _, rfl, r, x⟩ := x.inv_cons
  obtain ⟨v, rfl, r2⟩ := x.inv1
  exact ⟨u, v, rfl, r, r2⟩
theorem BAll.inv3 {W : Addr → Prop} {h : Heap} {vs : List Value} {a b c : Bd} (x : BAll W h vs [a, b, c]) : ∃ u v w, vs = [u, v, w] ∧ BRep W h u a ∧ BRep W h v b ∧ BRep W h w c := by
  obtain ⟨u, _, rfl, r, x⟩ := x.inv_cons
  obtain ⟨v, w, rfl, r2, r3⟩ := x.inv2
  exact ⟨u, v, w, rfl, r, r2, r3⟩
theorem BAll.inv4 {W : Addr → Prop} {h : Heap} {vs : List Value} {a b c d : Bd} (x : BAll W h vs [a, b, c, d]) : ∃ u v w z, vs = [u, v, w, z] ∧ BRep W h u a ∧ BRep W h v b ∧ BRep W h w c ∧ BRep W h z d := by
  obtain ⟨u, _, rfl, r, x⟩ := x.inv_cons
  obtain ⟨v, w, z, rfl, r2, r3, r4⟩ := x.inv3
  exact ⟨u, v, w, z, rfl, r, r2, r3, r4⟩
theorem Rep.inv_int {W : Addr → Prop} {h : Heap} {v : Value} {i : Int} (x : Rep W h v (.int i)) : ∃ t, v = .int i t := by cases x; exact ⟨_, rfl⟩
theorem Rep.inv_str {W : Addr → Prop} {h : Heap} {v : Value} {i : Str} (x : Rep W h v (.str i)) : ∃ t, v = .str i t := by cases x; exact ⟨_, rfl⟩
theorem Rep.inv_none {W : Addr → Prop} {h : Heap} {v : Value} (x : Rep W h v .none) : v = .none := by cases x; rfl
/-- a name's value in a frame -/
inductive VarAt (env : Env) (h : Heap) (x : Str) (v : Value) : Prop
  | loc {m : Str → Option Value} : env.kindOf x = some .local → h.Ns env.locals m → m x = some v → VarAt env h x v
  | cell {c : Addr} : env.kindOf x = some .cell → env.cells.lookup x = some c → h.IsCell c (some v) → VarAt env h x v
  | free {c : Addr} : env.kindOf x = some .free → (x == ("__classdict__" : Str)) = false → env.cells.lookup x = some c → h.IsCell c (some v) → VarAt env h x v
theorem VarAt.keeps {env : Env} {h h' : Heap} {x : Str} {v : Value} (a : VarAt env h x v) (hk : KeepAll h h') : VarAt env h' x v := by
  cases a with
  | loc a b c => exact .loc a (b.keeps hk) c
  | cell a b c => exact .cell a b (c.keeps hk)
  | free a b c d => exact .free a b c (d.keeps hk)
theorem VarAt.load {M : Model} {A : Around} {E : Value → Shared → Prop} {s : Shared} {env : Env} {x : Str} {v : Value} {Q : Value → Shared → Prop} (a : VarAt env s.heap x v) (hk : env.scope.kind = .function) (h : Q v s) :
    wpAny M A (loadName env x) Q E s := by
  cases a with
  | loc a b c => exact wpAny_loadName_local hk a b c h
  | cell a b c => exact wpAny_loadName_cell hk a b c h
  | free a b c d => exact wpAny_loadName_free hk a c d h b

/-! ### Contexts -/
structure Cx where
  prog : Program
  w : World
  A : Around
  g : Gh
  K : Frag
  mg : Str → Option Value
  mb : Str → Option Value
  fuel : Nat

structure Cx.Ok (C : Cx) : Prop where
  hh : C.A.handled = none
  depth : C.A.depth + C.fuel ≤ 600
  units : C.A.units + 8 * C.fuel ≤ 2000
  KIn : ∀ a o, C.K.lookup a = some o → C.g a = some o
  gns : ∀ h, GIn C.g h → h.Ns mainGlobals C.mg
  bns : ∀ h, GIn C.g h → h.Ns builtinsNs C.mb
  nolimit : ∀ h, GIn C.g h → h.NoLimit
  boot : ∀ x : Str, x ≠ "__name__" → C.mb x = bootBuiltins x

structure Cx.St (C : Cx) (W : Addr → Prop) (s : Shared) : Prop where
  g : GIn C.g s.heap
  W : ∀ a, W a → ∃ o, s.heap.get? a = some o
theorem Cx.St.keeps {C : Cx} {W : Addr → Prop} {s s' : Shared} (x : C.St W s) (hk : KeepAll s.heap s'.heap) : C.St W s' :=
  ⟨x.g.keeps hk, fun a w => let ⟨o, ho⟩ := x.W a w; ⟨o, hk a o ho⟩⟩

structure Fm extends Cx where
  env : Env
  sto : Bool

structure Fm.Ok (F : Fm) (W O : Addr → Prop) : Prop where
  cx : F.toCx.Ok
  kind : F.env.scope.kind = .function
  eg : F.env.globals = mainGlobals
  eb : F.env.builtins = builtinsNs
  loc : O F.env.locals
  OW : ∀ a, O a → W a
  Og : ∀ a, O a → F.g a = none
  cne : ∀ x c, F.env.cells.lookup x = some c → c ≠ F.env.locals
  cinj : ∀ x y c, F.env.cells.lookup x = some c → F.env.cells.lookup y = some c → x = y
  cW : ∀ x c, F.env.cells.lookup x = some c → W c
  cO : F.sto = true → ∀ x c, F.env.kindOf x = some .cell → F.env.cells.lookup x = some c → O c

structure Fm.Pre (F : Fm) (W : Addr → Prop) (Γ : List (Str × Bd)) (s : Shared) : Prop where
  st : F.toCx.St W s
  vars : ∀ p ∈ Γ, ∃ v, VarAt F.env s.heap p.1 v ∧ BRep W s.heap v p.2
  ns : ∃ m, s.heap.Ns F.env.locals m
  cells : ∀ x c, F.env.cells.lookup x = some c → ∃ v, s.heap.IsCell c v
theorem Fm.Pre.keeps {F : Fm} {W : Addr → Prop} {Γ : List (Str × Bd)} {s s' : Shared} (x : F.Pre W Γ s) (hk : Keeps s s') : F.Pre W Γ s' :=
  ⟨x.st.keeps (keeps_heap hk), (fun p hp => let ⟨v, a, b⟩ := x.vars p hp; ⟨v, a.keeps (keeps_heap hk), b.keeps (keeps_heap hk)⟩),
    let ⟨m, n⟩ := x.ns; ⟨m, n.keeps (keeps_heap hk)⟩, fun y c e => let ⟨v, n⟩ := x.cells y c e; ⟨v, n.keeps (keeps_heap hk)⟩⟩
theorem Fm.Pre.sub {F : Fm} {W : Addr → Prop} {Γ Γ' : List (Str × Bd)} {s : Shared} (x : F.Pre W Γ s) (h : ∀ p ∈ Γ', p ∈ Γ) : F.Pre W Γ' s := ⟨x.st, fun p hp => x.vars p (h p hp), x.ns, x.cells⟩

structure Wrap (p : Prop) : Prop where
  run : p

/-- what an expression gives -/
abbrev EvB (F : Fm) (Γ : List (Str × Bd)) (e : Expr) (b : Bd) : Prop := Wrap (∀ W O, F.Ok W O → ∀ s, F.Pre W Γ s →
  wpAny (model F.prog F.w) F.A (eval e F.env) (fun v s' => Keeps s s' ∧ BRep W s'.heap v b) (fun _ _ => False) s)
abbrev EvE (F : Fm) (Γ : List (Str × Bd)) (e : Expr) (d : PyData) : Prop := EvB F Γ e (.dat d)
/-- what a test gives -/
abbrev EvT (F : Fm) (Γ : List (Str × Bd)) (e : Expr) (b : Bool) : Prop := Wrap (∀ W O, F.Ok W O → ∀ s, F.Pre W Γ s →
  wpAny (model F.prog F.w) F.A (isTrue e F.env (eval e F.env)) (fun r s' => Keeps s s' ∧ r = b) (fun _ _ => False) s)

section
variable {F : Fm} {Γ : List (Str × Bd)} {W O : Addr → Prop}
theorem EvB.use {e : Expr} {b : Bd} (x : EvB F Γ e b) (ok : F.Ok W O) {s : Shared} (p : F.Pre W Γ s) {Q : Value → Shared → Prop} {E : Value → Shared → Prop}
    (h : ∀ v s', Keeps s s' → F.Pre W Γ s' → BRep W s'.heap v b → Q v s') : wpAny (model F.prog F.w) F.A (eval e F.env) Q E s :=
  wpAny_mono (x.run W O ok s p) (fun v s' ⟨a, c⟩ => h v s' a (p.keeps a) c) fun _ _ f => f.elim
theorem EvT.use {e : Expr} {b : Bool} (x : EvT F Γ e b) (ok : F.Ok W O) {s : Shared} (p : F.Pre W Γ s) {Q : Bool → Shared → Prop} {E : Value → Shared → Prop}
    (h : ∀ s', Keeps s s' → F.Pre W Γ s' → Q b s') : wpAny (model F.prog F.w) F.A (isTrue e F.env (eval e F.env)) Q E s :=
  wpAny_mono (x.run W O ok s p) (fun v s' ⟨a, c⟩ => c ▸ h s' a (p.keeps a)) fun _ _ f => f.elim
end

/-! ### Atoms -/
section
variable {F : Fm} {Γ : List (Str × Bd)}

theorem ev_int {i : Int} {k : Nat} {pos : Pos} : EvE F Γ (.Constant (.int i) k pos) (.int i) := .mk fun _ _ _ s _ =>
  wpAny_Constant_int ⟨keeps_tok s _, .int _ _⟩
theorem ev_str {x : Str} {k : Nat} {pos : Pos} : EvE F Γ (.Constant (.str x) k pos) (.str x) := .mk fun _ _ _ s _ =>
  Constant_str ⟨keeps_tok s _, .str _ _⟩
theorem ev_bool {x : Bool} {k : Nat} {pos : Pos} : EvE F Γ (.Constant (.bool x) k pos) (.bool x) := .mk fun _ _ _ s _ =>
  Constant_bool ⟨keeps_refl s, .bool _⟩
theorem ev_none {k : Nat} {pos : Pos} : EvE F Γ (.Constant .none k pos) .none := .mk fun _ _ _ s _ =>
  Constant_none ⟨keeps_refl s, .none⟩
theorem ev_var {x : Str} {pos : Pos} {b : Bd} (hx : (x, b) ∈ Γ) (hd : (x == ("__debug__" : Str)) = false := by decide) : EvB F Γ (.Name x pos) b := .mk fun _ _ ok s p => by
  obtain ⟨v, a, r⟩ := p.vars _ hx
  exact wpAny_Name (a.load ok.kind ⟨keeps_refl s, r⟩) hd
theorem ev_lst {e : Expr} {ds : List PyData} (x : EvE F Γ e (.list ds)) : EvB F Γ e (.lst ds) := .mk fun _ _ ok _ p =>
  x.use ok p fun _ _ k _ r => ⟨k, BRep.lst_of_dat r⟩
/-- a name of the text's top -/
theorem ev_glob {x : Str} {pos : Pos} {v : Value} (hk : F.env.kindOf x = some .globalImplicit) (hv : F.mg x = some v) (hd : (x == ("__debug__" : Str)) = false := by decide) : EvB F Γ (.Name x pos) (.val v) := .mk fun _ _ ok s p => by
  refine Name_function_global ok.kind hk (loadGlobal_global (mg := F.mg) ?_ hv ⟨keeps_refl s, rfl⟩) hd
  rw [ok.eg]; exact ok.cx.gns _ p.st.g
/-- a built-in name -/
theorem ev_builtin {x : Str} {pos : Pos} {v : Value} (hk : F.env.kindOf x = some .globalImplicit) (hm : F.mg x = none) (hv : bootBuiltins x = some v) (hn : x ≠ "__name__" := by decide)
    (hd : (x == ("__debug__" : Str)) = false := by decide) : EvB F Γ (.Name x pos) (.val v) := .mk fun _ _ ok s p => by
  refine Name_function_global ok.kind hk (loadGlobal_builtin (mg := F.mg) (mb := F.mb) ?_ hm ?_ ((ok.cx.boot x hn).trans hv) ⟨keeps_refl s, rfl⟩) hd
  · rw [ok.eg]; exact ok.cx.gns _ p.st.g
  · rw [ok.eb]; exact ok.cx.bns _ p.st.g
end
end Mine

namespace Mine
open PySem PySem.W PyProof.Rows PySem.Calls

/-! texts as lists of signs -/
def st (l : List Nat) : Str := ⟨l.toArray⟩
theorem st_cps (l : List Nat) : (st l).cps = l.toArray := rfl
theorem st_len (l : List Nat) : (st l).length = l.length := by simp [st, Str.length]
theorem st_append (a b : List Nat) : st a ++ st b = st (a ++ b) := by
  show Str.mk (a.toArray ++ b.toArray) = Str.mk (a ++ b).toArray
  simp

section
variable {F : Fm} {Γ : List (Str × Bd)}

/-- an operator on two values of known kind -/
abbrev BinR (F : Fm) (op : Operator) (a b c : Bd) : Prop := Wrap (F.toCx.Ok → ∀ W s v u, F.toCx.St W s → BRep W s.heap v a → BRep W s.heap u b →
  wpAny (model F.prog F.w) F.A (binaryOp op v u) (fun r s' => Keeps s s' ∧ BRep W s'.heap r c) (fun _ _ => False) s)
theorem ev_bin {l r : Expr} {op : Operator} {pos : Pos} {a b c : Bd} (x : EvB F Γ l a) (y : EvB F Γ r b) (h : BinR F op a b c) : EvB F Γ (.BinOp l op r pos) c := .mk fun _ _ ok s p =>
  wpAny_BinOp (x.use ok p fun v s₁ k₁ p₁ r₁ => y.use ok p₁ fun u s₂ k₂ p₂ r₂ =>
    wpAny_mono (h.run ok.cx _ s₂ v u p₂.st (r₁.keeps (keeps_heap k₂)) r₂) (fun _ _ ⟨k, q⟩ => ⟨keeps_trans (keeps_trans k₁ k₂) k, q⟩) fun _ _ f => f)

theorem binR_add_int {a b : Int} : BinR F .Add (.dat (.int a)) (.dat (.int b)) (.dat (.int (a + b))) := .mk fun _ _ s _ _ _ x y => by
  (first | obtain rfl := BAll.inv0 x | obtain ⟨_, rfl⟩ := Rep.inv_int x | obtain ⟨_, rfl⟩ := Rep.inv_str x | obtain rfl := Rep.inv_none x | cases x); (first | obtain rfl := BAll.inv0 y | obtain ⟨_, rfl⟩ := Rep.inv_int y | obtain ⟨_, rfl⟩ := Rep.inv_str y | obtain rfl := Rep.inv_none y | cases y); exact add_int ⟨keeps_tok s _, .int _ _⟩
theorem binR_sub_int {a b : Int} : BinR F .Sub (.dat (.int a)) (.dat (.int b)) (.dat (.int (a - b))) := .mk fun _ _ s _ _ _ x y => by
  (first | obtain rfl := BAll.inv0 x | obtain ⟨_, rfl⟩ := Rep.inv_int x | obtain ⟨_, rfl⟩ := Rep.inv_str x | obtain rfl := Rep.inv_none x | cases x); (first | obtain rfl := BAll.inv0 y | obtain ⟨_, rfl⟩ := Rep.inv_int y | obtain ⟨_, rfl⟩ := Rep.inv_str y | obtain rfl := Rep.inv_none y | cases y); exact sub_int ⟨keeps_tok s _, .int _ _⟩
theorem binR_fdiv {a b : Int} (h : b ≠ 0) (hp : Builtin.divisionGoesByPylong a b = false) : BinR F .FloorDiv (.dat (.int a)) (.dat (.int b)) (.dat (.int (Int.fdiv a b))) := .mk fun _ _ s _ _ _ x y => by
  (first | obtain rfl := BAll.inv0 x | obtain ⟨_, rfl⟩ := Rep.inv_int x | obtain ⟨_, rfl⟩ := Rep.inv_str x | obtain rfl := Rep.inv_none x | cases x); (first | obtain rfl := BAll.inv0 y | obtain ⟨_, rfl⟩ := Rep.inv_int y | obtain ⟨_, rfl⟩ := Rep.inv_str y | obtain rfl := Rep.inv_none y | cases y); exact floordiv_int h ⟨keeps_tok s _, .int _ _⟩ (.inl hp)
theorem binR_fmod {a b : Int} (h : b ≠ 0) : BinR F .Mod (.dat (.int a)) (.dat (.int b)) (.dat (.int (Int.fmod a b))) := .mk fun _ _ s _ _ _ x y => by
  (first | obtain rfl := BAll.inv0 x | obtain ⟨_, rfl⟩ := Rep.inv_int x | obtain ⟨_, rfl⟩ := Rep.inv_str x | obtain rfl := Rep.inv_none x | cases x); (first | obtain rfl := BAll.inv0 y | obtain ⟨_, rfl⟩ := Rep.inv_int y | obtain ⟨_, rfl⟩ := Rep.inv_str y | obtain rfl := Rep.inv_none y | cases y); exact mod_int' h ⟨keeps_tok s _, .int _ _⟩
theorem binR_add_str {a b : List Nat} (h : a.length + b.length ≤ 100000) : BinR F .Add (.dat (.str (st a))) (.dat (.str (st b))) (.dat (.str (st (a ++ b)))) := .mk fun _ _ s _ _ _ x y => by
  (first | obtain rfl := BAll.inv0 x | obtain ⟨_, rfl⟩ := Rep.inv_int x | obtain ⟨_, rfl⟩ := Rep.inv_str x | obtain rfl := Rep.inv_none x | cases x); (first | obtain rfl := BAll.inv0 y | obtain ⟨_, rfl⟩ := Rep.inv_int y | obtain ⟨_, rfl⟩ := Rep.inv_str y | obtain rfl := Rep.inv_none y | cases y)
  refine add_str (fun t' tk => ⟨keeps_tok s _, ?_⟩) (by rw [st_len, st_len, sizeLine_eq]; (first | lia | omega))
  rw [st_append]; exact .str _ _
theorem foldl_replicate (l : List Nat) : ∀ (n : Nat) (a : Array Nat), (List.replicate n l.toArray).foldl (· ++ ·) a = a ++ (List.replicate n l).flatten.toArray
  | 0, a => by simp
  | n + 1, a => by simp [List.replicate_succ, foldl_replicate l n]
theorem txt_mul (l : List Nat) (n : Int) : Txt.mul (st l) n = st (List.replicate n.toNat l).flatten := by
  unfold Txt.mul
  by_cases h1 : n < 1
  · rw [if_pos h1]
    have : n.toNat = 0 := by (first | lia | omega)
    rw [this]; rfl
  · rw [if_neg h1]
    by_cases h2 : (n == 1 || (st l).length == 0) = true
    · rw [if_pos h2]
      rw [st_len] at h2
      simp only [Bool.or_eq_true, beq_iff_eq] at h2
      rcases h2 with h2 | h2
      · subst h2; simp
      · have : l = [] := List.eq_nil_of_length_eq_zero h2
        subst this; simp
    · rw [if_neg h2, st_cps, foldl_replicate]
      simp [st]
theorem binR_mul_str {l : List Nat} {n : Int} (h0 : -1000000 ≤ n) (h1 : n ≤ 1000) (h2 : l.length ≤ 1000) : BinR F .Mult (.dat (.str (st l))) (.dat (.int n)) (.dat (.str (st (List.replicate n.toNat l).flatten))) := .mk fun _ _ s _ _ _ x y => by
  (first | obtain rfl := BAll.inv0 x | obtain ⟨_, rfl⟩ := Rep.inv_int x | obtain ⟨_, rfl⟩ := Rep.inv_str x | obtain rfl := Rep.inv_none x | cases x); (first | obtain rfl := BAll.inv0 y | obtain ⟨_, rfl⟩ := Rep.inv_int y | obtain ⟨_, rfl⟩ := Rep.inv_str y | obtain rfl := Rep.inv_none y | cases y)
  refine SB.mul ⟨?_, fun hn _ => ?_, fun hn _ => ?_⟩ fun t' k => ⟨keeps_tok s _, ?_⟩
  · simp; (first | lia | omega)
  · rw [st_len]
    have : (9223372036854775807 : Int) / n ≥ 9223372036854775 := by
      apply Int.le_ediv_of_mul_le (by first | decide | assumption | with_reducible exact Int.natCast_nonneg _ | with_reducible exact Nat.le_trans (by assumption) (by decide) | with_reducible exact Nat.lt_of_lt_of_le (by assumption) (by decide) | with_reducible exact lt_mil (Nat.lt_of_lt_of_le (by assumption) (by decide)) | with_reducible exact lt_mil (Nat.lt_of_le_of_lt (by assumption) (by decide)) | with_reducible exact Nat.le_trans (Nat.le_of_lt (by assumption)) (by decide) | (first | lia | omega))
      (first | lia | omega)
    show ¬ ((l.length : Int) > (2 ^ 63 - 1) / n)
    have e : (2 ^ 63 - 1 : Int) = 9223372036854775807 := by decide
    rw [e]; (first | lia | omega)
  · rw [st_len]
    have : l.length * n.toNat ≤ 1000 * 1000 := Nat.mul_le_mul h2 (by first | decide | assumption | with_reducible exact Int.natCast_nonneg _ | with_reducible exact Nat.le_trans (by assumption) (by decide) | with_reducible exact Nat.lt_of_lt_of_le (by assumption) (by decide) | with_reducible exact lt_mil (Nat.lt_of_lt_of_le (by assumption) (by decide)) | with_reducible exact lt_mil (Nat.lt_of_le_of_lt (by assumption) (by decide)) | with_reducible exact Nat.le_trans (Nat.le_of_lt (by assumption)) (by decide) | (first | lia | omega))
    simp [Builtin.Str.tooLong, sizeLine_eq]; (first | lia | omega)
  · rw [txt_mul]; exact .str _ _

theorem newList_lt {h : Heap} {W : Addr → Prop} (hW : ∀ a, W a → ∃ o, h.get? a = some o) : ¬ W h.objs.size := fun w => by
  obtain ⟨o, ho⟩ := hW _ w
  rw [get?_size] at ho; cases ho
theorem rep_pushed {s : Shared} {C : Cx} {W : Addr → Prop} (S : C.St W s) {vs : List Value} {ds : List PyData} (r : RepAll W s.heap vs ds) (n : Nat) :
    Rep W (s.heap.push { cls := .type "list", data := .seq vs.toArray n }) (.ref s.heap.objs.size) (.list ds) :=
  .list (newList_lt S.W) (.of (n := n) (Heap.get?_push_size _ rfl)) (r.keeps (KeepAll.push _ _))
theorem binR_add_list {a b : List PyData} (h : a.length + b.length ≤ 100000) : BinR F .Add (.lst a) (.lst b) (.dat (.list (a ++ b))) := .mk fun _ _ s _ _ S x y => by
  obtain ⟨l, vs, rfl, hl, rl⟩ := x
  obtain ⟨l', ws, rfl, hl', rl'⟩ := y
  obtain ⟨⟨cls, dd, data, sl⟩, ho, hc, n, hd⟩ := id hl
  obtain ⟨⟨cls2, dd2, data2, sl2⟩, ho2, hc2, n2, hd2⟩ := id hl'
  simp only at hc hd hc2 hd2
  subst hc hd hc2 hd2
  have e : vs.toArray ++ ws.toArray = (vs ++ ws).toArray := by simp
  refine concat_meets ⟨_, ho, rfl⟩ ⟨_, ho2, rfl⟩ noFill_list_add seq_list_add PySem.F.slot_list_add PySem.F.entry_list_add (PySem.F.args_list_add_2 _ _)
    (list_addW l l' vs.toArray ws.toArray n n2 dd dd2 sl sl2 (by have := rl.length; have := rl'.length; simp; rw [sizeLine_eq]; (first | lia | omega))) ⟨ho, ho2, ?_⟩
  rw [e]
  exact ⟨keeps_push s _, rep_pushed S (rl.append rl') 0⟩

/-- a comparison -/
abbrev CmpR (F : Fm) (op : CmpOp) (a b : Bd) (c : Bool) : Prop := Wrap (F.toCx.Ok → ∀ W s v u, F.toCx.St W s → BRep W s.heap v a → BRep W s.heap u b →
  wpAny (model F.prog F.w) F.A (compareOp op v u) (fun r s' => Keeps s s' ∧ r = .bool c) (fun _ _ => False) s)
theorem ev_cmp {l r : Expr} {op : CmpOp} {pos : Pos} {a b : Bd} {c : Bool} (x : EvB F Γ l a) (y : EvB F Γ r b) (h : CmpR F op a b c) (hm : behindInMarks op r = false := by with_unfolding_all rfl) :
    EvE F Γ (.Compare l [op] [r] pos) (.bool c) := .mk fun _ _ ok s p =>
  wpAny_Compare1 (x.use ok p fun v s₁ k₁ p₁ r₁ => y.use ok p₁ fun u s₂ k₂ p₂ r₂ =>
    wpAny_mono (h.run ok.cx _ s₂ v u p₂.st (r₁.keeps (keeps_heap k₂)) r₂) (fun _ _ ⟨k, q⟩ => ⟨keeps_trans (keeps_trans k₁ k₂) k, q ▸ .bool _⟩) fun _ _ f => f) hm
theorem et_cmp {l r : Expr} {op : CmpOp} {pos : Pos} {a b : Bd} {c : Bool} (x : EvB F Γ l a) (y : EvB F Γ r b) (h : CmpR F op a b c) (hm : behindInMarks op r = false := by with_unfolding_all rfl) :
    EvT F Γ (.Compare l [op] [r] pos) c := .mk fun _ _ ok s p =>
  wpAny_isTrue_Compare1 (x.use ok p fun v s₁ k₁ p₁ r₁ => y.use ok p₁ fun u s₂ k₂ p₂ r₂ =>
    wpAny_mono (h.run ok.cx _ s₂ v u p₂.st (r₁.keeps (keeps_heap k₂)) r₂) (fun _ _ ⟨k, q⟩ => q ▸ wpAny_truthy_bool ⟨keeps_trans (keeps_trans k₁ k₂) k, rfl⟩) fun _ _ f => f) hm

theorem cmpR_lt_int {a b : Int} : CmpR F .Lt (.dat (.int a)) (.dat (.int b)) (decide (a < b)) := .mk fun _ _ s _ _ _ x y => by
  (first | obtain rfl := BAll.inv0 x | obtain ⟨_, rfl⟩ := Rep.inv_int x | obtain ⟨_, rfl⟩ := Rep.inv_str x | obtain rfl := Rep.inv_none x | cases x); (first | obtain rfl := BAll.inv0 y | obtain ⟨_, rfl⟩ := Rep.inv_int y | obtain ⟨_, rfl⟩ := Rep.inv_str y | obtain rfl := Rep.inv_none y | cases y); exact lt_int ⟨keeps_refl s, rfl⟩
theorem cmpR_le_int {a b : Int} : CmpR F .LtE (.dat (.int a)) (.dat (.int b)) (decide (a ≤ b)) := .mk fun _ _ s _ _ _ x y => by
  (first | obtain rfl := BAll.inv0 x | obtain ⟨_, rfl⟩ := Rep.inv_int x | obtain ⟨_, rfl⟩ := Rep.inv_str x | obtain rfl := Rep.inv_none x | cases x); (first | obtain rfl := BAll.inv0 y | obtain ⟨_, rfl⟩ := Rep.inv_int y | obtain ⟨_, rfl⟩ := Rep.inv_str y | obtain rfl := Rep.inv_none y | cases y); exact le_int ⟨keeps_refl s, rfl⟩
theorem cmpR_gt_int {a b : Int} : CmpR F .Gt (.dat (.int a)) (.dat (.int b)) (decide (b < a)) := .mk fun _ _ s _ _ _ x y => by
  (first | obtain rfl := BAll.inv0 x | obtain ⟨_, rfl⟩ := Rep.inv_int x | obtain ⟨_, rfl⟩ := Rep.inv_str x | obtain rfl := Rep.inv_none x | cases x); (first | obtain rfl := BAll.inv0 y | obtain ⟨_, rfl⟩ := Rep.inv_int y | obtain ⟨_, rfl⟩ := Rep.inv_str y | obtain rfl := Rep.inv_none y | cases y); exact gt_int ⟨keeps_refl s, rfl⟩
theorem beq_str (a b : Str) : (a == b) = decide (a = b) := by
  by_cases h : a = b
  · subst h; simp
  · rw [decide_eq_false h]; exact beq_eq_false_iff_ne.mpr h
theorem cmpR_lt_str {a b : List Nat} : CmpR F .Lt (.dat (.str (st a))) (.dat (.str (st b))) (decide (a < b)) := .mk fun _ _ s _ _ _ x y => by
  (first | obtain rfl := BAll.inv0 x | obtain ⟨_, rfl⟩ := Rep.inv_int x | obtain ⟨_, rfl⟩ := Rep.inv_str x | obtain rfl := Rep.inv_none x | cases x); (first | obtain rfl := BAll.inv0 y | obtain ⟨_, rfl⟩ := Rep.inv_int y | obtain ⟨_, rfl⟩ := Rep.inv_str y | obtain rfl := Rep.inv_none y | cases y)
  exact lt_str ⟨keeps_refl s, by congr 1⟩

/-! data as the library's Reads -/
theorem Rep.reads {W : Addr → Prop} {h : Heap} {v : Value} {d : PyData} (r : Rep W h v d) : ∃ as, Reads h v d as :=
  Rep.rec (motive_1 := fun v d _ => ∃ as, Reads h v d as) (motive_2 := fun vs ds _ => ∃ as, ReadsAll h vs ds as) ⟨_, .none⟩ (fun b => ⟨_, .bool b⟩) (fun i t => ⟨_, .int i t⟩) (fun x t => ⟨_, .str x t⟩)
    (fun _ hl _ ih => by
      obtain ⟨⟨o, ho, hc, n, hd⟩, _⟩ := hl
      obtain ⟨as, q⟩ := ih
      exact ⟨_, .list ho hc hd (by simpa using q)⟩)
    (fun _ hl _ ih => by
      obtain ⟨o, ho, hc, n, hd⟩ := hl
      obtain ⟨as, q⟩ := ih
      exact ⟨_, .tuple ho hc hd (by simpa using q)⟩) ⟨_, .nil⟩ (fun _ _ ih1 ih2 => by
      obtain ⟨as, q⟩ := ih1
      obtain ⟨bs, q'⟩ := ih2
      exact ⟨_, .cons q q'⟩) r
theorem cmpR_eq_data {a b : PyData} (ha : SeqAt.shaped a = true) (hb : SeqAt.shaped b = true) : CmpR F .Eq (.dat a) (.dat b) (PyData.eqv a b) := .mk fun ok _ s _ _ _ x y => by
  obtain ⟨as, ra⟩ := Rep.reads x
  obtain ⟨bs, rb⟩ := Rep.reads y
  exact eq_dataH ra rb ha hb (by have := ok.units; show F.A.units + 64 < 9900; (first | lia | omega)) ⟨keeps_refl s, rfl⟩
theorem cmpR_ne_data {a b : PyData} (ha : SeqAt.shaped a = true) (hb : SeqAt.shaped b = true) : CmpR F .NotEq (.dat a) (.dat b) (!PyData.eqv a b) := .mk fun ok _ s _ _ _ x y => by
  obtain ⟨as, ra⟩ := Rep.reads x
  obtain ⟨bs, rb⟩ := Rep.reads y
  exact ne_dataH ra rb ha hb (by have := ok.units; show F.A.units + 64 < 9900; (first | lia | omega)) ⟨keeps_refl s, rfl⟩

/-! tests -/
theorem et_bool {e : Expr} {b : Bool} (x : EvE F Γ e (.bool b)) (he : ∀ env whole, isTrue e env whole = (do let v ← whole; standAt e.pos; holding [v] (truthy v)) := by intros; rfl) : EvT F Γ e b := .mk fun _ _ ok s p =>
  isTrue_plain (x.use ok p fun v s₁ k₁ p₁ r => by (first | obtain rfl := BAll.inv0 r | obtain ⟨_, rfl⟩ := Rep.inv_int r | obtain ⟨_, rfl⟩ := Rep.inv_str r | obtain rfl := Rep.inv_none r | cases r); exact wpAny_truthy_bool ⟨k₁, rfl⟩) (he _ _)
theorem ev_ifexp {t a b : Expr} {pos : Pos} {c : Bool} {d : Bd} (x : EvT F Γ t c) (y : c = true → EvB F Γ a d) (z : c = false → EvB F Γ b d) : EvB F Γ (.IfExp t a b pos) d := .mk fun _ _ ok s p => by
  refine wpAny_IfExp (x.use ok p fun s₁ k₁ p₁ => ?_)
  cases c with
  | true => exact (y rfl).use ok p₁ fun _ _ k _ r => ⟨keeps_trans k₁ k, r⟩
  | false => exact (z rfl).use ok p₁ fun _ _ k _ r => ⟨keeps_trans k₁ k, r⟩
theorem et_and_nil {pos : Pos} : EvT F Γ (.BoolOp .And [] pos) true := .mk fun _ _ _ s _ => isTrue_and_nil ⟨keeps_refl s, rfl⟩
theorem et_and {x : Expr} {rest : List Expr} {pos : Pos} {a b : Bool} (h : EvT F Γ x a) (g : a = true → EvT F Γ (.BoolOp .And rest pos) b) : EvT F Γ (.BoolOp .And (x :: rest) pos) (a && b) := .mk fun _ _ ok s p => by
  refine isTrue_and (h.use ok p fun s₁ k₁ p₁ => ?_)
  cases a with
  | false => exact ⟨k₁, rfl⟩
  | true => exact wpAny_mono ((g rfl).run _ _ ok s₁ p₁) (fun r s' ⟨k, e⟩ => ⟨keeps_trans k₁ k, by simpa using e⟩) fun _ _ f => f
end
end Mine

namespace Mine
open PySem PySem.W PyProof.Rows PySem.Calls

def pySl {α : Type} (lo hi : Option Int) (l : List α) : List α :=
  (l.drop (lo.elim 0 (clipAt l.length))).take (hi.elim l.length (clipAt l.length) - lo.elim 0 (clipAt l.length))

theorem clip_pos (n : Nat) {i : Int} (h : 0 ≤ i) : clipAt n i = min i.toNat n := by
  have := clipAt_cast n i
  rw [if_neg (by first | decide | assumption | with_reducible exact Int.natCast_nonneg _ | with_reducible exact Nat.le_trans (by assumption) (by decide) | with_reducible exact Nat.lt_of_lt_of_le (by assumption) (by decide) | with_reducible exact lt_mil (Nat.lt_of_lt_of_le (by assumption) (by decide)) | with_reducible exact lt_mil (Nat.lt_of_le_of_lt (by assumption) (by decide)) | with_reducible exact Nat.le_trans (Nat.le_of_lt (by assumption)) (by decide) | (first | lia | omega))] at this
  (first | lia | omega)
theorem pySl_from {α : Type} (l : List α) {i : Int} (h : 0 ≤ i) : pySl (some i) none l = l.drop i.toNat := by
  unfold pySl
  simp only [Option.elim, clip_pos _ h]
  rcases Nat.le_total i.toNat l.length with q | q
  · rw [Nat.min_eq_left q, List.take_of_length_le (by simp)]
  · rw [Nat.min_eq_right q, List.drop_of_length_le (Nat.le_refl _), List.drop_of_length_le q]; simp
theorem pySl_upto {α : Type} (l : List α) {i : Int} (h : 0 ≤ i) : pySl none (some i) l = l.take i.toNat := by
  unfold pySl
  simp only [Option.elim, clip_pos _ h, List.drop_zero, Nat.sub_zero]
  rcases Nat.le_total i.toNat l.length with q | q
  · rw [Nat.min_eq_left q]
  · rw [Nat.min_eq_right q, List.take_of_length_le (Nat.le_refl _), List.take_of_length_le q]
section
variable {F : Fm} {Γ : List (Str × Bd)}

/-- an item by a place -/
def GetR (F : Fm) (a i c : Bd) : Prop := F.toCx.Ok → ∀ W s v u, F.toCx.St W s → BRep W s.heap v a → BRep W s.heap u i →
  ∃ T id, typeLookup (.type T) "__getitem__" = pure (some (.builtin id)) ∧ s.TypeIs v T ∧
    wpAny (model F.prog F.w) F.A (getItem v u) (fun r s' => Keeps s s' ∧ BRep W s'.heap r c) (fun _ _ => False) s
theorem ev_item {value slice : Expr} {pos : Pos} {a i c : Bd} (x : EvB F Γ value a) (y : EvB F Γ slice i) (h : GetR F a i c)
    (hs : ∀ o u, subscripted slice false o u = operate [o, u] (getItem o u) := by intros; rfl) : EvB F Γ (.Subscript value slice pos) c := .mk fun _ _ ok s p =>
  Subscript_ (x.use ok p fun v s₁ k₁ p₁ r₁ => y.use ok p₁ fun u s₂ k₂ p₂ r₂ => by
    obtain ⟨T, id, hl, hT, hw⟩ := h ok.cx _ s₂ v u p₂.st (r₁.keeps (keeps_heap k₂)) r₂
    exact wpAny_mono (tail_any hT hl hw (hs v u)) (fun _ _ ⟨k, q⟩ => ⟨keeps_trans (keeps_trans k₁ k₂) k, q⟩) fun _ _ f => f)

theorem getR_list {ds : List PyData} {i : Int} {d : PyData} (h0 : 0 ≤ i) (hd : ds[i.toNat]? = some d) (hz : i < 1000000) : GetR F (.lst ds) (.dat (.int i)) (.dat d) := fun _ _ s _ _ _ x y => by
  obtain ⟨l, vs, rfl, hl, r⟩ := x
  (first | obtain rfl := BAll.inv0 y | obtain ⟨_, rfl⟩ := Rep.inv_int y | obtain ⟨_, rfl⟩ := Rep.inv_str y | obtain rfl := Rep.inv_none y | cases y)
  obtain ⟨v, hv, rv⟩ := r.get hd
  exact ⟨"list", _, slot_list_getitem.lookup, hl.typeIs, wpAny_getItem_list hl h0 (by first | decide | assumption | with_reducible exact Int.natCast_nonneg _ | with_reducible exact Nat.le_trans (by assumption) (by decide) | with_reducible exact Nat.lt_of_lt_of_le (by assumption) (by decide) | with_reducible exact lt_mil (Nat.lt_of_lt_of_le (by assumption) (by decide)) | with_reducible exact lt_mil (Nat.lt_of_le_of_lt (by assumption) (by decide)) | with_reducible exact Nat.le_trans (Nat.le_of_lt (by assumption)) (by decide) | (first | lia | omega)) (by simpa using hv) ⟨keeps_refl s, rv⟩⟩
theorem getR_str {l : List Nat} {i : Int} {c : Nat} (h0 : 0 ≤ i) (hd : l[i.toNat]? = some c) (hz : i < 1000000) : GetR F (.dat (.str (st l))) (.dat (.int i)) (.dat (.str (st [c]))) := fun _ _ s _ _ _ x y => by
  (first | obtain rfl := BAll.inv0 x | obtain ⟨_, rfl⟩ := Rep.inv_int x | obtain ⟨_, rfl⟩ := Rep.inv_str x | obtain rfl := Rep.inv_none x | cases x); (first | obtain rfl := BAll.inv0 y | obtain ⟨_, rfl⟩ := Rep.inv_int y | obtain ⟨_, rfl⟩ := Rep.inv_str y | obtain rfl := Rep.inv_none y | cases y)
  have hlt : i.toNat < l.length := (List.getElem?_eq_some_iff.mp hd).1
  have hc : Txt.charAt (st l) i = some c := by
    unfold Txt.charAt
    have : seqIndex? i (st l).length = some i.toNat := by
      have hn : ¬ i < 0 := by (first | lia | omega)
      have h2 : (decide (0 ≤ i) && decide (i < (l.length : Int))) = true := by simp; (first | lia | omega)
      rw [st_len]; unfold seqIndex?
      simp only [if_neg hn, h2, if_true]
    rw [this]; simp [st_cps, hd]
  have e : Txt.item (st l) i = st [c] := by unfold Txt.item; rw [hc]; rfl
  refine ⟨"str", _, PySem.F.slot_str_getitem.lookup, typeIs_str _ _ _, SB.getItem ?_ (by rw [hc]; rfl) ⟨keeps_tok s _, by rw [e]; exact .str _ _⟩⟩
  simp [fitsSsize]; (first | lia | omega)
theorem getR_list_last {ds : List PyData} {d : PyData} (hd : ds.getLast? = some d) (hz : ds.length ≤ 1000000) : GetR F (.lst ds) (.dat (.int (-1))) (.dat d) := fun _ _ s _ _ _ x y => by
  obtain ⟨l, vs, rfl, hl, r⟩ := x
  (first | obtain rfl := BAll.inv0 y | obtain ⟨_, rfl⟩ := Rep.inv_int y | obtain ⟨_, rfl⟩ := Rep.inv_str y | obtain rfl := Rep.inv_none y | cases y)
  have hn : ds ≠ [] := by intro e; subst e; simp at hd
  have hp : 0 < ds.length := List.length_pos_iff.mpr hn
  rw [List.getLast?_eq_getElem?] at hd
  obtain ⟨v, hv, rv⟩ := r.get hd
  have hlen := r.length
  refine ⟨"list", _, slot_list_getitem.lookup, hl.typeIs, wpAny_getItem_list_neg hl (by first | decide | assumption | with_reducible exact Int.natCast_nonneg _ | with_reducible exact Nat.le_trans (by assumption) (by decide) | with_reducible exact Nat.lt_of_lt_of_le (by assumption) (by decide) | with_reducible exact lt_mil (Nat.lt_of_lt_of_le (by assumption) (by decide)) | with_reducible exact lt_mil (Nat.lt_of_le_of_lt (by assumption) (by decide)) | with_reducible exact Nat.le_trans (Nat.le_of_lt (by assumption)) (by decide) | (first | lia | omega)) (by simp; (first | lia | omega)) (by decide) (x := v) ?_ ⟨keeps_refl s, rv⟩⟩
  rw [show (((-1 : Int) + (vs.toArray.size : Nat)).toNat) = ds.length - 1 by simp; (first | lia | omega)]
  simpa using hv

/-- a part of a slice -/
abbrev EvP (F : Fm) (Γ : List (Str × Bd)) (x : Option Expr) (k : Option Int) : Prop := Wrap (∀ W O, F.Ok W O → ∀ s, F.Pre W Γ s →
  wpAny (model F.prog F.w) F.A (evalPart x F.env) (fun v s' => Keeps s s' ∧ IsPart v k) (fun _ _ => False) s)
theorem evp_none : EvP F Γ none none := .mk fun _ _ _ s _ => by rw [evalPart_none]; exact wpAny_pure ⟨keeps_refl s, .none⟩
theorem evp_some {e : Expr} {i : Int} (x : EvE F Γ e (.int i)) : EvP F Γ (some e) (some i) := .mk fun _ _ ok s p => by
  rw [evalPart_some]
  exact x.use ok p fun v s' k _ r => ⟨k, by (first | obtain rfl := BAll.inv0 r | obtain ⟨_, rfl⟩ := Rep.inv_int r | obtain ⟨_, rfl⟩ := Rep.inv_str r | obtain rfl := Rep.inv_none r | cases r); exact .int _ _⟩
def SliceR (F : Fm) (a : Bd) (l u k : Option Int) (c : Bd) : Prop := F.toCx.Ok → ∀ W s v sl vl vu vk, F.toCx.St W s → BRep W s.heap v a → s.heap.IsSliceOf sl vl vu vk → IsPart vl l → IsPart vu u → IsPart vk k →
  ∃ T id, typeLookup (.type T) "__getitem__" = pure (some (.builtin id)) ∧ s.TypeIs v T ∧
    wpAny (model F.prog F.w) F.A (getItem v (.ref sl)) (fun r s' => Keeps s s' ∧ BRep W s'.heap r c) (fun _ _ => False) s
theorem ev_slice {value : Expr} {lo hi stp : Option Expr} {p' pos : Pos} {a c : Bd} {l u k : Option Int} (x : EvB F Γ value a) (y1 : EvP F Γ lo l) (y2 : EvP F Γ hi u) (y3 : EvP F Γ stp k) (h : SliceR F a l u k c)
    (hs : ∃ f : Value → Value → List Value, ∀ o i, subscripted (.Slice lo hi stp p') false o i = operate (f o i) (getItem o i) := by first | exact ⟨fun o i => [i, o], fun _ _ => rfl⟩ | exact ⟨fun o i => [o, i], fun _ _ => rfl⟩) :
    EvB F Γ (.Subscript value (.Slice lo hi stp p') pos) c := .mk fun _ _ ok s p => by
  obtain ⟨f, hf⟩ := hs
  refine Subscript_ (x.use ok p fun v s₁ k₁ p₁ r₁ => wpAny_Slice (wpAny_mono (y1.run _ _ ok s₁ p₁) (fun vl s₂ ⟨k₂, q₂⟩ => wpAny_mono (y2.run _ _ ok s₂ (p₁.keeps k₂)) (fun vu s₃ ⟨k₃, q₃⟩ => wpAny_mono (y3.run _ _ ok s₃ ((p₁.keeps k₂).keeps k₃)) (fun vk s₄ ⟨k₄, q₄⟩ => ?_)
    fun _ _ f => f.elim) fun _ _ f => f.elim) fun _ _ f => f.elim))
  have kk := keeps_trans (keeps_trans (keeps_trans (keeps_trans k₁ k₂) k₃) k₄) (keeps_push s₄ { cls := .type "slice", data := .fields #[vl, vu, vk] })
  have k5 := keeps_trans (keeps_trans (keeps_trans k₂ k₃) k₄) (keeps_push s₄ { cls := .type "slice", data := .fields #[vl, vu, vk] })
  obtain ⟨T, id, hl, hT, hw⟩ := h ok.cx _ { s₄ with heap := s₄.heap.push { cls := .type "slice", data := .fields #[vl, vu, vk] } } v s₄.heap.objs.size vl vu vk ((p.keeps kk).st) (r₁.keeps (keeps_heap k5)) (Heap.IsSliceOf.new _ _ _ _) q₂ q₃ q₄
  exact wpAny_mono (tail_any hT hl hw (hf _ _)) (fun _ _ ⟨k, q⟩ => ⟨keeps_trans kk k, q⟩) fun _ _ f => f

theorem repAll_pySl {W : Addr → Prop} {h : Heap} {vs : List Value} {ds : List PyData} (r : RepAll W h vs ds) (lo hi : Option Int) : RepAll W h (pySl lo hi vs) (pySl lo hi ds) := by
  unfold pySl; rw [r.length]; exact (r.drop _).take _
theorem sliceR_list {ds : List PyData} {lo hi : Option Int} (hz : ds.length ≤ 1000000) : SliceR F (.lst ds) lo hi none (.dat (.list (pySl lo hi ds))) := fun _ _ s _ sl vl vu vk S x hs pl pu pk => by
  obtain ⟨l, vs, rfl, hl, r⟩ := x
  have hlen := r.length
  refine ⟨"list", _, slot_list_getitem.lookup, hl.typeIs, wpAny_getItem_list_slice hl hs pl pu pk (by simp) ?_ (by simp; rw [sizeLine_eq]; (first | lia | omega))⟩
  refine ⟨keeps_push s _, ?_⟩
  have e : slicePick vs.toArray lo hi none = (pySl lo hi vs).toArray := by rw [slicePick_plain]; simp [pySl]
  rw [e]
  exact rep_pushed S (repAll_pySl r lo hi) 0
theorem sliceR_list_rev {ds : List PyData} (hz : ds.length ≤ 1000000) : SliceR F (.lst ds) none none (some (-1)) (.dat (.list ds.reverse)) := fun _ _ s _ sl vl vu vk S x hs pl pu pk => by
  obtain ⟨l, vs, rfl, hl, r⟩ := x
  have hlen := r.length
  refine ⟨"list", _, slot_list_getitem.lookup, hl.typeIs, wpAny_getItem_list_slice hl hs pl pu pk (by simp) ?_ (by simp; rw [sizeLine_eq]; (first | lia | omega))⟩
  refine ⟨keeps_push s _, ?_⟩
  have e : slicePick vs.toArray none none (some (-1)) = vs.reverse.toArray := by rw [krv_pick]
  rw [e]
  exact rep_pushed S r.reverse 0

end
end Mine

namespace Mine
open PySem PySem.W PyProof.Rows PySem.Calls

section
variable {F : Fm} {Γ : List (Str × Bd)}

/-! ### Displays, arguments -/
abbrev EvD (F : Fm) (Γ : List (Str × Bd)) (pos : Pos) (es : List Expr) (ds : List PyData) : Prop := Wrap (∀ W O, F.Ok W O → ∀ s, F.Pre W Γ s →
  wpAny (model F.prog F.w) F.A (spliced (backTo pos (starEach es F.env))) (fun vs s' => Keeps s s' ∧ RepAll W s'.heap vs ds) (fun _ _ => False) s)
theorem evd_nil {pos : Pos} : EvD F Γ pos [] [] := .mk fun _ _ _ s _ => Calls.spliced_nil ⟨keeps_refl s, .nil⟩
theorem evd_cons {pos : Pos} {e : Expr} {es : List Expr} {d : PyData} {ds : List PyData} (x : EvE F Γ e d) (y : EvD F Γ pos es ds) (hs : ∀ env, starEach (e :: es) env = (false, eval e env) :: starEach es env := by intro _; rfl) :
    EvD F Γ pos (e :: es) (d :: ds) := .mk fun _ _ ok s p => by
  rw [hs]
  show wpAny _ _ (spliced ((false, eval e F.env) :: backTo pos (starEach es F.env))) _ _ s
  exact Calls.spliced_cons (x.use ok p fun v s₁ k₁ p₁ r₁ => wpAny_mono (y.run _ _ ok s₁ p₁) (fun vs s₂ ⟨k₂, r₂⟩ => ⟨keeps_trans k₁ k₂, .cons (Rep.keeps r₁ (keeps_heap k₂)) r₂⟩) fun _ _ f => f)
abbrev EvL (F : Fm) (Γ : List (Str × Bd)) (pos : Pos) (es : List Expr) (bs : List Bd) : Prop := Wrap (∀ W O, F.Ok W O → ∀ s, F.Pre W Γ s →
  wpAny (model F.prog F.w) F.A (spliced (backTo pos (starEach es F.env))) (fun vs s' => Keeps s s' ∧ BAll W s'.heap vs bs) (fun _ _ => False) s)
theorem evl_nil {pos : Pos} : EvL F Γ pos [] [] := .mk fun _ _ _ s _ => Calls.spliced_nil ⟨keeps_refl s, .nil⟩
theorem evl_cons {pos : Pos} {e : Expr} {es : List Expr} {d : Bd} {ds : List Bd} (x : EvB F Γ e d) (y : EvL F Γ pos es ds) (hs : ∀ env, starEach (e :: es) env = (false, eval e env) :: starEach es env := by intro _; rfl) :
    EvL F Γ pos (e :: es) (d :: ds) := .mk fun _ _ ok s p => by
  rw [hs]
  show wpAny _ _ (spliced ((false, eval e F.env) :: backTo pos (starEach es F.env))) _ _ s
  exact Calls.spliced_cons (x.use ok p fun v s₁ k₁ p₁ r₁ => wpAny_mono (y.run _ _ ok s₁ p₁) (fun vs s₂ ⟨k₂, r₂⟩ => ⟨keeps_trans k₁ k₂, .cons (BRep.keeps r₁ (keeps_heap k₂)) r₂⟩) fun _ _ f => f)

/-- keyword arguments -/
def EvKw (F : Fm) (Γ : List (Str × Bd)) (pos : Pos) (ks : List Keyword) (ns : List Str) (bs : List Bd) : Prop :=
  (backToKw pos (keywordEach ks F.env)).all (·.1.isSome) = true ∧ (backToKw pos (keywordEach ks F.env)).filterMap (·.1) = ns ∧ ∀ W O, F.Ok W O → ∀ s, F.Pre W Γ s →
  wpAny (model F.prog F.w) F.A (evalAll ((backToKw pos (keywordEach ks F.env)).map (·.2))) (fun vs s' => Keeps s s' ∧ BAll W s'.heap vs bs) (fun _ _ => False) s
theorem evkw_nil {pos : Pos} : EvKw F Γ pos [] [] [] := ⟨rfl, rfl, fun _ _ _ s _ => wpAny_evalAll_nil ⟨keeps_refl s, .nil⟩⟩
theorem evkw_cons {pos : Pos} {n : Str} {e : Expr} {kp : Pos} {ks : List Keyword} {b : Bd} {ns : List Str} {bs : List Bd} (x : EvB F Γ e b) (y : EvKw F Γ pos ks ns bs) : EvKw F Γ pos (⟨some n, e, kp⟩ :: ks) (n :: ns) (b :: bs) := by
  obtain ⟨h1, h2, h3⟩ := y
  refine ⟨?_, ?_, fun _ _ ok s p => ?_⟩
  · show ((some n).isSome && (backToKw pos (keywordEach ks F.env)).all (·.1.isSome)) = true
    rw [h1]; rfl
  · show List.filterMap (fun x => x.1) ((some n, _) :: backToKw pos (keywordEach ks F.env)) = n :: ns
    rw [List.filterMap_cons]; simp [h2]
  · show wpAny _ _ (evalAll ((do let v ← eval e F.env; standAt pos; pure v) :: (backToKw pos (keywordEach ks F.env)).map (·.2))) _ _ s
    refine wpAny_evalAll_cons (wpAny_bind (x.use ok p fun v s₁ k₁ p₁ r₁ => wpAny_bind (wpAny_standAt (wpAny_pure ?_))))
    exact wpAny_mono (h3 _ _ ok s₁ p₁) (fun vs s₂ ⟨k₂, r₂⟩ => ⟨keeps_trans k₁ k₂, .cons (BRep.keeps r₁ (keeps_heap k₂)) r₂⟩) fun _ _ f => f

theorem ev_list {es : List Expr} {pos : Pos} {ds : List PyData} (x : EvD F Γ pos es ds) (hz : ds.length ≤ 1000000 := by simp) : EvE F Γ (.List es pos) (.list ds) := .mk fun _ _ ok s p =>
  List_ (wpAny_mono (x.run _ _ ok s p) (fun vs s' ⟨k, r⟩ => wpAny_newObj_type ⟨keeps_trans k (keeps_push s' _), rep_pushed (p.keeps k).st r 0⟩ (by show vs.toArray.size ≤ sizeLine; have := r.length; rw [sizeLine_eq]; simp; (first | lia | omega))) fun _ _ f => f.elim)
/-! ### Calls -/
/-- what a callable gives for arguments of known kind -/
abbrev CallOk (C : Cx) (f : Value) (args : List Bd) (kn : List Str) (kb : List Bd) (c : Bd) : Prop := Wrap (C.Ok → ∀ W s vs ks, C.St W s → BAll W s.heap vs args → BAll W s.heap ks kb →
  wpAny (model C.prog C.w) C.A (call f vs (kn.zip ks)) (fun r s' => Keeps s s' ∧ BRep W s'.heap r c) (fun _ _ => False) s)

theorem evalArgs_any {M : Model} {A : Around} {E : Value → Shared → Prop} {s : Shared} {f : Value} {args : List (Bool × Sem Value)} {keywords : List (Option Str × Sem Value)} {Q : Args → Shared → Prop}
    (hp : args.any (·.1) = false) (hall : keywords.all (·.1.isSome) = true)
    (h : wpAny M A (spliced args) (fun vs s₁ => wpAny M A (evalAll (keywords.map (·.2))) (fun ks s₂ => Q ⟨vs, (keywords.filterMap (·.1)).zip ks⟩ s₂) E s₁) E s) :
    wpAny M A (evalArgs f true args keywords) Q E s := by
  match args, hp with
  | [], _ => exact evalArgs_kw_nil hall fun Γ p hΓ => (h Γ p hΓ) Γ p hΓ
  | (false, x) :: rest, _ => exact evalArgs_kw hall h
  | (true, x) :: rest, hp => simp at hp

theorem backTo_plain (pos : Pos) (l : List (Bool × Sem Value)) : (backTo pos l).any (·.1) = l.any (·.1) := by
  simp [backTo, List.any_map, Function.comp_def]
def NoStar (es : List Expr) : Prop := ∀ env, (starEach es env).any (·.1) = false

/-- a call of a name bound to a def of the text (or a made function) -/
theorem ev_call_fn {fe : Expr} {es : List Expr} {ks : List Keyword} {pos : Pos} {a : Addr} {o : Obj} {fd : FuncData} {args : List Bd} {kn : List Str} {kb : List Bd} {c : Bd}
    (hf : EvB F Γ fe (.val (.ref a))) (x : EvL F Γ pos es args) (y : EvKw F Γ pos ks kn kb) (ho : ∀ W s, F.Pre W Γ s → s.heap.get? a = some o ∧ o.data = .func fd) (h : CallOk F.toCx (.ref a) args kn kb c)
    (hn : ∀ env, (starEach es env).any (·.1) = false := by intro _; rfl)
    (harm : ∀ env, eval (.Call fe es ks pos) env = (do callWith pos (← eval fe env) [] (backTo pos (starEach es env)) (backToKw pos (keywordEach ks env))) := by intro _; rfl) :
    EvB F Γ (.Call fe es ks pos) c := .mk fun _ _ ok s p => by
  rw [harm]
  refine wpAny_bind (hf.use ok p fun f s₁ k₁ p₁ r₁ => ?_)
  have r₁ : f = .ref a := r₁
  subst r₁
  refine callWith_function_kw (o := o) (fd := fd) (evalArgs_any (by rw [backTo_plain]; exact hn _) y.1 (wpAny_mono (x.run _ _ ok s₁ p₁) (fun vs s₂ hh₀ => ?_) fun _ _ f => f.elim))
  obtain ⟨k₂, r₂⟩ := hh₀
  refine wpAny_mono (y.2.2 _ _ ok s₂ (p₁.keeps k₂)) (fun ks s₃ ⟨k₃, r₃⟩ => ⟨ho _ _ ((p₁.keeps k₂).keeps k₃), ?_⟩) fun _ _ f => f.elim
  rw [y.2.1]
  exact wpAny_mono (h.run ok.cx _ s₃ vs ks ((p₁.keeps k₂).keeps k₃).st (r₂.keeps (keeps_heap k₃)) r₃) (fun r s₄ ⟨k₄, r₄⟩ => ⟨keeps_trans (keeps_trans (keeps_trans k₁ k₂) k₃) k₄, r₄⟩) fun _ _ f => f
/-- a call of a built-in function by its name -/
theorem ev_call_bi {fe : Expr} {es : List Expr} {pos : Pos} {id : String} {args : List Bd} {c : Bd}
    (hf : EvB F Γ fe (.val (.builtin id))) (x : EvL F Γ pos es args) (h : CallOk F.toCx (.builtin id) args [] [] c)
    (hn : ∀ env, (starEach es env).any (·.1) = false := by intro _; rfl)
    (harm : ∀ env, eval (.Call fe es [] pos) env = (do callWith pos (← eval fe env) [] (backTo pos (starEach es env)) (backToKw pos (keywordEach [] env))) := by intro _; rfl) :
    EvB F Γ (.Call fe es [] pos) c := .mk fun _ _ ok s p => by
  rw [harm]
  refine wpAny_bind (hf.use ok p fun f s₁ k₁ p₁ r₁ => ?_)
  have r₁ : f = .builtin id := r₁
  subst r₁
  refine Calls.callWith_builtin (by rw [backTo_plain]; exact hn _) (evalArgs_any (by rw [backTo_plain]; exact hn _) rfl (wpAny_mono (x.run _ _ ok s₁ p₁) (fun vs s₂ hh₀ => ?_) fun _ _ f => f.elim))
  obtain ⟨k₂, r₂⟩ := hh₀
  refine wpAny_evalAll_nil ?_
  exact wpAny_mono (h.run ok.cx _ s₂ vs [] (p₁.keeps k₂).st r₂ .nil) (fun r s₄ ⟨k₄, r₄⟩ => ⟨keeps_trans (keeps_trans k₁ k₂) k₄, r₄⟩) fun _ _ f => f
/-- a call of a built-in type by its name -/
theorem ev_call_ty {fe : Expr} {es : List Expr} {pos : Pos} {T : String} {args : List Bd} {c : Bd}
    (hf : EvB F Γ fe (.val (.type T))) (x : EvL F Γ pos es args) (h : CallOk F.toCx (.type T) args [] [] c)
    (hn : ∀ env, (starEach es env).any (·.1) = false := by intro _; rfl)
    (harm : ∀ env, eval (.Call fe es [] pos) env = (do callWith pos (← eval fe env) [] (backTo pos (starEach es env)) (backToKw pos (keywordEach [] env))) := by intro _; rfl) :
    EvB F Γ (.Call fe es [] pos) c := .mk fun _ _ ok s p => by
  rw [harm]
  refine wpAny_bind (hf.use ok p fun f s₁ k₁ p₁ r₁ => ?_)
  have r₁ : f = .type T := r₁
  subst r₁
  refine PySem.callWith_type (by rw [backTo_plain]; exact hn _) (evalArgs_any (by rw [backTo_plain]; exact hn _) rfl (wpAny_mono (x.run _ _ ok s₁ p₁) (fun vs s₂ hh₀ => ?_) fun _ _ f => f.elim))
  obtain ⟨k₂, r₂⟩ := hh₀
  refine wpAny_evalAll_nil ?_
  exact wpAny_mono (h.run ok.cx _ s₂ vs [] (p₁.keeps k₂).st r₂ .nil) (fun r s₄ ⟨k₄, r₄⟩ => ⟨keeps_trans (keeps_trans k₁ k₂) k₄, r₄⟩) fun _ _ f => f

theorem callOk_len_list {C : Cx} {ds : List PyData} (hz : ds.length ≤ 1000000) : CallOk C (.builtin "len") [.lst ds] [] [] (.dat (.int ds.length)) := .mk fun ok W s vs ks S x y => by
  (first | obtain rfl := BAll.inv0 y | obtain ⟨_, rfl⟩ := Rep.inv_int y | obtain ⟨_, rfl⟩ := Rep.inv_str y | obtain rfl := Rep.inv_none y | cases y)
  cases x with
  | cons h r =>
    (first | obtain rfl := BAll.inv0 r | obtain ⟨_, rfl⟩ := Rep.inv_int r | obtain ⟨_, rfl⟩ := Rep.inv_str r | obtain rfl := Rep.inv_none r | cases r)
    obtain ⟨l, ws, rfl, hl, r⟩ := h
    have e := r.length
    refine len_list hl (by simp; (first | lia | omega)) ⟨keeps_tok s _, ?_⟩
    simp only [List.size_toArray, e]
    exact .int _ _
theorem callOk_len_str {C : Cx} {l : List Nat} (hz : l.length ≤ 1000000) : CallOk C (.builtin "len") [.dat (.str (st l))] [] [] (.dat (.int l.length)) := .mk fun ok W s vs ks S x y => by
  (first | obtain rfl := BAll.inv0 y | obtain ⟨_, rfl⟩ := Rep.inv_int y | obtain ⟨_, rfl⟩ := Rep.inv_str y | obtain rfl := Rep.inv_none y | cases y)
  cases x with
  | cons h r =>
    (first | obtain rfl := BAll.inv0 r | obtain ⟨_, rfl⟩ := Rep.inv_int r | obtain ⟨_, rfl⟩ := Rep.inv_str r | obtain rfl := Rep.inv_none r | cases r)
    cases h
    refine len_str (by rw [st_len]; (first | lia | omega)) ⟨keeps_tok s _, ?_⟩
    rw [st_len]
    exact .int _ _
end
end Mine

namespace Mine
open PySem PySem.W PyProof.Rows PySem.Calls

def Same (s s' : Shared) : Prop := ∃ h tk, s' = { s with heap := h, toks := tk }
theorem same_refl (s : Shared) : Same s s := ⟨s.heap, s.toks, rfl⟩
theorem same_trans {a b c : Shared} (x : Same a b) (y : Same b c) : Same a c := by
  obtain ⟨h, t, rfl⟩ := x
  obtain ⟨h', t', rfl⟩ := y
  exact ⟨h', t', rfl⟩
theorem same_keeps {a b : Shared} (x : Keeps a b) : Same a b := let ⟨h, t, e, _⟩ := x; ⟨h, t, e⟩


abbrev Own := Option (Str × List PyData)
def wid (W : Addr → Prop) (l : Addr) : Own → Addr → Prop
  | none => W
  | some _ => fun a => W a ∨ a = l
def gam (Γ : List (Str × Bd)) : Own → List (Str × Bd)
  | none => Γ
  | some (x, ds) => (x, .lst ds) :: Γ

structure Gd (F : Fm) (O : Addr → Prop) (h0 : Gh) : Prop where
  g : ∀ b o, F.g b = some o → h0 b = some o
  O : ∀ a, O a → h0 a = none

structure OwnAt (F : Fm) (W : Addr → Prop) (h0 : Gh) (l : Addr) (x : Str) (ds : List PyData) (s : Shared) : Prop where
  nh : h0 l = none
  nW : ¬ W l
  var : VarAt F.env s.heap x (.ref l)
  lst : ∃ vs n, s.heap.get? l = some (listOf vs.toArray n) ∧ RepAll (fun a => W a ∨ a = l) s.heap vs ds

structure OpS (F : Fm) (W : Addr → Prop) (h0 : Gh) (Γ : List (Str × Bd)) (own : Own) (l : Addr) (s : Shared) : Prop where
  g : GIn h0 s.heap
  pre : F.Pre (wid W l own) Γ s
  own : ∀ x ds, own = some (x, ds) → OwnAt F W h0 l x ds s
def PreS (F : Fm) (W : Addr → Prop) (h0 : Gh) (Γ : List (Str × Bd)) (own : Own) (s : Shared) : Prop := ∃ l, OpS F W h0 Γ own l s

section
variable {F : Fm} {W O : Addr → Prop} {h0 : Gh} {Γ Γ' : List (Str × Bd)} {own own' : Own} {l : Addr} {s s' : Shared}

theorem wid_le : ∀ a, W a → wid W l own a := fun a w => by cases own with | none => exact w | some p => exact .inl w
theorem OpS.keeps (p : OpS F W h0 Γ own l s) (k : Keeps s s') : OpS F W h0 Γ own l s' :=
  ⟨p.g.keeps (keeps_heap k), p.pre.keeps k, fun x ds e => by
    obtain ⟨a, b, c, vs, n, d, f⟩ := p.own x ds e
    exact ⟨a, b, c.keeps (keeps_heap k), vs, n, keeps_heap k _ _ d, f.keeps (keeps_heap k)⟩⟩
theorem OpS.gam (p : OpS F W h0 Γ own l s) : F.Pre (wid W l own) (gam Γ own) s := by
  cases own with
  | none => exact p.pre
  | some q =>
    obtain ⟨x, ds⟩ := q
    refine ⟨p.pre.st, fun r hr => ?_, p.pre.ns, p.pre.cells⟩
    rcases List.mem_cons.mp hr with rfl | hr
    · obtain ⟨a, b, c, vs, n, d, f⟩ := p.own x ds rfl
      exact ⟨.ref l, c, l, vs, rfl, ⟨_, d, rfl, n, rfl⟩, f⟩
    · exact p.pre.vars r hr
theorem OpS.ok (p : OpS F W h0 Γ own l s) (ok : F.Ok W O) (gd : Gd F O h0) : F.Ok (wid W l own) (wid O l own) := by
  cases own with
  | none => exact ok
  | some q =>
    obtain ⟨x, ds⟩ := q
    obtain ⟨hl0, hlW, _⟩ := p.own x ds rfl
    refine ⟨ok.cx, ok.kind, ok.eg, ok.eb, .inl ok.loc, fun a h => h.imp (ok.OW a) id, fun b' h => ?_, ok.cne, ok.cinj, fun x c e => .inl (ok.cW x c e), fun st x c k e => .inl (ok.cO st x c k e)⟩
    rcases h with h | rfl
    · exact ok.Og _ h
    · cases e : F.g b' with
      | none => rfl
      | some o => rw [gd.g _ o e] at hl0; cases hl0

/-- an expression within a statement -/
theorem OpS.ev (p : OpS F W h0 Γ own l s) (ok : F.Ok W O) (gd : Gd F O h0) {e : Expr} {b : Bd} (x : EvB F (Mine.gam Γ own) e b) {Q : Value → Shared → Prop} {E : Value → Shared → Prop}
    (h : ∀ v s', Keeps s s' → OpS F W h0 Γ own l s' → BRep (wid W l own) s'.heap v b → Q v s') : wpAny (model F.prog F.w) F.A (eval e F.env) Q E s :=
  x.use (p.ok ok gd) p.gam fun v s' k _ r => h v s' k (p.keeps k) r
theorem OpS.test (p : OpS F W h0 Γ own l s) (ok : F.Ok W O) (gd : Gd F O h0) {e : Expr} {b : Bool} (x : EvT F (Mine.gam Γ own) e b) {Q : Bool → Shared → Prop} {E : Value → Shared → Prop}
    (h : ∀ s', Keeps s s' → OpS F W h0 Γ own l s' → Q b s') : wpAny (model F.prog F.w) F.A (isTrue e F.env (eval e F.env)) Q E s :=
  x.use (p.ok ok gd) p.gam fun s' k _ => h s' k (p.keeps k)

theorem rep_upd {W : Addr → Prop} {h h' : Heap} {a : Addr} {v : Value} {d : PyData} (x : Rep W h v d) (ha : W a) (hs : Heap.SameBut a h h') : Rep W h' v d :=
  x.gen (fun _ w => .inl w) fun b o hb e => (hs.2 b fun q => hb (q ▸ ha)).trans e
theorem repAll_upd {W : Addr → Prop} {h h' : Heap} {a : Addr} {v : List Value} {d : List PyData} (x : RepAll W h v d) (ha : W a) (hs : Heap.SameBut a h h') : RepAll W h' v d :=
  x.gen (fun _ w => .inl w) fun b o hb e => (hs.2 b fun q => hb (q ▸ ha)).trans e
theorem bRep_upd {W : Addr → Prop} {h h' : Heap} {a : Addr} {v : Value} {b : Bd} (x : BRep W h v b) (ha : W a) (hs : Heap.SameBut a h h') (hnl : ∀ o xs n, h.get? a = some o → o.data = .seq xs n → False) : BRep W h' v b := by
  cases b with
  | dat d => exact rep_upd x ha hs
  | lst ds =>
    obtain ⟨l, vs, e, ⟨o, ho, hc, n, hd⟩, r⟩ := x
    refine ⟨l, vs, e, ⟨o, (hs.2 l fun q => ?_).trans ho, hc, n, hd⟩, repAll_upd r ha hs⟩
    subst q
    exact hnl o _ n ho hd
  | val u => exact x

/-- a change of one of the frame's own objects -/
theorem OpS.upd (p : OpS F W h0 Γ own l s) (ok : F.Ok W O) (gd : Gd F O h0) {a : Addr} {h' : Heap} {tk : Nat} {x : Str} {v : Value} {b : Bd} (ha : O a) (hs : Heap.SameBut a s.heap h') (hex : ∃ o, h'.get? a = some o)
    (hnl : ∀ o xs n, s.heap.get? a = some o → o.data = .seq xs n → False) (hns : ∃ m, h'.Ns F.env.locals m) (hcells : ∀ y c, F.env.cells.lookup y = some c → ∃ v, h'.IsCell c v)
    (hv : ∀ y v, y ≠ x → VarAt F.env s.heap y v → VarAt F.env h' y v) (hxv : VarAt F.env h' x v) (r : BRep (wid W l own) s.heap v b)
    (hx : ∀ y ds, own = some (y, ds) → y ≠ x) (hΓ : ∀ q ∈ Γ', q = (x, b) ∨ (q ∈ Γ ∧ q.1 ≠ x)) : OpS F W h0 Γ' own l { s with heap := h', toks := tk } := by
  have hW : wid W l own a := wid_le a (ok.OW a ha)
  refine ⟨fun c o e => (hs.2 c ?_).trans (p.g c o e), ⟨⟨fun c o e => (hs.2 c ?_).trans (p.pre.st.g c o e), fun c w => ?_⟩, fun q hq => ?_, hns, hcells⟩, fun y ds e => ?_⟩
  · rintro rfl; rw [gd.O _ ha] at e; cases e
  · rintro rfl; rw [ok.Og _ ha] at e; cases e
  · by_cases hc : c = a
    · subst hc; exact hex
    · obtain ⟨o, ho⟩ := p.pre.st.W c w
      exact ⟨o, (hs.2 c hc).trans ho⟩
  · rcases hΓ q hq with rfl | ⟨hm, hn⟩
    · exact ⟨v, hxv, bRep_upd r hW hs hnl⟩
    · obtain ⟨u, a1, a2⟩ := p.pre.vars q hm
      exact ⟨u, hv _ _ hn a1, bRep_upd a2 hW hs hnl⟩
  · subst e
    obtain ⟨a1, a2, a3, vs, n, a4, a5⟩ := p.own y ds rfl
    have hla : l ≠ a := fun q => a2 (q ▸ ok.OW a ha)
    exact ⟨a1, a2, hv _ _ (hx y ds rfl) a3, vs, n, (hs.2 l hla).trans a4, repAll_upd a5 (.inl (ok.OW a ha)) hs⟩

theorem ns_isDict {h : Heap} {a : Addr} {m : Str → Option Value} (n : h.Ns a m) : ∀ o xs k, h.get? a = some o → o.data = .seq xs k → False := by
  obtain ⟨o, es, ep, ho, hd, _⟩ := n
  intro o' xs k ho' hd'
  rw [ho] at ho'; cases ho'; rw [hd] at hd'; cases hd'
theorem cell_noSeq {h : Heap} {a : Addr} {v : Option Value} (n : h.IsCell a v) : ∀ o xs k, h.get? a = some o → o.data = .seq xs k → False := by
  obtain ⟨o, ho, hd⟩ := n
  intro o' xs k ho' hd'
  rw [ho] at ho'; cases ho'; rw [hd] at hd'; cases hd'

/-- a name of the frame's own is stored -/
theorem OpS.store (p : OpS F W h0 Γ own l s) (ok : F.Ok W O) (gd : Gd F O h0) {x : Str} {v : Value} {b : Bd} (r : BRep (wid W l own) s.heap v b)
    (hk : F.env.kindOf x = some .local ∨ (F.sto = true ∧ F.env.kindOf x = some .cell ∧ (F.env.cells.lookup x).isSome = true)) (hx : ∀ y ds, own = some (y, ds) → y ≠ x) (hΓ : ∀ q ∈ Γ', q = (x, b) ∨ (q ∈ Γ ∧ q.1 ≠ x))
    {Q : Unit → Shared → Prop} {E : Value → Shared → Prop} (h : ∀ s', Same s s' → OpS F W h0 Γ' own l s' → Q () s') : wpAny (model F.prog F.w) F.A (storeName F.env x v) Q E s := by
  rcases hk with hk | ⟨hst, hk, hc⟩
  · obtain ⟨m, hn⟩ := p.pre.ns
    refine wpAny_storeName_local hk hn (fun h' hn' hs' => h _ ⟨h', _, rfl⟩ (p.upd ok gd ok.loc hs' ?_ (ns_isDict hn) ⟨_, hn'⟩ (fun y c e => ?_) (fun y u hy a => ?_) (.loc hk hn' (by simp)) r hx hΓ)) (by rw [ok.kind]; rfl)
    · obtain ⟨o, _, _, ho, _⟩ := hn'; exact ⟨o, ho⟩
    · obtain ⟨u, hu⟩ := p.pre.cells y c e
      exact ⟨u, hu.sameBut hs' (ok.cne y c e)⟩
    · cases a with
      | loc a1 a2 a3 =>
        have e1 := a2.eq_nsMap
        have e2 := hn.eq_nsMap
        exact .loc a1 hn' (by simp only [if_neg hy]; rw [e2, ← e1]; exact a3)
      | cell a1 a2 a3 => exact .cell a1 a2 (a3.sameBut hs' (ok.cne _ _ a2))
      | free a1 a2 a3 a4 => exact .free a1 a2 a3 (a4.sameBut hs' (ok.cne _ _ a3))
  · obtain ⟨c, hc⟩ := Option.isSome_iff_exists.mp hc
    obtain ⟨v₀, hv₀⟩ := p.pre.cells x c hc
    obtain ⟨m, hn⟩ := p.pre.ns
    refine wpAny_storeName_cell ok.kind hk hc hv₀ (fun h' hc' hs' => h _ ⟨h', _, rfl⟩ (p.upd ok gd (ok.cO hst x c hk hc) hs' ?_ (cell_noSeq hv₀) ⟨_, hn.sameBut hs' (Ne.symm (ok.cne x c hc))⟩ (fun y c' e => ?_) (fun y u hy a => ?_) (.cell hk hc hc') r hx hΓ))
    · obtain ⟨o, ho, _⟩ := hc'; exact ⟨o, ho⟩
    · by_cases q : c' = c
      · subst q; exact ⟨_, hc'⟩
      · obtain ⟨u, hu⟩ := p.pre.cells y c' e
        exact ⟨u, hu.sameBut hs' q⟩
    · cases a with
      | loc a1 a2 a3 => exact .loc a1 (a2.sameBut hs' (Ne.symm (ok.cne x c hc))) a3
      | cell a1 a2 a3 => exact .cell a1 a2 (a3.sameBut hs' fun q => hy (ok.cinj _ _ _ a2 (q ▸ hc)))
      | free a1 a2 a3 a4 => exact .free a1 a2 a3 (a4.sameBut hs' fun q => hy (ok.cinj _ _ _ a3 (q ▸ hc)))
end

/-! ### Statements -/
inductive Out where
  | next (Γ : List (Str × Bd)) (own : Own)
  | ret (b : Bd)
def OutS (F : Fm) (W : Addr → Prop) (h0 : Gh) : Out → Flow → Shared → Prop
  | .next Γ own, f, s' => f = .next ∧ PreS F W h0 Γ own s'
  | .ret b, f, s' => ∃ v, f = .ret v ∧ GIn h0 s'.heap ∧ BRep W s'.heap v b
abbrev ExG (F : Fm) (Γ : List (Str × Bd)) (own : Own) (t : Sem Flow) (out : Out) : Prop := Wrap (∀ W O, F.Ok W O → ∀ h0, Gd F O h0 → ∀ s, PreS F W h0 Γ own s →
  wpAny (model F.prog F.w) F.A t (fun f s' => Same s s' ∧ OutS F W h0 out f s') (fun _ _ => False) s)

section
variable {F : Fm} {Γ Γ' : List (Str × Bd)} {own : Own} {out : Out}

theorem ex_sub {t : Sem Flow} (h : ∀ p ∈ Γ', p ∈ Γ) (x : ExG F Γ' own t out) : ExG F Γ own t out := .mk fun W O ok h0 gd s ⟨l, p⟩ =>
  x.run W O ok h0 gd s ⟨l, p.g, p.pre.sub h, p.own⟩
theorem ex_nil : ExG F Γ own (execs [] F.env) (.next Γ own) := .mk fun W O ok h0 gd s p => wpAny_execs_nil ⟨same_refl s, rfl, p⟩
theorem ex_cons {st : Stmt} {rest : List Stmt} {own₁ : Own} {Γ₁ : List (Str × Bd)} (x : ExG F Γ own (exec st F.env) (.next Γ₁ own₁)) (y : ExG F Γ₁ own₁ (execs rest F.env) out) : ExG F Γ own (execs (st :: rest) F.env) out := .mk fun W O ok h0 gd s p =>
  wpAny_execs_cons (wpAny_mono (x.run W O ok h0 gd s p) (fun f s₁ ⟨sm, e, p₁⟩ => by
    subst e
    exact wpAny_mono (y.run W O ok h0 gd s₁ p₁) (fun f s₂ ⟨sm₂, q⟩ => ⟨same_trans sm sm₂, q⟩) fun _ _ f => f) fun _ _ f => f)
theorem ex_cons_ret {st : Stmt} {rest : List Stmt} {b : Bd} (x : ExG F Γ own (exec st F.env) (.ret b)) : ExG F Γ own (execs (st :: rest) F.env) (.ret b) := .mk fun W O ok h0 gd s p =>
  wpAny_execs_cons (wpAny_mono (x.run W O ok h0 gd s p) (fun f s₁ ⟨sm, v, e, q⟩ => by
    subst e
    exact ⟨sm, v, rfl, q⟩) fun _ _ f => f)
theorem ex_one {st : Stmt} (x : ExG F Γ own (exec st F.env) out) : ExG F Γ own (execs [st] F.env) out := by
  cases out with
  | next Γ₁ own₁ => exact ex_cons x ex_nil
  | ret b => exact ex_cons_ret x

/-- may x be stored in this frame -/
def Sto (F : Fm) (x : Str) : Prop := F.env.kindOf x = some .local ∨ (F.sto = true ∧ F.env.kindOf x = some .cell ∧ (F.env.cells.lookup x).isSome = true)

theorem ex_assign {x : Str} {px pos : Pos} {e : Expr} {b : Bd} (v : EvB F (gam Γ own) e b) (hk : Sto F x) (hx : ∀ y ds, own = some (y, ds) → y ≠ x) (hΓ : ∀ q ∈ Γ', q = (x, b) ∨ (q ∈ Γ ∧ q.1 ≠ x))
    (hs : swapsWith e (some (.Name x px)) pos.line F.env = pure false := by rfl) : ExG F Γ own (exec (.Assign [.Name x px] e pos) F.env) (.next Γ' own) := .mk fun W O ok h0 gd s ⟨l, p⟩ =>
  wpAny_Assign_Name (p.ev ok gd v fun v s₁ k₁ p₁ r₁ => p₁.store ok gd r₁ hk hx hΓ fun s₂ sm p₂ => ⟨same_trans (same_keeps k₁) sm, rfl, l, p₂⟩) hs
theorem ex_return {e : Expr} {pos : Pos} {b : Bd} (v : EvB F (gam Γ own) e b) : ExG F Γ own (exec (.Return (some e) pos) F.env) (.ret b) := .mk fun W O ok h0 gd s ⟨l, p⟩ =>
  wpAny_Return_some (p.ev ok gd v fun v s₁ k₁ p₁ r₁ => ⟨same_keeps k₁, v, rfl, p₁.g, r₁.less wid_le⟩)
theorem ex_if_true {t : Expr} {body orelse : List Stmt} {pos : Pos} (c : EvT F (gam Γ own) t true) (x : ExG F Γ own (execs body F.env) out) : ExG F Γ own (exec (.If t body orelse pos) F.env) out := .mk fun W O ok h0 gd s ⟨l, p⟩ =>
  wpAny_If (p.test ok gd c fun s₁ k₁ p₁ => by
    simp only [if_true]
    exact wpAny_mono (x.run W O ok h0 gd s₁ ⟨l, p₁⟩) (fun f s₂ ⟨sm, q⟩ => ⟨same_trans (same_keeps k₁) sm, q⟩) fun _ _ f => f)
theorem ex_if_false {t : Expr} {body orelse : List Stmt} {pos : Pos} (c : EvT F (gam Γ own) t false) (x : ExG F Γ own (execs orelse F.env) out) : ExG F Γ own (exec (.If t body orelse pos) F.env) out := .mk fun W O ok h0 gd s ⟨l, p⟩ =>
  wpAny_If (p.test ok gd c fun s₁ k₁ p₁ => by
    simp only [Bool.false_eq_true, if_false]
    exact wpAny_mono (x.run W O ok h0 gd s₁ ⟨l, p₁⟩) (fun f s₂ ⟨sm, q⟩ => ⟨same_trans (same_keeps k₁) sm, q⟩) fun _ _ f => f)
theorem ex_if {t : Expr} {body orelse : List Stmt} {pos : Pos} {c : Bool} (ht : EvT F (gam Γ own) t c) (x : c = true → ExG F Γ own (execs body F.env) out) (y : c = false → ExG F Γ own (execs orelse F.env) out) : ExG F Γ own (exec (.If t body orelse pos) F.env) out := by
  cases c with
  | true => exact ex_if_true ht (x rfl)
  | false => exact ex_if_false ht (y rfl)

/-- a while by an invariant σ and a measure -/
theorem ex_while {σ : Type} {test : Expr} {body rest : List Stmt} {pos : Pos} (G : σ → List (Str × Bd)) (I : σ → Prop) (μ : σ → Nat) (c : σ → Bool)
    (ht : ∀ x, I x → EvT F (gam (G x) own) test (c x)) (hb : ∀ x, I x → c x = true → ∃ y, I y ∧ μ y < μ x ∧ ExG F (G x) own (execs body F.env) (.next (G y) own))
    (x₀ : σ) (h₀ : I x₀) (hd : ∀ x, I x → c x = false → ExG F (G x) own (execs rest F.env) out) : ExG F (G x₀) own (execs (.While test body [] pos :: rest) F.env) out := .mk fun W O ok h0 gd s p => by
  refine wpAny_execs_cons (wpAny_While ?_)
  refine codeAny_whileLoop (fun n s' => Same s s' ∧ ∃ x, μ x = n ∧ I x ∧ PreS F W h0 (G x) own s') (fun n s₁ hh₀ => ?_) (μ x₀) ⟨same_refl s, x₀, rfl, h₀, p⟩
  obtain ⟨sm₁, x, hn, hI, l, p₁⟩ := hh₀
  refine p₁.test ok gd (ht x hI) fun s₂ k₂ p₂ => ?_
  have sm₂ := same_trans sm₁ (same_keeps k₂)
  cases hc : c x with
  | true =>
    simp only [if_true]
    obtain ⟨y, hy, hm, hx⟩ := hb x hI hc
    refine wpAny_mono (hx.run W O ok h0 gd s₂ ⟨l, p₂⟩) (fun f s₃ hh₀ => ?_) fun _ _ f => f.elim
    obtain ⟨sm₃, e, p₃⟩ := hh₀
    subst e
    exact ⟨μ y, hn ▸ hm, same_trans sm₂ sm₃, y, rfl, hy, p₃⟩
  | false =>
    simp only [Bool.false_eq_true, if_false]
    refine wpAny_execs_nil ?_
    exact wpAny_mono ((hd x hI hc).run W O ok h0 gd s₂ ⟨l, p₂⟩) (fun f s₃ ⟨sm₃, q⟩ => ⟨same_trans sm₂ sm₃, q⟩) fun _ _ f => f
end
end Mine

namespace Mine
open PySem PySem.W PyProof.Rows PySem.Calls

/-! ### Into a def -/
def Cx.into (C : Cx) (env : Env) : Fm := { C with A := C.A.deeper env, fuel := C.fuel - 1, env := env, sto := true }

theorem Cx.Ok.into {C : Cx} (ok : C.Ok) (hf : 0 < C.fuel) (env : Env) : (C.into env).toCx.Ok where
  hh := ok.hh
  depth := by have := ok.depth; show C.A.depth + 1 + (C.fuel - 1) ≤ 600; (first | lia | omega)
  units := by have := ok.units; show C.A.units + 3 + 8 * (C.fuel - 1) ≤ 2000; (first | lia | omega)
  KIn := ok.KIn
  gns := ok.gns
  bns := ok.bns
  nolimit := ok.nolimit
  boot := ok.boot

theorem bindL_skip {k : Str → Option NameKind} {x : Str} : ∀ {binds : List (Str × Value)} {m : Str → Option Value}, x ∉ binds.map (·.1) → bindL k binds m x = m x
  | [], _, _ => rfl
  | (n, v) :: r, m, h => by
    have h1 : x ≠ n := fun e => h (by simp [e])
    have h2 : x ∉ r.map (·.1) := fun e => h (by simp at e ⊢; exact .inr e)
    unfold bindL
    rw [bindL_skip h2]
    split
    · simp only [if_neg h1]
    · rfl
theorem bindC_skip {k : Str → Option NameKind} {x : Str} : ∀ {binds : List (Str × Value)} {m : Str → Option Value}, x ∉ binds.map (·.1) → bindC k binds m x = m x
  | [], _, _ => rfl
  | (n, v) :: r, m, h => by
    have h1 : x ≠ n := fun e => h (by simp [e])
    have h2 : x ∉ r.map (·.1) := fun e => h (by simp at e ⊢; exact .inr e)
    unfold bindC
    rw [bindC_skip h2]
    split
    · rfl
    · simp only [if_neg h1]
theorem bindL_at {k : Str → Option NameKind} {x : Str} {v : Value} (hk : k x = some .local) : ∀ {binds : List (Str × Value)} {m : Str → Option Value}, (binds.map (·.1)).Nodup → (x, v) ∈ binds → bindL k binds m x = some v
  | (n, u) :: r, m, hn, h => by
    rw [List.map_cons, List.nodup_cons] at hn
    unfold bindL
    rcases List.mem_cons.mp h with e | h
    · cases e
      rw [if_pos hk, bindL_skip hn.1]; simp
    · exact bindL_at hk hn.2 h
theorem bindC_at {k : Str → Option NameKind} {x : Str} {v : Value} (hk : k x = some .cell) : ∀ {binds : List (Str × Value)} {m : Str → Option Value}, (binds.map (·.1)).Nodup → (x, v) ∈ binds → bindC k binds m x = some v
  | (n, u) :: r, m, hn, h => by
    rw [List.map_cons, List.nodup_cons] at hn
    unfold bindC
    rcases List.mem_cons.mp h with e | h
    · cases e
      rw [if_neg (by rw [hk]; decide), bindC_skip hn.1]; simp
    · exact bindC_at hk hn.2 h

theorem ball_zip {W : Addr → Prop} {h : Heap} : ∀ {binds : List (Str × Value)} {bs : List Bd}, BAll W h (binds.map (·.2)) bs → ∀ p ∈ (binds.map (·.1)).zip bs, ∃ v, (p.1, v) ∈ binds ∧ BRep W h v p.2
  | [], _, _, p, hp => by simp at hp
  | (n, v) :: r, _, .cons a q, p, hp => by
    rw [List.map_cons, List.zip_cons_cons] at hp
    rcases List.mem_cons.mp hp with rfl | hp
    · exact ⟨v, .head _, a⟩
    · obtain ⟨u, hu, b⟩ := ball_zip q p hp
      exact ⟨u, .tail _ hu, b⟩

section
variable {C : Cx} {W : Addr → Prop} {s : Shared} {f : Addr} {oc : Value} {od : Option Addr} {osl : Array (Option Value)} {name qual : Str} {params : Arguments} {body : List Stmt} {scope : Scope} {dV kV doc pm cdv ct : Value} {an : Option Addr}
  {args : Args} {binds : List (Str × Value)} {bs : List Bd} {b : Bd}

/-- the frame just made -/
theorem entered (ok : C.Ok) (S : C.St W s) {env : Env} {cells : List (Str × Addr)} (hL : env.locals = s.heap.objs.size) (hcl : env.cells = cells) (hk : env.scope.kind = .function) (eg : env.globals = mainGlobals) (eb : env.builtins = builtinsNs) (hf : 0 < C.fuel)
    {s' : Shared} (x : InCallC s env.locals (bindL env.kindOf binds fun _ => none) env.cells (bindC env.kindOf binds fun _ => none) s')
    (hb : BAll W s.heap (binds.map (·.2)) bs) (hn : (binds.map (·.1)).Nodup) (hkind : ∀ y ∈ binds, env.kindOf y.1 = some .local ∨ (env.kindOf y.1 = some .cell ∧ (env.cells.lookup y.1).isSome = true)) :
    ∃ W' O, (∀ a, W a → W' a) ∧ (∀ a, W' a → W a ∨ O a) ∧ (C.into env).Ok W' O ∧ Gd (C.into env) O s.heap.get? ∧ PreS (C.into env) W' s.heap.get? ((binds.map (·.1)).zip bs) none s' := by
  have above : ∀ n c, (n, c) ∈ env.cells → s.heap.objs.size < c := fun n c h => hL ▸ x.above n c h
  have hnew : ∀ a, s.heap.objs.size ≤ a → s.heap.get? a = none := fun a ha => by
    cases e : s.heap.get? a with
    | none => rfl
    | some o => exact absurd (Heap.lt_size e) (Nat.not_lt.mpr ha)
  have hgn : ∀ a, s.heap.get? a = none → C.g a = none := fun a ha => by
    cases e : C.g a with
    | none => rfl
    | some o => rw [S.g a o e] at ha; cases ha
  have hO : ∀ a, (a = env.locals ∨ ∃ y, env.cells.lookup y = some a) → s.heap.get? a = none := fun a h => by
    rcases h with rfl | ⟨y, hy⟩
    · exact hnew _ (hL ▸ Nat.le_refl _)
    · exact hnew _ (Nat.le_of_lt (above _ _ (mem_of_lookup hy)))
  have kept := x.toInCall.keep
  refine ⟨fun a => W a ∨ (a = env.locals ∨ ∃ y, env.cells.lookup y = some a), fun a => a = env.locals ∨ ∃ y, env.cells.lookup y = some a, fun a w => .inl w, fun a w => w, ?_, ⟨fun b o e => S.g b o e, hO⟩, env.locals, ?_⟩
  · refine ⟨ok.into hf env, hk, eg, eb, .inl rfl, fun a h => .inr h, fun a h => hgn a (hO a h), fun y c e q => ?_, fun y z c e1 e2 => ?_, fun y c e => .inr (.inr ⟨y, e⟩), fun _ y c _ e => .inr ⟨y, e⟩⟩
    · exact absurd (x.above y c (mem_of_lookup e)) (by rw [q]; exact Nat.lt_irrefl _)
    · exact name_of_addr x.apart (mem_of_lookup e1) (mem_of_lookup e2)
  · refine ⟨fun b o e => kept b o e, ⟨⟨fun b o e => kept b o (S.g b o e), fun a w => ?_⟩, fun p hp => ?_, ⟨_, x.toInCall.ns⟩, fun y c e => ⟨_, x.cell y c e⟩⟩, fun y ds e => by cases e⟩
    · rcases w with w | rfl | ⟨y, hy⟩
      · obtain ⟨o, ho⟩ := S.W a w; exact ⟨o, kept a o ho⟩
      · obtain ⟨o, _, _, ho, _⟩ := x.toInCall.ns; exact ⟨o, ho⟩
      · obtain ⟨o, ho, _⟩ := x.cell y a hy; exact ⟨o, ho⟩
    · obtain ⟨v, hv, r⟩ := ball_zip hb p hp
      refine ⟨v, ?_, ?_⟩
      · rcases hkind _ hv with hl | ⟨hl, hc⟩
        · exact .loc hl x.toInCall.ns (bindL_at hl hn hv)
        · obtain ⟨c, hc⟩ := Option.isSome_iff_exists.mp hc
          exact .cell hl hc (by rw [← bindC_at (m := fun _ => none) hl hn hv]; exact x.cell _ _ hc)
      · have hg : ∀ {v : Value} {d : PyData}, Rep W s.heap v d → Rep (fun a => W a ∨ (a = env.locals ∨ ∃ y, env.cells.lookup y = some a)) s'.heap v d := fun r => r.gen (fun a w => w.imp id (hO a)) fun b o _ e => kept b o e
        have hg' : ∀ {v : List Value} {d : List PyData}, RepAll W s.heap v d → RepAll (fun a => W a ∨ (a = env.locals ∨ ∃ y, env.cells.lookup y = some a)) s'.heap v d := fun r => r.gen (fun a w => w.imp id (hO a)) fun b o _ e => kept b o e
        cases hb : p.2 with
        | dat d => rw [hb] at r; exact hg r
        | lst ds => rw [hb] at r; obtain ⟨l, vs, e, hl, q⟩ := r; exact ⟨l, vs, e, isList_keeps hl (kept l), hg' q⟩
        | val u => rw [hb] at r; exact r

theorem enter (ok : C.Ok) (hf : 0 < C.fuel) (S : C.St W s) (ho : C.K.lookup f = some ⟨oc, od, .func (fnOf name qual params body scope dV kV doc pm an cdv ct), osl⟩) (hcd : codeIn C.K cdv qual = true)
    (hbind : BindsTo s (fnOf name qual params body scope dV kV doc pm an cdv ct) args binds) (hb : BAll W s.heap (binds.map (·.2)) bs) (hn : (binds.map (·.1)).Nodup)
    (hkind : (binds.all fun y => scope.names.lookup y.1 == some .local || scope.names.lookup y.1 == some .cell) = true)
    (hbody : ∀ L, ExG (C.into (envOfC qual scope L f cdv)) ((binds.map (·.1)).zip bs) none (execs body (envOfC qual scope L f cdv)) (.ret b))
    (hco : scope.isCoroutine = false := by rfl) (hgen : scope.isGenerator = false := by rfl) (hk : scope.kind = .function := by rfl) :
    codeAny (model C.prog C.w) C.A (.call (.ref f) args) (fun r s' => ∃ v, r = .ok (.ret v) ∧ Keeps s s' ∧ BRep W s'.heap v b) s := by
  have hK : s.heap.get? f = some ⟨oc, od, .func (fnOf name qual params body scope dV kV doc pm an cdv ct), osl⟩ := S.g _ _ (ok.KIn _ _ ho)
  have hkk := kindsX hkind
  refine codeAny_call_function (by have := ok.depth; show C.A.depth < 1000; (first | lia | omega)) hK rfl hco hgen rfl ((codeRec_of (h := s.heap) (fun a o e => S.g _ _ (ok.KIn a o e)) hcd)) (hbind _ _ _ _ ?_)
  refine wpAny_newFunctionEnv_cells hk (hkk _) fun env' he s' x => ?_
  subst he
  refine ⟨(ok.nolimit _ S.g).keeps x.toInCall.keep, codeAny_func ?_⟩
  obtain ⟨W', O, hW, hW2, ok', gd, p⟩ := entered (bs := bs) ok S (env := envOfC qual scope s.heap.objs.size f cdv) rfl rfl hk rfl rfl hf x hb hn (hkk _)
  obtain ⟨h₁, tk, rfl⟩ := x.toInCall.same
  refine wpAny_mono ((hbody s.heap.objs.size).run W' O ok' _ gd _ p) (fun fl s₂ hh₀ => ?_) fun _ _ f => f.elim
  obtain ⟨⟨h₂, t₂, e₂⟩, v, e, hG, r⟩ := hh₀
  subst e
  refine ⟨v, rfl, ?_, r.less hW⟩
  subst e₂
  exact ⟨h₂, t₂, rfl, hG⟩

theorem callOk_of {kn : List Str} {kb ab : List Bd} (h : C.Ok → ∀ W s vs ks, C.St W s → BAll W s.heap vs ab → BAll W s.heap ks kb → codeAny (model C.prog C.w) C.A (.call (.ref f) ⟨vs, kn.zip ks⟩) (fun r s' => ∃ v, r = .ok (.ret v) ∧ Keeps s s' ∧ BRep W s'.heap v b) s) :
    CallOk C (.ref f) ab kn kb b := .mk fun ok W s vs ks S x y =>
  wpAny_call (codeAny_mono (h ok W s vs ks S x y) fun r s' ⟨v, e, k, q⟩ => by subst e; exact ⟨k, q⟩)
end

/-! ### Owned lists -/
/-- a list just made -/
abbrev EvN (F : Fm) (Γ : List (Str × Bd)) (e : Expr) (ds : List PyData) : Prop := Wrap (∀ W O, F.Ok W O → ∀ s, F.Pre W Γ s →
  wpAny (model F.prog F.w) F.A (eval e F.env) (fun v s' => Keeps s s' ∧ ∃ l vs n, v = .ref l ∧ s.heap.get? l = none ∧ ¬ W l ∧ s'.heap.get? l = some (listOf vs.toArray n) ∧ RepAll (fun a => W a ∨ a = l) s'.heap vs ds) (fun _ _ => False) s)

section
variable {F : Fm} {Γ Γ' : List (Str × Bd)} {own : Own} {out : Out}

theorem evn_nil {pos : Pos} : EvN F Γ (.List [] pos) [] := .mk fun W O ok s p =>
  List_ (Calls.spliced_nil (wpAny_newObj_type ⟨keeps_push s _, _, [], 0, rfl, get?_size _, newList_lt p.st.W, Heap.get?_push_size _ rfl, .nil⟩ (by show (0 : Nat) ≤ sizeLine; (first | lia | omega))))
theorem OpS.drop {W : Addr → Prop} {h0 : Gh} {l : Addr} {s : Shared} (p : OpS F W h0 Γ own l s) : OpS F W h0 Γ none l s :=
  ⟨p.g, ⟨⟨p.pre.st.g, fun a w => p.pre.st.W a (wid_le a w)⟩, fun q hq => let ⟨v, a, b⟩ := p.pre.vars q hq; ⟨v, a, b.less wid_le⟩, p.pre.ns, p.pre.cells⟩, fun x ds e => by cases e⟩
/-- the owned list is now data like any other -/
theorem ex_freeze {t : Sem Flow} {x : Str} {ds : List PyData} (h : ExG F ((x, .dat (.list ds)) :: Γ) none t out) : ExG F Γ (some (x, ds)) t out := .mk fun W O ok h0 gd s ⟨l, p⟩ => by
  obtain ⟨a1, a2, a3, vs, n, a4, a5⟩ := p.own x ds rfl
  have q := p.drop
  refine h.run W O ok h0 gd s ⟨l, q.g, ⟨q.pre.st, fun r hr => ?_, q.pre.ns, q.pre.cells⟩, fun x ds e => by cases e⟩
  rcases List.mem_cons.mp hr with rfl | hr
  · exact ⟨_, a3, Rep.list a2 (.of a4) (a5.less fun a w => .inl w)⟩
  · exact q.pre.vars r hr

/-- a stronger ghost: all but the frame's own -/
theorem ghost_strong {W O : Addr → Prop} {h0 : Gh} {l : Addr} {s : Shared} (ok : F.Ok W O) (gd : Gd F O h0) (p : OpS F W h0 Γ none l s) :
    ∃ h1 : Gh, Gd F O h1 ∧ OpS F W h1 Γ none l s ∧ (∀ b o, h0 b = some o → h1 b = some o) ∧ (∀ b o, ¬ O b → s.heap.get? b = some o → h1 b = some o) := by
  classical
  refine ⟨fun b => if O b then none else s.heap.get? b, ⟨fun b o e => ?_, fun a h => by simp [h]⟩, ⟨fun b o e => ?_, p.pre, fun x ds e => by cases e⟩, fun b o e => ?_, fun b o hb e => by simp [hb, e]⟩
  · have : ¬ O b := fun h => by rw [ok.Og b h] at e; cases e
    simp only [if_neg this]; exact p.pre.st.g b o e
  · by_cases hb : O b
    · simp [hb] at e
    · simpa [hb] using e
  · have : ¬ O b := fun h => by rw [gd.O b h] at e; cases e
    simp only [if_neg this]; exact p.g b o e

/-- x becomes the name of a list of its own -/
theorem ex_assign_own {x : Str} {px pos : Pos} {e : Expr} {ds : List PyData} (v : EvN F (gam Γ own) e ds) (hk : Sto F x) (hΓ : ∀ q ∈ Γ', q ∈ Γ ∧ q.1 ≠ x)
    (hs : swapsWith e (some (.Name x px)) pos.line F.env = pure false := by rfl) : ExG F Γ own (exec (.Assign [.Name x px] e pos) F.env) (.next Γ' (some (x, ds))) := .mk fun W O ok h0 gd s ⟨l, p⟩ => by
  refine wpAny_Assign_Name (wpAny_mono (v.run _ _ (p.ok ok gd) s p.gam) (fun u s₁ hh₀ => ?_) fun _ _ f => f.elim) hs
  obtain ⟨k₁, l', vs, n, e₁, hnew, hnW, ho, hr⟩ := hh₀
  subst e₁
  have p₁ := (p.keeps k₁).drop
  have hnW' : ¬ W l' := fun w => hnW (wid_le _ w)
  have hnO : ¬ O l' := fun w => hnW' (ok.OW _ w)
  have hl0 : h0 l' = none := by
    cases q : h0 l' with
    | none => rfl
    | some o => have := p.g _ _ q; rw [hnew] at this; cases this
  -- what is known avoids l'
  have avoid : ∀ q ∈ Γ, ∃ v, VarAt F.env s₁.heap q.1 v ∧ BRep (fun a => W a ∨ a = l') s₁.heap v q.2 := fun q hq => by
    obtain ⟨v, a, b⟩ := p.drop.pre.vars q hq
    refine ⟨v, a.keeps (keeps_heap k₁), ?_⟩
    have hg : ∀ {v : Value} {d : PyData}, Rep W s.heap v d → Rep (fun a => W a ∨ a = l') s₁.heap v d := fun r => r.gen (fun a w => w.imp id fun e => by rw [e]; exact hnew) fun b o _ e => keeps_heap k₁ b o e
    have hg' : ∀ {v : List Value} {d : List PyData}, RepAll W s.heap v d → RepAll (fun a => W a ∨ a = l') s₁.heap v d := fun r => r.gen (fun a w => w.imp id fun e => by rw [e]; exact hnew) fun b o _ e => keeps_heap k₁ b o e
    cases hb : q.2 with
    | dat d => rw [hb] at b; exact hg b
    | lst ds => rw [hb] at b; obtain ⟨l, vs, e, hl, r⟩ := b; exact ⟨l, vs, e, isList_keeps hl (keeps_heap k₁ l), hg' r⟩
    | val u => rw [hb] at b; exact b
  -- a frame that owns l' too
  have okW : F.Ok (fun a => W a ∨ a = l') O := ⟨ok.cx, ok.kind, ok.eg, ok.eb, ok.loc, fun a h => .inl (ok.OW a h), ok.Og, ok.cne, ok.cinj, fun x c e => .inl (ok.cW x c e), ok.cO⟩
  have pW : OpS F (fun a => W a ∨ a = l') h0 Γ none l' s₁ := ⟨p₁.g, ⟨⟨p₁.pre.st.g, fun a w => w.elim (p₁.pre.st.W a) fun e => ⟨_, e ▸ ho⟩⟩, avoid, p₁.pre.ns, p₁.pre.cells⟩, fun x ds e => by cases e⟩
  obtain ⟨h1, gd1, q1, up, all⟩ := ghost_strong okW gd pW
  refine q1.store (Γ' := (x, .val (.ref l')) :: Γ') okW gd1 (b := .val (.ref l')) rfl hk (fun y ds e => by cases e) (fun q hq => ?_) fun s₂ sm₂ q₂ => ?_
  · rcases List.mem_cons.mp hq with rfl | hq
    · exact .inl rfl
    · exact .inr (hΓ q hq)
  · refine ⟨same_trans (same_keeps k₁) sm₂, rfl, l', ⟨fun b o e => q₂.g b o (up b o e), q₂.pre.sub fun q hq => .tail _ hq, fun y ds' e => ?_⟩⟩
    cases e
    obtain ⟨v, a, b⟩ := q₂.pre.vars (x, .val (.ref l')) (.head _)
    have b : v = .ref l' := b
    subst b
    refine ⟨hl0, hnW', a, vs, n, q₂.g _ _ (all _ _ hnO ho), hr.gen (fun _ w => .inl (w.imp (wid_le _) id)) fun b o hb e => q₂.g _ _ (all _ _ (fun w => hb (.inl (wid_le _ (ok.OW _ w)))) e)⟩

/-- what a callable does to a list of its caller's own -/
abbrev MutOk (C : Cx) (f : Value) (args : List Bd) (kn : List Str) (kb : List Bd) (ds ds' : List PyData) : Prop := Wrap (C.Ok → ∀ W s l lv n vs ks, C.St W s → W l → C.g l = none → s.heap.get? l = some (listOf lv.toArray n) → RepAll W s.heap lv ds →
  BAll W s.heap vs args → BAll W s.heap ks kb →
  wpAny (model C.prog C.w) C.A (call f (.ref l :: vs) (kn.zip ks)) (fun r s' => r = .none ∧ Same s s' ∧ (∀ b o, b ≠ l → s.heap.get? b = some o → s'.heap.get? b = some o) ∧ ∃ lv' n', s'.heap.get? l = some (listOf lv'.toArray n') ∧ RepAll W s'.heap lv' ds') (fun _ _ => False) s)

/-- a statement that calls such a one with the owned list -/
theorem ex_mut {x : Str} {fe : Expr} {es : List Expr} {ks : List Keyword} {px pos pos' : Pos} {a : Addr} {o : Obj} {fd : FuncData} {args : List Bd} {kn : List Str} {kb : List Bd} {ds ds' : List PyData}
    (hf : EvB F (gam Γ (some (x, ds))) fe (.val (.ref a))) (ha : EvL F (gam Γ (some (x, ds))) pos es args) (hkw : EvKw F (gam Γ (some (x, ds))) pos ks kn kb)
    (ho : ∀ W s, F.Pre W Γ s → s.heap.get? a = some o ∧ o.data = .func fd) (h : MutOk F.toCx (.ref a) args kn kb ds ds') (hd : (x == ("__debug__" : Str)) = false := by decide) (hno : ∀ p ∈ Γ, ∀ ds, p.2 ≠ .lst ds)
    (hn : ∀ env, starEach (.Name x px :: es) env = (false, eval (.Name x px) env) :: starEach es env := by intro _; rfl) (hn' : ∀ env, (starEach es env).any (·.1) = false := by intro _; rfl)
    (harm : ∀ env, eval (.Call fe (.Name x px :: es) ks pos) env = (do callWith pos (← eval fe env) [] (backTo pos (starEach (.Name x px :: es) env)) (backToKw pos (keywordEach ks env))) := by intro _; rfl)
    (hi : interactive F.env = false) (hs : swapsWith (.Call fe (.Name x px :: es) ks pos) none pos'.line F.env = pure false := by rfl) :
    ExG F Γ (some (x, ds)) (exec (.Expr (.Call fe (.Name x px :: es) ks pos) pos') F.env) (.next Γ (some (x, ds'))) := .mk fun W O ok h0 gd s ⟨l, p⟩ => by
  refine wpAny_Expr ?_ hi hs
  rw [harm]
  have okl := p.ok ok gd
  refine wpAny_bind (p.ev ok gd hf fun f s₁ k₁ p₁ r₁ => ?_)
  have r₁ : f = .ref a := r₁
  subst r₁
  obtain ⟨a1, a2, a3, _⟩ := p₁.own x ds rfl
  have hst : (backTo pos (starEach (.Name x px :: es) F.env)) = (false, eval (.Name x px) F.env) :: backTo pos (starEach es F.env) := by rw [hn]; rfl
  refine callWith_function_kw (o := o) (fd := fd) (evalArgs_any (by rw [backTo_plain, hn]; simpa using hn' _) hkw.1 ?_)
  rw [hst]
  refine Calls.spliced_cons (wpAny_Name (a3.load ok.kind ?_) hd)
  refine wpAny_mono (ha.run _ _ okl s₁ p₁.gam) (fun vs s₂ hh₀ => ?_) fun _ _ f => f.elim
  obtain ⟨k₂, r₂⟩ := hh₀
  have p₂ := p₁.keeps k₂
  refine wpAny_mono (hkw.2.2 _ _ okl s₂ p₂.gam) (fun ks s₃ hh₀ => ?_) fun _ _ f => f.elim
  obtain ⟨k₃, r₃⟩ := hh₀
  have p₃ := p₂.keeps k₃
  refine ⟨ho _ _ p₃.pre, ?_⟩
  rw [hkw.2.1]
  obtain ⟨c1, c2, c3, lv, n, c4, c5⟩ := p₃.own x ds rfl
  refine wpAny_mono (h.run ok.cx _ s₃ l lv n vs ks p₃.pre.st (.inr rfl) (okl.Og l (.inr rfl)) c4 c5 (r₂.keeps (keeps_heap k₃)) r₃) (fun r s₄ hh₀ => ?_) fun _ _ f => f.elim
  obtain ⟨e, sm, kp, lv', n', hl', rl'⟩ := hh₀
  subst e
  refine ⟨same_trans (same_trans (same_trans (same_keeps k₁) (same_keeps k₂)) (same_keeps k₃)) sm, rfl, l, ⟨fun b o e => kp b o (fun q => by rw [q, c1] at e; cases e) (p₃.g b o e), ⟨⟨fun b o e => kp b o (fun q => ?_) (p₃.pre.st.g b o e), fun b w => ?_⟩, fun q hq => ?_, ?_, fun y c e => ?_⟩, fun y ds'' e => ?_⟩⟩
  · have := okl.Og l (.inr rfl); rw [q, this] at e; cases e
  · by_cases q : b = l
    · exact ⟨_, q ▸ hl'⟩
    · obtain ⟨o, ho⟩ := p₃.pre.st.W b w; exact ⟨o, kp b o q ho⟩
  · obtain ⟨v, b1, b2⟩ := p₃.pre.vars q hq
    refine ⟨v, ?_, ?_⟩
    · cases b1 with
      | loc d1 d2 d3 => exact .loc d1 (d2.at' fun o e => kp _ o (fun q => a2 (q ▸ ok.OW _ ok.loc)) e) d3
      | cell d1 d2 d3 => obtain ⟨o, ho, hd⟩ := d3; exact .cell d1 d2 ⟨o, kp _ o (fun q => a2 (q ▸ ok.cW _ _ d2)) ho, hd⟩
      | free d1 d2 d3 d4 => obtain ⟨o, ho, hd⟩ := d4; exact .free d1 d2 d3 ⟨o, kp _ o (fun q => a2 (q ▸ ok.cW _ _ d3)) ho, hd⟩
    · cases hb : q.2 with
      | dat d => rw [hb] at b2; exact Rep.gen (fun _ w => .inl w) (fun b o hb e => kp b o (fun q => hb (.inr q)) e) b2
      | lst ds => exact absurd hb (hno q hq ds)
      | val u => rw [hb] at b2; exact b2
  · obtain ⟨m, hm⟩ := p₃.pre.ns
    exact ⟨m, hm.at' fun o e => kp _ o (fun q => a2 (q ▸ ok.OW _ ok.loc)) e⟩
  · obtain ⟨v, o, ho, hd⟩ := p₃.pre.cells y c e
    exact ⟨v, o, kp _ o (fun q => a2 (q ▸ ok.cW _ _ e)) ho, hd⟩
  · cases e
    refine ⟨c1, c2, ?_, lv', n', hl', rl'⟩
    cases c3 with
    | loc d1 d2 d3 => exact .loc d1 (d2.at' fun o e => kp _ o (fun q => a2 (q ▸ ok.OW _ ok.loc)) e) d3
    | cell d1 d2 d3 => obtain ⟨o, ho, hd⟩ := d3; exact .cell d1 d2 ⟨o, kp _ o (fun q => a2 (q ▸ ok.cW _ _ d2)) ho, hd⟩
    | free d1 d2 d3 d4 => obtain ⟨o, ho, hd⟩ := d4; exact .free d1 d2 d3 ⟨o, kp _ o (fun q => a2 (q ▸ ok.cW _ _ d3)) ho, hd⟩
end
end Mine

namespace Mine
open PySem PySem.W PyProof.Rows PySem.Calls

def ownedTypes : List String := ["enumerate", "zip", "dict_itemiterator", "dict_reverseitemiterator", "odict_iterator", "itertools.zip_longest", "itertools.pairwise"]
theorem wpAny_letOwned {M : Model} {A : Around} {E : Value → Shared → Prop} {s : Shared} {target : Expr} {I : Addr} {v : Value} {o : Obj} {T : String} {Q : Unit → Shared → Prop} (ho : s.heap.get? I = some o) (hc : o.cls = .type T) (hT : ownedTypes.contains T = false) (h : Q () s) :
    wpAny M A (letOwnedTupleGo target (.ref I) v) Q E s := by
  have key : wpAny M A (do
      let (.ref r, .ref a) := (Value.ref I, v) | return
      let o ← load r
      match o.cls, o.data with
      | .type n, .fields vs =>
        if ownedTypes.contains n && vs[0]? == some (rawInt a) then
          rule "for.unpacks-the-owned-tuple"
          updateField r 0 .none
      | _, _ => pure () : Sem Unit) Q E s := by
    cases v with
    | ref a =>
      refine wpAny_bind (wpAny_load ho ?_)
      rw [hc]
      cases o.data with
      | fields vs => simp only [hT, Bool.false_and, Bool.false_eq_true, if_false]; exact wpAny_pure h
      | _ => exact wpAny_pure h
    | _ => exact wpAny_pure h
  cases target <;> first | exact wpAny_pure h | exact key

/-! ### What a loop runs over -/
abbrev EvI (F : Fm) (Γ : List (Str × Bd)) (e : Expr) (items : List PyData) : Prop := Wrap (∀ W O, F.Ok W O → ∀ s, F.Pre W Γ s →
  wpAny (model F.prog F.w) F.A (eval e F.env) (fun v s₁ => Keeps s s₁ ∧ wpAny (model F.prog F.w) F.A (pyIter v) (fun it s₂ => Keeps s₁ s₂ ∧ ∃ I fp wr P St, it = .ref I ∧ Walks F.prog F.w F.A I fp wr items.length P St ∧ St 0 s₂.heap ∧
    (∀ b ∈ wr, s₁.heap.get? b = none) ∧ (∀ b ∈ fp, ¬ W b ∧ ∃ o, s₂.heap.get? b = some o) ∧ (∀ i v, i < items.length → P i v → ∃ d, items[i]? = some d ∧ Rep W s₁.heap v d) ∧
    (∀ i h, St i h → ∃ o T, h.get? I = some o ∧ o.cls = .type T ∧ ownedTypes.contains T = false ∧ T ≠ "list") ∧ (∀ b ∈ wr, b = I) ∧ I ∈ wr) (fun _ _ => False) s₁) (fun _ _ => False) s)

section
variable {F : Fm} {Γ Γ' : List (Str × Bd)} {own : Own} {out : Out}

theorem evi_list {e : Expr} {ds : List PyData} (x : EvE F Γ e (.list ds)) : EvI F Γ e ds := .mk fun W O ok s p =>
  x.use ok p fun v s₁ k₁ p₁ r => by
    refine ⟨k₁, ?_⟩
    cases r with
    | list hn hl0 r =>
      rename_i a vs
      have hl := hl0.1
      have hlen := r.length
      have hne : a ≠ s₁.heap.objs.size := by obtain ⟨o, ho, _⟩ := hl; exact Nat.ne_of_lt (Heap.lt_size ho)
      refine wpAny_pyIter_list hl ?_
      refine ⟨keeps_push s₁ _, s₁.heap.objs.size, [s₁.heap.objs.size, a], [s₁.heap.objs.size], fun i v => vs.toArray[i]? = some v, fun i h => h.IsListIter s₁.heap.objs.size a i ∧ h.IsList a vs.toArray, rfl, ?_, ⟨⟨_, Heap.get?_push_size _ rfl, rfl, rfl⟩, hl.push _⟩, ?_, ?_, ?_, ?_, fun b hb => by simpa using hb, .head _⟩
      · have W' := Walks.list (prog := F.prog) (w := F.w) ok.cx.hh s₁.heap.objs.size a hne vs.toArray
        rw [show vs.toArray.size = ds.length by simp [hlen]] at W'
        exact W'
      · intro b hb; simp at hb; subst hb; exact get?_size _
      · intro b hb
        simp at hb
        rcases hb with rfl | rfl
        · exact ⟨newList_lt p₁.st.W, _, Heap.get?_push_size _ rfl⟩
        · obtain ⟨o, ho, _⟩ := hl; exact ⟨hn, o, Heap.get?_push_of_some _ ho⟩
      · intro i v _ hv
        exact r.get' (by simpa using hv)
      · rintro i h ⟨⟨o, ho, hc, _⟩, _⟩
        exact ⟨o, _, ho, hc, by decide, by decide⟩

theorem evi_of_range {fe : Expr} {es : List Expr} {pos : Pos} {args : List Bd} {a b c : Int} {n : Nat} (hf : EvB F Γ fe (.val (.type "range"))) (x : EvL F Γ pos es args)
    (h : ∀ W s vs, F.toCx.Ok → F.toCx.St W s → BAll W s.heap vs args → wpAny (model F.prog F.w) F.A (call (.type "range") vs []) (fun v s' => Keeps s s' ∧ ∃ t u k, v = .ref s.heap.objs.size ∧ IsRange s'.heap s.heap.objs.size a b c t u k) (fun _ _ => False) s)
    (hsmall : Builtin.Range.small a b c = true) (hn : Builtin.Range.rangeSize a b c = (n : Int))
    (hns : ∀ env, (starEach es env).any (·.1) = false := by intro _; rfl)
    (harm : ∀ env, eval (.Call fe es [] pos) env = (do callWith pos (← eval fe env) [] (backTo pos (starEach es env)) (backToKw pos (keywordEach [] env))) := by intro _; rfl) :
    EvI F Γ (.Call fe es [] pos) ((List.range n).map fun i : Nat => .int (a + (i : Int) * c)) := .mk fun W O ok s p => by
  rw [harm]
  refine wpAny_bind (hf.use ok p fun f s₁ k₁ p₁ r₁ => ?_)
  have r₁ : f = .type "range" := r₁
  subst r₁
  refine PySem.callWith_type (by rw [backTo_plain]; exact hns _) (evalArgs_any (by rw [backTo_plain]; exact hns _) rfl (wpAny_mono (x.run _ _ ok s₁ p₁) (fun vs s₂ hh₀ => ?_) fun _ _ f => f.elim))
  obtain ⟨k₂, r₂⟩ := hh₀
  refine wpAny_evalAll_nil ?_
  have p₂ := p₁.keeps k₂
  refine wpAny_mono (h W s₂ vs ok.cx p₂.st r₂) (fun v s₃ ⟨k₃, t, u, k, e, hr⟩ => ⟨keeps_trans (keeps_trans k₁ k₂) k₃, ?_⟩) fun _ _ f => f
  subst e
  have p₃ := p₂.keeps k₃
  refine wpAny_pyIter_range hr hsmall ?_
  refine ⟨keeps_push s₃ _, s₃.heap.objs.size, [s₃.heap.objs.size], [s₃.heap.objs.size], fun i v => ∃ t, v = .int (a + (i : Int) * c) t, fun i h => IsRangeIter h s₃.heap.objs.size (a + (i : Nat) * c) ((n : Int) - (i : Nat)) c, rfl, ?_, ?_, ?_, ?_, ?_, ?_, fun b hb => by simpa using hb, .head _⟩
  · have hl : ((List.range n).map fun i : Nat => PyData.int (a + (i : Int) * c)).length = n := by simp
    rw [hl]
    exact Walks.range (prog := F.prog) (w := F.w) ok.cx.hh s₃.heap.objs.size a c n
  · have : IsRangeIter (s₃.heap.push { cls := .type "range_iterator", data := .fields #[rawInt a, rawInt (Builtin.Range.rangeSize a b c), rawInt c] }) s₃.heap.objs.size a (Builtin.Range.rangeSize a b c) c := Heap.get?_push_size _ rfl
    rw [hn] at this
    simpa [hn] using this
  · intro b hb; simp at hb; subst hb; exact get?_size _
  · intro b hb
    simp at hb
    subst hb
    exact ⟨newList_lt p₃.st.W, _, Heap.get?_push_size _ rfl⟩
  · rintro i v hi ⟨t, rfl⟩
    have hi : i < n := by simpa using hi
    exact ⟨_, by simp [hi], .int _ _⟩
  · intro i h hi
    exact ⟨_, _, hi, rfl, by decide, by decide⟩

theorem range_small {a b c : Int} (ha : -1000000 ≤ a ∧ a ≤ 1000000) (hb : -1000000 ≤ b ∧ b ≤ 1000000) (hc : c = 1 ∨ c = -1) : Builtin.Range.small a b c = true := by
  have hs : 0 ≤ Builtin.Range.rangeSize a b c ∧ Builtin.Range.rangeSize a b c ≤ 2000001 := by
    unfold Builtin.Range.rangeSize
    rcases hc with rfl | rfl
    · simp only [show (1 : Int) > 0 by decide, if_true, Int.ediv_one]; split <;> (first | lia | omega)
    · simp only [show ¬ (-1 : Int) > 0 by decide, if_false, show (- -1 : Int) = 1 by decide, Int.ediv_one]; split <;> (first | lia | omega)
  have f : ∀ x : Int, -3000000 ≤ x → x ≤ 3000000 → Builtin.Range.rangeFitsLong x = true := by
    intro x h1 h2
    simp [Builtin.Range.rangeFitsLong]; (first | lia | omega)
  unfold Builtin.Range.small
  rw [f a (by first | decide | assumption | with_reducible exact Int.natCast_nonneg _ | with_reducible exact Nat.le_trans (by assumption) (by decide) | with_reducible exact Nat.lt_of_lt_of_le (by assumption) (by decide) | with_reducible exact lt_mil (Nat.lt_of_lt_of_le (by assumption) (by decide)) | with_reducible exact lt_mil (Nat.lt_of_le_of_lt (by assumption) (by decide)) | with_reducible exact Nat.le_trans (Nat.le_of_lt (by assumption)) (by decide) | (first | lia | omega)) (by first | decide | assumption | with_reducible exact Int.natCast_nonneg _ | with_reducible exact Nat.le_trans (by assumption) (by decide) | with_reducible exact Nat.lt_of_lt_of_le (by assumption) (by decide) | with_reducible exact lt_mil (Nat.lt_of_lt_of_le (by assumption) (by decide)) | with_reducible exact lt_mil (Nat.lt_of_le_of_lt (by assumption) (by decide)) | with_reducible exact Nat.le_trans (Nat.le_of_lt (by assumption)) (by decide) | (first | lia | omega)), f b (by first | decide | assumption | with_reducible exact Int.natCast_nonneg _ | with_reducible exact Nat.le_trans (by assumption) (by decide) | with_reducible exact Nat.lt_of_lt_of_le (by assumption) (by decide) | with_reducible exact lt_mil (Nat.lt_of_lt_of_le (by assumption) (by decide)) | with_reducible exact lt_mil (Nat.lt_of_le_of_lt (by assumption) (by decide)) | with_reducible exact Nat.le_trans (Nat.le_of_lt (by assumption)) (by decide) | (first | lia | omega)) (by first | decide | assumption | with_reducible exact Int.natCast_nonneg _ | with_reducible exact Nat.le_trans (by assumption) (by decide) | with_reducible exact Nat.lt_of_lt_of_le (by assumption) (by decide) | with_reducible exact lt_mil (Nat.lt_of_lt_of_le (by assumption) (by decide)) | with_reducible exact lt_mil (Nat.lt_of_le_of_lt (by assumption) (by decide)) | with_reducible exact Nat.le_trans (Nat.le_of_lt (by assumption)) (by decide) | (first | lia | omega)), f c (by first | decide | assumption | with_reducible exact Int.natCast_nonneg _ | with_reducible exact Nat.le_trans (by assumption) (by decide) | with_reducible exact Nat.lt_of_lt_of_le (by assumption) (by decide) | with_reducible exact lt_mil (Nat.lt_of_lt_of_le (by assumption) (by decide)) | with_reducible exact lt_mil (Nat.lt_of_le_of_lt (by assumption) (by decide)) | with_reducible exact Nat.le_trans (Nat.le_of_lt (by assumption)) (by decide) | (first | lia | omega)) (by first | decide | assumption | with_reducible exact Int.natCast_nonneg _ | with_reducible exact Nat.le_trans (by assumption) (by decide) | with_reducible exact Nat.lt_of_lt_of_le (by assumption) (by decide) | with_reducible exact lt_mil (Nat.lt_of_lt_of_le (by assumption) (by decide)) | with_reducible exact lt_mil (Nat.lt_of_le_of_lt (by assumption) (by decide)) | with_reducible exact Nat.le_trans (Nat.le_of_lt (by assumption)) (by decide) | (first | lia | omega)), f _ (by first | decide | assumption | with_reducible exact Int.natCast_nonneg _ | with_reducible exact Nat.le_trans (by assumption) (by decide) | with_reducible exact Nat.lt_of_lt_of_le (by assumption) (by decide) | with_reducible exact lt_mil (Nat.lt_of_lt_of_le (by assumption) (by decide)) | with_reducible exact lt_mil (Nat.lt_of_le_of_lt (by assumption) (by decide)) | with_reducible exact Nat.le_trans (Nat.le_of_lt (by assumption)) (by decide) | (first | lia | omega)) (by first | decide | assumption | with_reducible exact Int.natCast_nonneg _ | with_reducible exact Nat.le_trans (by assumption) (by decide) | with_reducible exact Nat.lt_of_lt_of_le (by assumption) (by decide) | with_reducible exact lt_mil (Nat.lt_of_lt_of_le (by assumption) (by decide)) | with_reducible exact lt_mil (Nat.lt_of_le_of_lt (by assumption) (by decide)) | with_reducible exact Nat.le_trans (Nat.le_of_lt (by assumption)) (by decide) | (first | lia | omega))]
  simp only [Bool.and_true, Bool.true_and]
  rcases hc with rfl | rfl
  · rw [if_pos (by decide), f _ (by first | decide | assumption | with_reducible exact Int.natCast_nonneg _ | with_reducible exact Nat.le_trans (by assumption) (by decide) | with_reducible exact Nat.lt_of_lt_of_le (by assumption) (by decide) | with_reducible exact lt_mil (Nat.lt_of_lt_of_le (by assumption) (by decide)) | with_reducible exact lt_mil (Nat.lt_of_le_of_lt (by assumption) (by decide)) | with_reducible exact Nat.le_trans (Nat.le_of_lt (by assumption)) (by decide) | (first | lia | omega)) (by first | decide | assumption | with_reducible exact Int.natCast_nonneg _ | with_reducible exact Nat.le_trans (by assumption) (by decide) | with_reducible exact Nat.lt_of_lt_of_le (by assumption) (by decide) | with_reducible exact lt_mil (Nat.lt_of_lt_of_le (by assumption) (by decide)) | with_reducible exact lt_mil (Nat.lt_of_le_of_lt (by assumption) (by decide)) | with_reducible exact Nat.le_trans (Nat.le_of_lt (by assumption)) (by decide) | (first | lia | omega))]; simp
  · rw [if_neg (by decide), f _ (by first | decide | assumption | with_reducible exact Int.natCast_nonneg _ | with_reducible exact Nat.le_trans (by assumption) (by decide) | with_reducible exact Nat.lt_of_lt_of_le (by assumption) (by decide) | with_reducible exact lt_mil (Nat.lt_of_lt_of_le (by assumption) (by decide)) | with_reducible exact lt_mil (Nat.lt_of_le_of_lt (by assumption) (by decide)) | with_reducible exact Nat.le_trans (Nat.le_of_lt (by assumption)) (by decide) | (first | lia | omega)) (by first | decide | assumption | with_reducible exact Int.natCast_nonneg _ | with_reducible exact Nat.le_trans (by assumption) (by decide) | with_reducible exact Nat.lt_of_lt_of_le (by assumption) (by decide) | with_reducible exact lt_mil (Nat.lt_of_lt_of_le (by assumption) (by decide)) | with_reducible exact lt_mil (Nat.lt_of_le_of_lt (by assumption) (by decide)) | with_reducible exact Nat.le_trans (Nat.le_of_lt (by assumption)) (by decide) | (first | lia | omega))]; simp

theorem evi_range1 {fe e : Expr} {pos : Pos} {n : Int} (hf : EvB F Γ fe (.val (.type "range"))) (x : EvE F Γ e (.int n)) (hz : -1000000 ≤ n ∧ n ≤ 1000000)
    (hs : ∀ env, starEach [e] env = (false, eval e env) :: starEach [] env := by intro _; rfl)
    (harm : ∀ env, eval (.Call fe [e] [] pos) env = (do callWith pos (← eval fe env) [] (backTo pos (starEach [e] env)) (backToKw pos (keywordEach [] env))) := by intro _; rfl) :
    EvI F Γ (.Call fe [e] [] pos) ((List.range n.toNat).map fun i : Nat => .int (i : Int)) := by
  have h := evi_of_range (F := F) (Γ := Γ) (pos := pos) (es := [e]) (args := [.dat (.int n)]) (a := 0) (b := n) (c := 1) (n := n.toNat) hf (evl_cons x evl_nil hs) ?_ (range_small (by first | decide | assumption | with_reducible exact Int.natCast_nonneg _ | with_reducible exact Nat.le_trans (by assumption) (by decide) | with_reducible exact Nat.lt_of_lt_of_le (by assumption) (by decide) | with_reducible exact lt_mil (Nat.lt_of_lt_of_le (by assumption) (by decide)) | with_reducible exact lt_mil (Nat.lt_of_le_of_lt (by assumption) (by decide)) | with_reducible exact Nat.le_trans (Nat.le_of_lt (by assumption)) (by decide) | (first | lia | omega)) hz (.inl rfl)) ?_ (fun env => by rw [hs]; rfl) harm
  · simpa using h
  · intro W s vs ok S r
    cases r with
    | cons r q =>
      cases q
      cases r
      exact call_range_1 ⟨⟨_, _, rfl, fun _ _ e => Heap.get?_push_of_some _ e⟩, _, _, _, rfl, Heap.get?_push_size _ rfl⟩
  · unfold Builtin.Range.rangeSize
    simp only [show (1 : Int) > 0 by decide, if_true, Int.ediv_one]
    split <;> (first | lia | omega)
theorem evi_rangeDown {fe e₁ e₂ e₃ : Expr} {pos : Pos} {n : Int} (hf : EvB F Γ fe (.val (.type "range"))) (x : EvE F Γ e₁ (.int (n - 1))) (y : EvE F Γ e₂ (.int (-1))) (z : EvE F Γ e₃ (.int (-1))) (hz : -1000 ≤ n ∧ n ≤ 1000000)
    (hs₁ : ∀ env, starEach [e₁, e₂, e₃] env = (false, eval e₁ env) :: starEach [e₂, e₃] env := by intro _; rfl) (hs₂ : ∀ env, starEach [e₂, e₃] env = (false, eval e₂ env) :: starEach [e₃] env := by intro _; rfl)
    (hs₃ : ∀ env, starEach [e₃] env = (false, eval e₃ env) :: starEach [] env := by intro _; rfl)
    (harm : ∀ env, eval (.Call fe [e₁, e₂, e₃] [] pos) env = (do callWith pos (← eval fe env) [] (backTo pos (starEach [e₁, e₂, e₃] env)) (backToKw pos (keywordEach [] env))) := by intro _; rfl) :
    EvI F Γ (.Call fe [e₁, e₂, e₃] [] pos) ((List.range n.toNat).reverse.map fun i : Nat => .int (i : Int)) := by
  have h := evi_of_range (F := F) (Γ := Γ) (pos := pos) (es := [e₁, e₂, e₃]) (args := [.dat (.int (n - 1)), .dat (.int (-1)), .dat (.int (-1))]) (a := n - 1) (b := -1) (c := -1) (n := n.toNat) hf (evl_cons x (evl_cons y (evl_cons z evl_nil hs₃) hs₂) hs₁) ?_ (range_small (by first | decide | assumption | with_reducible exact Int.natCast_nonneg _ | with_reducible exact Nat.le_trans (by assumption) (by decide) | with_reducible exact Nat.lt_of_lt_of_le (by assumption) (by decide) | with_reducible exact lt_mil (Nat.lt_of_lt_of_le (by assumption) (by decide)) | with_reducible exact lt_mil (Nat.lt_of_le_of_lt (by assumption) (by decide)) | with_reducible exact Nat.le_trans (Nat.le_of_lt (by assumption)) (by decide) | (first | lia | omega)) (by first | decide | assumption | with_reducible exact Int.natCast_nonneg _ | with_reducible exact Nat.le_trans (by assumption) (by decide) | with_reducible exact Nat.lt_of_lt_of_le (by assumption) (by decide) | with_reducible exact lt_mil (Nat.lt_of_lt_of_le (by assumption) (by decide)) | with_reducible exact lt_mil (Nat.lt_of_le_of_lt (by assumption) (by decide)) | with_reducible exact Nat.le_trans (Nat.le_of_lt (by assumption)) (by decide) | (first | lia | omega)) (.inr rfl)) ?_ (fun env => by rw [hs₁, hs₂, hs₃]; rfl) harm
  · have e : (List.range n.toNat).reverse.map (fun i : Nat => PyData.int (i : Int)) = (List.range n.toNat).map fun i : Nat => PyData.int (n - 1 + (i : Int) * -1) := by
      rw [← krv_range, List.map_map]
      apply List.map_congr_left
      intro i hi
      have := List.mem_range.mp hi
      simp only [Function.comp]
      congr 1; (first | lia | omega)
    rw [e]; exact h
  · intro W s vs ok S r
    cases r with
    | cons r q =>
      cases q with
      | cons r2 q =>
        cases q with
        | cons r3 q =>
          cases q
          cases r; cases r2; cases r3
          exact call_range_3 (by decide) ⟨⟨_, _, rfl, fun _ _ e => Heap.get?_push_of_some _ e⟩, _, _, _, rfl, Heap.get?_push_size _ rfl⟩ (.inl (PyProof.noPylong_small (by first | decide | assumption | with_reducible exact Int.natCast_nonneg _ | with_reducible exact Nat.le_trans (by assumption) (by decide) | with_reducible exact Nat.lt_of_lt_of_le (by assumption) (by decide) | with_reducible exact lt_mil (Nat.lt_of_lt_of_le (by assumption) (by decide)) | with_reducible exact lt_mil (Nat.lt_of_le_of_lt (by assumption) (by decide)) | with_reducible exact Nat.le_trans (Nat.le_of_lt (by assumption)) (by decide) | (first | lia | omega))))
  · unfold Builtin.Range.rangeSize
    simp only [show ¬ (-1 : Int) > 0 by decide, if_false, show (- -1 : Int) = 1 by decide, Int.ediv_one]
    split <;> (first | lia | omega)
/-- the signs of a text -/
theorem evi_str {e : Expr} {l : List Nat} (x : EvE F Γ e (.str (st l))) : EvI F Γ e (l.map fun c => .str (st [c])) := .mk fun W O ok s p =>
  x.use ok p fun v s₁ k₁ p₁ r => by
    refine ⟨k₁, ?_⟩
    cases r with
    | str y t =>
      cases ha : (st l).cps.all (· < 128)
      · refine wpAny_pyIter_wide ha ?_
        refine ⟨keeps_push s₁ _, s₁.heap.objs.size, [s₁.heap.objs.size], [s₁.heap.objs.size], SignAt (st l), fun i h => h.IsStrIter s₁.heap.objs.size "str_iterator" (st l) t i, rfl, ?_, ⟨_, Heap.get?_push_size _ rfl, rfl, rfl⟩, ?_, ?_, ?_, ?_, fun b hb => by simpa using hb, .head _⟩
        · rw [show (l.map fun c => PyData.str (st [c])).length = (st l).cps.size by simp [st]]
          exact Walks.strWide ok.cx.hh _ _ _
        · intro b hb; simp at hb; subst hb; exact get?_size _
        · intro b hb; simp at hb; subst hb; exact ⟨newList_lt p₁.st.W, _, Heap.get?_push_size _ rfl⟩
        · rintro i v hi ⟨c, u, hc, rfl⟩
          exact ⟨.str (st [c]), by simp [st] at hc; simp [hc], .str _ _⟩
        · rintro i h ⟨o, ho, hc, _⟩; exact ⟨o, _, ho, hc, by decide, by decide⟩
      · refine wpAny_pyIter_ascii ha ?_
        refine ⟨keeps_push s₁ _, s₁.heap.objs.size, [s₁.heap.objs.size], [s₁.heap.objs.size], SignAt (st l), fun i h => h.IsStrIter s₁.heap.objs.size "str_ascii_iterator" (st l) t i, rfl, ?_, ⟨_, Heap.get?_push_size _ rfl, rfl, rfl⟩, ?_, ?_, ?_, ?_, fun b hb => by simpa using hb, .head _⟩
        · rw [show (l.map fun c => PyData.str (st [c])).length = (st l).cps.size by simp [st]]
          exact Walks.strAscii ok.cx.hh _ _ _
        · intro b hb; simp at hb; subst hb; exact get?_size _
        · intro b hb; simp at hb; subst hb; exact ⟨newList_lt p₁.st.W, _, Heap.get?_push_size _ rfl⟩
        · rintro i v hi ⟨c, u, hc, rfl⟩
          exact ⟨.str (st [c]), by simp [st] at hc; simp [hc], .str _ _⟩
        · rintro i h ⟨o, ho, hc, _⟩; exact ⟨o, _, ho, hc, by decide, by decide⟩

/-! ### Targets -/
/-- an assignment of an item to a target -/
abbrev Asg (F : Fm) (Γ : List (Str × Bd)) (own : Own) (target : Expr) (d : PyData) (Γ' : List (Str × Bd)) : Prop := Wrap (∀ W O, F.Ok W O → ∀ h0, Gd F O h0 → ∀ l s v, OpS F W h0 Γ own l s → Rep (wid W l own) s.heap v d →
  wpAny (model F.prog F.w) F.A (assign target F.env v) (fun _ s' => Same s s' ∧ OpS F W h0 Γ' own l s') (fun _ _ => False) s)
theorem asg_name {x : Str} {pos : Pos} {d : PyData} (hk : Sto F x) (hx : ∀ y ds, own = some (y, ds) → y ≠ x) (hΓ : ∀ q ∈ Γ', q = (x, .dat d) ∨ (q ∈ Γ ∧ q.1 ≠ x)) : Asg F Γ own (.Name x pos) d Γ' := .mk fun W O ok h0 gd l s v p r =>
  wpAny_assign_Name (p.store ok gd (b := .dat d) r hk hx hΓ fun s' sm q => ⟨sm, q⟩)

/-- the targets of a row, one after the other -/
abbrev AsgAll (F : Fm) (Γ : List (Str × Bd)) (own : Own) (ts : List Expr) (ds : List PyData) (Γ' : List (Str × Bd)) : Prop := Wrap (∀ W O, F.Ok W O → ∀ h0, Gd F O h0 → ∀ l s vs, OpS F W h0 Γ own l s → RepAll (wid W l own) s.heap vs ds →
  wpAny (model F.prog F.w) F.A (assignInOrder ((assignEach ts F.env).map (·.2)) vs) (fun _ s' => Same s s' ∧ OpS F W h0 Γ' own l s') (fun _ _ => False) s)
theorem asgAll_nil : AsgAll F Γ own [] [] Γ := .mk fun W O ok h0 gd l s vs p r => by
  cases r
  exact wpAny_pure ⟨same_refl s, p⟩
theorem asgAll_cons {x : Str} {pos : Pos} {ts : List Expr} {d : PyData} {ds : List PyData} {Γ₁ : List (Str × Bd)} (a : Asg F Γ own (.Name x pos) d Γ₁) (b : AsgAll F Γ₁ own ts ds Γ') : AsgAll F Γ own (.Name x pos :: ts) (d :: ds) Γ' := .mk fun W O ok h0 gd l s vs p r => by
  cases r with
  | cons r q =>
    rename_i v vs
    show wpAny _ _ (do holding vs (assign (.Name x pos) F.env v); assignInOrder ((assignEach ts F.env).map (·.2)) vs) _ _ s
    -- everything but the frame's own is kept by the store
    classical
    have ok' := p.ok ok gd
    let h1 : Gh := fun b => if O b then none else if (own.isSome = true ∧ b = l) then none else s.heap.get? b
    have gd1 : Gd F O h1 := ⟨fun b o e => by
      have n1 : ¬ O b := fun h => by rw [ok.Og b h] at e; cases e
      have n2 : ¬ (own.isSome = true ∧ b = l) := fun h => by
        cases own with
        | none => simp at h
        | some y => rw [h.2, ok'.Og l (.inr rfl)] at e; cases e
      show (if O b then none else if (own.isSome = true ∧ b = l) then none else s.heap.get? b) = some o
      rw [if_neg n1, if_neg n2]; exact p.pre.st.g b o e, fun b h => by show (if O b then none else _) = none; rw [if_pos h]⟩
    have p1 : OpS F W h1 Γ own l s := ⟨fun b o e => by
        have e : (if O b then none else if (own.isSome = true ∧ b = l) then none else s.heap.get? b) = some o := e
        by_cases q1 : O b
        · rw [if_pos q1] at e; cases e
        · by_cases q2 : (own.isSome = true ∧ b = l)
          · rw [if_neg q1, if_pos q2] at e; cases e
          · rw [if_neg q1, if_neg q2] at e; exact e, p.pre, fun y ds' e => by
        obtain ⟨a1, a2, a3, a4⟩ := p.own y ds' e
        refine ⟨?_, a2, a3, a4⟩
        subst e
        show (if O l then none else if ((some (y, ds')).isSome = true ∧ l = l) then none else s.heap.get? l) = none
        split
        · rfl
        · rw [if_pos ⟨rfl, rfl⟩]⟩
    refine wpAny_bind (wpAny_holding (wpAny_mono (a.run W O ok h1 gd1 l s v p1 r) (fun _ s₁ hh₀ => ?_) fun _ _ f => f))
    obtain ⟨sm₁, p₁⟩ := hh₀
    have back : OpS F W h0 Γ₁ own l s₁ := ⟨fun b o e => p₁.g b o (by
        have n1 : ¬ O b := fun h => by rw [gd.O b h] at e; cases e
        have n2 : ¬ (own.isSome = true ∧ b = l) := fun h => by
          cases hown : own with
          | none => rw [hown] at h; simp at h
          | some y =>
            obtain ⟨a1, _⟩ := p.own y.1 y.2 (by rw [hown])
            rw [h.2, a1] at e; cases e
        show (if O b then none else if (own.isSome = true ∧ b = l) then none else s.heap.get? b) = some o
        rw [if_neg n1, if_neg n2]; exact p.g b o e), p₁.pre, fun y ds' e => by
          obtain ⟨a1, a2, a3, a4⟩ := p₁.own y ds' e
          exact ⟨(p.own y ds' e).nh, a2, a3, a4⟩⟩
    have q₁ : RepAll (wid W l own) s₁.heap vs _ := q.gen (fun _ w => .inl w) fun b o hb e => p₁.g b o (by
      have n1 : ¬ O b := fun h => hb (wid_le _ (ok.OW b h))
      have n2 : ¬ (own.isSome = true ∧ b = l) := fun h => hb (by
        cases own with
        | none => simp at h
        | some y => exact .inr h.2)
      show (if O b then none else if (own.isSome = true ∧ b = l) then none else s.heap.get? b) = some o
      rw [if_neg n1, if_neg n2]; exact e)
    exact wpAny_mono (b.run W O ok h0 gd l s₁ vs back q₁) (fun _ s₂ ⟨sm₂, p₂⟩ => ⟨same_trans sm₁ sm₂, p₂⟩) fun _ _ f => f

theorem draw_walks {prog : Program} {w : World} {A : Around} {E : Value → Shared → Prop} {I : Addr} {fp wr : List Addr} {n : Nat} {P : Nat → Value → Prop} {St : Nat → Heap → Prop} (Wk : Walks prog w A I fp wr n P St) : ∀ (k i : Nat) (s : Shared) (Q : List Value → Shared → Prop), i + k ≤ n → St i s.heap →
    (∀ vs h' tk, vs.length = k → (∀ j v, vs[j]? = some v → P (i + j) v) → St (i + k) h' → (∀ b o, b ∉ wr → s.heap.get? b = some o → h'.get? b = some o) → Q vs { s with heap := h', toks := tk }) → wpAny (model prog w) A (draw (.ref I) k) Q E s
  | 0, i, s, Q, _, hst, hQ => by
    show wpAny _ _ (pure []) Q E s
    exact wpAny_pure (hQ [] s.heap s.toks rfl (by simp) hst fun _ _ _ e => e)
  | k + 1, i, s, Q, hle, hst, hQ => by
    show wpAny _ _ (pyNext (.ref I) >>= _) Q E s
    refine wpAny_bind (Wk.item i s _ _ (by first | decide | assumption | with_reducible exact Int.natCast_nonneg _ | with_reducible exact Nat.le_trans (by assumption) (by decide) | with_reducible exact Nat.lt_of_lt_of_le (by assumption) (by decide) | with_reducible exact lt_mil (Nat.lt_of_lt_of_le (by assumption) (by decide)) | with_reducible exact lt_mil (Nat.lt_of_le_of_lt (by assumption) (by decide)) | with_reducible exact Nat.le_trans (Nat.le_of_lt (by assumption)) (by decide) | (first | lia | omega)) hst fun v h₁ tk₁ hP hst₁ hk₁ => ?_)
    refine wpAny_bind (wpAny_holding (draw_walks Wk k (i + 1) _ _ (by first | decide | assumption | with_reducible exact Int.natCast_nonneg _ | with_reducible exact Nat.le_trans (by assumption) (by decide) | with_reducible exact Nat.lt_of_lt_of_le (by assumption) (by decide) | with_reducible exact lt_mil (Nat.lt_of_lt_of_le (by assumption) (by decide)) | with_reducible exact lt_mil (Nat.lt_of_le_of_lt (by assumption) (by decide)) | with_reducible exact Nat.le_trans (Nat.le_of_lt (by assumption)) (by decide) | (first | lia | omega)) hst₁ fun vs h₂ tk₂ hl hPs hst₂ hk₂ => wpAny_pure ?_))
    refine hQ (v :: vs) h₂ tk₂ (by simp [hl]) (fun j u hj => ?_) (by rw [show i + (k + 1) = i + 1 + k by (first | lia | omega)]; exact hst₂) fun b o hb e => hk₂ b o hb (hk₁ b o hb e)
    cases j with
    | zero => simp at hj; subst hj; exact hP
    | succ j => simp at hj; have := hPs j u hj; rw [show i + (j + 1) = i + 1 + j by (first | lia | omega)]; exact this

theorem noStars : ∀ {ts : List Expr} {env : Env}, (∀ t ∈ ts, ∃ x pos, t = .Name x pos) → ((assignEach ts env).length = ts.length ∧ (assignEach ts env).findIdx? (·.1) = none)
  | [], env, _ => ⟨rfl, rfl⟩
  | t :: ts, env, h => by
    obtain ⟨x, pos, rfl⟩ := h t (.head _)
    obtain ⟨h1, h2⟩ := noStars (env := env) fun t ht => h t (.tail _ ht)
    have e : assignEach (.Name x pos :: ts) env = (false, assign (.Name x pos) env) :: assignEach ts env := rfl
    rw [e]
    refine ⟨by simp [h1], ?_⟩
    rw [List.findIdx?_cons]; simp [h2]

/-- a row of names takes a list apart -/
theorem asg_tuple {ts : List Expr} {k : Nat} {pos : Pos} {ds : List PyData} (hn : ∀ t ∈ ts, ∃ x pos, t = .Name x pos) (hl : ts.length = ds.length) (a : AsgAll F Γ own ts ds Γ') : Asg F Γ own (.Tuple ts k pos) (.list ds) Γ' := .mk fun W O ok h0 gd l s v p r => by
  cases r with
  | list hW hlst0 r =>
    rename_i a' vs
    have hlst := hlst0.1
    obtain ⟨h1, h2⟩ := noStars (env := F.env) hn
    have hlen := r.length
    have hne : a' ≠ s.heap.objs.size := by obtain ⟨o, ho, _⟩ := hlst; exact Nat.ne_of_lt (Heap.lt_size ho)
    rw [arm_assign_Tuple]
    refine wpAny_bind (wpAny_standAt ?_)
    unfold unpack
    rw [h2, h1]
    refine wpAny_bind (wpAny_holding ?_)
    unfold unpackItems
    refine wpAny_bind ?_
    unfold notIterableAtAll
    refine wpAny_bind (wpAny_specialOf hlst.typeIs slot_list_iter.lookup ?_)
    refine wpAny_pure ?_
    simp only [Bool.false_eq_true, if_false]
    refine wpAny_bind (wpAny_holding (wpAny_pyIter_list hlst ?_))
    have Wk := Walks.list (prog := F.prog) (w := F.w) ok.cx.hh s.heap.objs.size a' hne vs.toArray
    have hsz : vs.toArray.size = ts.length := by simp [hlen, hl]
    rw [hsz] at Wk
    refine wpAny_bind (wpAny_holding (draw_walks Wk ts.length 0 _ _ (by first | decide | assumption | with_reducible exact Int.natCast_nonneg _ | with_reducible exact Nat.le_trans (by assumption) (by decide) | with_reducible exact Nat.lt_of_lt_of_le (by assumption) (by decide) | with_reducible exact lt_mil (Nat.lt_of_lt_of_le (by assumption) (by decide)) | with_reducible exact lt_mil (Nat.lt_of_le_of_lt (by assumption) (by decide)) | with_reducible exact Nat.le_trans (Nat.le_of_lt (by assumption)) (by decide) | (first | lia | omega)) ⟨⟨_, Heap.get?_push_size _ rfl, rfl, rfl⟩, hlst.push _⟩ fun us h₁ tk₁ hul hPs hst₁ hk₁ => ?_))
    have eus : us = vs := by
      apply List.ext_getElem?
      intro j
      rcases Nat.lt_or_ge j us.length with q | q
      · have := hPs j us[j] (by simp [q])
        simp at this
        rw [List.getElem?_eq_getElem q, ← this]
      · rw [List.getElem?_eq_none q, List.getElem?_eq_none (by first | decide | assumption | with_reducible exact Int.natCast_nonneg _ | with_reducible exact Nat.le_trans (by assumption) (by decide) | with_reducible exact Nat.lt_of_lt_of_le (by assumption) (by decide) | with_reducible exact lt_mil (Nat.lt_of_lt_of_le (by assumption) (by decide)) | with_reducible exact lt_mil (Nat.lt_of_le_of_lt (by assumption) (by decide)) | with_reducible exact Nat.le_trans (Nat.le_of_lt (by assumption)) (by decide) | (first | lia | omega))]
    subst eus
    rw [if_neg (by first | decide | assumption | with_reducible exact Int.natCast_nonneg _ | with_reducible exact Nat.le_trans (by assumption) (by decide) | with_reducible exact Nat.lt_of_lt_of_le (by assumption) (by decide) | with_reducible exact lt_mil (Nat.lt_of_lt_of_le (by assumption) (by decide)) | with_reducible exact lt_mil (Nat.lt_of_le_of_lt (by assumption) (by decide)) | with_reducible exact Nat.le_trans (Nat.le_of_lt (by assumption)) (by decide) | (first | lia | omega))]
    refine wpAny_bind (wpAny_holding (Wk.done _ _ _ (by simpa using hst₁) fun h₂ tk₂ hk₂ => ?_))
    simp only [Option.isSome_none, Bool.false_eq_true, if_false]
    refine wpAny_pure ?_
    have hk : KeepAll s.heap h₂ := fun b o e => by
      have hb : b ≠ s.heap.objs.size := Nat.ne_of_lt (Heap.lt_size e)
      exact hk₂ b o (by simpa using hb) (hk₁ b o (by simpa using hb) (Heap.get?_push_of_some _ e))
    have kk : Keeps s { s with heap := h₂, toks := tk₂ } := ⟨h₂, tk₂, rfl, hk⟩
    exact wpAny_mono (a.run W O ok h0 gd l _ us (p.keeps kk) (r.keeps hk)) (fun _ s' ⟨sm, q⟩ => ⟨same_trans (same_keeps kk) sm, q⟩) fun _ _ f => f
end
end Mine

namespace Mine
open PySem PySem.W PyProof.Rows PySem.Calls

section
variable {F : Fm} {Γ Γ' : List (Str × Bd)} {own : Own} {out : Out} {W O : Addr → Prop} {h0 : Gh} {l : Addr} {s : Shared}

theorem bRep_but {W : Addr → Prop} {h h' : Heap} {I : Addr} {v : Value} {b : Bd} (x : BRep W h v b) (hI : W I) (hk : ∀ b o, b ≠ I → h.get? b = some o → h'.get? b = some o) (hnl : ∀ xs, ¬ h.IsList I xs) : BRep W h' v b := by
  cases b with
  | dat d => exact Rep.gen (fun _ w => .inl w) (fun b o hb e => hk b o (fun q => hb (q ▸ hI)) e) x
  | lst ds =>
    obtain ⟨l, vs, e, hl, r⟩ := x
    have hlI : l ≠ I := fun q => hnl _ (q ▸ hl)
    exact ⟨l, vs, e, isList_keeps hl fun o => hk l o hlI, r.gen (fun _ w => .inl w) fun b o hb e => hk b o (fun q => hb (q ▸ hI)) e⟩
  | val u => exact x
theorem varAt_but {env : Env} {h h' : Heap} {I : Addr} {x : Str} {v : Value} (a : VarAt env h x v) (hk : ∀ b o, b ≠ I → h.get? b = some o → h'.get? b = some o) (hL : I ≠ env.locals) (hc : ∀ y c, env.cells.lookup y = some c → I ≠ c) : VarAt env h' x v := by
  cases a with
  | loc d1 d2 d3 => exact .loc d1 (d2.at' fun o e => hk _ o (Ne.symm hL) e) d3
  | cell d1 d2 d3 => obtain ⟨o, ho, hd⟩ := d3; exact .cell d1 d2 ⟨o, hk _ o (Ne.symm (hc _ _ d2)) ho, hd⟩
  | free d1 d2 d3 d4 => obtain ⟨o, ho, hd⟩ := d4; exact .free d1 d2 d3 ⟨o, hk _ o (Ne.symm (hc _ _ d3)) ho, hd⟩

/-- one object that nothing known reaches has changed -/
theorem OpS.but (p : OpS F W h0 Γ own l s) {I : Addr} {h' : Heap} {tk : Nat} (hI : W I) (hh : h0 I = none) (hk : ∀ b o, b ≠ I → s.heap.get? b = some o → h'.get? b = some o) (hex : ∃ o, h'.get? I = some o)
    (hnl : ∀ xs, ¬ s.heap.IsList I xs) (hL : I ≠ F.env.locals) (hc : ∀ y c, F.env.cells.lookup y = some c → I ≠ c) (hg : F.g I = none) : OpS F W h0 Γ own l { s with heap := h', toks := tk } := by
  refine ⟨fun b o e => hk b o (fun q => by rw [q, hh] at e; cases e) (p.g b o e), ⟨⟨fun b o e => hk b o (fun q => by rw [q, hg] at e; cases e) (p.pre.st.g b o e), fun b w => ?_⟩, fun q hq => ?_, ?_, fun y c e => ?_⟩, fun y ds e => ?_⟩
  · by_cases q : b = I
    · exact q ▸ hex
    · obtain ⟨o, ho⟩ := p.pre.st.W b w; exact ⟨o, hk b o q ho⟩
  · obtain ⟨v, a, b⟩ := p.pre.vars q hq
    exact ⟨v, varAt_but a hk hL hc, bRep_but b (wid_le _ hI) hk hnl⟩
  · obtain ⟨m, hm⟩ := p.pre.ns
    exact ⟨m, hm.at' fun o e => hk _ o (Ne.symm hL) e⟩
  · obtain ⟨v, o, ho, hd⟩ := p.pre.cells y c e
    exact ⟨v, o, hk _ o (Ne.symm (hc _ _ e)) ho, hd⟩
  · obtain ⟨a1, a2, a3, vs, n, a4, a5⟩ := p.own y ds e
    have hlI : l ≠ I := fun q => a2 (q ▸ hI)
    exact ⟨a1, a2, varAt_but a3 hk hL hc, vs, n, hk _ _ hlI a4, a5.gen (fun _ w => .inl w) fun b o hb e => hk b o (fun q => hb (.inl (q ▸ hI))) e⟩

/-- all that the frame does not own, as it lies -/
noncomputable def ghostOff (O : Addr → Prop) (own : Own) (l : Addr) (h : Heap) : Gh := open Classical in fun b => if O b ∨ (own.isSome = true ∧ b = l) then none else h.get? b
theorem ghostOff_in {h : Heap} {b : Addr} (hO : ¬ O b) (hl : own.isSome = true → b ≠ l) : ghostOff O own l h b = h.get? b := by
  unfold ghostOff
  rw [if_neg]
  rintro (q | ⟨q1, q2⟩)
  · exact hO q
  · exact hl q1 q2
theorem ghostOff_some {h : Heap} {b : Addr} {o : Obj} (e : ghostOff O own l h b = some o) : ¬ O b ∧ (own.isSome = true → b ≠ l) ∧ h.get? b = some o := by
  unfold ghostOff at e
  by_cases q : O b ∨ (own.isSome = true ∧ b = l)
  · rw [if_pos q] at e; cases e
  · rw [if_neg q] at e
    exact ⟨fun h => q (.inl h), fun h1 h2 => q (.inr ⟨h1, h2⟩), e⟩
theorem ghostOff_own {h : Heap} (e : own.isSome = true) : ghostOff O own l h l = none := by
  unfold ghostOff; rw [if_pos (.inr ⟨e, rfl⟩)]
theorem ghostOff_gd (ok : F.Ok W O) (gd : Gd F O h0) (p : OpS F W h0 Γ own l s) : Gd F O (ghostOff O own l s.heap) := by
  refine ⟨fun b o e => ?_, fun a h => by unfold ghostOff; rw [if_pos (.inl h)]⟩
  have okl := p.ok ok gd
  rw [ghostOff_in (fun h => by rw [ok.Og b h] at e; cases e) fun h q => ?_]
  · exact p.pre.st.g b o e
  · cases hown : own with
    | none => rw [hown] at h; simp at h
    | some y => subst hown; rw [q, okl.Og l (.inr rfl)] at e; cases e
theorem OpS.reghost (p : OpS F W h0 Γ own l s) : OpS F W (ghostOff O own l s.heap) Γ own l s :=
  ⟨fun b o e => (ghostOff_some e).2.2, p.pre, fun y ds e => by
    obtain ⟨_, a2, a3, a4⟩ := p.own y ds e
    exact ⟨ghostOff_own (by rw [e]; rfl), a2, a3, a4⟩⟩

/-- a Rep that avoids the owned list still does so after a statement -/
theorem rep_next {own' : Own} {l' : Addr} {h h' : Heap} {v : Value} {d : PyData} (ok : F.Ok W O) (r : Rep (wid W l own) h v d) (g : GIn (ghostOff O own l h) h') (hl' : own'.isSome = true → ghostOff O own l h l' = none) : Rep (wid W l' own') h' v d := by
  have inn : ∀ b, ¬ wid W l own b → ghostOff O own l h b = h.get? b := fun b hb => ghostOff_in (fun q => hb (wid_le _ (ok.OW _ q))) fun q e => hb (by
    cases own with
    | none => simp at q
    | some y => exact .inr e)
  refine r.gen (fun a w => ?_) fun b o hb e => g b o ((inn b hb).trans e)
  cases own' with
  | none => exact .inl (wid_le _ w)
  | some y =>
    rcases w with w | w
    · exact .inl (wid_le _ w)
    · subst w
      by_cases q : wid W l own a
      · exact .inl q
      · exact .inr ((inn a q).symm.trans (hl' rfl))

structure LoopI (F : Fm) (W2 O : Addr → Prop) (h0x : Gh) (P : Nat → Value → Prop) (St : Nat → Heap → Prop) (fp : List Addr) (items : List PyData) (Γ : List (Str × Bd)) (own : Own) (i : Nat) (l : Addr) (s : Shared) : Prop where
  op : OpS F W2 h0x Γ own l s
  st : St i s.heap
  fp : ∀ b ∈ fp, (∃ o, s.heap.get? b = some o) ∧ ¬ O b ∧ (own.isSome = true → b ≠ l)
  items : ∀ j v, j < items.length → P j v → ∃ d, items[j]? = some d ∧ Rep (wid W2 l own) s.heap v d

/-- a for -/
theorem ex_for {target iter : Expr} {body : List Stmt} {pos : Pos} {items : List PyData} (G Gb : Nat → List (Str × Bd)) (ow : Nat → Own) (k : Nat) (hi : EvI F (gam (G 0) (ow 0)) iter items)
    (ha : ∀ i (h : i < items.length), i ≤ k → Asg F (G i) (ow i) target items[i] (Gb i))
    (hb : ∀ i, i < items.length → i < k → ExG F (Gb i) (ow i) (execs body F.env) (.next (G (i + 1)) (ow (i + 1))))
    (hend : (k = items.length ∧ out = .next (G k) (ow k)) ∨ (k < items.length ∧ ∃ b, out = .ret b ∧ ExG F (Gb k) (ow k) (execs body F.env) (.ret b)))
    (hs : ∀ x, foldedSetIterable iter F.env x = pure x := by intro _; rfl) : ExG F (G 0) (ow 0) (exec (.For target iter body [] pos) F.env) out := .mk fun W O ok h0 gd s ⟨l, p⟩ => by
  refine wpAny_For ?_ hs
  have okl := p.ok ok gd
  refine wpAny_mono (hi.run _ _ okl s p.gam) (fun x s₁ hh₀ => ?_) fun _ _ f => f.elim
  obtain ⟨k₁, hit⟩ := hh₀
  refine wpAny_mono hit (fun it s₂ hh₀ => ?_) fun _ _ f => f.elim
  obtain ⟨k₂, I, fp, wr, P, St, e, Wk, hst, hwr, hfp, hP, hT, hwI, hIw⟩ := hh₀
  subst e
  have p₁ := p.keeps k₁
  have hIfp : I ∈ fp := Wk.sub I hIw
  have hIW : ¬ wid W l (ow 0) I := (hfp I hIfp).1
  have hI1 : s₁.heap.get? I = none := hwr I hIw
  have k12 := keeps_trans k₁ k₂
  have p₂ := p.keeps k12
  have okI : F.Ok (fun a => W a ∨ a = I) O := ⟨ok.cx, ok.kind, ok.eg, ok.eb, ok.loc, fun a h => .inl (ok.OW a h), ok.Og, ok.cne, ok.cinj, fun x c e => .inl (ok.cW x c e), ok.cO⟩
  have hIL : I ≠ F.env.locals := fun q => hIW (wid_le _ (q ▸ ok.OW _ ok.loc))
  have hIc : ∀ y c, F.env.cells.lookup y = some c → I ≠ c := fun y c e q => hIW (wid_le _ (q ▸ ok.cW _ _ e))
  have hIg : F.g I = none := by
    cases q : F.g I with
    | none => rfl
    | some o => rw [p₁.pre.st.g _ _ q] at hI1; cases hI1
  have hIO : ¬ O I := fun h => hIW (wid_le _ (ok.OW _ h))
  obtain ⟨oI, TI, hoI, _⟩ := hT 0 _ hst
  -- the ghost of the whole loop: all that lay there but the frame's own
  let hx : Gh := fun b => if b = I then none else ghostOff O (ow 0) l s₂.heap b
  have hx_h0 : ∀ b o, h0 b = some o → hx b = some o := fun b o e => by
    have hb1 := p₁.g b o e
    have n1 : b ≠ I := fun q => by rw [q, hI1] at hb1; cases hb1
    show (if b = I then none else ghostOff O (ow 0) l s₂.heap b) = some o
    rw [if_neg n1, ghostOff_in (fun h => by rw [gd.O b h] at e; cases e) fun h q => ?_]
    · exact p₂.g b o e
    · obtain ⟨y, hy⟩ := Option.isSome_iff_exists.mp h
      have := (p.own y.1 y.2 hy).nh
      rw [q, this] at e; cases e
  have hxI : hx I = none := by show (if I = I then none else _) = none; rw [if_pos rfl]
  have gdx : Gd F O hx := ⟨fun b o e => by
    have n1 : b ≠ I := fun q => by rw [q, hIg] at e; cases e
    show (if b = I then none else ghostOff O (ow 0) l s₂.heap b) = some o
    rw [if_neg n1]; exact (ghostOff_gd ok gd p₂).g b o e, fun a h => by
    show (if a = I then none else ghostOff O (ow 0) l s₂.heap a) = none
    split
    · rfl
    · exact (ghostOff_gd ok gd p₂).O a h⟩
  have up1 : ∀ {v : Value} {d : PyData}, Rep (wid W l (ow 0)) s₁.heap v d → Rep (wid (fun a => W a ∨ a = I) l (ow 0)) s₂.heap v d := fun r => r.gen (fun a w => by
    cases hown : ow 0 with
    | none => rw [hown] at w; exact w.imp id fun q => by rw [q]; exact hI1
    | some y =>
      rw [hown] at w
      rcases w with (w | w) | w
      · exact .inl (.inl w)
      · exact .inr (by rw [w]; exact hI1)
      · exact .inl (.inr w)) fun b o _ e => keeps_heap k₂ b o e
  have up1' : ∀ {v : List Value} {d : List PyData}, RepAll (wid W l (ow 0)) s₁.heap v d → RepAll (wid (fun a => W a ∨ a = I) l (ow 0)) s₂.heap v d := fun r => r.gen (fun a w => by
    cases hown : ow 0 with
    | none => rw [hown] at w; exact w.imp id fun q => by rw [q]; exact hI1
    | some y =>
      rw [hown] at w
      rcases w with (w | w) | w
      · exact .inl (.inl w)
      · exact .inr (by rw [w]; exact hI1)
      · exact .inl (.inr w)) fun b o _ e => keeps_heap k₂ b o e
  have opx : OpS F (fun a => W a ∨ a = I) hx (G 0) (ow 0) l s₂ := by
    refine ⟨fun b o e => ?_, ⟨⟨p₂.pre.st.g, fun a w => ?_⟩, fun q hq => ?_, p₂.pre.ns, p₂.pre.cells⟩, fun y ds e => ?_⟩
    · have e : (if b = I then none else ghostOff O (ow 0) l s₂.heap b) = some o := e
      by_cases q : b = I
      · rw [if_pos q] at e; cases e
      · rw [if_neg q] at e; exact (ghostOff_some e).2.2
    · have : wid W l (ow 0) a ∨ a = I := by
        cases hown : ow 0 with
        | none => rw [hown] at w; exact w
        | some y =>
          rw [hown] at w
          rcases w with (w | w) | w
          · exact .inl (.inl w)
          · exact .inr w
          · exact .inl (.inr w)
      rcases this with w | w
      · exact p₂.pre.st.W a w
      · exact ⟨oI, w ▸ hoI⟩
    · obtain ⟨v, a, b⟩ := p₁.pre.vars q hq
      refine ⟨v, a.keeps (keeps_heap k₂), ?_⟩
      cases hb : q.2 with
      | dat d => rw [hb] at b; exact up1 b
      | lst ds => rw [hb] at b; obtain ⟨l', vs, e, hl, r⟩ := b; exact ⟨l', vs, e, isList_keeps hl (keeps_heap k₂ l'), up1' r⟩
      | val u => rw [hb] at b; exact b
    · obtain ⟨a1, a2, a3, vs, n, a4, a5⟩ := p₁.own y ds e
      refine ⟨?_, fun w => w.elim a2 fun q => ?_, a3.keeps (keeps_heap k₂), vs, n, keeps_heap k₂ _ _ a4, ?_⟩
      · show (if l = I then none else ghostOff O (ow 0) l s₂.heap l) = none
        split
        · rfl
        · exact ghostOff_own (by rw [e]; rfl)
      · rw [q, hI1] at a4; cases a4
      · have := up1' (by rw [e]; exact a5 : RepAll (wid W l (ow 0)) s₁.heap vs ds)
        rw [e] at this; exact this
  have inv0 : LoopI F (fun a => W a ∨ a = I) O hx P St fp items (G 0) (ow 0) 0 l s₂ := by
    refine ⟨opx, hst, fun b hb => ⟨(hfp b hb).2, fun h => (hfp b hb).1 (wid_le _ (ok.OW _ h)), fun h q => (hfp b hb).1 ?_⟩, fun j v hj hv => ?_⟩
    · cases hown : ow 0 with
      | none => rw [hown] at h; simp at h
      | some y => exact .inr q
    · obtain ⟨d, hd, r⟩ := hP j v hj hv
      exact ⟨d, hd, up1 r⟩
  -- what is left when the loop is over
  have leave : ∀ {i l s' h' tk}, OpS F (fun a => W a ∨ a = I) hx (G i) (ow i) l s' → (∀ b o, b ≠ I → s'.heap.get? b = some o → h'.get? b = some o) → (∀ xs, ¬ s'.heap.IsList I xs) → PreS F W h0 (G i) (ow i) { s' with heap := h', toks := tk } := fun {i l s' h' tk} q hk hnl => by
    have le : ∀ a, wid W l (ow i) a → wid (fun a => W a ∨ a = I) l (ow i) a := fun a w => by
      cases hown : ow i with
      | none => rw [hown] at w; exact .inl w
      | some y => rw [hown] at w; exact w.imp .inl id
    have WI : wid (fun a => W a ∨ a = I) l (ow i) I := wid_le _ (.inr rfl)
    refine ⟨l, fun b o e => hk b o (fun q => ?_) (q.g b o (hx_h0 b o e)), ⟨⟨fun b o e => hk b o (fun q => ?_) (q.pre.st.g b o e), fun a w => ?_⟩, fun r hr => ?_, ?_, fun y c e => ?_⟩, fun y ds e => ?_⟩
    · have := hx_h0 b o e; rw [q, hxI] at this; cases this
    · rw [q, hIg] at e; cases e
    · obtain ⟨o, ho⟩ := q.pre.st.W a (le a w)
      refine ⟨o, hk a o (fun qq => ?_) ho⟩
      subst qq
      cases hown : ow i with
      | none => rw [hown] at w; exact hIW (wid_le _ w)
      | some y =>
        rw [hown] at w
        rcases w with w | w
        · exact hIW (wid_le _ w)
        · exact (q.own y.1 y.2 (by rw [hown])).nW (.inr w.symm)
    · obtain ⟨v, a, b⟩ := q.pre.vars r hr
      exact ⟨v, varAt_but a hk hIL hIc, (bRep_but b WI hk hnl).less le⟩
    · obtain ⟨m, hm⟩ := q.pre.ns
      exact ⟨m, hm.at' fun o e => hk _ o (Ne.symm hIL) e⟩
    · obtain ⟨v, o, ho, hd⟩ := q.pre.cells y c e
      exact ⟨v, o, hk _ o (Ne.symm (hIc _ _ e)) ho, hd⟩
    · obtain ⟨a1, a2, a3, vs, n, a4, a5⟩ := q.own y ds e
      have hlI : l ≠ I := fun q => a2 (.inr q)
      refine ⟨?_, fun w => a2 (.inl w), varAt_but a3 hk hIL hIc, vs, n, hk _ _ hlI a4, a5.gen (fun a w => .inl (w.imp .inl id)) fun b o hb e => hk b o (fun q => hb (.inl (.inr q))) e⟩
      cases hh : h0 l with
      | none => rfl
      | some o => rw [hx_h0 l o hh] at a1; cases a1
  refine codeAny_forLoop_any (fun m s' => Same s s' ∧ ∃ i l, m = items.length - i ∧ i ≤ items.length ∧ i ≤ k ∧ LoopI F (fun a => W a ∨ a = I) O hx P St fp items (G i) (ow i) i l s') ?_ items.length ⟨same_keeps k12, 0, l, rfl, Nat.zero_le _, Nat.zero_le _, inv0⟩
  rintro m s' ⟨sm, i, l', rfl, hin, hik, inv⟩
  have hnl : ∀ xs, ¬ s'.heap.IsList I xs := fun xs ⟨o, ho, hc, _⟩ => by
    obtain ⟨o', T, ho', hc', _, hT'⟩ := hT i _ inv.st
    rw [ho] at ho'; cases ho'; rw [hc] at hc'; cases hc'; exact hT' rfl
  rcases Nat.lt_or_ge i items.length with hlt | hge
  · refine Wk.item i s' _ _ hlt inv.st fun v h' tk hPv hst' hk' => ?_
    have hkI : ∀ b o, b ≠ I → s'.heap.get? b = some o → h'.get? b = some o := fun b o hb e => hk' b o (fun q => hb (hwI b q)) e
    obtain ⟨oI', TI', hoI', hcI', hTI', _⟩ := hT (i + 1) _ hst'
    refine wpAny_letOwned hoI' hcI' hTI' ?_
    have op' := inv.op.but (h' := h') (tk := tk) (.inr rfl) hxI hkI ⟨_, hoI'⟩ hnl hIL hIc hIg
    obtain ⟨d, hd, rd⟩ := inv.items i v hlt hPv
    have hdi : d = items[i] := by rw [List.getElem?_eq_getElem hlt] at hd; exact (Option.some.inj hd).symm
    have wI : wid (fun a => W a ∨ a = I) l' (ow i) I := wid_le _ (.inr rfl)
    have butR : ∀ {v : Value} {d : PyData}, Rep (wid (fun a => W a ∨ a = I) l' (ow i)) s'.heap v d → Rep (wid (fun a => W a ∨ a = I) l' (ow i)) h' v d := fun r => r.gen (fun _ w => .inl w) fun b o hb e => hkI b o (fun q => hb (by rw [q]; exact wI)) e
    have rd' := butR rd
    rw [hdi] at rd'
    refine wpAny_mono ((ha i hlt hik).run _ _ okI _ (ghostOff_gd okI gdx op') l' _ v (op'.reghost (O := O)) rd') (fun _ s₃ hh₀ => ?_) fun _ _ f => f.elim
    obtain ⟨sm₃, p₃⟩ := hh₀
    -- what the target's store has kept
    have keptN : ∀ (o₃ : Own) (l₃ : Addr) (s₄ : Shared) (G₃ : List (Str × Bd)), OpS F (fun a => W a ∨ a = I) (ghostOff O (ow i) l' h') G₃ o₃ l₃ s₄ → LoopI F (fun a => W a ∨ a = I) O hx P St fp items G₃ o₃ (i + 1) l₃ s₄ := fun o₃ l₃ s₄ G₃ q => by
      have hgl : o₃.isSome = true → ghostOff O (ow i) l' h' l₃ = none := fun h => by
        obtain ⟨y, hy⟩ := Option.isSome_iff_exists.mp h
        exact (q.own y.1 y.2 hy).nh
      have fpk : ∀ b ∈ fp, ∃ o, h'.get? b = some o ∧ ghostOff O (ow i) l' h' b = some o := fun b hb => by
        obtain ⟨⟨o, ho⟩, n1, n2⟩ := inv.fp b hb
        by_cases q : b = I
        · subst q; exact ⟨oI', hoI', (ghostOff_in n1 n2).trans hoI'⟩
        · exact ⟨o, hkI b o q ho, (ghostOff_in n1 n2).trans (hkI b o q ho)⟩
      refine ⟨⟨fun b o e => ?_, q.pre, fun y ds e => ?_⟩, Wk.frame _ _ _ hst' fun b hb o e => ?_, fun b hb => ?_, fun j u hj hu => ?_⟩
      · have e1 := e
        have e : (if b = I then none else ghostOff O (ow 0) l s₂.heap b) = some o := e
        by_cases qI : b = I
        · rw [if_pos qI] at e; cases e
        · rw [if_neg qI] at e
          have g1 := ghostOff_some e
          have g2 := inv.op.g b o e1
          refine q.g b o ((ghostOff_in g1.1 fun h q2 => ?_).trans (hkI b o qI g2))
          obtain ⟨y, hy⟩ := Option.isSome_iff_exists.mp h
          have := (inv.op.own y.1 y.2 hy).nh
          rw [q2] at e1; rw [this] at e1; cases e1
      · obtain ⟨a1, a2, a3, a4⟩ := q.own y ds e
        refine ⟨?_, a2, a3, a4⟩
        cases hh : hx l₃ with
        | none => rfl
        | some o =>
          have e1 := hh
          have hh : (if l₃ = I then none else ghostOff O (ow 0) l s₂.heap l₃) = some o := hh
          by_cases qI : l₃ = I
          · rw [if_pos qI] at hh; cases hh
          · rw [if_neg qI] at hh
            have g1 := ghostOff_some hh
            have g2 := inv.op.g _ o e1
            rw [(ghostOff_in g1.1 fun h q2 => ?_).trans (hkI _ o qI g2)] at a1
            · cases a1
            · obtain ⟨y', hy'⟩ := Option.isSome_iff_exists.mp h
              have := (inv.op.own y'.1 y'.2 hy').nh
              rw [q2] at e1; rw [this] at e1; cases e1
      · obtain ⟨o', ho', hg'⟩ := fpk b hb
        rw [ho'] at e; cases e
        exact q.g b _ hg'
      · obtain ⟨o', ho', hg'⟩ := fpk b hb
        refine ⟨⟨o', q.g b _ hg'⟩, (inv.fp b hb).2.1, fun h qq => ?_⟩
        have := hgl h
        rw [← qq, hg'] at this; cases this
      · obtain ⟨d', hd', r'⟩ := inv.items j u hj hu
        exact ⟨d', hd', rep_next okI (butR r') q.g hgl⟩
    have sm3 : Same s s₃ := same_trans sm (same_trans ⟨h', tk, rfl⟩ sm₃)
    have inv3 := keptN _ _ _ _ p₃
    -- the ghost for the body
    rcases Nat.lt_or_ge i k with hlk | hgk
    · refine wpAny_mono ((hb i hlt hlk).run _ _ okI _ (ghostOff_gd okI gdx inv3.op) s₃ ⟨l', inv3.op.reghost (O := O)⟩) (fun f s₄ hh₀ => ?_) fun _ _ f => f.elim
      obtain ⟨sm₄, e, l₄, p₄⟩ := hh₀
      subst e
      refine ⟨items.length - (i + 1), by omega, same_trans sm3 sm₄, i + 1, l₄, rfl, hlt, hlk, ?_⟩
      -- from s₃ to s₄
      have hgl : (ow (i + 1)).isSome = true → ghostOff O (ow i) l' s₃.heap l₄ = none := fun h => by
        obtain ⟨y, hy⟩ := Option.isSome_iff_exists.mp h
        exact (p₄.own y.1 y.2 hy).nh
      have fpk : ∀ b ∈ fp, ∃ o, s₃.heap.get? b = some o ∧ ghostOff O (ow i) l' s₃.heap b = some o := fun b hb => by
        obtain ⟨⟨o, ho⟩, n1, n2⟩ := inv3.fp b hb
        exact ⟨o, ho, (ghostOff_in n1 n2).trans ho⟩
      have hxk : ∀ b o, hx b = some o → ghostOff O (ow i) l' s₃.heap b = some o := fun b o e => by
        refine (ghostOff_in (fun h => by rw [gdx.O b h] at e; cases e) fun h q2 => ?_).trans (inv3.op.g b o e)
        obtain ⟨y, hy⟩ := Option.isSome_iff_exists.mp h
        have := (inv3.op.own y.1 y.2 hy).nh
        rw [q2, this] at e; cases e
      refine ⟨⟨fun b o e => p₄.g b o (hxk b o e), p₄.pre, fun y ds e => ?_⟩, Wk.frame _ _ _ inv3.st fun b hb o e => ?_, fun b hb => ?_, fun j u hj hu => ?_⟩
      · obtain ⟨a1, a2, a3, a4⟩ := p₄.own y ds e
        refine ⟨?_, a2, a3, a4⟩
        cases hh : hx l₄ with
        | none => rfl
        | some o => rw [hxk _ _ hh] at a1; cases a1
      · obtain ⟨o', ho', hg'⟩ := fpk b hb
        rw [ho'] at e; cases e
        exact p₄.g b _ hg'
      · obtain ⟨o', ho', hg'⟩ := fpk b hb
        refine ⟨⟨o', p₄.g b _ hg'⟩, (inv3.fp b hb).2.1, fun h qq => ?_⟩
        have := hgl h
        rw [← qq, hg'] at this; cases this
      · obtain ⟨d', hd', r'⟩ := inv3.items j u hj hu
        exact ⟨d', hd', rep_next okI r' p₄.g hgl⟩
    · have hki : k = i := by omega
      subst hki
      rcases hend with ⟨e1, _⟩ | ⟨_, b, eo, hret⟩
      · omega
      · subst eo
        refine wpAny_mono (hret.run _ _ okI _ gdx s₃ ⟨l', inv3.op⟩) (fun f s₄ hh₀ => ?_) fun _ _ f => f.elim
        obtain ⟨sm₄, v, e, g4, r4⟩ := hh₀
        subst e
        exact ⟨same_trans sm3 sm₄, v, rfl, fun b o e => g4 b o (hx_h0 b o e), r4.less fun a w => .inl w⟩
  · have hin' : i = items.length := by omega
    subst hin'
    refine Wk.done s' _ _ inv.st fun h' tk hk' => ?_
    have hkI : ∀ b o, b ≠ I → s'.heap.get? b = some o → h'.get? b = some o := fun b o hb e => hk' b o (fun q => hb (hwI b q)) e
    refine wpAny_execs_nil ?_
    rcases hend with ⟨e1, e2⟩ | ⟨hlt, _⟩
    · subst e2
      subst e1
      exact ⟨same_trans sm ⟨h', tk, rfl⟩, rfl, leave inv.op hkI hnl⟩
    · omega
end
end Mine

namespace Mine
open PySem PySem.W PyProof.Rows PySem.Calls

section
variable {prog : Program} {w : World} {A : Around} {E : Value → Shared → Prop} {R : Result → Shared → Prop} {s : Shared}
theorem codeAny_compLoop_any {elt target iter : Expr} {ifs : List Expr} {scope : Scope} {pos : Pos} {it acc : Value} {env : Env} (I : Nat → Shared → Prop)
    (turn : ∀ n s, I n s → wpAny (model prog w) A (pyNext it) (fun r s₁ => match r with
      | none => R (.ok .next) s₁
      | some v => wpAny (model prog w) A (letOwnedTupleGo target it v) (fun _ s₁' => wpAny (model prog w) A (assign target env v) (fun _ s₂ =>
          wpAny (model prog w) A (forIn ifs true fun c r => if r = true then do let ok ← isTrue c env (eval c env); pure (ForInStep.yield ok) else pure (ForInStep.yield r)) (fun ok s₃ =>
            if ok = true then wpAny (model prog w) A (eval elt env) (fun x s₄ =>
              wpAny (model prog w) A (call (.builtin "list.append") [acc, x]) (fun _ s₅ => ∃ m, m < n ∧ I m s₅) (notedBy (model prog w) A env fun e s' => R (.error e) s') s₄) (notedBy (model prog w) A env fun e s' => R (.error e) s') s₃
            else ∃ m, m < n ∧ I m s₃) (notedBy (model prog w) A env fun e s' => R (.error e) s') s₂) (notedBy (model prog w) A env fun e s' => R (.error e) s') s₁') (notedBy (model prog w) A env fun e s' => R (.error e) s') s₁) (notedBy (model prog w) A env fun e s' => R (.error e) s') s)
    (n : Nat) (h : I n s) : codeAny (model prog w) A (.compLoop (.ListComp elt [⟨target, iter, ifs, 0⟩] scope pos) 0 it acc env) R s := by
  refine codeAny_loop rfl I (fun n s hI => ?_) n h
  show wpAny _ A ((compTurn (.ListComp elt [⟨target, iter, ifs, 0⟩] scope pos) 0 it acc env).onRaise (fun x => do noteFrame x env; theTreesLotGoes x)) _ _ s
  refine wpAny_noted ?_
  rw [compTurn_list]
  refine wpAny_bind (wpAny_standAt (wpAny_bind (wpAny_mono (turn n s hI) (fun r s₁ h₁ => ?_) fun _ _ h' => h')))
  cases r with
  | none => exact wpAny_pure h₁
  | some v =>
    refine wpAny_bind (wpAny_mono h₁ (fun _ s₁' h₁' => ?_) fun _ _ h' => h')
    refine wpAny_bind (wpAny_mono h₁' (fun _ s₂ h₂ => wpAny_bind (wpAny_mono h₂ (fun ok s₃ h₃ => ?_) fun _ _ h' => h')) fun _ _ h' => h')
    cases ok with
    | false => exact wpAny_pure ⟨rfl, h₃⟩
    | true =>
      exact wpAny_bind (wpAny_bind (wpAny_mono h₃ (fun x s₄ h₄ => wpAny_bind (wpAny_mono h₄ (fun _ s₅ h₅ => wpAny_pure (wpAny_pure ⟨rfl, h₅⟩)) fun _ _ h' => h')) fun _ _ h' => h'))
end

/-- the tests of a comprehension -/
abbrev EvTs (F : Fm) (Γ : List (Str × Bd)) (ifs : List Expr) (b : Bool) : Prop := Wrap (∀ W O, F.Ok W O → ∀ s, F.Pre W Γ s →
  wpAny (model F.prog F.w) F.A (forIn ifs true fun c r => if r = true then do let ok ← isTrue c F.env (eval c F.env); pure (ForInStep.yield ok) else pure (ForInStep.yield r)) (fun r s' => Keeps s s' ∧ r = b) (fun _ _ => False) s)
theorem evts_nil {F : Fm} {Γ : List (Str × Bd)} : EvTs F Γ [] true := .mk fun _ _ _ s _ => wpAny_tests_nil ⟨keeps_refl s, rfl⟩
theorem evts_one {F : Fm} {Γ : List (Str × Bd)} {c : Expr} {b : Bool} (x : EvT F Γ c b) : EvTs F Γ [c] b := .mk fun _ _ ok s p => wpAny_tests_one (x.run _ _ ok s p)

def Fm.comp (F : Fm) (scope : Scope) (cl : List (Str × Addr)) (L : Addr) : Fm := { F with env := compEnvC scope cl L F.env, sto := false }

/-- a name that a comprehension sees from without -/
def CompSees (F : Fm) (scope : Scope) (cl : List (Str × Addr)) (x : Str) : Prop :=
  F.env.kindOf x ≠ some .local ∧ ((relabel scope F.env).names.lookup x = some .cell ∨ ((relabel scope F.env).names.lookup x = some .free ∧ (x == ("__classdict__" : Str)) = false)) ∧ cl.lookup x = F.env.cells.lookup x

theorem varAt_comp {F : Fm} {scope : Scope} {cl : List (Str × Addr)} {L : Addr} {h : Heap} {x : Str} {v : Value} (c : CompSees F scope cl x) (a : VarAt F.env h x v) : VarAt (compEnvC scope cl L F.env) h x v := by
  obtain ⟨h1, h2, h3⟩ := c
  cases a with
  | loc k => exact absurd k h1
  | cell k e i =>
    rw [← h3] at e
    rcases h2 with h2 | ⟨h2, h4⟩
    · exact .cell h2 e i
    · exact .free h2 h4 e i
  | free k k' e i =>
    rw [← h3] at e
    rcases h2 with h2 | ⟨h2, h4⟩
    · exact .cell h2 e i
    · exact .free h2 h4 e i

section
variable {F : Fm} {Γ Γc : List (Str × Bd)} {W O : Addr → Prop} {s : Shared}

structure CompI (F : Fm) (W2 : Addr → Prop) (s₁ : Shared) (I D : Addr) (St : Nat → Heap → Prop) (Γc : List (Str × Bd)) (done : List PyData) (i : Nat) (s : Shared) : Prop where
  kept : ∀ b o, b ≠ I → s₁.heap.get? b = some o → s.heap.get? b = some o
  pre : F.Pre W2 Γc s
  st : St i s.heap
  acc : ∃ vs n, s.heap.get? D = some (listOf vs.toArray n) ∧ RepAll W2 s.heap vs done
  one : ∀ xs, ¬ s.heap.IsList I xs

/-- a list comprehension, up to what is done with the list -/
theorem comp_core {elt target iter : Expr} {ifs : List Expr} {scope : Scope} {pos : Pos} {cl : List (Str × Addr)} {items : List PyData} {p : PyData → Bool} {f : PyData → PyData} {use : Option (Value → Sem Unit)} {Q : Value → Shared → Prop} {E : Value → Shared → Prop}
    (ok : F.Ok W O) (pr : F.Pre W Γ s) (hi : EvI F Γ iter items) (hz : items.length ≤ 100000)
    (hcl : closureFor scope F.env = pure cl) (hcell : (scope.names.all fun y => y.2 != .cell) = true) (hkind : scope.kind = .function) (hnames : (scope.names.all fun y => y.2 != .local || scope.names.lookup y.1 == some .local) = true)
    (hsub : ∀ y c, cl.lookup y = some c → F.env.cells.lookup y = some c) (hv : ∀ q ∈ Γc, q ∈ Γ ∧ CompSees F scope cl q.1)
    (hb : ∀ L, ∀ d ∈ items, ∃ Γd, Asg (F.comp scope cl L) Γc none target d Γd ∧ EvTs (F.comp scope cl L) Γd ifs (p d) ∧ (p d = true → EvE (F.comp scope cl L) Γd elt (f d)))
    (hs : ∀ x, foldedSetIterable iter F.env x = pure x)
    (hQ : ∀ C D s', Same s s' → KeepAll s.heap s'.heap → s.heap.get? C = none → s.heap.get? D = none → C ≠ D → (∃ m, s'.heap.Ns C m) → Rep (fun a => W a ∨ a = C) s'.heap (.ref D) (.list ((items.filter p).map f)) → compPost (model F.prog F.w) F.A E use Q (.ref D) C (.ok .next) s') :
    wpAny (model F.prog F.w) F.A (comprehension (.ListComp elt [⟨target, iter, ifs, 0⟩] scope pos) scope F.env (firstIterPos [⟨target, iter, ifs, 0⟩] pos) (newList []) false (eval iter F.env) use) Q E s := by
  have hcell' : ∀ y ∈ scope.names, y.2 ≠ .cell := fun y hy => by simpa using List.all_eq_true.mp hcell y hy
  have hnames' : ∀ y ∈ scope.names, y.2 = .local → scope.names.lookup y.1 = some .local := fun y hy e => by
    have := List.all_eq_true.mp hnames y hy
    simpa [e] using this
  refine wpAny_comprehension_free (g := ⟨target, iter, ifs, 0⟩) (gs := []) rfl hs hcl hkind hnames' ?_
  refine wpAny_mono (hi.run W O ok s pr) (fun x s₁ hh₀ => ?_) fun _ _ f => f.elim
  obtain ⟨k₁, hit⟩ := hh₀
  refine wpAny_mono hit (fun it s₂ hh₀ => ?_) fun _ _ f => f.elim
  obtain ⟨k₂, I, fp, wr, P, St, e, Wk, hst, hwr, hfp, hP, hT, hwI, hIw⟩ := hh₀
  subst e
  have k12 := keeps_trans k₁ k₂
  have p₁ := pr.keeps k₁
  have p₂ := pr.keeps k12
  have hIfp : I ∈ fp := Wk.sub I hIw
  have hIW : ¬ W I := (hfp I hIfp).1
  have hI1 : s₁.heap.get? I = none := hwr I hIw
  refine wpAny_newObj_type ?_
  generalize hH2 : s₂.heap.push { cls := .type "list", dict := none, data := .seq ([] : List Value).toArray } = H2
  have hC : H2.objs.size = s₂.heap.objs.size + 1 := by rw [← hH2, Heap.size_push]
  refine wpAny_newFunctionEnv hcell' (by intro y hy; simp at hy) (fun h₁ hns₁ hsb₁ => ?_) hkind
  dsimp only at hns₁ hsb₁ ⊢
  have hDC : s₂.heap.objs.size ≠ H2.objs.size := by rw [hC]; exact Nat.ne_of_lt (Nat.lt_succ_self _)
  have old : KeepAll s₂.heap h₁ := fun b o e => hsb₁.extBut b o (by rw [hC]; exact Nat.ne_of_lt (Nat.lt_succ_of_lt (Heap.lt_size e))) (Heap.get?_push_of_some _ (hH2 ▸ Heap.get?_push_of_some _ e))
  have hacc : h₁.get? s₂.heap.objs.size = some (listOf ([] : List Value).toArray 0) := hsb₁.extBut _ _ hDC (Heap.get?_push_of_some _ (hH2 ▸ Heap.get?_push_size _ rfl))
  have new₂ : ∀ a, s₂.heap.objs.size ≤ a → s₂.heap.get? a = none := fun a ha => by
    cases e : s₂.heap.get? a with
    | none => rfl
    | some o' => exact absurd (Heap.lt_size e) (Nat.not_lt.mpr ha)
  have hD2 : s₂.heap.get? s₂.heap.objs.size = none := get?_size _
  have hC2 : s₂.heap.get? H2.objs.size = none := new₂ _ (by rw [hC]; exact Nat.le_succ _)
  generalize s₂.heap.objs.size = D at hDC hacc hD2 ⊢
  generalize H2.objs.size = C at hns₁ hsb₁ hDC hC2 ⊢
  clear hH2 hC
  have none1 : ∀ a, s₂.heap.get? a = none → s₁.heap.get? a = none := fun a ha => by
    cases e : s₁.heap.get? a with
    | none => rfl
    | some o => rw [keeps_heap k₂ _ _ e] at ha; cases ha
  have none0 : ∀ a, s₁.heap.get? a = none → s.heap.get? a = none := fun a ha => by
    cases e : s.heap.get? a with
    | none => rfl
    | some o => rw [keeps_heap k₁ _ _ e] at ha; cases ha
  have nW : ∀ a, s₁.heap.get? a = none → ¬ W a := fun a ha w => by obtain ⟨o, ho⟩ := p₁.st.W a w; rw [ha] at ho; cases ho
  have hCI : C ≠ I := fun q => by obtain ⟨_, o, ho⟩ := hfp I hIfp; rw [q, ho] at hC2; cases hC2
  have hDI : D ≠ I := fun q => by obtain ⟨_, o, ho⟩ := hfp I hIfp; rw [q, ho] at hD2; cases hD2
  have hcells : ∀ y c, cl.lookup y = some c → ∃ o, s₁.heap.get? c = some o := fun y c e => by
    obtain ⟨v, o, ho, _⟩ := p₁.cells y c (hsub y c e); exact ⟨o, ho⟩
  -- the frame of the comprehension
  let W2 : Addr → Prop := fun a => W a ∨ (a = C ∨ a = D ∨ a = I)
  have newW2 : ∀ a, W2 a → W a ∨ s₁.heap.get? a = none := fun a w => w.imp id fun w => by
    rcases w with rfl | rfl | rfl
    · exact none1 _ hC2
    · exact none1 _ hD2
    · exact hI1
  have hgC : F.g C = none := by
    cases e : F.g C with
    | none => rfl
    | some o => rw [p₂.st.g _ _ e] at hC2; cases hC2
  have okc : (F.comp scope cl C).Ok W2 (fun a => a = C) := by
    refine ⟨ok.cx, ?_, ok.eg, ok.eb, rfl, fun a h => .inr (.inl h), fun a h => h ▸ hgC, fun y c e q => ?_, fun y z c e1 e2 => ok.cinj y z c (hsub y c e1) (hsub z c e2), fun y c e => .inl (ok.cW y c (hsub y c e)), fun h => by cases h⟩
    · show (relabel scope F.env).kind = .function
      exact hkind
    · obtain ⟨o, ho⟩ := hcells y c e
      have q : c = C := q
      rw [q, none1 _ hC2] at ho; cases ho
  have rep1 : ∀ {h : Heap} {v : Value} {d : PyData}, KeepAll s₁.heap h → Rep W s₁.heap v d → Rep W2 h v d := fun hk r => r.gen newW2 fun b o _ e => hk b o e
  have rep1' : ∀ {h : Heap} {v : List Value} {d : List PyData}, KeepAll s₁.heap h → RepAll W s₁.heap v d → RepAll W2 h v d := fun hk r => r.gen newW2 fun b o _ e => hk b o e
  have kk : KeepAll s₁.heap h₁ := (keeps_heap k₂).trans old
  obtain ⟨oI, TI, hoI, hcI, _, hTI⟩ := hT 0 _ hst
  have notL : ∀ {h : Heap} {i : Nat}, St i h → ∀ xs, ¬ h.IsList I xs := fun {h i} hs' xs ⟨o, ho, hc, _⟩ => by
    obtain ⟨o', T, ho', hc', _, hT'⟩ := hT i h hs'
    rw [ho] at ho'; cases ho'; rw [hc] at hc'; cases hc'; exact hT' rfl
  have hst₁ : St 0 h₁ := Wk.frame _ _ _ hst fun b hb o e => old b o e
  have inv0 : CompI (F.comp scope cl C) W2 s₁ I D St Γc [] 0 { s₂ with heap := h₁, toks := s₂.toks + ([] : List (Str × Value)).length } := by
    refine ⟨fun b o _ e => kk b o e, ⟨⟨fun b o e => kk b o (p₁.st.g b o e), fun a w => ?_⟩, fun q hq => ?_, ⟨_, hns₁⟩, fun y c e => ?_⟩, hst₁, ⟨[], 0, hacc, .nil⟩, notL hst₁⟩
    · rcases w with w | rfl | rfl | rfl
      · obtain ⟨o, ho⟩ := p₁.st.W a w; exact ⟨o, kk a o ho⟩
      · obtain ⟨o, _, _, ho, _⟩ := hns₁; exact ⟨o, ho⟩
      · exact ⟨_, hacc⟩
      · exact ⟨oI, old _ _ hoI⟩
    · obtain ⟨hm, hsees⟩ := hv q hq
      obtain ⟨v, a, b⟩ := p₁.vars q hm
      refine ⟨v, varAt_comp hsees (a.keeps kk), ?_⟩
      cases hb' : q.2 with
      | dat d => rw [hb'] at b; exact rep1 kk b
      | lst ds => rw [hb'] at b; obtain ⟨l', vs, e, hl, r⟩ := b; exact ⟨l', vs, e, isList_keeps hl (kk l'), rep1' kk r⟩
      | val u => rw [hb'] at b; exact b
    · obtain ⟨v, hv'⟩ := p₁.cells y c (hsub y c e)
      exact ⟨v, hv'.keeps kk⟩
  have loop : codeAny (model F.prog F.w) F.A (.compLoop (.ListComp elt [⟨target, iter, ifs, 0⟩] scope pos) 0 (.ref I) (.ref D) (F.comp scope cl C).env) (compPost (model F.prog F.w) F.A E use Q (.ref D) C) { s₂ with heap := h₁, toks := s₂.toks + ([] : List (Str × Value)).length } := by
    refine codeAny_compLoop_any (fun m s' => Same s s' ∧ ∃ i, m = items.length - i ∧ i ≤ items.length ∧ CompI (F.comp scope cl C) W2 s₁ I D St Γc (((items.take i).filter p).map f) i s') ?_ items.length ⟨same_trans (same_keeps k12) ⟨h₁, _, rfl⟩, 0, rfl, Nat.zero_le _, by simpa using inv0⟩
    rintro m s' ⟨sm, i, rfl, hin, inv⟩
    rcases Nat.lt_or_ge i items.length with hlt | hge
    · refine Wk.item i s' _ _ hlt inv.st fun v h' tk hPv hst' hk' => ?_
      have hkI : ∀ b o, b ≠ I → s'.heap.get? b = some o → h'.get? b = some o := fun b o hb e => hk' b o (fun q => hb (hwI b q)) e
      obtain ⟨oI', TI', hoI', hcI', hTI', _⟩ := hT (i + 1) _ hst'
      refine wpAny_letOwned hoI' hcI' hTI' ?_
      have IL : I ≠ (F.comp scope cl C).env.locals := Ne.symm hCI
      have Ic : ∀ y c, (F.comp scope cl C).env.cells.lookup y = some c → I ≠ c := fun y c e q => by obtain ⟨o, ho⟩ := hcells y c e; rw [← q, hI1] at ho; cases ho
      have WI : W2 I := .inr (.inr (.inr rfl))
      have hIg : F.g I = none := by
        cases q : F.g I with
        | none => rfl
        | some o => rw [p₁.st.g _ _ q] at hI1; cases hI1
      have pre' : (F.comp scope cl C).Pre W2 Γc { s' with heap := h', toks := tk } := by
        refine ⟨⟨fun b o e => hkI b o (fun q => by have e : F.g b = some o := e; rw [q, hIg] at e; cases e) (inv.pre.st.g b o e), fun b w => ?_⟩, fun q hq => ?_, ?_, fun y c e => ?_⟩
        · by_cases q : b = I
          · exact ⟨_, q ▸ hoI'⟩
          · obtain ⟨o, ho⟩ := inv.pre.st.W b w; exact ⟨o, hkI b o q ho⟩
        · obtain ⟨v, a, b⟩ := inv.pre.vars q hq
          exact ⟨v, varAt_but a hkI IL Ic, bRep_but b WI hkI inv.one⟩
        · obtain ⟨m, hm⟩ := inv.pre.ns; exact ⟨m, hm.at' fun o e => hkI _ o (Ne.symm IL) e⟩
        · obtain ⟨v, o, ho, hd⟩ := inv.pre.cells y c e
          exact ⟨v, o, hkI _ o (Ne.symm (Ic _ _ e)) ho, hd⟩
      obtain ⟨d, hd, rd⟩ := hP i v hlt hPv
      have hdi : items[i] = d := by rw [List.getElem?_eq_getElem hlt] at hd; exact Option.some.inj hd
      have rd' : Rep W2 h' v d := rd.gen newW2 fun b o hb e => hkI b o (fun q => by rw [q, hI1] at e; cases e) (inv.kept b o (fun q => by rw [q, hI1] at e; cases e) e)
      obtain ⟨Γd, a1, a2, a3⟩ := hb C d (hdi ▸ List.getElem_mem hlt)
      -- the ghost: all but the comprehension's names
      let gh : Gh := ghostOff (fun a => a = C) none 0 h'
      have ghg : Gd (F.comp scope cl C) (fun a => a = C) gh := ⟨fun b o e => by
        have hb' : b ≠ C := fun q => by
          have e : F.g b = some o := e
          rw [q, hgC] at e; cases e
        exact (ghostOff_in (O := fun a => a = C) (own := none) (l := 0) (h := h') hb' (fun h => by cases h)).trans (pre'.st.g b o e), fun a h => by show ghostOff _ _ _ _ a = none; unfold ghostOff; rw [if_pos (.inl h)]⟩
      have op' : OpS (F.comp scope cl C) W2 gh Γc none 0 { s' with heap := h', toks := tk } := ⟨fun b o e => (ghostOff_some e).2.2, pre', fun y ds e => by cases e⟩
      refine wpAny_mono (a1.run W2 _ okc gh ghg 0 _ v op' rd') (fun _ s₃ hh₀ => ?_) fun _ _ f => f.elim
      obtain ⟨sm₃, p₃⟩ := hh₀
      have kC : ∀ b o, b ≠ C → h'.get? b = some o → s₃.heap.get? b = some o := fun b o hb e => p₃.g b o ((ghostOff_in (O := fun a => a = C) (own := none) (l := 0) (h := h') hb (fun h => by cases h)).trans e)
      refine wpAny_mono (a2.run W2 _ okc s₃ p₃.pre) (fun b s₄ hh₀ => ?_) fun _ _ f => f.elim
      obtain ⟨k₄, eb⟩ := hh₀
      subst eb
      have p₄ := p₃.pre.keeps k₄
      have htake : (items.take (i + 1)) = items.take i ++ [d] := by rw [List.take_add_one, List.getElem?_eq_getElem hlt, hdi]; rfl
      obtain ⟨vs, n, hDo, hDr⟩ := inv.acc
      have accAt : ∀ {s₅ : Shared}, KeepAll s₃.heap s₅.heap → s₅.heap.get? D = some (listOf vs.toArray n) ∧ RepAll W2 s₅.heap vs (((items.take i).filter p).map f) := fun {s₅} k => by
        refine ⟨k _ _ (kC _ _ (fun q => hDC q) (hkI _ _ hDI hDo)), hDr.gen (fun _ w => .inl w) fun b o hb e => k _ _ (kC _ _ (fun q => hb (.inr (.inl q))) (hkI _ _ (fun q => hb (.inr (.inr (.inr q)))) e))⟩
      have stAt : ∀ {s₅ : Shared}, KeepAll s₃.heap s₅.heap → St (i + 1) s₅.heap := fun {s₅} k => Wk.frame _ _ _ hst' fun b hb o e => k _ _ (kC _ _ (fun q => by
        obtain ⟨nw, o', ho'⟩ := hfp b hb
        rw [q, hC2] at ho'; cases ho') e)
      have keptAt : ∀ {s₅ : Shared}, KeepAll s₃.heap s₅.heap → ∀ b o, b ≠ I → s₁.heap.get? b = some o → s₅.heap.get? b = some o := fun {s₅} k b o hb e => k _ _ (kC _ _ (fun q => by rw [q, none1 _ hC2] at e; cases e) (hkI _ _ hb (inv.kept b o hb e)))
      -- what holds of the outer names still does
      have preAt : ∀ {s₅ : Shared}, KeepAll s₃.heap s₅.heap → (F.comp scope cl C).Pre W2 Γc s₅ := fun {s₅} k => by
        refine ⟨p₃.pre.st.keeps k, fun q hq => ?_, ?_, fun y c e => ?_⟩
        · obtain ⟨hm, hsees⟩ := hv q hq
          obtain ⟨v, a, b⟩ := p₁.vars q hm
          have hk5 : ∀ b o, b ≠ I → s₁.heap.get? b = some o → s₅.heap.get? b = some o := keptAt k
          have hk5' : KeepAll s₁.heap s₅.heap := fun b o e => hk5 b o (fun q => by rw [q, hI1] at e; cases e) e
          refine ⟨v, varAt_comp hsees (a.keeps hk5'), ?_⟩
          cases hb' : q.2 with
          | dat d => rw [hb'] at b; exact rep1 hk5' b
          | lst ds => rw [hb'] at b; obtain ⟨l', vs, e, hl, r⟩ := b; exact ⟨l', vs, e, isList_keeps hl (hk5' l'), rep1' hk5' r⟩
          | val u => rw [hb'] at b; exact b
        · obtain ⟨m, hm⟩ := p₃.pre.ns; exact ⟨m, hm.keeps k⟩
        · obtain ⟨v, hv'⟩ := p₃.pre.cells y c e; exact ⟨v, hv'.keeps k⟩
      have sm4 : Same s s₄ := same_trans sm (same_trans ⟨h', tk, rfl⟩ (same_trans sm₃ (same_keeps k₄)))
      cases hpd : p d with
      | false =>
        simp only [Bool.false_eq_true, if_false]
        refine ⟨items.length - (i + 1), by omega, sm4, i + 1, rfl, hlt, keptAt (keeps_heap k₄), preAt (keeps_heap k₄), stAt (keeps_heap k₄), ⟨vs, n, ?_⟩, notL (stAt (keeps_heap k₄))⟩
        rw [htake, List.filter_append]
        simpa [hpd] using accAt (keeps_heap k₄)
      | true =>
        simp only [if_true]
        refine wpAny_mono ((a3 hpd).run W2 _ okc s₄ p₄) (fun y s₅ hh₀ => ?_) fun _ _ f => f.elim
        obtain ⟨k₅, ry⟩ := hh₀
        have k35 : KeepAll s₃.heap s₅.heap := (keeps_heap k₄).trans (keeps_heap k₅)
        obtain ⟨hD5, hR5⟩ := accAt k35
        have hlen := hR5.length
        have hszz : vs.toArray.size ≤ sizeLine := by
          have : (((items.take i).filter p).map f).length ≤ items.length := by
            rw [List.length_map]
            exact Nat.le_trans (List.length_filter_le _ _) (by rw [List.length_take]; exact Nat.min_le_right _ _)
          rw [List.size_toArray, sizeLine_eq]; omega
        refine wpAny_list_append_plain (hsz := hszz) ⟨n, hD5⟩ fun h₆ ⟨n₆, hl₆⟩ hs₆ => ?_
        have WD : W2 D := .inr (.inr (.inl rfl))
        have k6 : ∀ b o, b ≠ D → s₅.heap.get? b = some o → h₆.get? b = some o := fun b o hb e => (hs₆.2 b hb).trans e
        have hD5L : D ≠ (F.comp scope cl C).env.locals := fun q => hDC q
        have hDc : ∀ y c, (F.comp scope cl C).env.cells.lookup y = some c → D ≠ c := fun y c e q => by obtain ⟨o, ho⟩ := hcells y c e; rw [← q, none1 _ hD2] at ho; cases ho
        have p5 := preAt k35
        refine ⟨items.length - (i + 1), by omega, same_trans (same_trans sm4 (same_keeps k₅)) ⟨h₆, s₅.toks, rfl⟩, i + 1, rfl, hlt, ⟨fun b o hb e => k6 b o (fun q => by rw [q, none1 _ hD2] at e; cases e) (keptAt k35 b o hb e), ?_, ?_, ?_, ?_⟩⟩
        · refine ⟨⟨fun b o e => k6 b o (fun q => ?_) (p5.st.g b o e), fun b w => ?_⟩, fun q hq => ?_, ?_, fun y c e => ?_⟩
          · have := p₂.st.g b o e; rw [q, hD2] at this; cases this
          · by_cases q : b = D
            · exact ⟨_, q ▸ hl₆⟩
            · obtain ⟨o, ho⟩ := p5.st.W b w; exact ⟨o, k6 b o q ho⟩
          · obtain ⟨v, a, b⟩ := p5.vars q hq
            refine ⟨v, varAt_but a k6 hD5L hDc, ?_⟩
            cases hb' : q.2 with
            | dat d => rw [hb'] at b; exact Rep.gen (fun _ w => .inl w) (fun b o hb e => k6 b o (fun q => hb (q ▸ WD)) e) b
            | lst ds =>
              rw [hb'] at b
              obtain ⟨hm, _⟩ := hv q hq
              obtain ⟨v', a', b'⟩ := p₁.vars q hm
              rw [hb'] at b'
              obtain ⟨l', vs', e', hl', r'⟩ := b'
              have a5 : VarAt (compEnvC scope cl C F.env) s₅.heap q.1 v' := varAt_comp (hv q hq).2 (a'.keeps fun b o e => keptAt k35 b o (fun q => by rw [q, hI1] at e; cases e) e)
              have : v' = v := by
                cases a5 with
                | loc x1 x2 x3 =>
                  cases a with
                  | loc y1 y2 y3 => have h := x2.eq_nsMap.trans y2.eq_nsMap.symm; subst h; rw [x3] at y3; exact Option.some.inj y3
                  | cell y1 => have := x1.symm.trans y1; cases this
                  | free y1 => have := x1.symm.trans y1; cases this
                | cell x1 x2 x3 =>
                  cases a with
                  | loc y1 => have := x1.symm.trans y1; cases this
                  | cell y1 y2 y3 =>
                    obtain ⟨o1, g1, d1⟩ := x3
                    obtain ⟨o2, g2, d2⟩ := y3
                    have := x2.symm.trans y2; cases this
                    rw [g1] at g2; cases g2; rw [d1] at d2; cases d2; rfl
                  | free y1 => have := x1.symm.trans y1; cases this
                | free x1 x0 x2 x3 =>
                  cases a with
                  | loc y1 => have := x1.symm.trans y1; cases this
                  | cell y1 => have := x1.symm.trans y1; cases this
                  | free y1 y0 y2 y3 =>
                    obtain ⟨o1, g1, d1⟩ := x3
                    obtain ⟨o2, g2, d2⟩ := y3
                    have := x2.symm.trans y2; cases this
                    rw [g1] at g2; cases g2; rw [d1] at d2; cases d2; rfl
              subst this
              subst e'
              have hk6 : KeepAll s₁.heap h₆ := fun b o e => k6 b o (fun q => by rw [q, none1 _ hD2] at e; cases e) (keptAt k35 b o (fun q => by rw [q, hI1] at e; cases e) e)
              exact ⟨l', vs', rfl, isList_keeps hl' (hk6 l'), rep1' hk6 r'⟩
            | val u => rw [hb'] at b; exact b
          · obtain ⟨m, hm⟩ := p5.ns; exact ⟨m, hm.at' fun o e => k6 _ o (Ne.symm hD5L) e⟩
          · obtain ⟨v, o, ho, hd'⟩ := p5.cells y c e
            exact ⟨v, o, k6 _ o (Ne.symm (hDc _ _ e)) ho, hd'⟩
        · exact Wk.frame _ _ _ (stAt k35) fun b hb o e => k6 b o (fun q => by
            obtain ⟨nw, o', ho'⟩ := hfp b hb
            rw [q, hD2] at ho'; cases ho') e
        · refine ⟨vs ++ [y], n₆, by simpa using hl₆, ?_⟩
          have hd6 : ∀ {v : Value} {d : PyData}, Rep W2 s₅.heap v d → Rep W2 h₆ v d := fun r => r.gen (fun _ w => .inl w) fun b o hb e => k6 b o (fun q => hb (q ▸ WD)) e
          have hd6' : ∀ {v : List Value} {d : List PyData}, RepAll W2 s₅.heap v d → RepAll W2 h₆ v d := fun r => r.gen (fun _ w => .inl w) fun b o hb e => k6 b o (fun q => hb (q ▸ WD)) e
          rw [htake, List.filter_append, List.map_append]
          refine (hd6' hR5).append ?_
          simp only [List.filter_cons, hpd, if_true, List.filter_nil, List.map_cons, List.map_nil]
          exact .cons (hd6 ry) .nil
        · intro xs hx
          have h6 := Wk.frame _ _ h₆ (stAt k35) fun b hb o e => k6 b o (fun q => by
            obtain ⟨nw, o', ho'⟩ := hfp b hb
            rw [q, hD2] at ho'; cases ho') e
          exact notL h6 xs hx
    · have hin' : i = items.length := by omega
      subst hin'
      refine Wk.done s' _ _ inv.st fun h' tk hk' => ?_
      have hkI : ∀ b o, b ≠ I → s'.heap.get? b = some o → h'.get? b = some o := fun b o hb e => hk' b o (fun q => hb (hwI b q)) e
      obtain ⟨vs, n, hDo, hDr⟩ := inv.acc
      rw [List.take_length] at hDr
      refine hQ C D { s' with heap := h', toks := tk } (same_trans sm ⟨h', tk, rfl⟩) (fun b o e => hkI b o ?_ (inv.kept b o ?_ (keeps_heap k₁ b o e))) (none0 _ (none1 _ hC2)) (none0 _ (none1 _ hD2)) (Ne.symm hDC) ?_ ?_
      · intro q; rw [q, none0 _ hI1] at e; cases e
      · intro q; rw [q, none0 _ hI1] at e; cases e
      · obtain ⟨m, hm⟩ := inv.pre.ns
        exact ⟨m, hm.at' fun o e => hkI _ o hCI e⟩
      · refine .list (fun w => ?_) (.of (hkI _ _ hDI hDo)) (hDr.gen (fun a w => .inl ?_) fun b o hb e => hkI b o (fun q => hb (.inr (.inr (.inr q)))) e)
        · rcases w with w | w
          · exact nW _ (none1 _ hD2) w
          · exact hDC w
        · rcases w with w | w
          · exact .inl w
          · exact .inr (.inl w)
  exact codeAny_compStart_list loop (Wk.self 0 _ _ _ hst₁ loop)

/-- a list comprehension as an expression -/
theorem ev_comp {elt target iter : Expr} {ifs : List Expr} {scope : Scope} {pos : Pos} {cl : List (Str × Addr)} {items : List PyData} (Γc : List (Str × Bd)) (p : PyData → Bool) (f : PyData → PyData)
    (hcl : closureFor scope F.env = pure cl) (hsub : ∀ y c, cl.lookup y = some c → F.env.cells.lookup y = some c) (hi : EvI F Γ iter items) (hz : items.length ≤ 100000)
    (hv : ∀ q ∈ Γc, q ∈ Γ ∧ CompSees F scope cl q.1)
    (hb : ∀ L, ∀ d ∈ items, ∃ Γd, Asg (F.comp scope cl L) Γc none target d Γd ∧ EvTs (F.comp scope cl L) Γd ifs (p d) ∧ (p d = true → EvE (F.comp scope cl L) Γd elt (f d)))
    (hcell : (scope.names.all fun y => y.2 != .cell) = true := by decide) (hkind : scope.kind = .function := by rfl) (hnames : (scope.names.all fun y => y.2 != .local || scope.names.lookup y.1 == some .local) = true := by decide)
    (hs : ∀ x, foldedSetIterable iter F.env x = pure x := by intro _; rfl) :
    EvE F Γ (.ListComp elt [⟨target, iter, ifs, 0⟩] scope pos) (.list ((items.filter p).map f)) := .mk fun W O ok s pr => by
  rw [eval_ListComp]
  refine comp_core (use := none) ok pr hi hz hcl hcell hkind hnames hsub hv hb hs fun C D s' sm hk hC hD hCD hm r => ?_
  obtain ⟨m, hm⟩ := hm
  refine ⟨m, hm, fun h' hs' => ?_⟩
  obtain ⟨h₁, tk, rfl⟩ := sm
  exact ⟨⟨h', tk, rfl, fun b o e => (hs'.2 b (fun q => by rw [q, hC] at e; cases e)).trans (hk b o e)⟩, Rep.gen (fun a w => .inl (.inl w)) (fun b o hb e => (hs'.2 b fun q => hb (.inr q)).trans e) r⟩

/-- a frame's facts do not see a dead dict -/
theorem OpS.dead {h0 : Gh} {own : Own} {l C : Addr} {h' : Heap} {m : Str → Option Value} (p : OpS F W h0 Γ own l s) (hs : Heap.SameBut C s.heap h') (hm : s.heap.Ns C m) (h0C : h0 C = none) (hgC : F.g C = none) (hL : C ≠ F.env.locals) (hW : ¬ wid W l own C) : OpS F W h0 Γ own l { s with heap := h' } := by
  have hk : ∀ b o, b ≠ C → s.heap.get? b = some o → h'.get? b = some o := fun b o hb e => (hs.2 b hb).trans e
  have hlist : ∀ {a : Addr} {xs : Array Value}, s.heap.IsList a xs → a ≠ C := fun {a xs} ⟨o, ho, _, n, hd⟩ q => ns_isDict hm o xs n (q ▸ ho) hd
  have htup : ∀ {a : Addr} {xs : Array Value}, s.heap.IsTuple a xs → a ≠ C := fun {a xs} ⟨o, ho, _, n, hd⟩ q => ns_isDict hm o xs n (q ▸ ho) hd
  have hcell : ∀ {a : Addr} {v : Option Value}, s.heap.IsCell a v → a ≠ C := fun {a v} ⟨o, ho, hd⟩ q => by
    obtain ⟨o', es, ep, ho', hd', _⟩ := hm
    rw [q, ho'] at ho; cases ho; rw [hd'] at hd; cases hd
  have rep : ∀ {V : Addr → Prop} {v : Value} {d : PyData}, Rep V s.heap v d → Rep V h' v d := fun {V v d} r => by
    refine (Rep.gen (W := fun a => V a ∨ a = C) (fun a w => .inl (.inl w)) (fun b o hb e => hk b o (fun q => hb (.inr q)) e) ?_)
    exact Rep.rec (motive_1 := fun v d _ => Rep (fun a => V a ∨ a = C) s.heap v d) (motive_2 := fun vs ds _ => RepAll (fun a => V a ∨ a = C) s.heap vs ds) .none (fun b => .bool b) (fun i t => .int i t) (fun x t => .str x t)
      (fun hn hl _ ih => .list (fun w => w.elim hn (hlist hl.1)) hl ih) (fun hn hl _ ih => .tuple (fun w => w.elim hn (htup hl)) hl ih) .nil (fun _ _ ih1 ih2 => .cons ih1 ih2) r
  have repA : ∀ {V : Addr → Prop} {vs : List Value} {ds : List PyData}, RepAll V s.heap vs ds → RepAll V h' vs ds := fun {V vs ds} r => by
    induction vs generalizing ds with
    | nil => cases r; exact .nil
    | cons v vs ih => cases r with | cons a b => exact .cons (rep a) (ih b)
  have var : ∀ {x : Str} {v : Value}, VarAt F.env s.heap x v → VarAt F.env h' x v := fun {x v} a => by
    cases a with
    | loc d1 d2 d3 => exact .loc d1 (d2.at' fun o e => hk _ o (Ne.symm hL) e) d3
    | cell d1 d2 d3 => exact .cell d1 d2 (d3.sameBut hs (hcell d3))
    | free d1 d2 d3 d4 => exact .free d1 d2 d3 (d4.sameBut hs (hcell d4))
  refine ⟨fun b o e => hk b o (fun q => by rw [q, h0C] at e; cases e) (p.g b o e), ⟨⟨fun b o e => hk b o (fun q => by rw [q, hgC] at e; cases e) (p.pre.st.g b o e), fun b w => ?_⟩, fun q hq => ?_, ?_, fun y c e => ?_⟩, fun y ds e => ?_⟩
  · obtain ⟨o, ho⟩ := p.pre.st.W b w
    exact ⟨o, hk b o (fun q => hW (q ▸ w)) ho⟩
  · obtain ⟨v, a, b⟩ := p.pre.vars q hq
    refine ⟨v, var a, ?_⟩
    cases hb : q.2 with
    | dat d => rw [hb] at b; exact rep b
    | lst ds => rw [hb] at b; obtain ⟨l', vs, e, hl, r⟩ := b; exact ⟨l', vs, e, isList_keeps hl fun o => hk l' o (hlist hl), repA r⟩
    | val u => rw [hb] at b; exact b
  · obtain ⟨m', hm'⟩ := p.pre.ns; exact ⟨m', hm'.at' fun o e => hk _ o (Ne.symm hL) e⟩
  · obtain ⟨v, hv⟩ := p.pre.cells y c e; exact ⟨v, hv.sameBut hs (hcell hv)⟩
  · obtain ⟨a1, a2, a3, vs, n, a4, a5⟩ := p.own y ds e
    have : l ≠ C := hlist (xs := vs.toArray) ⟨_, a4, rfl, n, rfl⟩
    exact ⟨a1, a2, var a3, vs, n, hk _ _ this a4, repA a5⟩

/-- x = [ .. for .. ] where the store stands within the comprehension -/
theorem ex_assign_comp {Γ' : List (Str × Bd)} {own : Own} {x : Str} {px pos : Pos} {elt target iter : Expr} {ifs : List Expr} {scope : Scope} {cpos : Pos} {cl : List (Str × Addr)} {items : List PyData} (Γc : List (Str × Bd)) (p : PyData → Bool) (f : PyData → PyData)
    (hsw : swapsWith (.ListComp elt [⟨target, iter, ifs, 0⟩] scope cpos) (some (.Name x px)) pos.line F.env = pure true)
    (hcl : closureFor scope F.env = pure cl) (hsub : ∀ y c, cl.lookup y = some c → F.env.cells.lookup y = some c) (hi : EvI F (gam Γ own) iter items) (hz : items.length ≤ 100000)
    (hv : ∀ q ∈ Γc, q ∈ gam Γ own ∧ CompSees F scope cl q.1)
    (hb : ∀ L, ∀ d ∈ items, ∃ Γd, Asg (F.comp scope cl L) Γc none target d Γd ∧ EvTs (F.comp scope cl L) Γd ifs (p d) ∧ (p d = true → EvE (F.comp scope cl L) Γd elt (f d)))
    (hk : Sto F x) (hx : ∀ y ds, own = some (y, ds) → y ≠ x) (hΓ : ∀ q ∈ Γ', q = (x, .dat (.list ((items.filter p).map f))) ∨ (q ∈ Γ ∧ q.1 ≠ x))
    (hcell : (scope.names.all fun y => y.2 != .cell) = true := by decide) (hkind : scope.kind = .function := by rfl) (hnames : (scope.names.all fun y => y.2 != .local || scope.names.lookup y.1 == some .local) = true := by decide)
    (hs : ∀ x, foldedSetIterable iter F.env x = pure x := by intro _; rfl) :
    ExG F Γ own (exec (.Assign [.Name x px] (.ListComp elt [⟨target, iter, ifs, 0⟩] scope cpos) pos) F.env) (.next Γ' own) := .mk fun W O ok h0 gd s ⟨l, pr⟩ => by
  rw [exec_Assign_Name_used _ _ _ _ hsw]
  refine wpAny_bind (wpAny_standAt (wpAny_bind ?_))
  show wpAny _ _ (do let _ ← comprehension (.ListComp elt [⟨target, iter, ifs, 0⟩] scope cpos) scope F.env _ (newList []) false (eval iter F.env) (some (assign (.Name x px) F.env))) _ _ s
  refine wpAny_bind (wpAny_mono (Q := fun _ s' => Same s s' ∧ PreS F W h0 Γ' own s') ?_ (fun _ s' ⟨a, b⟩ => wpAny_pure (wpAny_pure ⟨a, rfl, b⟩)) fun _ _ e => e)
  refine comp_core (use := some (assign (.Name x px) F.env)) (pr.ok ok gd) pr.gam hi hz hcl hcell hkind hnames hsub hv hb hs fun C D s' sm hk' hC hD hCD hm r => ?_
  obtain ⟨h₁, tk, rfl⟩ := sm
  have kk : Keeps s { s with heap := h₁, toks := tk } := ⟨h₁, tk, rfl, hk'⟩
  have p' := pr.keeps kk
  have hCW : ¬ wid W l own C := fun w => by obtain ⟨o, ho⟩ := pr.pre.st.W C w; rw [hC] at ho; cases ho
  have h0C : h0 C = none := by
    cases e : h0 C with
    | none => rfl
    | some o => rw [pr.g _ _ e] at hC; cases hC
  have hgC : F.g C = none := by
    cases e : F.g C with
    | none => rfl
    | some o => rw [pr.pre.st.g _ _ e] at hC; cases hC
  have hCL : C ≠ F.env.locals := fun q => hCW (wid_le _ (q ▸ ok.OW _ ok.loc))
  obtain ⟨m, hm⟩ := hm
  -- the ghost keeps C's dict too
  have gd1 := ghostOff_gd ok gd p'
  have op1 := p'.reghost (O := O)
  have inC : ∀ o, h₁.get? C = some o → ghostOff O own l h₁ C = some o := fun o e => (ghostOff_in (fun h => hCW (wid_le _ (ok.OW _ h))) fun h q => hCW (by
    cases own with
    | none => simp at h
    | some y => exact .inr q)).trans e
  show wpAny _ _ (assign (.Name x px) F.env (.ref D)) _ _ _
  refine wpAny_assign_Name (op1.store ok gd1 (b := .dat (.list ((items.filter p).map f))) (Rep.less r fun a w => .inl w) hk hx hΓ fun s₂ sm₂ p₂ => ⟨m, ?_, fun h' hs' => ⟨?_, l, ?_⟩⟩)
  · exact hm.at' fun o e => p₂.g _ _ (inC o e)
  · obtain ⟨h₂, t₂, rfl⟩ := sm₂; exact ⟨h', t₂, rfl⟩
  · have hm₂ : s₂.heap.Ns C m := hm.at' fun o e => p₂.g _ _ (inC o e)
    have back : OpS F W h0 Γ' own l s₂ := ⟨fun b o e => p₂.g b o ((ghostOff_in (fun h => by rw [gd.O b h] at e; cases e) fun h q => by
        obtain ⟨y, hy⟩ := Option.isSome_iff_exists.mp h
        have := (pr.own y.1 y.2 hy).nh
        rw [q, this] at e; cases e).trans (p'.g b o e)), p₂.pre, fun y ds e => by
          obtain ⟨_, a2, a3, a4⟩ := p₂.own y ds e
          exact ⟨(pr.own y ds e).nh, a2, a3, a4⟩⟩
    exact back.dead hs' hm₂ h0C hgC hCL hCW
end
end Mine

namespace Mine
open PySem PySem.W PyProof.Rows PySem.Calls Builtin Builtin.Str Builtin.Float
set_option maxRecDepth 100000

def fspec (c a w : Nat) : FormatSpec := { fill := c, align := a, width := some w }
theorem parse_str {c a w : Nat} (ha : a = 60 ∨ a = 62) (h1 : 1 ≤ w) (h2 : w ≤ 7) (name : String) : parseFormatSpec [c, a, 48 + w] name 60 = .ok (fspec c a w) := by
  have hw : w = 1 ∨ w = 2 ∨ w = 3 ∨ w = 4 ∨ w = 5 ∨ w = 6 ∨ w = 7 := by (first | lia | omega)
  rcases ha with rfl | rfl <;> rcases hw with rfl | rfl | rfl | rfl | rfl | rfl | rfl <;> kernel_rfl
/-- a text filled up to a width -/
def fill (c a w : Nat) (l : List Nat) : List Nat := if a = 62 then List.replicate (w - l.length) c ++ l else l ++ List.replicate (w - l.length) c

theorem strSub_all (l : List Nat) : strSub (st l) 0 (st l).length = st l := by
  show Str.mk ((st l).cps.extract 0 (st l).length) = st l
  simp [st, Str.length]
theorem field_str {c a w : Nat} (ha : a = 60 ∨ a = 62) (l : List Nat) (name : String) : strField (st l) (fspec c a w) name = .ok (if w ≤ l.length then none else some (st (fill c a w l))) := by
  unfold strField fspec
  have hl : (st l).length = l.length := st_len l
  have e : ∀ c' : Option Nat, strSub (st l) 0 (c'.getD (st l).length) = strSub (st l) 0 (c'.getD (st l).length) := fun _ => rfl
  rcases ha with rfl | rfl
  · by_cases h : w ≤ l.length
    · simp [h, hl]; rfl
    · simp only [h, hl, if_false, Option.all_some, decide_false, Bool.false_and, Bool.false_eq_true]
      show Except.ok (some (padded (strSub (st l) 0 (Option.getD none (st l).length)) 0 (w - (strSub (st l) 0 (Option.getD none (st l).length)).length - 0) c)) = _
      rw [Option.getD_none, strSub_all, hl]
      simp [fill, padded, st]
  · by_cases h : w ≤ l.length
    · simp [h, hl]; rfl
    · simp only [h, hl, if_false, Option.all_some, decide_false, Bool.false_and, Bool.false_eq_true]
      show Except.ok (some (padded (strSub (st l) 0 (Option.getD none (st l).length)) (w - (strSub (st l) 0 (Option.getD none (st l).length)).length) ((w - (strSub (st l) 0 (Option.getD none (st l).length)).length) - (w - (strSub (st l) 0 (Option.getD none (st l).length)).length)) c)) = _
      rw [Option.getD_none, strSub_all, hl]
      simp [fill, padded, st]

theorem fill_le {c a w : Nat} {l : List Nat} (h : w ≤ l.length) : fill c a w l = l := by
  unfold fill
  rw [show w - l.length = 0 by (first | lia | omega)]
  split <;> simp

theorem gives_fmt {c a w : Nat} (hc : c < 128) (ha : a = 60 ∨ a = 62) (h1 : 1 ≤ w) (h2 : w ≤ 7) (l : List Nat) (t u : Tok) :
    Gives («str.__format__» ⟨[.str (st l) t, .str (st [c, a, 48 + w]) u], []⟩) (if w ≤ l.length then .val (.str (st l) t) else .str (st (fill c a w l))) := by
  have hp := parse_str (c := c) ha h1 h2
  have hf := field_str (c := c) (w := w) ha l
  have hsp : (st [c, a, 48 + w]).cps.toList = [c, a, 48 + w] := rfl
  have hasc : ((([c, a, 48 + w].drop 1).any fun x => decide (x ≥ 128)) || (decide ((st [c, a, 48 + w]).cps.getD 0 0 ≥ 128) && !([60, 62, 61, 94] : List Nat).contains ((st [c, a, 48 + w]).cps.getD 1 0))) = false := by
    have e1 : (st [c, a, 48 + w]).cps.getD 0 0 = c := rfl
    rw [e1]
    have e2 : decide (c ≥ 128) = false := by simp; omega
    have e3 : (([c, a, 48 + w].drop 1).any fun x => decide (x ≥ 128)) = false := by
      rcases ha with rfl | rfl <;> simp <;> omega
    rw [e3, e2]; rfl
  have hb : (st [c, a, 48 + w]).cps.back? = some (48 + w) := rfl
  have e0 : strOneArg "__format__" ⟨[.str (st l) t, .str (st [c, a, 48 + w]) u], []⟩ = pure (.str (st l) t, st l, .str (st [c, a, 48 + w]) u) := rfl
  have e1 : asStr? (.str (st [c, a, 48 + w]) u) = pure (some (st [c, a, 48 + w])) := rfl
  have e2 : ((st [c, a, 48 + w]).length == 0) = false := rfl
  have e3 : (some (48 + w) == some 0) = false := by simp
  have e4 : (fspec c a w).width.getD 0 = w := rfl
  have e5 : tooLong w = false := by simp [tooLong, sizeLine_eq]; omega
  have e6 : fspec c a w = fspec c a w := rfl
  intro prog wd A R s hq
  unfold «str.__format__»
  rw [e0]
  simp only [pure_bind, e1, e2, Bool.false_eq_true, if_false, hasc, hsp, hp, hb, e3, Bool.and_false]
  refine wpAny_bind (KXf.cut_str ?_)
  show wpAny _ _ (match (do if tooLong ((fspec c a w).width.getD 0) = true then pure none else (do let r ← strField (st l) (fspec c a w) "str"; pure (some r)) : Except String (Option (Option Str))) with
    | .error msg => _ | .ok none => _ | .ok (some none) => _ | .ok (some (some text)) => _) _ _ s
  rw [e4, e5, hf]
  by_cases h : w ≤ l.length
  · rw [if_pos h] at hq ⊢
    exact wpAny_bind (wpAny_rule (wpAny_pure hq))
  · rw [if_neg h] at hq ⊢
    exact wpAny_bind (wpAny_mkStr (wpAny_pure hq.2) hq.1)
end Mine

namespace Mine
open PySem PySem.W PyProof.Rows PySem.Calls
set_option maxRecDepth 100000

theorem kind_format : builtinKind "format" = none := by decide +kernel
theorem plain_format : plainId "format" = true := by decide +kernel
theorem entry_format : entryFor table "format" = some Builtin.«format» := entryFor_of_fast (by kernel_rfl)
theorem args_format (a b : Value) : argsOk "format" ⟨[a, b], []⟩ := by unfold argsOk; kernel_rfl

section
variable {C : Cx}

/-- the built-in format, once the type's own is known -/
theorem format_of {prog : Program} {w : World} {A : Around} {E : Value → Shared → Prop} {s : Shared} {v : Value} {sp : Str} {t : Tok} {Q : Value → Shared → Prop} (hne : (sp.length == 0) = false)
    (h : wpAny (model prog w) A.in1 (callSpecial? v "__format__" [.str sp t]) (fun r s' => ∃ y u, r = some (.str y u) ∧ Q (.str y u) s') E s) : wpAny (model prog w) A (call (.builtin "format") [v, .str sp t]) Q E s := by
  refine Calls.call_function_entry kind_format plain_format entry_format (args_format _ _) ?_
  unfold Builtin.«format»
  refine wpAny_bind (wpAny_of_eq (a := [v, Value.str sp t]) rfl ?_)
  refine wpAny_bind (wpAny_pure ?_)
  refine wpAny_bind (wpAny_typeNameOf (T := "str") (typeIs_str _ _ _) (by decide) fun _ => ?_)
  refine wpAny_bind (wpAny_of_eq (a := some sp) rfl ?_)
  simp only [hne, Bool.false_eq_true, if_false]
  refine wpAny_bind (wpAny_mono h (fun r s' hh₀ => ?_) fun _ _ e => e)
  obtain ⟨y, u, e, hq⟩ := hh₀
  subst e
  exact wpAny_bind (wpAny_isInstance (T := "str") (b := true) rfl isSubtype_str_str (wpAny_pure ⟨_, rfl, hq⟩))

theorem callOk_format_str {l : List Nat} {c a w : Nat} (hc : c < 128) (ha : a = 60 ∨ a = 62) (h1 : 1 ≤ w) (h2 : w ≤ 7) (hz : l.length ≤ 1000) :
    CallOk C (.builtin "format") [.dat (.str (st l)), .dat (.str (st [c, a, 48 + w]))] [] [] (.dat (.str (st (fill c a w l)))) := .mk fun ok W s vs ks S x y => by
  (first | obtain rfl := BAll.inv0 y | obtain ⟨_, rfl⟩ := Rep.inv_int y | obtain ⟨_, rfl⟩ := Rep.inv_str y | obtain rfl := Rep.inv_none y | cases y)
  obtain ⟨_, _, rfl, r1, x⟩ := BAll.inv_cons x
  obtain ⟨_, _, rfl, r2, x⟩ := BAll.inv_cons x
  (first | obtain rfl := BAll.inv0 x | obtain ⟨_, rfl⟩ := Rep.inv_int x | obtain ⟨_, rfl⟩ := Rep.inv_str x | obtain rfl := Rep.inv_none x | cases x)
  obtain ⟨t, rfl⟩ := Rep.inv_str r1
  obtain ⟨u, rfl⟩ := Rep.inv_str r2
  refine format_of rfl (wpAny_callSpecial?_slot (name := Str.ofString "__format__") (typeIs_str _ _ _) PySem.F.slot_str_format (call_gives PySem.F.slot_str_format (typeIs_str _ _ _) PySem.F.entry_str_format (PySem.F.args_str_format_2 _ _) (gives_fmt hc ha h1 h2 l t u) ?_))
  by_cases h : w ≤ l.length
  · rw [if_pos h]
    refine ⟨_, _, rfl, keeps_refl s, ?_⟩
    rw [fill_le h]; exact .str _ _
  · rw [if_neg h]
    refine ⟨?_, _, _, rfl, keeps_tok s _, .str _ _⟩
    rw [st_len, sizeLine_eq]; unfold fill; split <;> simp <;> (first | lia | omega)

/-! lists of ints -/
theorem intItems_of {W : Addr → Prop} {h : Heap} : ∀ {vs : List Value} {ns : List Int}, RepAll W h vs (ns.map .int) → ∃ xs : List (Int × Tok), vs = xs.map (fun p => Value.int p.1 p.2) ∧ xs.map (·.1) = ns
  | [], [], .nil => ⟨[], rfl, rfl⟩
  | [], _ :: _, r => by cases r
  | v :: vs, [], r => by cases r
  | v :: vs, n :: ns, .cons a b => by
    obtain ⟨xs, e1, e2⟩ := intItems_of b
    cases a with
    | int _ t => exact ⟨(n, t) :: xs, by simp [e1], by simp [e2]⟩
theorem isList_ints {h : Heap} {l : Addr} {vs : List Value} {xs : List (Int × Tok)} (e : vs = xs.map (fun p => Value.int p.1 p.2)) (hl : h.IsList l vs.toArray) : h.IsList l (intItems xs.toArray) := by
  subst e
  simpa [intItems] using hl
theorem numAt_list (xs : List (Int × Tok)) (i : Nat) (hi : i < xs.length) : numAt xs.toArray i = (xs.map (·.1))[i]'(by simpa using hi) := by
  simp [numAt, hi]

theorem callOk_max {ns : List Int} {m : Int} (hm : m ∈ ns) (hle : ∀ x ∈ ns, x ≤ m) : CallOk C (.builtin "max") [.lst (ns.map .int)] [] [] (.dat (.int m)) := .mk fun ok W s vs ks S x y => by
  (first | obtain rfl := BAll.inv0 y | obtain ⟨_, rfl⟩ := Rep.inv_int y | obtain ⟨_, rfl⟩ := Rep.inv_str y | obtain rfl := Rep.inv_none y | cases y)
  obtain ⟨_, _, rfl, r, x⟩ := BAll.inv_cons x
  (first | obtain rfl := BAll.inv0 x | obtain ⟨_, rfl⟩ := Rep.inv_int x | obtain ⟨_, rfl⟩ := Rep.inv_str x | obtain rfl := Rep.inv_none x | cases x)
  obtain ⟨l, vs, rfl, hl, r⟩ := r
  obtain ⟨xs, e1, e2⟩ := intItems_of r
  have hne : 0 < xs.length := by
    rw [← List.length_map (f := (·.1)), e2]; exact List.length_pos_of_mem hm
  refine max_intList ok.hh (isList_ints e1 hl) (by simpa using hne) fun v h' tk hv hk => ?_
  obtain ⟨t, ev⟩ := intItems_at hv
  subst ev
  obtain ⟨b1, b2⟩ := argBest_gt (numAt xs.toArray) (xs.toArray.size - 1)
  have hb : argBest (fun i j => decide (numAt xs.toArray i > numAt xs.toArray j)) (xs.toArray.size - 1) < xs.length := by simp at b1; simp; omega
  have e : numAt xs.toArray (argBest (fun i j => decide (numAt xs.toArray i > numAt xs.toArray j)) (xs.toArray.size - 1)) = m := by
    apply Int.le_antisymm
    · apply hle
      rw [numAt_list xs _ hb]
      simp only [e2]
      exact List.getElem_mem _
    · obtain ⟨i, hi, hi'⟩ := List.getElem_of_mem hm
      have hi2 : i < xs.length := by rw [← List.length_map (f := (·.1)), e2]; exact hi
      have := b2 i (by simp; omega)
      rw [numAt_list xs i hi2] at this
      simp only [e2, hi'] at this
      exact this
  rw [e]
  exact ⟨⟨h', tk, rfl, hk⟩, .int _ _⟩
theorem callOk_max2 {a b : Int} : CallOk C (.builtin "max") [.dat (.int a), .dat (.int b)] [] [] (.dat (.int (max a b))) := .mk fun ok W s vs ks S x y => by
  (first | obtain rfl := BAll.inv0 y | obtain ⟨_, rfl⟩ := Rep.inv_int y | obtain ⟨_, rfl⟩ := Rep.inv_str y | obtain rfl := Rep.inv_none y | cases y)
  obtain ⟨_, _, rfl, r1, x⟩ := BAll.inv_cons x
  obtain ⟨_, _, rfl, r2, x⟩ := BAll.inv_cons x
  (first | obtain rfl := BAll.inv0 x | obtain ⟨_, rfl⟩ := Rep.inv_int x | obtain ⟨_, rfl⟩ := Rep.inv_str x | obtain rfl := Rep.inv_none x | cases x); (first | obtain rfl := BAll.inv0 r1 | obtain ⟨_, rfl⟩ := Rep.inv_int r1 | obtain ⟨_, rfl⟩ := Rep.inv_str r1 | obtain rfl := Rep.inv_none r1 | cases r1); (first | obtain rfl := BAll.inv0 r2 | obtain ⟨_, rfl⟩ := Rep.inv_int r2 | obtain ⟨_, rfl⟩ := Rep.inv_str r2 | obtain rfl := Rep.inv_none r2 | cases r2)
  refine max_two_ints ok.hh fun h' tk hk => ⟨⟨h', tk, rfl, hk⟩, ?_⟩
  split
  · rw [show max a b = b by (first | lia | omega)]; exact .int _ _
  · rw [show max a b = a by (first | lia | omega)]; exact .int _ _
theorem preSum_list (xs : List (Int × Tok)) : preSum (numAt xs.toArray) xs.toArray.size = (xs.map (·.1)).sum := by
  rw [preSum_eq, List.take_of_length_le (by simp)]
theorem callOk_sum {ns : List Int} : CallOk C (.builtin "sum") [.lst (ns.map .int)] [] [] (.dat (.int ns.sum)) := .mk fun ok W s vs ks S x y => by
  (first | obtain rfl := BAll.inv0 y | obtain ⟨_, rfl⟩ := Rep.inv_int y | obtain ⟨_, rfl⟩ := Rep.inv_str y | obtain rfl := Rep.inv_none y | cases y)
  obtain ⟨_, _, rfl, r, x⟩ := BAll.inv_cons x
  (first | obtain rfl := BAll.inv0 x | obtain ⟨_, rfl⟩ := Rep.inv_int x | obtain ⟨_, rfl⟩ := Rep.inv_str x | obtain rfl := Rep.inv_none x | cases x)
  obtain ⟨l, vs, rfl, hl, r⟩ := r
  obtain ⟨xs, e1, e2⟩ := intItems_of r
  refine sum_intListG ok.hh (isList_ints e1 hl) fun h' tk t' hk => ⟨⟨h', tk, rfl, hk⟩, ?_⟩
  rw [preSum_list, e2]
  exact .int _ _

theorem ints_rep {W : Addr → Prop} {h : Heap} {vs : List Value} {ns : List Int} (x : IntsAre vs ns) : RepAll W h vs (ns.map .int) := by
  induction x with
  | nil => exact .nil
  | cons _ _ _ ih => exact .cons (.int _ _) ih
theorem callOk_str_int {n : Int} (h : n.natAbs < 1000000) : CallOk C (.type "str") [.dat (.int n)] [] [] (.dat (.str (toString n))) := .mk fun ok W s vs ks S x y => by
  (first | obtain rfl := BAll.inv0 y | obtain ⟨_, rfl⟩ := Rep.inv_int y | obtain ⟨_, rfl⟩ := Rep.inv_str y | obtain rfl := Rep.inv_none y | cases y)
  obtain ⟨_, _, rfl, r, x⟩ := BAll.inv_cons x
  (first | obtain rfl := BAll.inv0 x | obtain ⟨_, rfl⟩ := Rep.inv_int x | obtain ⟨_, rfl⟩ := Rep.inv_str x | obtain rfl := Rep.inv_none x | cases x)
  (first | obtain rfl := BAll.inv0 r | obtain ⟨_, rfl⟩ := Rep.inv_int r | obtain ⟨_, rfl⟩ := Rep.inv_str r | obtain rfl := Rep.inv_none r | cases r)
  refine P.str_of_int ?_ ⟨keeps_tok s _, .str _ _⟩
  by_cases h0 : n.natAbs = 0
  · rw [h0]; decide
  · have : n.natAbs.log2 < 20 := (Nat.log2_lt h0).mpr (by first | decide | assumption | with_reducible exact Int.natCast_nonneg _ | with_reducible exact Nat.le_trans (by assumption) (by decide) | with_reducible exact Nat.lt_of_lt_of_le (by assumption) (by decide) | with_reducible exact lt_mil (Nat.lt_of_lt_of_le (by assumption) (by decide)) | with_reducible exact lt_mil (Nat.lt_of_le_of_lt (by assumption) (by decide)) | with_reducible exact Nat.le_trans (Nat.le_of_lt (by assumption)) (by decide) | (first | lia | omega))
    (first | lia | omega)

end

section
variable {F : Fm} {Γ : List (Str × Bd)}
/-- a builtin type's method -/
def MethIs (F : Fm) (name : Str) (id : String) (a : Bd) : Prop := ∀ W s v, F.toCx.St W s → BRep W s.heap v a →
  ∃ T, PlainAttrs T ∧ Slot T name id ∧ typeOf (.builtin id) = pure (.type "method_descriptor") ∧ s.TypeIs v T ∧ (∀ a, v = .ref a → ∃ ob, s.heap.get? a = some ob ∧ ob.dict = none)
end

section
variable {C : Cx}
end
end Mine

namespace Mine
open PySem PySem.W PyProof.Rows PySem.Calls
set_option maxRecDepth 100000

/-! ### is, in -/
section
variable {F : Fm} {Γ Γ' : List (Str × Bd)} {own : Own} {out : Out}
theorem cmpR_is_none {d : PyData} : CmpR F .Is (.dat d) (.dat .none) (match d with | .none => true | _ => false) := .mk fun ok W s v u S x y => by
  (first | obtain rfl := BAll.inv0 y | obtain ⟨_, rfl⟩ := Rep.inv_int y | obtain ⟨_, rfl⟩ := Rep.inv_str y | obtain rfl := Rep.inv_none y | cases y)
  cases x <;> first | exact is_none_none ⟨keeps_refl s, rfl⟩ | exact is_none_ne (by intro x; cases x) ⟨keeps_refl s, rfl⟩
theorem cmpR_is_none_ref {a : Addr} : CmpR F .Is (.val (.ref a)) (.dat .none) false := .mk fun ok W s v u S x y => by
  (first | obtain rfl := BAll.inv0 y | obtain ⟨_, rfl⟩ := Rep.inv_int y | obtain ⟨_, rfl⟩ := Rep.inv_str y | obtain rfl := Rep.inv_none y | cases y)
  have x : v = .ref a := x
  subst x
  exact is_none_ne (by intro x; cases x) ⟨keeps_refl s, rfl⟩
theorem cmpR_notIn_str {a b : List Nat} : CmpR F .NotIn (.dat (.str (st a))) (.dat (.str (st b))) (!Txt.contains (st b) (st a)) := .mk fun ok W s v u S x y => by
  (first | obtain rfl := BAll.inv0 x | obtain ⟨_, rfl⟩ := Rep.inv_int x | obtain ⟨_, rfl⟩ := Rep.inv_str x | obtain rfl := Rep.inv_none x | cases x); (first | obtain rfl := BAll.inv0 y | obtain ⟨_, rfl⟩ := Rep.inv_int y | obtain ⟨_, rfl⟩ := Rep.inv_str y | obtain rfl := Rep.inv_none y | cases y)
  exact SB.notContains ⟨keeps_refl s, rfl⟩
theorem cmpR_in_list {d : PyData} {xs : List PyData} (hxs : PyData.canLayAll0 xs = true) (hd : d.canLay0 = true) (hu : min (PyData.depthAll xs) d.depth ≤ 10) : CmpR F .In (.dat d) (.dat (.list xs)) (xs.any fun y => PyData.eqv y d) := .mk fun ok W s v u S x y => by
  obtain ⟨as, r1⟩ := Rep.reads x
  obtain ⟨bs, r2⟩ := Rep.reads y
  refine SeqAt.in_list_reads r2 r1 hxs hd ?_ ⟨keeps_refl s, rfl⟩
  have := ok.units
  have : cLine = 9900 := rfl
  (first | lia | omega)

/-! ### A call of a def -/
theorem ev_def {fe : Expr} {es : List Expr} {ks : List Keyword} {pos : Pos} {a : Addr} {o : Obj} {fd : FuncData} {args : List Bd} {kn : List Str} {kb : List Bd} {c : Bd}
    (hf : EvB F Γ fe (.val (.ref a))) (x : EvL F Γ pos es args) (y : EvKw F Γ pos ks kn kb) (hg : F.g a = some o) (hd : o.data = .func fd) (h : CallOk F.toCx (.ref a) args kn kb c)
    (hn : ∀ env, (starEach es env).any (·.1) = false := by intro _; rfl)
    (harm : ∀ env, eval (.Call fe es ks pos) env = (do callWith pos (← eval fe env) [] (backTo pos (starEach es env)) (backToKw pos (keywordEach ks env))) := by intro _; rfl) :
    EvB F Γ (.Call fe es ks pos) c := ev_call_fn hf x y (fun W s p => ⟨p.st.g _ _ hg, hd⟩) h hn harm

/-! ### The owned list, changed -/
theorem OpS.mut {W O : Addr → Prop} {h0 : Gh} {l : Addr} {s₃ s₄ : Shared} {x : Str} {ds ds' : List PyData} (ok : F.Ok W O) (gd : Gd F O h0) (p₃ : OpS F W h0 Γ (some (x, ds)) l s₃) (hno : ∀ p ∈ Γ, ∀ ds, p.2 ≠ .lst ds)
    (kp : ∀ b o, b ≠ l → s₃.heap.get? b = some o → s₄.heap.get? b = some o) (hnew : ∃ lv' n', s₄.heap.get? l = some (listOf lv'.toArray n') ∧ RepAll (fun a => W a ∨ a = l) s₄.heap lv' ds') : OpS F W h0 Γ (some (x, ds')) l s₄ := by
  have okl := p₃.ok ok gd
  obtain ⟨a1, a2, c3, lv, n, c4, c5⟩ := p₃.own x ds rfl
  obtain ⟨lv', n', hl', rl'⟩ := hnew
  refine ⟨fun b o e => kp b o (fun q => by rw [q, a1] at e; cases e) (p₃.g b o e), ⟨⟨fun b o e => kp b o (fun q => ?_) (p₃.pre.st.g b o e), fun b w => ?_⟩, fun q hq => ?_, ?_, fun y c e => ?_⟩, fun y ds'' e => ?_⟩
  · have := okl.Og l (.inr rfl); rw [q, this] at e; cases e
  · by_cases q : b = l
    · exact ⟨_, q ▸ hl'⟩
    · obtain ⟨o, ho⟩ := p₃.pre.st.W b w; exact ⟨o, kp b o q ho⟩
  · obtain ⟨v, b1, b2⟩ := p₃.pre.vars q hq
    refine ⟨v, ?_, ?_⟩
    · cases b1 with
      | loc d1 d2 d3 => exact .loc d1 (d2.at' fun o e => kp _ o (fun q => a2 (q ▸ ok.OW _ ok.loc)) e) d3
      | cell d1 d2 d3 => obtain ⟨o, ho, hd⟩ := d3; exact .cell d1 d2 ⟨o, kp _ o (fun q => a2 (q ▸ ok.cW _ _ d2)) ho, hd⟩
      | free d1 d2 d3 d4 => obtain ⟨o, ho, hd⟩ := d4; exact .free d1 d2 d3 ⟨o, kp _ o (fun q => a2 (q ▸ ok.cW _ _ d3)) ho, hd⟩
    · cases hb : q.2 with
      | dat d => rw [hb] at b2; exact Rep.gen (fun _ w => .inl w) (fun b o hb e => kp b o (fun q => hb (.inr q)) e) b2
      | lst ds => exact absurd hb (hno q hq ds)
      | val u => rw [hb] at b2; exact b2
  · obtain ⟨m, hm⟩ := p₃.pre.ns
    exact ⟨m, hm.at' fun o e => kp _ o (fun q => a2 (q ▸ ok.OW _ ok.loc)) e⟩
  · obtain ⟨v, o, ho, hd⟩ := p₃.pre.cells y c e
    exact ⟨v, o, kp _ o (fun q => a2 (q ▸ ok.cW _ _ e)) ho, hd⟩
  · cases e
    refine ⟨a1, a2, ?_, lv', n', hl', rl'⟩
    cases c3 with
    | loc d1 d2 d3 => exact .loc d1 (d2.at' fun o e => kp _ o (fun q => a2 (q ▸ ok.OW _ ok.loc)) e) d3
    | cell d1 d2 d3 => obtain ⟨o, ho, hd⟩ := d3; exact .cell d1 d2 ⟨o, kp _ o (fun q => a2 (q ▸ ok.cW _ _ d2)) ho, hd⟩
    | free d1 d2 d3 d4 => obtain ⟨o, ho, hd⟩ := d4; exact .free d1 d2 d3 ⟨o, kp _ o (fun q => a2 (q ▸ ok.cW _ _ d3)) ho, hd⟩

/-- a method of the owned list, as a statement -/
theorem ex_meth {x name : Str} {es : List Expr} {px apos pos pos' : Pos} {id : String} {args : List Bd} {ds ds' : List PyData}
    (ha : EvL F (gam Γ (some (x, ds))) pos es args) (slot : Slot "list" name id) (hty : typeOf (.builtin id) = pure (.type "method_descriptor")) (h : MutOk F.toCx (.builtin id) args [] [] ds ds')
    (hno : ∀ p ∈ Γ, ∀ ds, p.2 ≠ .lst ds) (hd : (x == ("__debug__" : Str)) = false := by decide)
    (hbase : ∀ env, attributeBase (.Name x px) name env (eval (.Name x px) env) = eval (.Name x px) env := by intro _; rfl) (hn : ∀ env, (starEach es env).any (·.1) = false := by intro _; rfl)
    (hlen : decide (es.length < 29) = true := by rfl) (hline : (apos.endLine == pos.line) = true := by rfl)
    (hi : interactive F.env = false) (hs : swapsWith (.Call (.Attribute (.Name x px) name apos) es [] pos) none pos'.line F.env = pure false := by rfl) :
    ExG F Γ (some (x, ds)) (exec (.Expr (.Call (.Attribute (.Name x px) name apos) es [] pos) pos') F.env) (.next Γ (some (x, ds'))) := .mk fun W O ok h0 gd s ⟨l, p⟩ => by
  refine wpAny_Expr ?_ hi hs
  rw [arm_eval_Call, hbase]
  have okl := p.ok ok gd
  obtain ⟨a1, a2, a3, lv₀, n₀, a4, _⟩ := p.own x ds rfl
  refine wpAny_bind (wpAny_Name (a3.load ok.kind ?_) hd)
  refine wpAny_bind (wpAny_standAt ?_)
  have hany : (backTo pos (starEach es F.env)).any (·.1) = false := by rw [backTo_plain]; exact hn _
  have hall : (backTo pos (starEach es F.env)).all (!·.1) = true := by
    rw [List.all_eq_true]
    intro q hq
    have := List.any_eq_false.mp hany q hq
    simpa using this
  have hform : methodCallForm (es.length + ([] : List Keyword).length) (backTo pos (starEach es F.env)) (backToKw pos (keywordEach [] F.env)) = true := by
    unfold methodCallForm
    rw [hall]
    have : es.length < 29 := of_decide_eq_true hlen
    show (true && true && decide (es.length + 0 + 0 < 30)) = true
    simp; (first | lia | omega)
  have hpos : methodCallPos true (.Name x px) F.env apos pos = pure pos := by unfold methodCallPos; simp [hline]
  unfold methodCall
  rw [hform]
  have hT : s.TypeIs (.ref l) "list" := ⟨_, a4, rfl⟩
  refine wpAny_bind (wpAny_holding (getMethod_builtin hT PySem.F.plainAttrs_list slot hty (fun a e => by cases e; exact ⟨_, a4, rfl⟩) ?_))
  refine wpAny_bind (wpAny_of_eq hpos ?_)
  refine Calls.callWith_builtin hany (evalArgs_any hany rfl (wpAny_mono (ha.run _ _ okl s p.gam) (fun vs s₂ hh₀ => ?_) fun _ _ f => f.elim))
  obtain ⟨k₂, r₂⟩ := hh₀
  refine wpAny_evalAll_nil ?_
  have p₃ := p.keeps k₂
  obtain ⟨c1, c2, c3, lv, n, c4, c5⟩ := p₃.own x ds rfl
  refine wpAny_mono (h.run ok.cx _ s₂ l lv n vs [] p₃.pre.st (.inr rfl) (okl.Og l (.inr rfl)) c4 c5 r₂ .nil) (fun r s₄ hh₀ => ?_) fun _ _ f => f.elim
  obtain ⟨e, sm, kp, hnew⟩ := hh₀
  subst e
  exact ⟨same_trans (same_keeps k₂) sm, rfl, l, p₃.mut ok gd hno kp hnew⟩
end

section
variable {C : Cx}
theorem insert_at {prog : Program} {w : World} {A : Around} {E : Value → Shared → Prop} {s : Shared} {l : Addr} {lv : List Value} {n : Nat} {x : Int} {t : Tok} {v : Value} {Q : Value → Shared → Prop} (hl : s.heap.get? l = some (listOf lv.toArray n)) (hf : Builtin.List.listFitsIndex x = true)
    (hz : lv.toArray.size ≤ sizeLine) (h : ∀ h', (∀ b o, b ≠ l → s.heap.get? b = some o → h'.get? b = some o) → h'.get? l = some (listOf (kl_ins lv x v).toArray (n + 1)) → Q .none { s with heap := h' }) : wpAny (model prog w) A (call (.builtin "list.insert") [.ref l, .int x t, v]) Q E s := by
  refine call_meets PySem.F.slot_list_insert ⟨_, hl, rfl⟩ PySem.F.entry_list_insert (PySem.F.args_list_insert_3 _ _ _) (PySem.AutoSeq1.list_insert_list_int_val_1 l _ n x t v (by simp [hf]) hz) ⟨hl, h _ (fun b o hb e => (Heap.get?_update_ne _ _ _ _ hb).trans e) ?_⟩
  have q := PySem.IsL.update hl (fun xs => have k := if x < 0 then (x + (xs.size : Int)).toNat else min x.toNat xs.size; (xs.extract 0 k).push v ++ xs.extract k)
  have hk : ((lv.toArray.extract 0 (if x < 0 then (x + (lv.toArray.size : Int)).toNat else min x.toNat lv.toArray.size)).push v ++ lv.toArray.extract (if x < 0 then (x + (lv.toArray.size : Int)).toNat else min x.toNat lv.toArray.size)) = (kl_ins lv x v).toArray := by
    rw [kl_ins_eq, List.size_toArray]; rfl
  dsimp only at q
  rw [hk, if_neg (by rw [List.size_toArray, List.size_toArray, kl_ins_length]; simp)] at q
  exact q
theorem kl_ins_nat {lv : List Value} {i : Nat} {v : Value} (hi : i ≤ lv.length) : kl_ins lv i v = lv.take i ++ v :: lv.drop i := by
  unfold kl_ins
  rw [if_neg (by first | decide | assumption | with_reducible exact Int.natCast_nonneg _ | with_reducible exact Nat.le_trans (by assumption) (by decide) | with_reducible exact Nat.lt_of_lt_of_le (by assumption) (by decide) | with_reducible exact lt_mil (Nat.lt_of_lt_of_le (by assumption) (by decide)) | with_reducible exact lt_mil (Nat.lt_of_le_of_lt (by assumption) (by decide)) | with_reducible exact Nat.le_trans (Nat.le_of_lt (by assumption)) (by decide) | (first | lia | omega)), show min (i : Int).toNat lv.length = i by (first | lia | omega)]
theorem fits_nat {i : Nat} (hi : i ≤ 1000000) : Builtin.List.listFitsIndex (i : Int) = true := by
  unfold Builtin.List.listFitsIndex
  simp; (first | lia | omega)
theorem mutOk_insert {ds : List PyData} {d : PyData} {i : Nat} (hi : i ≤ ds.length) (hz : ds.length ≤ 100000) : MutOk C (.builtin "list.insert") [.dat (.int i), .dat d] [] [] ds (ds.take i ++ d :: ds.drop i) := .mk fun ok W s l lv n vs ks S hWl hgl hl rl x y => by
  (first | obtain rfl := BAll.inv0 y | obtain ⟨_, rfl⟩ := Rep.inv_int y | obtain ⟨_, rfl⟩ := Rep.inv_str y | obtain rfl := Rep.inv_none y | cases y)
  obtain ⟨_, _, rfl, r1, x⟩ := BAll.inv_cons x
  obtain ⟨v, _, rfl, r2, x⟩ := BAll.inv_cons x
  (first | obtain rfl := BAll.inv0 x | obtain ⟨_, rfl⟩ := Rep.inv_int x | obtain ⟨_, rfl⟩ := Rep.inv_str x | obtain rfl := Rep.inv_none x | cases x)
  obtain ⟨t, rfl⟩ := Rep.inv_int r1
  have hlen := rl.length
  have hsz : lv.toArray.size ≤ sizeLine := by
    rw [List.size_toArray, sizeLine_eq]; (first | lia | omega)
  have r2 : Rep W s.heap v d := r2
  refine insert_at hl (fits_nat (by first | decide | assumption | with_reducible exact Int.natCast_nonneg _ | with_reducible exact Nat.le_trans (by assumption) (by decide) | with_reducible exact Nat.lt_of_lt_of_le (by assumption) (by decide) | with_reducible exact lt_mil (Nat.lt_of_lt_of_le (by assumption) (by decide)) | with_reducible exact lt_mil (Nat.lt_of_le_of_lt (by assumption) (by decide)) | with_reducible exact Nat.le_trans (Nat.le_of_lt (by assumption)) (by decide) | (first | lia | omega))) hsz fun h' hk hn => ⟨rfl, ⟨h', s.toks, rfl⟩, hk, lv.take i ++ v :: lv.drop i, n + 1, ?_, ?_⟩
  · rw [kl_ins_nat (by first | decide | assumption | with_reducible exact Int.natCast_nonneg _ | with_reducible exact Nat.le_trans (by assumption) (by decide) | with_reducible exact Nat.lt_of_lt_of_le (by assumption) (by decide) | with_reducible exact lt_mil (Nat.lt_of_lt_of_le (by assumption) (by decide)) | with_reducible exact lt_mil (Nat.lt_of_le_of_lt (by assumption) (by decide)) | with_reducible exact Nat.le_trans (Nat.le_of_lt (by assumption)) (by decide) | (first | lia | omega))] at hn; exact hn
  · exact RepAll.gen (W := W) (h := s.heap) (fun _ w => .inl w) (fun b o hb e => hk b o (fun q : b = l => hb (by rw [q]; exact hWl)) e) ((rl.take i).append (.cons r2 (rl.drop i)))
theorem mutOk_append {ds : List PyData} {d : PyData} (hz : ds.length ≤ 100000) : MutOk C (.builtin "list.append") [.dat d] [] [] ds (ds ++ [d]) := .mk fun ok W s l lv n vs ks S hWl hgl hl rl x y => by
  (first | obtain rfl := BAll.inv0 y | obtain ⟨_, rfl⟩ := Rep.inv_int y | obtain ⟨_, rfl⟩ := Rep.inv_str y | obtain rfl := Rep.inv_none y | cases y)
  obtain ⟨v, _, rfl, r1, x⟩ := BAll.inv_cons x
  (first | obtain rfl := BAll.inv0 x | obtain ⟨_, rfl⟩ := Rep.inv_int x | obtain ⟨_, rfl⟩ := Rep.inv_str x | obtain rfl := Rep.inv_none x | cases x)
  have hlen := rl.length
  have hsz : lv.toArray.size ≤ sizeLine := by
    rw [List.size_toArray, sizeLine_eq]; (first | lia | omega)
  refine call_meets PySem.F.slot_list_append ⟨_, hl, rfl⟩ PySem.F.entry_list_append (PySem.F.args_list_append_2 _ _) (AutoListH.list_append_list_val_0 l _ n v hsz) ⟨hl, ?_⟩
  refine ⟨rfl, ⟨_, _, rfl⟩, fun b o hb e => (Heap.get?_update_ne _ _ _ _ hb).trans e, lv ++ [v], n + 1, ?_, ?_⟩
  · have q := PySem.IsL.update hl (fun xs => xs.push v)
    have hk' : lv.toArray.push v = (lv ++ [v]).toArray := by simp
    simp only [hk'] at q
    rw [if_neg (by simp)] at q
    exact q
  · exact RepAll.gen (W := W) (h := s.heap) (fun _ w => .inl w) (fun b o hb e => (Heap.get?_update_ne _ _ _ _ (fun q : b = l => hb (by rw [q]; exact hWl))).trans e) (rl.append (.cons r1 .nil))
end
end Mine

namespace Mine
open PySem PySem.W PyProof.Rows PySem.Calls
set_option maxRecDepth 100000

theorem VarAt.fun_ {env : Env} {h : Heap} {x : Str} {v u : Value} (a : VarAt env h x v) (b : VarAt env h x u) : v = u := by
  cases a with
  | loc a1 a2 a3 =>
    cases b with
    | loc b1 b2 b3 => rw [a2.eq_nsMap] at a3; rw [b2.eq_nsMap] at b3; rw [a3] at b3; exact Option.some.inj b3
    | cell b1 _ _ => rw [a1] at b1; cases b1
    | free b1 _ _ _ => rw [a1] at b1; cases b1
  | cell a1 a2 a3 =>
    cases b with
    | loc b1 _ _ => rw [a1] at b1; cases b1
    | cell b1 b2 b3 =>
      rw [a2] at b2; cases b2
      obtain ⟨o, ho, hd⟩ := a3; obtain ⟨o', ho', hd'⟩ := b3
      rw [ho] at ho'; cases ho'; rw [hd] at hd'; cases hd'; rfl
    | free b1 _ _ _ => rw [a1] at b1; cases b1
  | free a1 a0 a2 a3 =>
    cases b with
    | loc b1 _ _ => rw [a1] at b1; cases b1
    | cell b1 _ _ => rw [a1] at b1; cases b1
    | free b1 b0 b2 b3 =>
      rw [a2] at b2; cases b2
      obtain ⟨o, ho, hd⟩ := a3; obtain ⟨o', ho', hd'⟩ := b3
      rw [ho] at ho'; cases ho'; rw [hd] at hd'; cases hd'; rfl

theorem mem_at {α : Type} {l : List α} {a : α} (i : Nat) (h : l[i]? = some a) : a ∈ l := List.mem_of_getElem? h
inductive Pk (y : Str) (c : Bd) (Γ : List (Str × Bd)) : List (Str × Bd) → Prop
  | nil : Pk y c Γ []
  | here {r : List (Str × Bd)} : Pk y c Γ r → Pk y c Γ ((y, c) :: r)
  | cons {x : Str} {b : Bd} {r : List (Str × Bd)} : (x, b) ∈ Γ → (x == y) = false → Pk y c Γ r → Pk y c Γ ((x, b) :: r)
theorem Pk.g {y : Str} {c : Bd} {Γ r : List (Str × Bd)} (a : Pk y c Γ r) : ∀ q ∈ r, q = (y, c) ∨ (q ∈ Γ ∧ q.1 ≠ y) := by
  induction a with
  | nil => intro q hq; cases hq
  | here _ ih =>
    intro q hq
    rcases List.mem_cons.mp hq with rfl | hq
    · exact .inl rfl
    · exact ih q hq
  | cons h n _ ih =>
    intro q hq
    rcases List.mem_cons.mp hq with rfl | hq
    · exact .inr ⟨h, by rintro rfl; simp at n⟩
    · exact ih q hq
inductive Pq (y : Str) (Γ : List (Str × Bd)) : List (Str × Bd) → Prop
  | nil : Pq y Γ []
  | cons {x : Str} {b : Bd} {r : List (Str × Bd)} : (x, b) ∈ Γ → (x == y) = false → Pq y Γ r → Pq y Γ ((x, b) :: r)
theorem Pq.g {y : Str} {Γ r : List (Str × Bd)} (a : Pq y Γ r) : ∀ q ∈ r, q ∈ Γ ∧ q.1 ≠ y := by
  induction a with
  | nil => intro q hq; cases hq
  | cons h n _ ih =>
    intro q hq
    rcases List.mem_cons.mp hq with rfl | hq
    · exact ⟨h, by rintro rfl; simp at n⟩
    · exact ih q hq
inductive Sb (Γ : List (Str × Bd)) : List (Str × Bd) → Prop
  | nil : Sb Γ []
  | cons {p : Str × Bd} {r : List (Str × Bd)} : p ∈ Γ → Sb Γ r → Sb Γ (p :: r)
theorem Sb.g {Γ r : List (Str × Bd)} (a : Sb Γ r) : ∀ q ∈ r, q ∈ Γ := by
  induction a with
  | nil => intro q hq; cases hq
  | cons h _ ih =>
    intro q hq
    rcases List.mem_cons.mp hq with rfl | hq
    · exact h
    · exact ih q hq

section
variable {C : Cx} {W : Addr → Prop} {s : Shared} {f : Addr} {oc : Value} {od : Option Addr} {osl : Array (Option Value)} {name qual : Str} {params : Arguments} {body : List Stmt} {scope : Scope} {dV kV doc pm cdv ct : Value} {an : Option Addr}
  {args : Args} {binds : List (Str × Value)} {bs : List Bd} {b : Bd}

/-- into a def that changes a list of its caller's -/
theorem enter_mut {x : Str} {l : Addr} {lv : List Value} {n : Nat} {ds ds' : List PyData} {Γ' : Addr → List (Str × Bd)} (ok : C.Ok) (hf : 0 < C.fuel) (S : C.St W s) (hWl : W l) (hgl : C.g l = none) (hl : s.heap.get? l = some (listOf lv.toArray n)) (rl : RepAll W s.heap lv ds)
    (ho : C.K.lookup f = some ⟨oc, od, .func (fnOf name qual params body scope dV kV doc pm an cdv ct), osl⟩) (hcd : codeIn C.K cdv qual = true)
    (hbind : BindsTo s (fnOf name qual params body scope dV kV doc pm an cdv ct) args binds) (hb : BAll W s.heap (binds.map (·.2)) bs) (hn : (binds.map (·.1)).Nodup)
    (hkind : (binds.all fun y => scope.names.lookup y.1 == some .local || scope.names.lookup y.1 == some .cell) = true)
    (hx : (x, .val (.ref l)) ∈ (binds.map (·.1)).zip bs)
    (hbody : ∀ L, ExG (C.into (envOfC qual scope L f cdv)) ((binds.map (·.1)).zip bs) (some (x, ds)) (execs body (envOfC qual scope L f cdv)) (.next (Γ' L) (some (x, ds')))) (hx' : ∀ L, (x, .val (.ref l)) ∈ Γ' L)
    (hno : ∀ L, (envOfC qual scope L f cdv).cells = []) (hnl : ∀ p ∈ (binds.map (·.1)).zip bs, ∀ ds, p.2 ≠ .lst ds)
    (hco : scope.isCoroutine = false := by rfl) (hgen : scope.isGenerator = false := by rfl) (hk : scope.kind = .function := by rfl) :
    codeAny (model C.prog C.w) C.A (.call (.ref f) args) (fun r s' => r = .ok (.ret .none) ∧ Same s s' ∧ (∀ b o, b ≠ l → s.heap.get? b = some o → s'.heap.get? b = some o) ∧ ∃ lv' n', s'.heap.get? l = some (listOf lv'.toArray n') ∧ RepAll W s'.heap lv' ds') s := by
  have hK : s.heap.get? f = some ⟨oc, od, .func (fnOf name qual params body scope dV kV doc pm an cdv ct), osl⟩ := S.g _ _ (ok.KIn _ _ ho)
  have hkk := kindsX hkind
  refine codeAny_call_function (by have := ok.depth; show C.A.depth < 1000; (first | lia | omega)) hK rfl hco hgen rfl ((codeRec_of (h := s.heap) (fun a o e => S.g _ _ (ok.KIn a o e)) hcd)) (hbind _ _ _ _ ?_)
  refine wpAny_newFunctionEnv_cells hk (hkk _) fun env' he s' x' => ?_
  subst he
  refine ⟨(ok.nolimit _ S.g).keeps x'.toInCall.keep, codeAny_func ?_⟩
  obtain ⟨W', O, hW, hW2, ok', gd, l₀, p⟩ := entered (bs := bs) ok S (env := envOfC qual scope s.heap.objs.size f cdv) rfl rfl hk rfl rfl hf x' hb hn (hkk _)
  obtain ⟨h₁, tk, rfl⟩ := x'.toInCall.same
  have hlO : ¬ O l := fun h => by rw [gd.O l h] at hl; cases hl
  have hlL : l ≠ (envOfC qual scope s.heap.objs.size f cdv).locals := fun q => hlO (q ▸ ok'.loc)
  have nocell : ∀ y c, (envOfC qual scope s.heap.objs.size f cdv).cells.lookup y = some c → False := fun y c e => by rw [hno] at e; cases e
  -- the frame without l
  have ok2 : Fm.Ok (C.into (envOfC qual scope s.heap.objs.size f cdv)) (fun a => W' a ∧ a ≠ l) O := ⟨ok'.cx, ok'.kind, ok'.eg, ok'.eb, ok'.loc, fun a h => ⟨ok'.OW a h, fun q => hlO (q ▸ h)⟩, ok'.Og, ok'.cne, ok'.cinj, fun y c e => (nocell y c e).elim, ok'.cO⟩
  have gd2 : Gd (C.into (envOfC qual scope s.heap.objs.size f cdv)) O (fun b => (open Classical in if b = l then none else s.heap.get? b)) := ⟨fun b o e => by
      have : b ≠ l := fun q => by have e : C.g b = some o := e; rw [q, hgl] at e; cases e
      rw [if_neg this]; exact gd.g b o e, fun a h => by
      have : a ≠ l := fun q => hlO (q ▸ h)
      rw [if_neg this]; exact gd.O a h⟩
  have hl1 : h₁.get? l = some (listOf lv.toArray n) := x'.toInCall.keep _ _ hl
  have hWW : ∀ a, ((W' a ∧ a ≠ l) ∨ a = l) → W' a := fun a h => h.elim (·.1) fun q => q ▸ hW l hWl
  have hWW' : ∀ a, W' a → ((W' a ∧ a ≠ l) ∨ a = l) := fun a h => by by_cases q : a = l; exact .inr q; exact .inl ⟨h, q⟩
  have op : OpS (C.into (envOfC qual scope s.heap.objs.size f cdv)) (fun a => W' a ∧ a ≠ l) (fun b => (open Classical in if b = l then none else s.heap.get? b)) ((binds.map (·.1)).zip bs) (some (x, ds)) l { s with heap := h₁, toks := tk } := by
    refine ⟨fun b o e => ?_, ⟨⟨p.pre.st.g, fun a w => p.pre.st.W a (hWW a w)⟩, fun q hq => ?_, p.pre.ns, p.pre.cells⟩, fun y ds₂ e => ?_⟩
    · by_cases q : b = l
      · simp [q] at e
      · rw [if_neg q] at e; exact p.g b o e
    · obtain ⟨v, a1, a2⟩ := p.pre.vars q hq
      exact ⟨v, a1, a2.less hWW⟩
    · cases e
      refine ⟨by simp, fun h => h.2 rfl, ?_, lv, n, hl1, ?_⟩
      · obtain ⟨v, a1, a2⟩ := p.pre.vars _ hx
        have a2 : v = .ref l := a2
        exact a2 ▸ a1
      · refine rl.gen (fun a w => ?_) fun b o _ e => x'.toInCall.keep b o e
        rcases w with ⟨w, _⟩ | q
        · by_cases q : O a
          · exact .inr (gd.O a q)
          · cases q2 : s.heap.get? a with
            | none => exact .inr rfl
            | some o => exact .inl (by
                rcases hW2 a w with h | h
                · exact h
                · exact absurd h q)
        · exact .inl (q ▸ hWl)
  refine wpAny_mono ((hbody s.heap.objs.size).run _ O ok2 _ gd2 _ ⟨l, op⟩) (fun fl s₂ hh₀ => ?_) fun _ _ f => f.elim
  obtain ⟨⟨h₂, t₂, e₂⟩, e, l', q⟩ := hh₀
  subst e
  subst e₂
  obtain ⟨b1, b2, b3, lv', n', b4, b5⟩ := q.own _ _ rfl
  obtain ⟨v, a1, a2⟩ := q.pre.vars _ (hx' _)
  have a2 : v = .ref l := a2
  subst a2
  have e := a1.fun_ b3
  cases e
  refine ⟨rfl, ⟨h₂, t₂, rfl⟩, fun b o hb e => q.g b o (by rw [if_neg hb]; exact e), lv', n', b4, b5.less fun a w => hWW' a (hW a w)⟩
end

structure Like (k : Nat) (C C' : Cx) : Prop where
  prog : C'.prog = C.prog
  w : C'.w = C.w
  g : C'.g = C.g
  K : C'.K = C.K
  mg : C'.mg = C.mg
  mb : C'.mb = C.mb
  fuel : C.fuel ≤ C'.fuel + k
theorem Like.trans {j k : Nat} {C C' C'' : Cx} (a : Like j C C') (b : Like k C' C'') : Like (j + k) C C'' :=
  ⟨b.prog.trans a.prog, b.w.trans a.w, b.g.trans a.g, b.K.trans a.K, b.mg.trans a.mg, b.mb.trans a.mb, by have := a.fuel; have := b.fuel; (first | lia | omega)⟩
theorem Like.more {j k : Nat} {C C' : Cx} (a : Like j C C') (h : j ≤ k) : Like k C C' := ⟨a.prog, a.w, a.g, a.K, a.mg, a.mb, by have := a.fuel; (first | lia | omega)⟩
theorem like_into (C : Cx) (env : Env) : Like 1 C (C.into env).toCx := ⟨rfl, rfl, rfl, rfl, rfl, rfl, by show C.fuel ≤ C.fuel - 1 + 1; (first | lia | omega)⟩
theorem like_into2 (C : Cx) (env : Env) : Like 2 C (C.into env).toCx := (like_into C env).more (by first | decide | assumption | with_reducible exact Int.natCast_nonneg _ | with_reducible exact Nat.le_trans (by assumption) (by decide) | with_reducible exact Nat.lt_of_lt_of_le (by assumption) (by decide) | with_reducible exact lt_mil (Nat.lt_of_lt_of_le (by assumption) (by decide)) | with_reducible exact lt_mil (Nat.lt_of_le_of_lt (by assumption) (by decide)) | with_reducible exact Nat.le_trans (Nat.le_of_lt (by assumption)) (by decide) | (first | lia | omega))

def noLst : List (Str × Bd) → Bool
  | [] => true
  | (_, .lst _) :: _ => false
  | _ :: r => noLst r
theorem noLst_ok : ∀ {Γ : List (Str × Bd)}, noLst Γ = true → ∀ p ∈ Γ, ∀ ds, p.2 ≠ .lst ds
  | [], _, p, hp, _ => by cases hp
  | (n, .lst _) :: r, h, p, hp, ds => by cases h
  | (n, .dat d) :: r, h, p, hp, ds => by
    rcases List.mem_cons.mp hp with rfl | hp
    · exact fun e => by cases e
    · exact noLst_ok (Γ := r) h p hp ds
  | (n, .val d) :: r, h, p, hp, ds => by
    rcases List.mem_cons.mp hp with rfl | hp
    · exact fun e => by cases e
    · exact noLst_ok (Γ := r) h p hp ds

section
variable {F : Fm} {Γ : List (Str × Bd)}
theorem ev_eq {e : Expr} {a b : Bd} (x : EvB F Γ e a) (h : a = b) : EvB F Γ e b := h ▸ x
theorem et_eq {e : Expr} {a b : Bool} (x : EvT F Γ e a) (h : a = b) : EvT F Γ e b := h ▸ x
theorem fdiv_nat {a b : Int} {x y q : Nat} (ha : a = x) (hb : b = y) (hq : q = x / y) : Int.fdiv a b = (q : Int) := by
  subst ha hb hq
  rw [Int.fdiv_eq_ediv_of_nonneg _ (by first | decide | assumption | with_reducible exact Int.natCast_nonneg _ | with_reducible exact Nat.le_trans (by assumption) (by decide) | with_reducible exact Nat.lt_of_lt_of_le (by assumption) (by decide) | with_reducible exact lt_mil (Nat.lt_of_lt_of_le (by assumption) (by decide)) | with_reducible exact lt_mil (Nat.lt_of_le_of_lt (by assumption) (by decide)) | with_reducible exact Nat.le_trans (Nat.le_of_lt (by assumption)) (by decide) | (first | lia | omega))]; simp
theorem fmod_nat {a b : Int} {x y q : Nat} (ha : a = x) (hb : b = y) (hq : q = x % y) : Int.fmod a b = (q : Int) := by
  subst ha hb hq
  rw [Int.fmod_eq_emod_of_nonneg _ (by first | decide | assumption | with_reducible exact Int.natCast_nonneg _ | with_reducible exact Nat.le_trans (by assumption) (by decide) | with_reducible exact Nat.lt_of_lt_of_le (by assumption) (by decide) | with_reducible exact lt_mil (Nat.lt_of_lt_of_le (by assumption) (by decide)) | with_reducible exact lt_mil (Nat.lt_of_le_of_lt (by assumption) (by decide)) | with_reducible exact Nat.le_trans (Nat.le_of_lt (by assumption)) (by decide) | (first | lia | omega))]; simp
theorem binR_div {a b : Int} (h : 0 < b) (h2 : b ≤ 1000000) : BinR F .FloorDiv (.dat (.int a)) (.dat (.int b)) (.dat (.int (Int.fdiv a b))) := binR_fdiv (by first | decide | assumption | with_reducible exact Int.natCast_nonneg _ | with_reducible exact Nat.le_trans (by assumption) (by decide) | with_reducible exact Nat.lt_of_lt_of_le (by assumption) (by decide) | with_reducible exact lt_mil (Nat.lt_of_lt_of_le (by assumption) (by decide)) | with_reducible exact lt_mil (Nat.lt_of_le_of_lt (by assumption) (by decide)) | with_reducible exact Nat.le_trans (Nat.le_of_lt (by assumption)) (by decide) | (first | lia | omega)) (PyProof.noPylong_small (by first | decide | assumption | with_reducible exact Int.natCast_nonneg _ | with_reducible exact Nat.le_trans (by assumption) (by decide) | with_reducible exact Nat.lt_of_lt_of_le (by assumption) (by decide) | with_reducible exact lt_mil (Nat.lt_of_lt_of_le (by assumption) (by decide)) | with_reducible exact lt_mil (Nat.lt_of_le_of_lt (by assumption) (by decide)) | with_reducible exact Nat.le_trans (Nat.le_of_lt (by assumption)) (by decide) | (first | lia | omega)))
theorem binR_md {a b : Int} (h : 0 < b) : BinR F .Mod (.dat (.int a)) (.dat (.int b)) (.dat (.int (Int.fmod a b))) := binR_fmod (by first | decide | assumption | with_reducible exact Int.natCast_nonneg _ | with_reducible exact Nat.le_trans (by assumption) (by decide) | with_reducible exact Nat.lt_of_lt_of_le (by assumption) (by decide) | with_reducible exact lt_mil (Nat.lt_of_lt_of_le (by assumption) (by decide)) | with_reducible exact lt_mil (Nat.lt_of_le_of_lt (by assumption) (by decide)) | with_reducible exact Nat.le_trans (Nat.le_of_lt (by assumption)) (by decide) | (first | lia | omega))
theorem binR_addN {a b c : Nat} (h : c = a + b) : BinR F .Add (.dat (.int (a : Int))) (.dat (.int (b : Int))) (.dat (.int (c : Int))) := by
  subst h; have := binR_add_int (F := F) (a := (a : Int)) (b := (b : Int)); simpa using this
theorem binR_divN {a c k : Nat} {b : Int} (hb : b = k) (h : c = a / k) (h0 : 0 < k) (h1 : k ≤ 1000000) : BinR F .FloorDiv (.dat (.int (a : Int))) (.dat (.int b)) (.dat (.int (c : Int))) := by
  subst h hb
  rw [← fdiv_nat (a := a) (b := k) rfl rfl rfl]
  exact binR_div (by first | decide | assumption | with_reducible exact Int.natCast_nonneg _ | with_reducible exact Nat.le_trans (by assumption) (by decide) | with_reducible exact Nat.lt_of_lt_of_le (by assumption) (by decide) | with_reducible exact lt_mil (Nat.lt_of_lt_of_le (by assumption) (by decide)) | with_reducible exact lt_mil (Nat.lt_of_le_of_lt (by assumption) (by decide)) | with_reducible exact Nat.le_trans (Nat.le_of_lt (by assumption)) (by decide) | (first | lia | omega)) (by first | decide | assumption | with_reducible exact Int.natCast_nonneg _ | with_reducible exact Nat.le_trans (by assumption) (by decide) | with_reducible exact Nat.lt_of_lt_of_le (by assumption) (by decide) | with_reducible exact lt_mil (Nat.lt_of_lt_of_le (by assumption) (by decide)) | with_reducible exact lt_mil (Nat.lt_of_le_of_lt (by assumption) (by decide)) | with_reducible exact Nat.le_trans (Nat.le_of_lt (by assumption)) (by decide) | (first | lia | omega))
theorem binR_modN {a c k : Nat} {b : Int} (hb : b = k) (h : c = a % k) (h0 : 0 < k) : BinR F .Mod (.dat (.int (a : Int))) (.dat (.int b)) (.dat (.int (c : Int))) := by
  subst h hb
  rw [← fmod_nat (a := a) (b := k) rfl rfl rfl]
  exact binR_md (by first | decide | assumption | with_reducible exact Int.natCast_nonneg _ | with_reducible exact Nat.le_trans (by assumption) (by decide) | with_reducible exact Nat.lt_of_lt_of_le (by assumption) (by decide) | with_reducible exact lt_mil (Nat.lt_of_lt_of_le (by assumption) (by decide)) | with_reducible exact lt_mil (Nat.lt_of_le_of_lt (by assumption) (by decide)) | with_reducible exact Nat.le_trans (Nat.le_of_lt (by assumption)) (by decide) | (first | lia | omega))
theorem cmpR_ltN {a b : Nat} : CmpR F .Lt (.dat (.int (a : Int))) (.dat (.int (b : Int))) (decide (a < b)) := by
  have := cmpR_lt_int (F := F) (a := (a : Int)) (b := (b : Int)); simpa using this
end
end Mine

namespace Mine
open PySem PySem.W PyProof.Rows PySem.Calls
set_option maxRecDepth 100000

/-! ### A new ground under a frame -/
def Cx.reb (C : Cx) (g' : Gh) : Cx := { C with g := g' }
def Fm.reb (F : Fm) (g' : Gh) : Fm := { F with g := g' }
theorem Cx.Ok.reb {C : Cx} {g' : Gh} (ok : C.Ok) (hg : ∀ b o, C.g b = some o → g' b = some o) : (C.reb g').Ok where
  hh := ok.hh
  depth := ok.depth
  units := ok.units
  KIn a o e := hg _ _ (ok.KIn a o e)
  gns h x := ok.gns h fun b o e => x b o (hg b o e)
  bns h x := ok.bns h fun b o e => x b o (hg b o e)
  nolimit h x := ok.nolimit h fun b o e => x b o (hg b o e)
  boot := ok.boot

section
variable {F : Fm} {Γ Γ' : List (Str × Bd)} {own : Own} {out : Out}
/-- what makes a plain object of a class -/
abbrev EvM (F : Fm) (Γ : List (Str × Bd)) (e : Expr) (C : Addr) : Prop := Wrap (∀ W O, F.Ok W O → ∀ s, F.Pre W Γ s →
  wpAny (model F.prog F.w) F.A (eval e F.env) (fun v s' => Keeps s s' ∧ ∃ a dx, v = .ref a ∧ s'.heap.get? a = some (instObj C dx) ∧ s'.heap.get? dx = some emptyDict ∧ ¬ W a ∧ ¬ W dx) (fun _ _ => False) s)

theorem make_plain {prog : Program} {w : World} {A : Around} {K : Frag} {C : Addr} {s : Shared} {R : Except Value Flow → Shared → Prop} (X : K.In s.heap) (hm : makesIn K C = true) (hi : findIn K (.ref C) "__init__" = some (some (.builtin "object.__init__")))
    (z : R (.ok (.ret (.ref (s.heap.objs.size + 1)))) { s with heap := (s.heap.push emptyDict).push (instObj C s.heap.objs.size) }) :
    codeAny (model prog w) A (.call (.ref C) ⟨[], []⟩) R s := by
  obtain ⟨hh, g, d, t, os⟩ := s
  have Y := makes_of (M := model prog w) X hm
  refine make_core Y (looks_findIn X hi) (fun self => Looks.of_pure (oi_bind self)) (.inr ⟨rfl, rfl⟩) ?_
  have hx : ((hh.push emptyDict).push (instObj C hh.objs.size)).get? (hh.objs.size + 1) = some (instObj C hh.objs.size) := by heap_get
  have t1 : Looks (model prog w) ((hh.push emptyDict).push (instObj C hh.objs.size)) (typeOf (.ref (hh.objs.size + 1))) (.ref C) := (Looks.ld hx).andThen .now
  have t2 : Looks (model prog w) ((hh.push emptyDict).push (instObj C hh.objs.size)) (isInstance (.ref (hh.objs.size + 1)) (.type "object")) true := t1.andThen (Y.top.keeps fun b o e => Heap.get?_push_of_some _ (Heap.get?_push_of_some _ e))
  refine codeAny_call_builtin oi_plain entry_oi (@check_slot (model prog w) _ _ _ "object.__init__" "object" "__init__" (.ref (hh.objs.size + 1)) [] [] _ oi_kind oi_split t2 (oi_args (.ref (hh.objs.size + 1))) ?_)
  rw [oi_run]
  exact wpAny_pure (And.intro rfl z)

theorem evm_call {fe : Expr} {pos : Pos} {C : Addr} (hf : EvB F Γ fe (.val (.ref C))) (hkp : keepIn F.K (.ref C) = true) (hm : makesIn F.K C = true) (hi : findIn F.K (.ref C) "__init__" = some (some (.builtin "object.__init__")))
    (harm : ∀ env, eval (.Call fe [] [] pos) env = (do callWith pos (← eval fe env) [] (backTo pos (starEach [] env)) (backToKw pos (keywordEach [] env))) := by intro _; rfl) : EvM F Γ (.Call fe [] [] pos) C := .mk fun W O ok s p => by
  rw [harm]
  refine wpAny_bind (hf.use ok p fun f s₁ k₁ p₁ r₁ => ?_)
  have r₁ : f = .ref C := r₁
  subst r₁
  have X : F.K.In s₁.heap := fun a o e => p₁.st.g _ _ (ok.cx.KIn a o e)
  refine callWith_K0 X hkp (wpAny_call (make_plain X hm hi ?_))
  have h1 : ∀ a, s₁.heap.objs.size ≤ a → ¬ W a := fun a ha w => by
    obtain ⟨o, ho⟩ := p₁.st.W a w
    exact absurd (Heap.lt_size ho) (Nat.not_lt.mpr ha)
  refine ⟨keeps_trans k₁ (keeps_trans (keeps_push s₁ emptyDict) (keeps_push { s₁ with heap := s₁.heap.push emptyDict } (instObj C s₁.heap.objs.size))), _, s₁.heap.objs.size, rfl, ?_, ?_, h1 _ (by first | decide | assumption | with_reducible exact Int.natCast_nonneg _ | with_reducible exact Nat.le_trans (by assumption) (by decide) | with_reducible exact Nat.lt_of_lt_of_le (by assumption) (by decide) | with_reducible exact lt_mil (Nat.lt_of_lt_of_le (by assumption) (by decide)) | with_reducible exact lt_mil (Nat.lt_of_le_of_lt (by assumption) (by decide)) | with_reducible exact Nat.le_trans (Nat.le_of_lt (by assumption)) (by decide) | (first | lia | omega)), h1 _ (by first | decide | assumption | with_reducible exact Int.natCast_nonneg _ | with_reducible exact Nat.le_trans (by assumption) (by decide) | with_reducible exact Nat.lt_of_lt_of_le (by assumption) (by decide) | with_reducible exact lt_mil (Nat.lt_of_lt_of_le (by assumption) (by decide)) | with_reducible exact lt_mil (Nat.lt_of_le_of_lt (by assumption) (by decide)) | with_reducible exact Nat.le_trans (Nat.le_of_lt (by assumption)) (by decide) | (first | lia | omega))⟩
  · heap_get
  · heap_get

/-- a method of such an object -/
theorem ev_inst {o : Expr} {es : List Expr} {name : Str} {apos pos : Pos} {a C dx f : Addr} {fo : Obj} {fd : FuncData} {c : Bd} {args : List Bd} (x : EvB F Γ o (.val (.ref a))) (y : EvL F Γ pos es args) (ha : F.g a = some (instObj C dx)) (hdx : F.g dx = some emptyDict)
    (hg : plainGet F.K C name = true) (hf : findIn F.K (.ref C) name = some (some (.ref f))) (ht : isFn F.K (.ref f) = true) (hfo : F.g f = some fo) (hfd : fo.data = .func fd)
    (h : CallOk F.toCx (.ref f) (.val (.ref a) :: args) [] [] c)
    (hbase : ∀ env, attributeBase o name env (eval o env) = eval o env := by intro _; rfl) (hn : ∀ env, (starEach es env).any (·.1) = false := by intro _; rfl) (hlen : decide (es.length < 29) = true := by rfl) (hline : (apos.endLine == pos.line) = true := by rfl) :
    EvB F Γ (.Call (.Attribute o name apos) es [] pos) c := .mk fun W O ok s p => by
  rw [arm_eval_Call, hbase]
  refine wpAny_bind (x.use ok p fun ov s₁ k₁ p₁ r₁ => ?_)
  have r₁ : ov = .ref a := r₁
  subst r₁
  refine wpAny_bind (wpAny_standAt ?_)
  have hany : (backTo pos (starEach es F.env)).any (·.1) = false := by rw [backTo_plain]; exact hn _
  have hall : (backTo pos (starEach es F.env)).all (!·.1) = true := by
    rw [List.all_eq_true]
    intro q hq
    have := List.any_eq_false.mp hany q hq
    simpa using this
  have hform : methodCallForm (es.length + ([] : List Keyword).length) (backTo pos (starEach es F.env)) (backToKw pos (keywordEach [] F.env)) = true := by
    unfold methodCallForm
    rw [hall]
    have : es.length < 29 := of_decide_eq_true hlen
    show (true && true && decide (es.length + 0 + 0 < 30)) = true
    simp; (first | lia | omega)
  have hpos : methodCallPos true o F.env apos pos = pure pos := by unfold methodCallPos; simp [hline]
  unfold methodCall
  rw [hform]
  have X : F.K.In s₁.heap := fun a o e => p₁.st.g _ _ (ok.cx.KIn a o e)
  have I : InstAt s₁.heap a (instObj C dx) C (some emptyDict) := ⟨p₁.st.g _ _ ha, rfl, rfl, p₁.st.g _ _ hdx⟩
  refine wpAny_bind (wpAny_holding (method_fn X I (plainGet_of hg).1 (plainGet_of hg).2 hf (beq_iff_eq.mp ht) (by rfl) ?_))
  refine wpAny_bind (wpAny_of_eq hpos ?_)
  refine callWith_function_kw (o := fo) (fd := fd) (evalArgs_any hany rfl (wpAny_mono (y.run W O ok s₁ p₁) (fun vs s₂ hh₀ => ?_) fun _ _ f => f.elim))
  obtain ⟨k₂, r₂⟩ := hh₀
  refine wpAny_evalAll_nil ?_
  refine ⟨⟨(p₁.keeps k₂).st.g _ _ hfo, hfd⟩, ?_⟩
  exact wpAny_mono (h.run ok.cx W s₂ (.ref a :: vs) [] (p₁.keeps k₂).st (.cons (b := .val (.ref a)) rfl r₂) .nil) (fun r s₃ ⟨k₃, r₃⟩ => ⟨keeps_trans (keeps_trans k₁ k₂) k₃, r₃⟩) fun _ _ f => f
end
end Mine

namespace Mine
open PySem PySem.W PyProof.Rows PySem.Calls
set_option maxRecDepth 100000

section
variable {F : Fm} {Γ Γ' : List (Str × Bd)} {own : Own} {out : Out}
theorem names2 {x y : Str} {p q : Pos} : ∀ t ∈ [Expr.Name x p, .Name y q], ∃ x pos, t = .Name x pos := fun t ht => by
  rcases List.mem_cons.mp ht with rfl | ht
  · exact ⟨_, _, rfl⟩
  · rw [List.mem_singleton] at ht
    exact ⟨_, _, ht⟩
end
end Mine

namespace Mine
open PySem PySem.W PyProof.Rows PySem.Calls
set_option maxRecDepth 100000

section
variable {F : Fm} {Γ Γ' : List (Str × Bd)} {own : Own} {out : Out}
theorem ev_neg {e : Expr} {pos : Pos} {a : Int} (x : EvE F Γ e (.int a)) : EvE F Γ (.UnaryOp .USub e pos) (.int (-a)) := .mk fun W O ok s p =>
  wpAny_UnaryOp (x.use ok p fun v s₁ k₁ p₁ r₁ => by
    (first | obtain rfl := BAll.inv0 r₁ | obtain ⟨_, rfl⟩ := Rep.inv_int r₁ | obtain ⟨_, rfl⟩ := Rep.inv_str r₁ | obtain rfl := Rep.inv_none r₁ | cases r₁)
    exact P.neg_int ⟨keeps_trans k₁ (keeps_tok s₁ _), .int _ _⟩)
theorem ev_strL {x : Str} {l : List Nat} {k : Nat} {pos : Pos} (h : x = st l) : EvE F Γ (.Constant (.str x) k pos) (.str (st l)) := h ▸ ev_str
end

/-- the bits of a number, as signs -/
def figs (n : Int) (m : Nat) : List Nat := (List.range m).reverse.map fun k => 48 + (n / 2 ^ k % 2).toNat
theorem filter_tt {α : Type} (l : List α) : l.filter (fun _ => true) = l := by simp
end Mine

namespace Mine
open PySem PySem.W PyProof.Rows PySem.Calls
set_option maxRecDepth 100000

theorem lookup_sub {cl cells : List (Str × Addr)} (h : ∀ p ∈ cl, cells.lookup p.1 = some p.2) : ∀ y c, cl.lookup y = some c → cells.lookup y = some c := fun y c e => h (y, c) (mem_of_lookup e)

/-- plain data: ints, texts, lists of such -/
inductive Pl : Nat → PyData → Prop
  | int {n : Nat} (i : Int) : Pl n (.int i)
  | str {n : Nat} (l : List Nat) : (∀ c ∈ l, c < 0x110000) → Pl n (.str (st l))
  | list {n : Nat} (ds : List PyData) : (∀ d ∈ ds, Pl n d) → Pl (n + 1) (.list ds)
theorem strOk_st {l : List Nat} (h : ∀ c ∈ l, c < 0x110000) : PyData.strOk (st l) = true := by
  unfold PyData.strOk st
  rw [List.all_toArray, List.all_eq_true]
  intro c hc
  exact decide_eq_true (h c hc)
theorem canLayAll0_of {ds : List PyData} (h : ∀ d ∈ ds, d.canLay0 = true) : PyData.canLayAll0 ds = true := by
  induction ds with
  | nil => rfl
  | cons d r ih =>
    unfold PyData.canLayAll0
    rw [h d (.head _), ih fun e he => h e (.tail _ he)]
    rfl
theorem depthAll_of {ds : List PyData} {n : Nat} (h : ∀ d ∈ ds, d.depth ≤ n) : PyData.depthAll ds ≤ n := by
  induction ds with
  | nil => unfold PyData.depthAll; (first | lia | omega)
  | cons d r ih =>
    unfold PyData.depthAll
    have := h d (.head _)
    have := ih fun e he => h e (.tail _ he)
    (first | lia | omega)
theorem Pl.lay {n : Nat} {d : PyData} (h : Pl n d) : d.canLay0 = true ∧ d.depth ≤ n := by
  induction h with
  | int i => exact ⟨by unfold PyData.canLay0; rfl, by unfold PyData.depth; (first | lia | omega)⟩
  | str l hl => exact ⟨by unfold PyData.canLay0; exact strOk_st hl, by unfold PyData.depth; (first | lia | omega)⟩
  | list ds hd ih =>
    refine ⟨by unfold PyData.canLay0; exact canLayAll0_of fun d hd => (ih d hd).1, ?_⟩
    unfold PyData.depth
    have := depthAll_of fun d hd => (ih d hd).2
    (first | lia | omega)
theorem Pl.shaped {n : Nat} {d : PyData} (h : Pl n d) (hn : n ≤ 64) : SeqAt.shaped d = true := by
  obtain ⟨a, b⟩ := h.lay
  unfold SeqAt.shaped
  rw [a, decide_eq_true (by first | decide | assumption | with_reducible exact Int.natCast_nonneg _ | with_reducible exact Nat.le_trans (by assumption) (by decide) | with_reducible exact Nat.lt_of_lt_of_le (by assumption) (by decide) | with_reducible exact lt_mil (Nat.lt_of_lt_of_le (by assumption) (by decide)) | with_reducible exact lt_mil (Nat.lt_of_le_of_lt (by assumption) (by decide)) | with_reducible exact Nat.le_trans (Nat.le_of_lt (by assumption)) (by decide) | (first | lia | omega))]; rfl
theorem beq_str_iff (a b : Str) : (a == b) = true ↔ a = b := by rw [beq_str]; exact decide_eq_true_iff
theorem Pl.eqv {n : Nat} {a : PyData} (h : Pl n a) : ∀ {m : Nat} {b : PyData}, Pl m b → (PyData.eqv a b = true ↔ a = b) := by
  induction h with
  | int i =>
    intro m b h'
    cases h' with
    | int j => unfold PyData.eqv; simp
    | str l hl => unfold PyData.eqv; simp
    | list ds hd => unfold PyData.eqv; simp
  | str l hl =>
    intro m b h'
    cases h' with
    | int j => unfold PyData.eqv; simp
    | str l' hl' => unfold PyData.eqv; rw [beq_str_iff]; simp
    | list ds hd => unfold PyData.eqv; simp
  | list ds hd ih =>
    intro m b h'
    cases h' with
    | int j => unfold PyData.eqv; simp
    | str l' hl' => unfold PyData.eqv; simp
    | list es he =>
      unfold PyData.eqv
      rw [PyData.list.injEq]
      clear hd
      induction ds generalizing es with
      | nil => cases es with
        | nil => unfold PyData.eqvAll; simp
        | cons e r => unfold PyData.eqvAll; simp
      | cons d r ih2 => cases es with
        | nil => unfold PyData.eqvAll; simp
        | cons e r' =>
          unfold PyData.eqvAll
          rw [Bool.and_eq_true, ih d (.head _) (he e (.head _)), ih2 (fun d hd m b hb => ih d (.tail _ hd) hb) r' (fun e h => he e (.tail _ h)), List.cons.injEq]
section
variable {F : Fm}
theorem cmpR_eq_pl {n m : Nat} {a b : PyData} {c : Bool} (ha : Pl n a) (hb : Pl m b) (h : c = true ↔ a = b) (hn : n ≤ 64 := by omega) (hm : m ≤ 64 := by omega) : CmpR F .Eq (.dat a) (.dat b) c := by
  have : PyData.eqv a b = c := Bool.eq_iff_iff.mpr ((ha.eqv hb).trans h.symm)
  exact this ▸ cmpR_eq_data (ha.shaped hn) (hb.shaped hm)
theorem cmpR_ne_pl {n m : Nat} {a b : PyData} {c : Bool} (ha : Pl n a) (hb : Pl m b) (h : c = true ↔ a ≠ b) (hn : n ≤ 64 := by omega) (hm : m ≤ 64 := by omega) : CmpR F .NotEq (.dat a) (.dat b) c := by
  have : (!PyData.eqv a b) = c := by
    apply Bool.eq_iff_iff.mpr
    have q := ha.eqv hb
    rw [h, ne_eq, ← q]
    simp
  exact this ▸ cmpR_ne_data (ha.shaped hn) (hb.shaped hm)
end
end Mine

namespace Mine
open PySem PySem.W PyProof.Rows PySem.Calls
set_option maxRecDepth 100000

section
variable {C : Cx} {W : Addr → Prop} {s : Shared} {f : Addr} {o : Obj} {name qual : Str} {params : Arguments} {body : List Stmt} {scope : Scope} {dV kV doc pm cdv ct : Value} {an : Option Addr}
  {args : Args} {binds : List (Str × Value)} {bs : List Bd} {b : Bd}
end
section
variable {F : Fm} {Γ Γ' : List (Str × Bd)} {own : Own}
theorem ev_acomp {elt target iter : Expr} {ifs : List Expr} {scope : Scope} {pos : Pos} (cl : List (Str × Addr)) {items : List PyData} (Γc : List (Str × Bd)) (p : PyData → Bool) (f : PyData → PyData) (res : List PyData)
    (hi : EvI F Γ iter items) (hz : items.length ≤ 100000) (he : (items.filter p).map f = res)
    (hb : ∀ L, ∀ d ∈ items, ∃ Γd, Asg (F.comp scope cl L) Γc none target d Γd ∧ EvTs (F.comp scope cl L) Γd ifs (p d) ∧ (p d = true → EvE (F.comp scope cl L) Γd elt (f d)))
    (hv : ∀ q ∈ Γc, q ∈ Γ ∧ CompSees F scope cl q.1)
    (hcl : closureFor scope F.env = pure cl) (hsub : ∀ y c, cl.lookup y = some c → F.env.cells.lookup y = some c)
    (hcell : (scope.names.all fun y => y.2 != .cell) = true := by decide) (hkind : scope.kind = .function := by rfl) (hnames : (scope.names.all fun y => y.2 != .local || scope.names.lookup y.1 == some .local) = true := by decide)
    (hs : ∀ x, foldedSetIterable iter F.env x = pure x := by intro _; rfl) : EvE F Γ (.ListComp elt [⟨target, iter, ifs, 0⟩] scope pos) (.list res) := he ▸ ev_comp Γc p f hcl hsub hi hz hv hb hcell hkind hnames hs
theorem ex_acomp {x : Str} {px pos : Pos} {elt target iter : Expr} {ifs : List Expr} {scope : Scope} {cpos : Pos} (cl : List (Str × Addr)) {items : List PyData} (Γc : List (Str × Bd)) (p : PyData → Bool) (f : PyData → PyData) (res : List PyData)
    (hi : EvI F (gam Γ own) iter items) (hz : items.length ≤ 100000) (he : (items.filter p).map f = res)
    (hb : ∀ L, ∀ d ∈ items, ∃ Γd, Asg (F.comp scope cl L) Γc none target d Γd ∧ EvTs (F.comp scope cl L) Γd ifs (p d) ∧ (p d = true → EvE (F.comp scope cl L) Γd elt (f d)))
    (hv : ∀ q ∈ Γc, q ∈ gam Γ own ∧ CompSees F scope cl q.1)
    (hcl : closureFor scope F.env = pure cl) (hsub : ∀ y c, cl.lookup y = some c → F.env.cells.lookup y = some c)
    (hsw : swapsWith (.ListComp elt [⟨target, iter, ifs, 0⟩] scope cpos) (some (.Name x px)) pos.line F.env = pure true)
    (hk : Sto F x) (hx : ∀ y ds, own = some (y, ds) → y ≠ x) (hΓ : ∀ q ∈ Γ', q = (x, .dat (.list res)) ∨ (q ∈ Γ ∧ q.1 ≠ x))
    (hcell : (scope.names.all fun y => y.2 != .cell) = true := by decide) (hkind : scope.kind = .function := by rfl) (hnames : (scope.names.all fun y => y.2 != .local || scope.names.lookup y.1 == some .local) = true := by decide)
    (hs : ∀ x, foldedSetIterable iter F.env x = pure x := by intro _; rfl) :
    ExG F Γ own (exec (.Assign [.Name x px] (.ListComp elt [⟨target, iter, ifs, 0⟩] scope cpos) pos) F.env) (.next Γ' own) :=
  ex_assign_comp Γc p f hsw hcl hsub hi hz hv hb hk hx (he ▸ hΓ) hcell hkind hnames hs
theorem map_at {α : Type} (l : List α) (g : α → PyData) {i : Nat} (h : i < (l.map g).length) : ∃ a, l[i]? = some a ∧ (l.map g)[i] = g a := by
  rw [List.length_map] at h
  exact ⟨l[i], List.getElem?_eq_getElem h, by simp⟩
theorem filter_tt' {α β : Type} (l : List α) (f : α → β) : (l.filter fun _ => true).map f = l.map f := by rw [filter_tt]
end
end Mine

set_option maxRecDepth 100000
namespace Mine
open PySem PySem.W PyProof.Rows
/-- the top, run at once by the kernel, by the library's quick forms: the compiled proof is a fifth of open_top's own -/
theorem left_boot {p q : Program} {loose : List Str} {Xt : Shared → Bool} {α : Type} {Yf : Shared → α} {Ya : World → α} {N : Nat} {g0 : Bool} (e : opening p = plainProg p.main.scope.names) (hN : Nat.ble 600 N = true) (f : ∀ s, fenceModules? p s = some s)
    (h : ∀ (w : World) (os : OsState), (topFrom treeTable p w N ⟨boot_heap w.params, Array.mk [], boot_drawn, boot_toks, os⟩).map (fun s => (openSeen q loose (importedModules p.main.body) Xt g0 s, Yf s)) = some (openGood q loose, Ya w)) : LeftO p q loose Xt Yf Ya N g0 := fun w => by
  obtain ⟨⟨h1, gs, d, k, os⟩, e1, e2⟩ := Option.map_eq_some_iff.mp (boot_open e hN f w)
  obtain ⟨rfl, rfl, rfl, rfl⟩ : h1 = boot_heap w.params ∧ gs = Array.mk [] ∧ d = boot_drawn ∧ k = boot_toks := by simpa using e2
  unfold openEnds
  rw [e1]
  exact h w os
noncomputable def view1 : Program := { (PySem.Challenge.rw_il0215_01.row.toRowW.prog) with main := { (PySem.Challenge.rw_il0215_01.row.toRowW.prog).main with body := [0,1,8,10,11,12,13,14,15,16,17].filterMap fun i => (PySem.Challenge.rw_il0215_01.row.toRowW.prog).main.body[i]? } }
local macro_rules
  | `(tactic| o_head $H) => `(tactic| (
    refine holds_open (q := view1) (loose := [Str.ofString "insort_right", Str.ofString "bisect_right", Str.ofString "insort_left", Str.ofString "bisect_left"]) (Xt := fun s => xlAt view1 [] s && recOk (RowW.records (PySem.Challenge.rw_il0215_01.row.toRowW)) s) (XP := XL view1 []) (Yf := Hook.obs $H) (Ya := Hook.val $H) (YP := Hook.says $H) (N := 2088) ?hl (Hook.of $H) (Hook.keeps $H) (fun s e => xl_of s (Bool.and_eq_true_iff.mp e).1) XL.keeps (by rfl) (by rfl) (by rfl) (fun s e => recFacts_of (Bool.and_eq_true_iff.mp e).2) (by first | rfl | fail "open_line: no head takes a call that writes beside a table") (by first | assumption | decide +kernel) (by decide +kernel) ⟨rfl, rfl, rfl, rfl, rfl, by decide +kernel⟩ ?hw ?hc
    (case hl => refine left_boot (by kernel_rfl) (by rfl) (fun s => by kernel_rfl) (fun w os => ?_); unfold topFrom; rw [PySem.W.Fast.te14082659384304107361, PySem.W.Fast.te14364793385576792824, PySem.W.Fast.te4187177175401517315]; kernel_rfl)))
open PySem PySem.W PyProof.Rows in
set_option maxHeartbeats 0 in
open_top hd1 for PySem.Challenge.rw_il0215_01
end Mine

namespace Mine
open PySem PySem.W PyProof.Rows PySem.Calls
set_option maxRecDepth 100000

structure Is1 (P : Params) (C : Cx) : Prop where
  K : C.K = hd1.heap_39 P
  g : ∀ a o, C.K.lookup a = some o → C.g a = some o
  mg : ∀ n v, nsIn C.K mainGlobals n = some v → C.mg n = v

section
variable {P : Params} {C : Cx}
theorem Is1.lk (I : Is1 P C) {a : Addr} {o : Obj} (h : (hd1.heap_39 P).lookup a = some o) : C.K.lookup a = some o := I.K ▸ h
theorem Is1.at (I : Is1 P C) {a : Addr} {o : Obj} (h : (hd1.heap_39 P).lookup a = some o) : C.g a = some o := I.g _ _ (I.lk h)
theorem Is1.gl (I : Is1 P C) {n : Str} {v : Option Value} (h : nsIn (hd1.heap_39 P) mainGlobals n = some v) : C.mg n = v := I.mg n v (I.K ▸ h)
theorem Is1.inn (I : Is1 P C) {W : Addr → Prop} {s : Shared} (S : C.St W s) : (hd1.heap_39 P).In s.heap := fun a o e => S.g _ _ (I.at e)
theorem Is1.into (I : Is1 P C) (env : Env) : Is1 P (C.into env).toCx := ⟨I.K, I.g, I.mg⟩
theorem br_key4 (I : Is1 P C) (hf : 0 < C.fuel) {ds : List PyData} {x : PyData} {p : Nat} {kv : Addr} {ko : Obj} {kd : FuncData} {key : PyData → PyData} (hko : C.g kv = some ko) (hkd : ko.data = .func kd) (hk : ∀ C', Like 1 C C' → ∀ d ∈ ds, CallOk C' (.ref kv) [.dat d] [] [] (.dat (key d))) (hz : ds.length ≤ 1000) (hp : p ≤ ds.length) (hc : ∀ F i, (h : i < ds.length) → CmpR F .Lt (.dat x) (.dat (key ds[i])) (decide (p ≤ i))) :
    CallOk C (.ref 46) [.lst ds, .dat x, .dat (.int 0), .dat .none] [Str.ofString "key"] [.val (.ref kv)] (.dat (.int p)) :=
  callOk_of fun ok W s vs ks S hx hy => by
    obtain ⟨_, _, _, _, rfl, r1, r2, r3, r4⟩ := BAll.inv4 hx
    obtain ⟨_, rfl, r5⟩ := BAll.inv1 hy
    refine enter ok hf S (I.lk (a := 46) rfl) (by rw [I.K]; rfl) (binds := [(Str.ofString "a", _), (Str.ofString "x", _), (Str.ofString "lo", _), (Str.ofString "hi", _), (Str.ofString "key", _)]) (kp_binds (K := hd1.heap_39 P) (I.inn S) (fun _ => rfl))
      (.cons r1 (.cons r2 (.cons r3 (.cons r4 (.cons r5 .nil))))) (show [Str.ofString "a", Str.ofString "x", Str.ofString "lo", Str.ofString "hi", Str.ofString "key"].Nodup by decide) rfl fun L => ?_
    refine ex_cons (ex_if_false (et_cmp (ev_var (by first | exact mem_at 0 rfl | exact mem_at 1 rfl | exact mem_at 2 rfl | exact mem_at 3 rfl | exact mem_at 4 rfl | exact mem_at 5 rfl | exact mem_at 6 rfl | exact mem_at 7 rfl | exact mem_at 8 rfl | exact mem_at 9 rfl | exact mem_at 10 rfl | exact mem_at 11 rfl | exact mem_at 12 rfl | exact mem_at 13 rfl | exact mem_at 14 rfl | exact mem_at 15 rfl | exact mem_at 16 rfl | exact mem_at 17 rfl | exact mem_at 18 rfl | exact mem_at 19 rfl | exact mem_at 20 rfl | exact mem_at 21 rfl)) ev_int cmpR_lt_int) ex_nil) ?_
    refine ex_cons (ex_if_true (et_cmp (ev_var (by first | exact mem_at 0 rfl | exact mem_at 1 rfl | exact mem_at 2 rfl | exact mem_at 3 rfl | exact mem_at 4 rfl | exact mem_at 5 rfl | exact mem_at 6 rfl | exact mem_at 7 rfl | exact mem_at 8 rfl | exact mem_at 9 rfl | exact mem_at 10 rfl | exact mem_at 11 rfl | exact mem_at 12 rfl | exact mem_at 13 rfl | exact mem_at 14 rfl | exact mem_at 15 rfl | exact mem_at 16 rfl | exact mem_at 17 rfl | exact mem_at 18 rfl | exact mem_at 19 rfl | exact mem_at 20 rfl | exact mem_at 21 rfl)) ev_none cmpR_is_none) (ex_one (ex_assign (Γ' := [(Str.ofString "lo", .dat (.int (0 : Nat))), (Str.ofString "hi", .dat (.int ds.length)), (Str.ofString "a", .lst ds), (Str.ofString "x", .dat x), (Str.ofString "key", .val (.ref kv))])
      (ev_call_bi (ev_builtin rfl (I.gl rfl) rfl) (evl_cons (ev_var (by first | exact mem_at 0 rfl | exact mem_at 1 rfl | exact mem_at 2 rfl | exact mem_at 3 rfl | exact mem_at 4 rfl | exact mem_at 5 rfl | exact mem_at 6 rfl | exact mem_at 7 rfl | exact mem_at 8 rfl | exact mem_at 9 rfl | exact mem_at 10 rfl | exact mem_at 11 rfl | exact mem_at 12 rfl | exact mem_at 13 rfl | exact mem_at 14 rfl | exact mem_at 15 rfl | exact mem_at 16 rfl | exact mem_at 17 rfl | exact mem_at 18 rfl | exact mem_at 19 rfl | exact mem_at 20 rfl | exact mem_at 21 rfl)) evl_nil) (callOk_len_list (by first | decide | assumption | with_reducible exact Int.natCast_nonneg _ | with_reducible exact Nat.le_trans (by assumption) (by decide) | with_reducible exact Nat.lt_of_lt_of_le (by assumption) (by decide) | with_reducible exact lt_mil (Nat.lt_of_lt_of_le (by assumption) (by decide)) | with_reducible exact lt_mil (Nat.lt_of_le_of_lt (by assumption) (by decide)) | with_reducible exact Nat.le_trans (Nat.le_of_lt (by assumption)) (by decide) | (first | lia | omega)))) (by first | exact Or.inl rfl | exact Or.inr ⟨rfl, rfl, rfl⟩) (by intro y ds e; first | (cases e; done) | (cases e; decide)) (Pk.g (by repeat (first | exact Pk.nil | refine Pk.here ?_ | refine Pk.cons (by first | exact mem_at 0 rfl | exact mem_at 1 rfl | exact mem_at 2 rfl | exact mem_at 3 rfl | exact mem_at 4 rfl | exact mem_at 5 rfl | exact mem_at 6 rfl | exact mem_at 7 rfl | exact mem_at 8 rfl | exact mem_at 9 rfl | exact mem_at 10 rfl | exact mem_at 11 rfl | exact mem_at 12 rfl | exact mem_at 13 rfl | exact mem_at 14 rfl | exact mem_at 15 rfl | exact mem_at 16 rfl | exact mem_at 17 rfl | exact mem_at 18 rfl | exact mem_at 19 rfl | exact mem_at 20 rfl | exact mem_at 21 rfl) rfl ?_)))))) ?_
    refine ex_cons (Γ₁ := [(Str.ofString "lo", .dat (.int p))]) (own₁ := none) (ex_if_false (et_cmp (ev_var (by first | exact mem_at 0 rfl | exact mem_at 1 rfl | exact mem_at 2 rfl | exact mem_at 3 rfl | exact mem_at 4 rfl | exact mem_at 5 rfl | exact mem_at 6 rfl | exact mem_at 7 rfl | exact mem_at 8 rfl | exact mem_at 9 rfl | exact mem_at 10 rfl | exact mem_at 11 rfl | exact mem_at 12 rfl | exact mem_at 13 rfl | exact mem_at 14 rfl | exact mem_at 15 rfl | exact mem_at 16 rfl | exact mem_at 17 rfl | exact mem_at 18 rfl | exact mem_at 19 rfl | exact mem_at 20 rfl | exact mem_at 21 rfl)) ev_none cmpR_is_none_ref) ?_) (ex_one (ex_return (ev_var (by first | exact mem_at 0 rfl | exact mem_at 1 rfl | exact mem_at 2 rfl | exact mem_at 3 rfl | exact mem_at 4 rfl | exact mem_at 5 rfl | exact mem_at 6 rfl | exact mem_at 7 rfl | exact mem_at 8 rfl | exact mem_at 9 rfl | exact mem_at 10 rfl | exact mem_at 11 rfl | exact mem_at 12 rfl | exact mem_at 13 rfl | exact mem_at 14 rfl | exact mem_at 15 rfl | exact mem_at 16 rfl | exact mem_at 17 rfl | exact mem_at 18 rfl | exact mem_at 19 rfl | exact mem_at 20 rfl | exact mem_at 21 rfl))))
    refine ex_while (σ := Nat × Nat) (fun q => [(Str.ofString "lo", .dat (.int q.1)), (Str.ofString "hi", .dat (.int q.2)), (Str.ofString "a", .lst ds), (Str.ofString "x", .dat x), (Str.ofString "key", .val (.ref kv))]) (fun q => q.1 ≤ p ∧ p ≤ q.2 ∧ q.2 ≤ ds.length) (fun q => q.2 - q.1) (fun q => decide (q.1 < q.2)) ?_ ?_ (0, ds.length) ⟨by (first | lia | omega), hp, by (first | lia | omega)⟩ ?_
    · intro q hq
      exact et_cmp (ev_var (by first | exact mem_at 0 rfl | exact mem_at 1 rfl | exact mem_at 2 rfl | exact mem_at 3 rfl | exact mem_at 4 rfl | exact mem_at 5 rfl | exact mem_at 6 rfl | exact mem_at 7 rfl | exact mem_at 8 rfl | exact mem_at 9 rfl | exact mem_at 10 rfl | exact mem_at 11 rfl | exact mem_at 12 rfl | exact mem_at 13 rfl | exact mem_at 14 rfl | exact mem_at 15 rfl | exact mem_at 16 rfl | exact mem_at 17 rfl | exact mem_at 18 rfl | exact mem_at 19 rfl | exact mem_at 20 rfl | exact mem_at 21 rfl)) (ev_var (by first | exact mem_at 0 rfl | exact mem_at 1 rfl | exact mem_at 2 rfl | exact mem_at 3 rfl | exact mem_at 4 rfl | exact mem_at 5 rfl | exact mem_at 6 rfl | exact mem_at 7 rfl | exact mem_at 8 rfl | exact mem_at 9 rfl | exact mem_at 10 rfl | exact mem_at 11 rfl | exact mem_at 12 rfl | exact mem_at 13 rfl | exact mem_at 14 rfl | exact mem_at 15 rfl | exact mem_at 16 rfl | exact mem_at 17 rfl | exact mem_at 18 rfl | exact mem_at 19 rfl | exact mem_at 20 rfl | exact mem_at 21 rfl)) cmpR_ltN
    · intro q hq hlt
      have hlt : q.1 < q.2 := by simpa using hlt
      obtain ⟨q1, q2, q3⟩ := hq
      have hm : (q.1 + q.2) / 2 < ds.length := by (first | lia | omega)
      refine ⟨if p ≤ (q.1 + q.2) / 2 then (q.1, (q.1 + q.2) / 2) else ((q.1 + q.2) / 2 + 1, q.2), by split <;> (dsimp only; (first | lia | omega)), by split <;> (dsimp only; (first | lia | omega)), ?_⟩
      refine ex_cons (ex_assign (Γ' := [(Str.ofString "mid", .dat (.int ((q.1 + q.2) / 2 : Nat))), (Str.ofString "lo", .dat (.int q.1)), (Str.ofString "hi", .dat (.int q.2)), (Str.ofString "a", .lst ds), (Str.ofString "x", .dat x), (Str.ofString "key", .val (.ref kv))]) (ev_bin (ev_bin (ev_var (by first | exact mem_at 0 rfl | exact mem_at 1 rfl | exact mem_at 2 rfl | exact mem_at 3 rfl | exact mem_at 4 rfl | exact mem_at 5 rfl | exact mem_at 6 rfl | exact mem_at 7 rfl | exact mem_at 8 rfl | exact mem_at 9 rfl | exact mem_at 10 rfl | exact mem_at 11 rfl | exact mem_at 12 rfl | exact mem_at 13 rfl | exact mem_at 14 rfl | exact mem_at 15 rfl | exact mem_at 16 rfl | exact mem_at 17 rfl | exact mem_at 18 rfl | exact mem_at 19 rfl | exact mem_at 20 rfl | exact mem_at 21 rfl)) (ev_var (by first | exact mem_at 0 rfl | exact mem_at 1 rfl | exact mem_at 2 rfl | exact mem_at 3 rfl | exact mem_at 4 rfl | exact mem_at 5 rfl | exact mem_at 6 rfl | exact mem_at 7 rfl | exact mem_at 8 rfl | exact mem_at 9 rfl | exact mem_at 10 rfl | exact mem_at 11 rfl | exact mem_at 12 rfl | exact mem_at 13 rfl | exact mem_at 14 rfl | exact mem_at 15 rfl | exact mem_at 16 rfl | exact mem_at 17 rfl | exact mem_at 18 rfl | exact mem_at 19 rfl | exact mem_at 20 rfl | exact mem_at 21 rfl)) (binR_addN rfl)) ev_int (binR_divN (k := 2) rfl rfl (by first | decide | assumption | with_reducible exact Int.natCast_nonneg _ | with_reducible exact Nat.le_trans (by assumption) (by decide) | with_reducible exact Nat.lt_of_lt_of_le (by assumption) (by decide) | with_reducible exact lt_mil (Nat.lt_of_lt_of_le (by assumption) (by decide)) | with_reducible exact lt_mil (Nat.lt_of_le_of_lt (by assumption) (by decide)) | with_reducible exact Nat.le_trans (Nat.le_of_lt (by assumption)) (by decide) | (first | lia | omega)) (by first | decide | assumption | with_reducible exact Int.natCast_nonneg _ | with_reducible exact Nat.le_trans (by assumption) (by decide) | with_reducible exact Nat.lt_of_lt_of_le (by assumption) (by decide) | with_reducible exact lt_mil (Nat.lt_of_lt_of_le (by assumption) (by decide)) | with_reducible exact lt_mil (Nat.lt_of_le_of_lt (by assumption) (by decide)) | with_reducible exact Nat.le_trans (Nat.le_of_lt (by assumption)) (by decide) | (first | lia | omega)))) (by first | exact Or.inl rfl | exact Or.inr ⟨rfl, rfl, rfl⟩) (by intro y ds e; first | (cases e; done) | (cases e; decide)) (Pk.g (by repeat (first | exact Pk.nil | refine Pk.here ?_ | refine Pk.cons (by first | exact mem_at 0 rfl | exact mem_at 1 rfl | exact mem_at 2 rfl | exact mem_at 3 rfl | exact mem_at 4 rfl | exact mem_at 5 rfl | exact mem_at 6 rfl | exact mem_at 7 rfl | exact mem_at 8 rfl | exact mem_at 9 rfl | exact mem_at 10 rfl | exact mem_at 11 rfl | exact mem_at 12 rfl | exact mem_at 13 rfl | exact mem_at 14 rfl | exact mem_at 15 rfl | exact mem_at 16 rfl | exact mem_at 17 rfl | exact mem_at 18 rfl | exact mem_at 19 rfl | exact mem_at 20 rfl | exact mem_at 21 rfl) rfl ?_)))) ?_
      refine ex_one (ex_if (et_cmp (ev_var (by first | exact mem_at 0 rfl | exact mem_at 1 rfl | exact mem_at 2 rfl | exact mem_at 3 rfl | exact mem_at 4 rfl | exact mem_at 5 rfl | exact mem_at 6 rfl | exact mem_at 7 rfl | exact mem_at 8 rfl | exact mem_at 9 rfl | exact mem_at 10 rfl | exact mem_at 11 rfl | exact mem_at 12 rfl | exact mem_at 13 rfl | exact mem_at 14 rfl | exact mem_at 15 rfl | exact mem_at 16 rfl | exact mem_at 17 rfl | exact mem_at 18 rfl | exact mem_at 19 rfl | exact mem_at 20 rfl | exact mem_at 21 rfl)) (ev_def (ev_var (by first | exact mem_at 0 rfl | exact mem_at 1 rfl | exact mem_at 2 rfl | exact mem_at 3 rfl | exact mem_at 4 rfl | exact mem_at 5 rfl | exact mem_at 6 rfl | exact mem_at 7 rfl | exact mem_at 8 rfl | exact mem_at 9 rfl | exact mem_at 10 rfl | exact mem_at 11 rfl | exact mem_at 12 rfl | exact mem_at 13 rfl | exact mem_at 14 rfl | exact mem_at 15 rfl | exact mem_at 16 rfl | exact mem_at 17 rfl | exact mem_at 18 rfl | exact mem_at 19 rfl | exact mem_at 20 rfl | exact mem_at 21 rfl)) (evl_cons (ev_item (ev_var (by first | exact mem_at 0 rfl | exact mem_at 1 rfl | exact mem_at 2 rfl | exact mem_at 3 rfl | exact mem_at 4 rfl | exact mem_at 5 rfl | exact mem_at 6 rfl | exact mem_at 7 rfl | exact mem_at 8 rfl | exact mem_at 9 rfl | exact mem_at 10 rfl | exact mem_at 11 rfl | exact mem_at 12 rfl | exact mem_at 13 rfl | exact mem_at 14 rfl | exact mem_at 15 rfl | exact mem_at 16 rfl | exact mem_at 17 rfl | exact mem_at 18 rfl | exact mem_at 19 rfl | exact mem_at 20 rfl | exact mem_at 21 rfl)) (ev_var (by first | exact mem_at 0 rfl | exact mem_at 1 rfl | exact mem_at 2 rfl | exact mem_at 3 rfl | exact mem_at 4 rfl | exact mem_at 5 rfl | exact mem_at 6 rfl | exact mem_at 7 rfl | exact mem_at 8 rfl | exact mem_at 9 rfl | exact mem_at 10 rfl | exact mem_at 11 rfl | exact mem_at 12 rfl | exact mem_at 13 rfl | exact mem_at 14 rfl | exact mem_at 15 rfl | exact mem_at 16 rfl | exact mem_at 17 rfl | exact mem_at 18 rfl | exact mem_at 19 rfl | exact mem_at 20 rfl | exact mem_at 21 rfl)) (getR_list (d := ds[(q.1 + q.2) / 2]) (by first | decide | assumption | with_reducible exact Int.natCast_nonneg _ | with_reducible exact Nat.le_trans (by assumption) (by decide) | with_reducible exact Nat.lt_of_lt_of_le (by assumption) (by decide) | with_reducible exact lt_mil (Nat.lt_of_lt_of_le (by assumption) (by decide)) | with_reducible exact lt_mil (Nat.lt_of_le_of_lt (by assumption) (by decide)) | with_reducible exact Nat.le_trans (Nat.le_of_lt (by assumption)) (by decide) | (first | lia | omega)) (by rw [Int.toNat_natCast]; exact List.getElem?_eq_getElem hm) (by first | decide | assumption | with_reducible exact Int.natCast_nonneg _ | with_reducible exact Nat.le_trans (by assumption) (by decide) | with_reducible exact Nat.lt_of_lt_of_le (by assumption) (by decide) | with_reducible exact lt_mil (Nat.lt_of_lt_of_le (by assumption) (by decide)) | with_reducible exact lt_mil (Nat.lt_of_le_of_lt (by assumption) (by decide)) | with_reducible exact Nat.le_trans (Nat.le_of_lt (by assumption)) (by decide) | (first | lia | omega)))) evl_nil) evkw_nil hko hkd (hk _ (like_into _ _) _ (List.getElem_mem _))) (hc _ _ hm)) ?_ ?_)
      · intro h
        have h : p ≤ (q.1 + q.2) / 2 := by simpa using h
        rw [if_pos h]
        dsimp only
        exact ex_one (ex_assign (Γ' := [(Str.ofString "lo", .dat (.int q.1)), (Str.ofString "hi", .dat (.int ((q.1 + q.2) / 2 : Nat))), (Str.ofString "a", .lst ds), (Str.ofString "x", .dat x), (Str.ofString "key", .val (.ref kv))]) (ev_var (by first | exact mem_at 0 rfl | exact mem_at 1 rfl | exact mem_at 2 rfl | exact mem_at 3 rfl | exact mem_at 4 rfl | exact mem_at 5 rfl | exact mem_at 6 rfl | exact mem_at 7 rfl | exact mem_at 8 rfl | exact mem_at 9 rfl | exact mem_at 10 rfl | exact mem_at 11 rfl | exact mem_at 12 rfl | exact mem_at 13 rfl | exact mem_at 14 rfl | exact mem_at 15 rfl | exact mem_at 16 rfl | exact mem_at 17 rfl | exact mem_at 18 rfl | exact mem_at 19 rfl | exact mem_at 20 rfl | exact mem_at 21 rfl)) (by first | exact Or.inl rfl | exact Or.inr ⟨rfl, rfl, rfl⟩) (by intro y ds e; first | (cases e; done) | (cases e; decide)) (Pk.g (by repeat (first | exact Pk.nil | refine Pk.here ?_ | refine Pk.cons (by first | exact mem_at 0 rfl | exact mem_at 1 rfl | exact mem_at 2 rfl | exact mem_at 3 rfl | exact mem_at 4 rfl | exact mem_at 5 rfl | exact mem_at 6 rfl | exact mem_at 7 rfl | exact mem_at 8 rfl | exact mem_at 9 rfl | exact mem_at 10 rfl | exact mem_at 11 rfl | exact mem_at 12 rfl | exact mem_at 13 rfl | exact mem_at 14 rfl | exact mem_at 15 rfl | exact mem_at 16 rfl | exact mem_at 17 rfl | exact mem_at 18 rfl | exact mem_at 19 rfl | exact mem_at 20 rfl | exact mem_at 21 rfl) rfl ?_))))
      · intro h
        have h : ¬ p ≤ (q.1 + q.2) / 2 := by simpa using h
        rw [if_neg h]
        dsimp only
        exact ex_one (ex_assign (Γ' := [(Str.ofString "lo", .dat (.int ((q.1 + q.2) / 2 + 1 : Nat))), (Str.ofString "hi", .dat (.int q.2)), (Str.ofString "a", .lst ds), (Str.ofString "x", .dat x), (Str.ofString "key", .val (.ref kv))]) (ev_bin (ev_var (by first | exact mem_at 0 rfl | exact mem_at 1 rfl | exact mem_at 2 rfl | exact mem_at 3 rfl | exact mem_at 4 rfl | exact mem_at 5 rfl | exact mem_at 6 rfl | exact mem_at 7 rfl | exact mem_at 8 rfl | exact mem_at 9 rfl | exact mem_at 10 rfl | exact mem_at 11 rfl | exact mem_at 12 rfl | exact mem_at 13 rfl | exact mem_at 14 rfl | exact mem_at 15 rfl | exact mem_at 16 rfl | exact mem_at 17 rfl | exact mem_at 18 rfl | exact mem_at 19 rfl | exact mem_at 20 rfl | exact mem_at 21 rfl)) ev_int (binR_addN rfl)) (by first | exact Or.inl rfl | exact Or.inr ⟨rfl, rfl, rfl⟩) (by intro y ds e; first | (cases e; done) | (cases e; decide)) (Pk.g (by repeat (first | exact Pk.nil | refine Pk.here ?_ | refine Pk.cons (by first | exact mem_at 0 rfl | exact mem_at 1 rfl | exact mem_at 2 rfl | exact mem_at 3 rfl | exact mem_at 4 rfl | exact mem_at 5 rfl | exact mem_at 6 rfl | exact mem_at 7 rfl | exact mem_at 8 rfl | exact mem_at 9 rfl | exact mem_at 10 rfl | exact mem_at 11 rfl | exact mem_at 12 rfl | exact mem_at 13 rfl | exact mem_at 14 rfl | exact mem_at 15 rfl | exact mem_at 16 rfl | exact mem_at 17 rfl | exact mem_at 18 rfl | exact mem_at 19 rfl | exact mem_at 20 rfl | exact mem_at 21 rfl) rfl ?_))))
    · intro q hq hlt
      have hlt : ¬ q.1 < q.2 := by simpa using hlt
      have : q.1 = p := by (first | lia | omega)
      rw [this]
      exact ex_sub (Sb.g (by repeat (first | exact Sb.nil | refine Sb.cons (by first | exact mem_at 0 rfl | exact mem_at 1 rfl | exact mem_at 2 rfl | exact mem_at 3 rfl | exact mem_at 4 rfl | exact mem_at 5 rfl | exact mem_at 6 rfl | exact mem_at 7 rfl | exact mem_at 8 rfl | exact mem_at 9 rfl | exact mem_at 10 rfl | exact mem_at 11 rfl | exact mem_at 12 rfl | exact mem_at 13 rfl | exact mem_at 14 rfl | exact mem_at 15 rfl | exact mem_at 16 rfl | exact mem_at 17 rfl | exact mem_at 18 rfl | exact mem_at 19 rfl | exact mem_at 20 rfl | exact mem_at 21 rfl) ?_))) ex_nil
theorem bl_key4 (I : Is1 P C) (hf : 0 < C.fuel) {ds : List PyData} {x : PyData} {p : Nat} {kv : Addr} {ko : Obj} {kd : FuncData} {key : PyData → PyData} (hko : C.g kv = some ko) (hkd : ko.data = .func kd) (hk : ∀ C', Like 1 C C' → ∀ d ∈ ds, CallOk C' (.ref kv) [.dat d] [] [] (.dat (key d))) (hz : ds.length ≤ 1000) (hp : p ≤ ds.length) (hc : ∀ F i, (h : i < ds.length) → CmpR F .Lt (.dat (key ds[i])) (.dat x) (decide (i < p))) :
    CallOk C (.ref 64) [.lst ds, .dat x, .dat (.int 0), .dat .none] [Str.ofString "key"] [.val (.ref kv)] (.dat (.int p)) :=
  callOk_of fun ok W s vs ks S hx hy => by
    obtain ⟨_, _, _, _, rfl, r1, r2, r3, r4⟩ := BAll.inv4 hx
    obtain ⟨_, rfl, r5⟩ := BAll.inv1 hy
    refine enter ok hf S (I.lk (a := 64) rfl) (by rw [I.K]; rfl) (binds := [(Str.ofString "a", _), (Str.ofString "x", _), (Str.ofString "lo", _), (Str.ofString "hi", _), (Str.ofString "key", _)]) (kp_binds (K := hd1.heap_39 P) (I.inn S) (fun _ => rfl))
      (.cons r1 (.cons r2 (.cons r3 (.cons r4 (.cons r5 .nil))))) (show [Str.ofString "a", Str.ofString "x", Str.ofString "lo", Str.ofString "hi", Str.ofString "key"].Nodup by decide) rfl fun L => ?_
    refine ex_cons (ex_if_false (et_cmp (ev_var (by first | exact mem_at 0 rfl | exact mem_at 1 rfl | exact mem_at 2 rfl | exact mem_at 3 rfl | exact mem_at 4 rfl | exact mem_at 5 rfl | exact mem_at 6 rfl | exact mem_at 7 rfl | exact mem_at 8 rfl | exact mem_at 9 rfl | exact mem_at 10 rfl | exact mem_at 11 rfl | exact mem_at 12 rfl | exact mem_at 13 rfl | exact mem_at 14 rfl | exact mem_at 15 rfl | exact mem_at 16 rfl | exact mem_at 17 rfl | exact mem_at 18 rfl | exact mem_at 19 rfl | exact mem_at 20 rfl | exact mem_at 21 rfl)) ev_int cmpR_lt_int) ex_nil) ?_
    refine ex_cons (ex_if_true (et_cmp (ev_var (by first | exact mem_at 0 rfl | exact mem_at 1 rfl | exact mem_at 2 rfl | exact mem_at 3 rfl | exact mem_at 4 rfl | exact mem_at 5 rfl | exact mem_at 6 rfl | exact mem_at 7 rfl | exact mem_at 8 rfl | exact mem_at 9 rfl | exact mem_at 10 rfl | exact mem_at 11 rfl | exact mem_at 12 rfl | exact mem_at 13 rfl | exact mem_at 14 rfl | exact mem_at 15 rfl | exact mem_at 16 rfl | exact mem_at 17 rfl | exact mem_at 18 rfl | exact mem_at 19 rfl | exact mem_at 20 rfl | exact mem_at 21 rfl)) ev_none cmpR_is_none) (ex_one (ex_assign (Γ' := [(Str.ofString "lo", .dat (.int (0 : Nat))), (Str.ofString "hi", .dat (.int ds.length)), (Str.ofString "a", .lst ds), (Str.ofString "x", .dat x), (Str.ofString "key", .val (.ref kv))])
      (ev_call_bi (ev_builtin rfl (I.gl rfl) rfl) (evl_cons (ev_var (by first | exact mem_at 0 rfl | exact mem_at 1 rfl | exact mem_at 2 rfl | exact mem_at 3 rfl | exact mem_at 4 rfl | exact mem_at 5 rfl | exact mem_at 6 rfl | exact mem_at 7 rfl | exact mem_at 8 rfl | exact mem_at 9 rfl | exact mem_at 10 rfl | exact mem_at 11 rfl | exact mem_at 12 rfl | exact mem_at 13 rfl | exact mem_at 14 rfl | exact mem_at 15 rfl | exact mem_at 16 rfl | exact mem_at 17 rfl | exact mem_at 18 rfl | exact mem_at 19 rfl | exact mem_at 20 rfl | exact mem_at 21 rfl)) evl_nil) (callOk_len_list (by first | decide | assumption | with_reducible exact Int.natCast_nonneg _ | with_reducible exact Nat.le_trans (by assumption) (by decide) | with_reducible exact Nat.lt_of_lt_of_le (by assumption) (by decide) | with_reducible exact lt_mil (Nat.lt_of_lt_of_le (by assumption) (by decide)) | with_reducible exact lt_mil (Nat.lt_of_le_of_lt (by assumption) (by decide)) | with_reducible exact Nat.le_trans (Nat.le_of_lt (by assumption)) (by decide) | (first | lia | omega)))) (by first | exact Or.inl rfl | exact Or.inr ⟨rfl, rfl, rfl⟩) (by intro y ds e; first | (cases e; done) | (cases e; decide)) (Pk.g (by repeat (first | exact Pk.nil | refine Pk.here ?_ | refine Pk.cons (by first | exact mem_at 0 rfl | exact mem_at 1 rfl | exact mem_at 2 rfl | exact mem_at 3 rfl | exact mem_at 4 rfl | exact mem_at 5 rfl | exact mem_at 6 rfl | exact mem_at 7 rfl | exact mem_at 8 rfl | exact mem_at 9 rfl | exact mem_at 10 rfl | exact mem_at 11 rfl | exact mem_at 12 rfl | exact mem_at 13 rfl | exact mem_at 14 rfl | exact mem_at 15 rfl | exact mem_at 16 rfl | exact mem_at 17 rfl | exact mem_at 18 rfl | exact mem_at 19 rfl | exact mem_at 20 rfl | exact mem_at 21 rfl) rfl ?_)))))) ?_
    refine ex_cons (Γ₁ := [(Str.ofString "lo", .dat (.int p))]) (own₁ := none) (ex_if_false (et_cmp (ev_var (by first | exact mem_at 0 rfl | exact mem_at 1 rfl | exact mem_at 2 rfl | exact mem_at 3 rfl | exact mem_at 4 rfl | exact mem_at 5 rfl | exact mem_at 6 rfl | exact mem_at 7 rfl | exact mem_at 8 rfl | exact mem_at 9 rfl | exact mem_at 10 rfl | exact mem_at 11 rfl | exact mem_at 12 rfl | exact mem_at 13 rfl | exact mem_at 14 rfl | exact mem_at 15 rfl | exact mem_at 16 rfl | exact mem_at 17 rfl | exact mem_at 18 rfl | exact mem_at 19 rfl | exact mem_at 20 rfl | exact mem_at 21 rfl)) ev_none cmpR_is_none_ref) ?_) (ex_one (ex_return (ev_var (by first | exact mem_at 0 rfl | exact mem_at 1 rfl | exact mem_at 2 rfl | exact mem_at 3 rfl | exact mem_at 4 rfl | exact mem_at 5 rfl | exact mem_at 6 rfl | exact mem_at 7 rfl | exact mem_at 8 rfl | exact mem_at 9 rfl | exact mem_at 10 rfl | exact mem_at 11 rfl | exact mem_at 12 rfl | exact mem_at 13 rfl | exact mem_at 14 rfl | exact mem_at 15 rfl | exact mem_at 16 rfl | exact mem_at 17 rfl | exact mem_at 18 rfl | exact mem_at 19 rfl | exact mem_at 20 rfl | exact mem_at 21 rfl))))
    refine ex_while (σ := Nat × Nat) (fun q => [(Str.ofString "lo", .dat (.int q.1)), (Str.ofString "hi", .dat (.int q.2)), (Str.ofString "a", .lst ds), (Str.ofString "x", .dat x), (Str.ofString "key", .val (.ref kv))]) (fun q => q.1 ≤ p ∧ p ≤ q.2 ∧ q.2 ≤ ds.length) (fun q => q.2 - q.1) (fun q => decide (q.1 < q.2)) ?_ ?_ (0, ds.length) ⟨by (first | lia | omega), hp, by (first | lia | omega)⟩ ?_
    · intro q hq
      exact et_cmp (ev_var (by first | exact mem_at 0 rfl | exact mem_at 1 rfl | exact mem_at 2 rfl | exact mem_at 3 rfl | exact mem_at 4 rfl | exact mem_at 5 rfl | exact mem_at 6 rfl | exact mem_at 7 rfl | exact mem_at 8 rfl | exact mem_at 9 rfl | exact mem_at 10 rfl | exact mem_at 11 rfl | exact mem_at 12 rfl | exact mem_at 13 rfl | exact mem_at 14 rfl | exact mem_at 15 rfl | exact mem_at 16 rfl | exact mem_at 17 rfl | exact mem_at 18 rfl | exact mem_at 19 rfl | exact mem_at 20 rfl | exact mem_at 21 rfl)) (ev_var (by first | exact mem_at 0 rfl | exact mem_at 1 rfl | exact mem_at 2 rfl | exact mem_at 3 rfl | exact mem_at 4 rfl | exact mem_at 5 rfl | exact mem_at 6 rfl | exact mem_at 7 rfl | exact mem_at 8 rfl | exact mem_at 9 rfl | exact mem_at 10 rfl | exact mem_at 11 rfl | exact mem_at 12 rfl | exact mem_at 13 rfl | exact mem_at 14 rfl | exact mem_at 15 rfl | exact mem_at 16 rfl | exact mem_at 17 rfl | exact mem_at 18 rfl | exact mem_at 19 rfl | exact mem_at 20 rfl | exact mem_at 21 rfl)) cmpR_ltN
    · intro q hq hlt
      have hlt : q.1 < q.2 := by simpa using hlt
      obtain ⟨q1, q2, q3⟩ := hq
      have hm : (q.1 + q.2) / 2 < ds.length := by (first | lia | omega)
      refine ⟨if (q.1 + q.2) / 2 < p then ((q.1 + q.2) / 2 + 1, q.2) else (q.1, (q.1 + q.2) / 2), by split <;> (dsimp only; (first | lia | omega)), by split <;> (dsimp only; (first | lia | omega)), ?_⟩
      refine ex_cons (ex_assign (Γ' := [(Str.ofString "mid", .dat (.int ((q.1 + q.2) / 2 : Nat))), (Str.ofString "lo", .dat (.int q.1)), (Str.ofString "hi", .dat (.int q.2)), (Str.ofString "a", .lst ds), (Str.ofString "x", .dat x), (Str.ofString "key", .val (.ref kv))]) (ev_bin (ev_bin (ev_var (by first | exact mem_at 0 rfl | exact mem_at 1 rfl | exact mem_at 2 rfl | exact mem_at 3 rfl | exact mem_at 4 rfl | exact mem_at 5 rfl | exact mem_at 6 rfl | exact mem_at 7 rfl | exact mem_at 8 rfl | exact mem_at 9 rfl | exact mem_at 10 rfl | exact mem_at 11 rfl | exact mem_at 12 rfl | exact mem_at 13 rfl | exact mem_at 14 rfl | exact mem_at 15 rfl | exact mem_at 16 rfl | exact mem_at 17 rfl | exact mem_at 18 rfl | exact mem_at 19 rfl | exact mem_at 20 rfl | exact mem_at 21 rfl)) (ev_var (by first | exact mem_at 0 rfl | exact mem_at 1 rfl | exact mem_at 2 rfl | exact mem_at 3 rfl | exact mem_at 4 rfl | exact mem_at 5 rfl | exact mem_at 6 rfl | exact mem_at 7 rfl | exact mem_at 8 rfl | exact mem_at 9 rfl | exact mem_at 10 rfl | exact mem_at 11 rfl | exact mem_at 12 rfl | exact mem_at 13 rfl | exact mem_at 14 rfl | exact mem_at 15 rfl | exact mem_at 16 rfl | exact mem_at 17 rfl | exact mem_at 18 rfl | exact mem_at 19 rfl | exact mem_at 20 rfl | exact mem_at 21 rfl)) (binR_addN rfl)) ev_int (binR_divN (k := 2) rfl rfl (by first | decide | assumption | with_reducible exact Int.natCast_nonneg _ | with_reducible exact Nat.le_trans (by assumption) (by decide) | with_reducible exact Nat.lt_of_lt_of_le (by assumption) (by decide) | with_reducible exact lt_mil (Nat.lt_of_lt_of_le (by assumption) (by decide)) | with_reducible exact lt_mil (Nat.lt_of_le_of_lt (by assumption) (by decide)) | with_reducible exact Nat.le_trans (Nat.le_of_lt (by assumption)) (by decide) | (first | lia | omega)) (by first | decide | assumption | with_reducible exact Int.natCast_nonneg _ | with_reducible exact Nat.le_trans (by assumption) (by decide) | with_reducible exact Nat.lt_of_lt_of_le (by assumption) (by decide) | with_reducible exact lt_mil (Nat.lt_of_lt_of_le (by assumption) (by decide)) | with_reducible exact lt_mil (Nat.lt_of_le_of_lt (by assumption) (by decide)) | with_reducible exact Nat.le_trans (Nat.le_of_lt (by assumption)) (by decide) | (first | lia | omega)))) (by first | exact Or.inl rfl | exact Or.inr ⟨rfl, rfl, rfl⟩) (by intro y ds e; first | (cases e; done) | (cases e; decide)) (Pk.g (by repeat (first | exact Pk.nil | refine Pk.here ?_ | refine Pk.cons (by first | exact mem_at 0 rfl | exact mem_at 1 rfl | exact mem_at 2 rfl | exact mem_at 3 rfl | exact mem_at 4 rfl | exact mem_at 5 rfl | exact mem_at 6 rfl | exact mem_at 7 rfl | exact mem_at 8 rfl | exact mem_at 9 rfl | exact mem_at 10 rfl | exact mem_at 11 rfl | exact mem_at 12 rfl | exact mem_at 13 rfl | exact mem_at 14 rfl | exact mem_at 15 rfl | exact mem_at 16 rfl | exact mem_at 17 rfl | exact mem_at 18 rfl | exact mem_at 19 rfl | exact mem_at 20 rfl | exact mem_at 21 rfl) rfl ?_)))) ?_
      refine ex_one (ex_if (et_cmp (ev_def (ev_var (by first | exact mem_at 0 rfl | exact mem_at 1 rfl | exact mem_at 2 rfl | exact mem_at 3 rfl | exact mem_at 4 rfl | exact mem_at 5 rfl | exact mem_at 6 rfl | exact mem_at 7 rfl | exact mem_at 8 rfl | exact mem_at 9 rfl | exact mem_at 10 rfl | exact mem_at 11 rfl | exact mem_at 12 rfl | exact mem_at 13 rfl | exact mem_at 14 rfl | exact mem_at 15 rfl | exact mem_at 16 rfl | exact mem_at 17 rfl | exact mem_at 18 rfl | exact mem_at 19 rfl | exact mem_at 20 rfl | exact mem_at 21 rfl)) (evl_cons (ev_item (ev_var (by first | exact mem_at 0 rfl | exact mem_at 1 rfl | exact mem_at 2 rfl | exact mem_at 3 rfl | exact mem_at 4 rfl | exact mem_at 5 rfl | exact mem_at 6 rfl | exact mem_at 7 rfl | exact mem_at 8 rfl | exact mem_at 9 rfl | exact mem_at 10 rfl | exact mem_at 11 rfl | exact mem_at 12 rfl | exact mem_at 13 rfl | exact mem_at 14 rfl | exact mem_at 15 rfl | exact mem_at 16 rfl | exact mem_at 17 rfl | exact mem_at 18 rfl | exact mem_at 19 rfl | exact mem_at 20 rfl | exact mem_at 21 rfl)) (ev_var (by first | exact mem_at 0 rfl | exact mem_at 1 rfl | exact mem_at 2 rfl | exact mem_at 3 rfl | exact mem_at 4 rfl | exact mem_at 5 rfl | exact mem_at 6 rfl | exact mem_at 7 rfl | exact mem_at 8 rfl | exact mem_at 9 rfl | exact mem_at 10 rfl | exact mem_at 11 rfl | exact mem_at 12 rfl | exact mem_at 13 rfl | exact mem_at 14 rfl | exact mem_at 15 rfl | exact mem_at 16 rfl | exact mem_at 17 rfl | exact mem_at 18 rfl | exact mem_at 19 rfl | exact mem_at 20 rfl | exact mem_at 21 rfl)) (getR_list (d := ds[(q.1 + q.2) / 2]) (by first | decide | assumption | with_reducible exact Int.natCast_nonneg _ | with_reducible exact Nat.le_trans (by assumption) (by decide) | with_reducible exact Nat.lt_of_lt_of_le (by assumption) (by decide) | with_reducible exact lt_mil (Nat.lt_of_lt_of_le (by assumption) (by decide)) | with_reducible exact lt_mil (Nat.lt_of_le_of_lt (by assumption) (by decide)) | with_reducible exact Nat.le_trans (Nat.le_of_lt (by assumption)) (by decide) | (first | lia | omega)) (by rw [Int.toNat_natCast]; exact List.getElem?_eq_getElem hm) (by first | decide | assumption | with_reducible exact Int.natCast_nonneg _ | with_reducible exact Nat.le_trans (by assumption) (by decide) | with_reducible exact Nat.lt_of_lt_of_le (by assumption) (by decide) | with_reducible exact lt_mil (Nat.lt_of_lt_of_le (by assumption) (by decide)) | with_reducible exact lt_mil (Nat.lt_of_le_of_lt (by assumption) (by decide)) | with_reducible exact Nat.le_trans (Nat.le_of_lt (by assumption)) (by decide) | (first | lia | omega)))) evl_nil) evkw_nil hko hkd (hk _ (like_into _ _) _ (List.getElem_mem _))) (ev_var (by first | exact mem_at 0 rfl | exact mem_at 1 rfl | exact mem_at 2 rfl | exact mem_at 3 rfl | exact mem_at 4 rfl | exact mem_at 5 rfl | exact mem_at 6 rfl | exact mem_at 7 rfl | exact mem_at 8 rfl | exact mem_at 9 rfl | exact mem_at 10 rfl | exact mem_at 11 rfl | exact mem_at 12 rfl | exact mem_at 13 rfl | exact mem_at 14 rfl | exact mem_at 15 rfl | exact mem_at 16 rfl | exact mem_at 17 rfl | exact mem_at 18 rfl | exact mem_at 19 rfl | exact mem_at 20 rfl | exact mem_at 21 rfl)) (hc _ _ hm)) ?_ ?_)
      · intro h
        have h : (q.1 + q.2) / 2 < p := by simpa using h
        rw [if_pos h]
        dsimp only
        exact ex_one (ex_assign (Γ' := [(Str.ofString "lo", .dat (.int ((q.1 + q.2) / 2 + 1 : Nat))), (Str.ofString "hi", .dat (.int q.2)), (Str.ofString "a", .lst ds), (Str.ofString "x", .dat x), (Str.ofString "key", .val (.ref kv))]) (ev_bin (ev_var (by first | exact mem_at 0 rfl | exact mem_at 1 rfl | exact mem_at 2 rfl | exact mem_at 3 rfl | exact mem_at 4 rfl | exact mem_at 5 rfl | exact mem_at 6 rfl | exact mem_at 7 rfl | exact mem_at 8 rfl | exact mem_at 9 rfl | exact mem_at 10 rfl | exact mem_at 11 rfl | exact mem_at 12 rfl | exact mem_at 13 rfl | exact mem_at 14 rfl | exact mem_at 15 rfl | exact mem_at 16 rfl | exact mem_at 17 rfl | exact mem_at 18 rfl | exact mem_at 19 rfl | exact mem_at 20 rfl | exact mem_at 21 rfl)) ev_int (binR_addN rfl)) (by first | exact Or.inl rfl | exact Or.inr ⟨rfl, rfl, rfl⟩) (by intro y ds e; first | (cases e; done) | (cases e; decide)) (Pk.g (by repeat (first | exact Pk.nil | refine Pk.here ?_ | refine Pk.cons (by first | exact mem_at 0 rfl | exact mem_at 1 rfl | exact mem_at 2 rfl | exact mem_at 3 rfl | exact mem_at 4 rfl | exact mem_at 5 rfl | exact mem_at 6 rfl | exact mem_at 7 rfl | exact mem_at 8 rfl | exact mem_at 9 rfl | exact mem_at 10 rfl | exact mem_at 11 rfl | exact mem_at 12 rfl | exact mem_at 13 rfl | exact mem_at 14 rfl | exact mem_at 15 rfl | exact mem_at 16 rfl | exact mem_at 17 rfl | exact mem_at 18 rfl | exact mem_at 19 rfl | exact mem_at 20 rfl | exact mem_at 21 rfl) rfl ?_))))
      · intro h
        have h : ¬ (q.1 + q.2) / 2 < p := by simpa using h
        rw [if_neg h]
        dsimp only
        exact ex_one (ex_assign (Γ' := [(Str.ofString "lo", .dat (.int q.1)), (Str.ofString "hi", .dat (.int ((q.1 + q.2) / 2 : Nat))), (Str.ofString "a", .lst ds), (Str.ofString "x", .dat x), (Str.ofString "key", .val (.ref kv))]) (ev_var (by first | exact mem_at 0 rfl | exact mem_at 1 rfl | exact mem_at 2 rfl | exact mem_at 3 rfl | exact mem_at 4 rfl | exact mem_at 5 rfl | exact mem_at 6 rfl | exact mem_at 7 rfl | exact mem_at 8 rfl | exact mem_at 9 rfl | exact mem_at 10 rfl | exact mem_at 11 rfl | exact mem_at 12 rfl | exact mem_at 13 rfl | exact mem_at 14 rfl | exact mem_at 15 rfl | exact mem_at 16 rfl | exact mem_at 17 rfl | exact mem_at 18 rfl | exact mem_at 19 rfl | exact mem_at 20 rfl | exact mem_at 21 rfl)) (by first | exact Or.inl rfl | exact Or.inr ⟨rfl, rfl, rfl⟩) (by intro y ds e; first | (cases e; done) | (cases e; decide)) (Pk.g (by repeat (first | exact Pk.nil | refine Pk.here ?_ | refine Pk.cons (by first | exact mem_at 0 rfl | exact mem_at 1 rfl | exact mem_at 2 rfl | exact mem_at 3 rfl | exact mem_at 4 rfl | exact mem_at 5 rfl | exact mem_at 6 rfl | exact mem_at 7 rfl | exact mem_at 8 rfl | exact mem_at 9 rfl | exact mem_at 10 rfl | exact mem_at 11 rfl | exact mem_at 12 rfl | exact mem_at 13 rfl | exact mem_at 14 rfl | exact mem_at 15 rfl | exact mem_at 16 rfl | exact mem_at 17 rfl | exact mem_at 18 rfl | exact mem_at 19 rfl | exact mem_at 20 rfl | exact mem_at 21 rfl) rfl ?_))))
    · intro q hq hlt
      have hlt : ¬ q.1 < q.2 := by simpa using hlt
      have : q.1 = p := by (first | lia | omega)
      rw [this]
      exact ex_sub (Sb.g (by repeat (first | exact Sb.nil | refine Sb.cons (by first | exact mem_at 0 rfl | exact mem_at 1 rfl | exact mem_at 2 rfl | exact mem_at 3 rfl | exact mem_at 4 rfl | exact mem_at 5 rfl | exact mem_at 6 rfl | exact mem_at 7 rfl | exact mem_at 8 rfl | exact mem_at 9 rfl | exact mem_at 10 rfl | exact mem_at 11 rfl | exact mem_at 12 rfl | exact mem_at 13 rfl | exact mem_at 14 rfl | exact mem_at 15 rfl | exact mem_at 16 rfl | exact mem_at 17 rfl | exact mem_at 18 rfl | exact mem_at 19 rfl | exact mem_at 20 rfl | exact mem_at 21 rfl) ?_))) ex_nil
theorem br_none4 (I : Is1 P C) (hf : 0 < C.fuel) {ds : List PyData} {x : PyData} {p : Nat} (hz : ds.length ≤ 1000) (hp : p ≤ ds.length) (hc : ∀ F i, (h : i < ds.length) → CmpR F .Lt (.dat x) (.dat ds[i]) (decide (p ≤ i))) :
    CallOk C (.ref 46) [.lst ds, .dat x, .dat (.int 0), .dat .none] [] [] (.dat (.int p)) :=
  callOk_of fun ok W s vs ks S hx hy => by
    obtain ⟨_, _, _, _, rfl, r1, r2, r3, r4⟩ := BAll.inv4 hx
    obtain rfl := BAll.inv0 hy
    refine enter ok hf S (I.lk (a := 46) rfl) (by rw [I.K]; rfl) (binds := [(Str.ofString "a", _), (Str.ofString "x", _), (Str.ofString "lo", _), (Str.ofString "hi", _), (Str.ofString "key", _)]) (kp_binds (K := hd1.heap_39 P) (I.inn S) (fun _ => rfl))
      (.cons r1 (.cons r2 (.cons r3 (.cons r4 (.cons (b := .dat .none) .none .nil))))) (show [Str.ofString "a", Str.ofString "x", Str.ofString "lo", Str.ofString "hi", Str.ofString "key"].Nodup by decide) rfl fun L => ?_
    refine ex_cons (ex_if_false (et_cmp (ev_var (by first | exact mem_at 0 rfl | exact mem_at 1 rfl | exact mem_at 2 rfl | exact mem_at 3 rfl | exact mem_at 4 rfl | exact mem_at 5 rfl | exact mem_at 6 rfl | exact mem_at 7 rfl | exact mem_at 8 rfl | exact mem_at 9 rfl | exact mem_at 10 rfl | exact mem_at 11 rfl | exact mem_at 12 rfl | exact mem_at 13 rfl | exact mem_at 14 rfl | exact mem_at 15 rfl | exact mem_at 16 rfl | exact mem_at 17 rfl | exact mem_at 18 rfl | exact mem_at 19 rfl | exact mem_at 20 rfl | exact mem_at 21 rfl)) ev_int cmpR_lt_int) ex_nil) ?_
    refine ex_cons (ex_if_true (et_cmp (ev_var (by first | exact mem_at 0 rfl | exact mem_at 1 rfl | exact mem_at 2 rfl | exact mem_at 3 rfl | exact mem_at 4 rfl | exact mem_at 5 rfl | exact mem_at 6 rfl | exact mem_at 7 rfl | exact mem_at 8 rfl | exact mem_at 9 rfl | exact mem_at 10 rfl | exact mem_at 11 rfl | exact mem_at 12 rfl | exact mem_at 13 rfl | exact mem_at 14 rfl | exact mem_at 15 rfl | exact mem_at 16 rfl | exact mem_at 17 rfl | exact mem_at 18 rfl | exact mem_at 19 rfl | exact mem_at 20 rfl | exact mem_at 21 rfl)) ev_none cmpR_is_none) (ex_one (ex_assign (Γ' := [(Str.ofString "lo", .dat (.int (0 : Nat))), (Str.ofString "hi", .dat (.int ds.length)), (Str.ofString "a", .lst ds), (Str.ofString "x", .dat x), (Str.ofString "key", .dat .none)])
      (ev_call_bi (ev_builtin rfl (I.gl rfl) rfl) (evl_cons (ev_var (by first | exact mem_at 0 rfl | exact mem_at 1 rfl | exact mem_at 2 rfl | exact mem_at 3 rfl | exact mem_at 4 rfl | exact mem_at 5 rfl | exact mem_at 6 rfl | exact mem_at 7 rfl | exact mem_at 8 rfl | exact mem_at 9 rfl | exact mem_at 10 rfl | exact mem_at 11 rfl | exact mem_at 12 rfl | exact mem_at 13 rfl | exact mem_at 14 rfl | exact mem_at 15 rfl | exact mem_at 16 rfl | exact mem_at 17 rfl | exact mem_at 18 rfl | exact mem_at 19 rfl | exact mem_at 20 rfl | exact mem_at 21 rfl)) evl_nil) (callOk_len_list (by first | decide | assumption | with_reducible exact Int.natCast_nonneg _ | with_reducible exact Nat.le_trans (by assumption) (by decide) | with_reducible exact Nat.lt_of_lt_of_le (by assumption) (by decide) | with_reducible exact lt_mil (Nat.lt_of_lt_of_le (by assumption) (by decide)) | with_reducible exact lt_mil (Nat.lt_of_le_of_lt (by assumption) (by decide)) | with_reducible exact Nat.le_trans (Nat.le_of_lt (by assumption)) (by decide) | (first | lia | omega)))) (by first | exact Or.inl rfl | exact Or.inr ⟨rfl, rfl, rfl⟩) (by intro y ds e; first | (cases e; done) | (cases e; decide)) (Pk.g (by repeat (first | exact Pk.nil | refine Pk.here ?_ | refine Pk.cons (by first | exact mem_at 0 rfl | exact mem_at 1 rfl | exact mem_at 2 rfl | exact mem_at 3 rfl | exact mem_at 4 rfl | exact mem_at 5 rfl | exact mem_at 6 rfl | exact mem_at 7 rfl | exact mem_at 8 rfl | exact mem_at 9 rfl | exact mem_at 10 rfl | exact mem_at 11 rfl | exact mem_at 12 rfl | exact mem_at 13 rfl | exact mem_at 14 rfl | exact mem_at 15 rfl | exact mem_at 16 rfl | exact mem_at 17 rfl | exact mem_at 18 rfl | exact mem_at 19 rfl | exact mem_at 20 rfl | exact mem_at 21 rfl) rfl ?_)))))) ?_
    refine ex_cons (Γ₁ := [(Str.ofString "lo", .dat (.int p))]) (own₁ := none) (ex_if_true (et_cmp (ev_var (by first | exact mem_at 0 rfl | exact mem_at 1 rfl | exact mem_at 2 rfl | exact mem_at 3 rfl | exact mem_at 4 rfl | exact mem_at 5 rfl | exact mem_at 6 rfl | exact mem_at 7 rfl | exact mem_at 8 rfl | exact mem_at 9 rfl | exact mem_at 10 rfl | exact mem_at 11 rfl | exact mem_at 12 rfl | exact mem_at 13 rfl | exact mem_at 14 rfl | exact mem_at 15 rfl | exact mem_at 16 rfl | exact mem_at 17 rfl | exact mem_at 18 rfl | exact mem_at 19 rfl | exact mem_at 20 rfl | exact mem_at 21 rfl)) ev_none cmpR_is_none) ?_) (ex_one (ex_return (ev_var (by first | exact mem_at 0 rfl | exact mem_at 1 rfl | exact mem_at 2 rfl | exact mem_at 3 rfl | exact mem_at 4 rfl | exact mem_at 5 rfl | exact mem_at 6 rfl | exact mem_at 7 rfl | exact mem_at 8 rfl | exact mem_at 9 rfl | exact mem_at 10 rfl | exact mem_at 11 rfl | exact mem_at 12 rfl | exact mem_at 13 rfl | exact mem_at 14 rfl | exact mem_at 15 rfl | exact mem_at 16 rfl | exact mem_at 17 rfl | exact mem_at 18 rfl | exact mem_at 19 rfl | exact mem_at 20 rfl | exact mem_at 21 rfl))))
    refine ex_while (σ := Nat × Nat) (fun q => [(Str.ofString "lo", .dat (.int q.1)), (Str.ofString "hi", .dat (.int q.2)), (Str.ofString "a", .lst ds), (Str.ofString "x", .dat x), (Str.ofString "key", .dat .none)]) (fun q => q.1 ≤ p ∧ p ≤ q.2 ∧ q.2 ≤ ds.length) (fun q => q.2 - q.1) (fun q => decide (q.1 < q.2)) ?_ ?_ (0, ds.length) ⟨by (first | lia | omega), hp, by (first | lia | omega)⟩ ?_
    · intro q hq
      exact et_cmp (ev_var (by first | exact mem_at 0 rfl | exact mem_at 1 rfl | exact mem_at 2 rfl | exact mem_at 3 rfl | exact mem_at 4 rfl | exact mem_at 5 rfl | exact mem_at 6 rfl | exact mem_at 7 rfl | exact mem_at 8 rfl | exact mem_at 9 rfl | exact mem_at 10 rfl | exact mem_at 11 rfl | exact mem_at 12 rfl | exact mem_at 13 rfl | exact mem_at 14 rfl | exact mem_at 15 rfl | exact mem_at 16 rfl | exact mem_at 17 rfl | exact mem_at 18 rfl | exact mem_at 19 rfl | exact mem_at 20 rfl | exact mem_at 21 rfl)) (ev_var (by first | exact mem_at 0 rfl | exact mem_at 1 rfl | exact mem_at 2 rfl | exact mem_at 3 rfl | exact mem_at 4 rfl | exact mem_at 5 rfl | exact mem_at 6 rfl | exact mem_at 7 rfl | exact mem_at 8 rfl | exact mem_at 9 rfl | exact mem_at 10 rfl | exact mem_at 11 rfl | exact mem_at 12 rfl | exact mem_at 13 rfl | exact mem_at 14 rfl | exact mem_at 15 rfl | exact mem_at 16 rfl | exact mem_at 17 rfl | exact mem_at 18 rfl | exact mem_at 19 rfl | exact mem_at 20 rfl | exact mem_at 21 rfl)) cmpR_ltN
    · intro q hq hlt
      have hlt : q.1 < q.2 := by simpa using hlt
      obtain ⟨q1, q2, q3⟩ := hq
      have hm : (q.1 + q.2) / 2 < ds.length := by (first | lia | omega)
      refine ⟨if p ≤ (q.1 + q.2) / 2 then (q.1, (q.1 + q.2) / 2) else ((q.1 + q.2) / 2 + 1, q.2), by split <;> (dsimp only; (first | lia | omega)), by split <;> (dsimp only; (first | lia | omega)), ?_⟩
      refine ex_cons (ex_assign (Γ' := [(Str.ofString "mid", .dat (.int ((q.1 + q.2) / 2 : Nat))), (Str.ofString "lo", .dat (.int q.1)), (Str.ofString "hi", .dat (.int q.2)), (Str.ofString "a", .lst ds), (Str.ofString "x", .dat x), (Str.ofString "key", .dat .none)]) (ev_bin (ev_bin (ev_var (by first | exact mem_at 0 rfl | exact mem_at 1 rfl | exact mem_at 2 rfl | exact mem_at 3 rfl | exact mem_at 4 rfl | exact mem_at 5 rfl | exact mem_at 6 rfl | exact mem_at 7 rfl | exact mem_at 8 rfl | exact mem_at 9 rfl | exact mem_at 10 rfl | exact mem_at 11 rfl | exact mem_at 12 rfl | exact mem_at 13 rfl | exact mem_at 14 rfl | exact mem_at 15 rfl | exact mem_at 16 rfl | exact mem_at 17 rfl | exact mem_at 18 rfl | exact mem_at 19 rfl | exact mem_at 20 rfl | exact mem_at 21 rfl)) (ev_var (by first | exact mem_at 0 rfl | exact mem_at 1 rfl | exact mem_at 2 rfl | exact mem_at 3 rfl | exact mem_at 4 rfl | exact mem_at 5 rfl | exact mem_at 6 rfl | exact mem_at 7 rfl | exact mem_at 8 rfl | exact mem_at 9 rfl | exact mem_at 10 rfl | exact mem_at 11 rfl | exact mem_at 12 rfl | exact mem_at 13 rfl | exact mem_at 14 rfl | exact mem_at 15 rfl | exact mem_at 16 rfl | exact mem_at 17 rfl | exact mem_at 18 rfl | exact mem_at 19 rfl | exact mem_at 20 rfl | exact mem_at 21 rfl)) (binR_addN rfl)) ev_int (binR_divN (k := 2) rfl rfl (by first | decide | assumption | with_reducible exact Int.natCast_nonneg _ | with_reducible exact Nat.le_trans (by assumption) (by decide) | with_reducible exact Nat.lt_of_lt_of_le (by assumption) (by decide) | with_reducible exact lt_mil (Nat.lt_of_lt_of_le (by assumption) (by decide)) | with_reducible exact lt_mil (Nat.lt_of_le_of_lt (by assumption) (by decide)) | with_reducible exact Nat.le_trans (Nat.le_of_lt (by assumption)) (by decide) | (first | lia | omega)) (by first | decide | assumption | with_reducible exact Int.natCast_nonneg _ | with_reducible exact Nat.le_trans (by assumption) (by decide) | with_reducible exact Nat.lt_of_lt_of_le (by assumption) (by decide) | with_reducible exact lt_mil (Nat.lt_of_lt_of_le (by assumption) (by decide)) | with_reducible exact lt_mil (Nat.lt_of_le_of_lt (by assumption) (by decide)) | with_reducible exact Nat.le_trans (Nat.le_of_lt (by assumption)) (by decide) | (first | lia | omega)))) (by first | exact Or.inl rfl | exact Or.inr ⟨rfl, rfl, rfl⟩) (by intro y ds e; first | (cases e; done) | (cases e; decide)) (Pk.g (by repeat (first | exact Pk.nil | refine Pk.here ?_ | refine Pk.cons (by first | exact mem_at 0 rfl | exact mem_at 1 rfl | exact mem_at 2 rfl | exact mem_at 3 rfl | exact mem_at 4 rfl | exact mem_at 5 rfl | exact mem_at 6 rfl | exact mem_at 7 rfl | exact mem_at 8 rfl | exact mem_at 9 rfl | exact mem_at 10 rfl | exact mem_at 11 rfl | exact mem_at 12 rfl | exact mem_at 13 rfl | exact mem_at 14 rfl | exact mem_at 15 rfl | exact mem_at 16 rfl | exact mem_at 17 rfl | exact mem_at 18 rfl | exact mem_at 19 rfl | exact mem_at 20 rfl | exact mem_at 21 rfl) rfl ?_)))) ?_
      refine ex_one (ex_if (et_cmp (ev_var (by first | exact mem_at 0 rfl | exact mem_at 1 rfl | exact mem_at 2 rfl | exact mem_at 3 rfl | exact mem_at 4 rfl | exact mem_at 5 rfl | exact mem_at 6 rfl | exact mem_at 7 rfl | exact mem_at 8 rfl | exact mem_at 9 rfl | exact mem_at 10 rfl | exact mem_at 11 rfl | exact mem_at 12 rfl | exact mem_at 13 rfl | exact mem_at 14 rfl | exact mem_at 15 rfl | exact mem_at 16 rfl | exact mem_at 17 rfl | exact mem_at 18 rfl | exact mem_at 19 rfl | exact mem_at 20 rfl | exact mem_at 21 rfl)) (ev_item (ev_var (by first | exact mem_at 0 rfl | exact mem_at 1 rfl | exact mem_at 2 rfl | exact mem_at 3 rfl | exact mem_at 4 rfl | exact mem_at 5 rfl | exact mem_at 6 rfl | exact mem_at 7 rfl | exact mem_at 8 rfl | exact mem_at 9 rfl | exact mem_at 10 rfl | exact mem_at 11 rfl | exact mem_at 12 rfl | exact mem_at 13 rfl | exact mem_at 14 rfl | exact mem_at 15 rfl | exact mem_at 16 rfl | exact mem_at 17 rfl | exact mem_at 18 rfl | exact mem_at 19 rfl | exact mem_at 20 rfl | exact mem_at 21 rfl)) (ev_var (by first | exact mem_at 0 rfl | exact mem_at 1 rfl | exact mem_at 2 rfl | exact mem_at 3 rfl | exact mem_at 4 rfl | exact mem_at 5 rfl | exact mem_at 6 rfl | exact mem_at 7 rfl | exact mem_at 8 rfl | exact mem_at 9 rfl | exact mem_at 10 rfl | exact mem_at 11 rfl | exact mem_at 12 rfl | exact mem_at 13 rfl | exact mem_at 14 rfl | exact mem_at 15 rfl | exact mem_at 16 rfl | exact mem_at 17 rfl | exact mem_at 18 rfl | exact mem_at 19 rfl | exact mem_at 20 rfl | exact mem_at 21 rfl)) (getR_list (d := ds[(q.1 + q.2) / 2]) (by first | decide | assumption | with_reducible exact Int.natCast_nonneg _ | with_reducible exact Nat.le_trans (by assumption) (by decide) | with_reducible exact Nat.lt_of_lt_of_le (by assumption) (by decide) | with_reducible exact lt_mil (Nat.lt_of_lt_of_le (by assumption) (by decide)) | with_reducible exact lt_mil (Nat.lt_of_le_of_lt (by assumption) (by decide)) | with_reducible exact Nat.le_trans (Nat.le_of_lt (by assumption)) (by decide) | (first | lia | omega)) (by rw [Int.toNat_natCast]; exact List.getElem?_eq_getElem hm) (by first | decide | assumption | with_reducible exact Int.natCast_nonneg _ | with_reducible exact Nat.le_trans (by assumption) (by decide) | with_reducible exact Nat.lt_of_lt_of_le (by assumption) (by decide) | with_reducible exact lt_mil (Nat.lt_of_lt_of_le (by assumption) (by decide)) | with_reducible exact lt_mil (Nat.lt_of_le_of_lt (by assumption) (by decide)) | with_reducible exact Nat.le_trans (Nat.le_of_lt (by assumption)) (by decide) | (first | lia | omega)))) (hc _ _ hm)) ?_ ?_)
      · intro h
        have h : p ≤ (q.1 + q.2) / 2 := by simpa using h
        rw [if_pos h]
        dsimp only
        exact ex_one (ex_assign (Γ' := [(Str.ofString "lo", .dat (.int q.1)), (Str.ofString "hi", .dat (.int ((q.1 + q.2) / 2 : Nat))), (Str.ofString "a", .lst ds), (Str.ofString "x", .dat x), (Str.ofString "key", .dat .none)]) (ev_var (by first | exact mem_at 0 rfl | exact mem_at 1 rfl | exact mem_at 2 rfl | exact mem_at 3 rfl | exact mem_at 4 rfl | exact mem_at 5 rfl | exact mem_at 6 rfl | exact mem_at 7 rfl | exact mem_at 8 rfl | exact mem_at 9 rfl | exact mem_at 10 rfl | exact mem_at 11 rfl | exact mem_at 12 rfl | exact mem_at 13 rfl | exact mem_at 14 rfl | exact mem_at 15 rfl | exact mem_at 16 rfl | exact mem_at 17 rfl | exact mem_at 18 rfl | exact mem_at 19 rfl | exact mem_at 20 rfl | exact mem_at 21 rfl)) (by first | exact Or.inl rfl | exact Or.inr ⟨rfl, rfl, rfl⟩) (by intro y ds e; first | (cases e; done) | (cases e; decide)) (Pk.g (by repeat (first | exact Pk.nil | refine Pk.here ?_ | refine Pk.cons (by first | exact mem_at 0 rfl | exact mem_at 1 rfl | exact mem_at 2 rfl | exact mem_at 3 rfl | exact mem_at 4 rfl | exact mem_at 5 rfl | exact mem_at 6 rfl | exact mem_at 7 rfl | exact mem_at 8 rfl | exact mem_at 9 rfl | exact mem_at 10 rfl | exact mem_at 11 rfl | exact mem_at 12 rfl | exact mem_at 13 rfl | exact mem_at 14 rfl | exact mem_at 15 rfl | exact mem_at 16 rfl | exact mem_at 17 rfl | exact mem_at 18 rfl | exact mem_at 19 rfl | exact mem_at 20 rfl | exact mem_at 21 rfl) rfl ?_))))
      · intro h
        have h : ¬ p ≤ (q.1 + q.2) / 2 := by simpa using h
        rw [if_neg h]
        dsimp only
        exact ex_one (ex_assign (Γ' := [(Str.ofString "lo", .dat (.int ((q.1 + q.2) / 2 + 1 : Nat))), (Str.ofString "hi", .dat (.int q.2)), (Str.ofString "a", .lst ds), (Str.ofString "x", .dat x), (Str.ofString "key", .dat .none)]) (ev_bin (ev_var (by first | exact mem_at 0 rfl | exact mem_at 1 rfl | exact mem_at 2 rfl | exact mem_at 3 rfl | exact mem_at 4 rfl | exact mem_at 5 rfl | exact mem_at 6 rfl | exact mem_at 7 rfl | exact mem_at 8 rfl | exact mem_at 9 rfl | exact mem_at 10 rfl | exact mem_at 11 rfl | exact mem_at 12 rfl | exact mem_at 13 rfl | exact mem_at 14 rfl | exact mem_at 15 rfl | exact mem_at 16 rfl | exact mem_at 17 rfl | exact mem_at 18 rfl | exact mem_at 19 rfl | exact mem_at 20 rfl | exact mem_at 21 rfl)) ev_int (binR_addN rfl)) (by first | exact Or.inl rfl | exact Or.inr ⟨rfl, rfl, rfl⟩) (by intro y ds e; first | (cases e; done) | (cases e; decide)) (Pk.g (by repeat (first | exact Pk.nil | refine Pk.here ?_ | refine Pk.cons (by first | exact mem_at 0 rfl | exact mem_at 1 rfl | exact mem_at 2 rfl | exact mem_at 3 rfl | exact mem_at 4 rfl | exact mem_at 5 rfl | exact mem_at 6 rfl | exact mem_at 7 rfl | exact mem_at 8 rfl | exact mem_at 9 rfl | exact mem_at 10 rfl | exact mem_at 11 rfl | exact mem_at 12 rfl | exact mem_at 13 rfl | exact mem_at 14 rfl | exact mem_at 15 rfl | exact mem_at 16 rfl | exact mem_at 17 rfl | exact mem_at 18 rfl | exact mem_at 19 rfl | exact mem_at 20 rfl | exact mem_at 21 rfl) rfl ?_))))
    · intro q hq hlt
      have hlt : ¬ q.1 < q.2 := by simpa using hlt
      have : q.1 = p := by (first | lia | omega)
      rw [this]
      exact ex_sub (Sb.g (by repeat (first | exact Sb.nil | refine Sb.cons (by first | exact mem_at 0 rfl | exact mem_at 1 rfl | exact mem_at 2 rfl | exact mem_at 3 rfl | exact mem_at 4 rfl | exact mem_at 5 rfl | exact mem_at 6 rfl | exact mem_at 7 rfl | exact mem_at 8 rfl | exact mem_at 9 rfl | exact mem_at 10 rfl | exact mem_at 11 rfl | exact mem_at 12 rfl | exact mem_at 13 rfl | exact mem_at 14 rfl | exact mem_at 15 rfl | exact mem_at 16 rfl | exact mem_at 17 rfl | exact mem_at 18 rfl | exact mem_at 19 rfl | exact mem_at 20 rfl | exact mem_at 21 rfl) ?_))) ex_nil
theorem ir_key (I : Is1 P C) (hf : 1 < C.fuel) {ds : List PyData} {x : PyData} {p : Nat} {kv : Addr} {ko : Obj} {kd : FuncData} {key : PyData → PyData} (hko : C.g kv = some ko) (hkd : ko.data = .func kd) (hk : ∀ C', Like 2 C C' → ∀ d ∈ x :: ds, CallOk C' (.ref kv) [.dat d] [] [] (.dat (key d))) (hz : ds.length ≤ 1000) (hp : p ≤ ds.length) (hc : ∀ F i, (h : i < ds.length) → CmpR F .Lt (.dat (key x)) (.dat (key ds[i])) (decide (p ≤ i))) :
    MutOk C (.ref 37) [.dat x] [Str.ofString "key"] [.val (.ref kv)] ds (ds.take p ++ x :: ds.drop p) := .mk fun ok W s l lv n vs ks S hWl hgl hl rl hx hy => by
    obtain ⟨_, rfl, r2⟩ := BAll.inv1 hx
    obtain ⟨_, rfl, r5⟩ := BAll.inv1 hy
    refine wpAny_call (codeAny_mono (enter_mut (x := Str.ofString "a") (ds' := ds.take p ++ x :: ds.drop p) (Γ' := fun _ => [(Str.ofString "lo", .dat (.int p)), (Str.ofString "a", .val (.ref l)), (Str.ofString "x", .dat x), (Str.ofString "hi", .dat .none), (Str.ofString "key", .val (.ref kv))]) ok (by first | decide | assumption | with_reducible exact Int.natCast_nonneg _ | with_reducible exact Nat.le_trans (by assumption) (by decide) | with_reducible exact Nat.lt_of_lt_of_le (by assumption) (by decide) | with_reducible exact lt_mil (Nat.lt_of_lt_of_le (by assumption) (by decide)) | with_reducible exact lt_mil (Nat.lt_of_le_of_lt (by assumption) (by decide)) | with_reducible exact Nat.le_trans (Nat.le_of_lt (by assumption)) (by decide) | (first | lia | omega)) S hWl hgl hl rl (I.lk (a := 37) rfl) (by rw [I.K]; rfl) (binds := [(Str.ofString "a", _), (Str.ofString "x", _), (Str.ofString "lo", _), (Str.ofString "hi", _), (Str.ofString "key", _)]) (kp_binds (K := hd1.heap_39 P) (I.inn S) (fun _ => rfl))
      (.cons (b := .val (.ref l)) rfl (.cons r2 (.cons (b := .dat (.int 0)) (.int _ _) (.cons (b := .dat .none) .none (.cons r5 .nil))))) (show [Str.ofString "a", Str.ofString "x", Str.ofString "lo", Str.ofString "hi", Str.ofString "key"].Nodup by decide) rfl (.head _) (fun L => ?_) (fun L => (by first | exact mem_at 0 rfl | exact mem_at 1 rfl | exact mem_at 2 rfl | exact mem_at 3 rfl | exact mem_at 4 rfl | exact mem_at 5 rfl | exact mem_at 6 rfl | exact mem_at 7 rfl | exact mem_at 8 rfl | exact mem_at 9 rfl | exact mem_at 10 rfl | exact mem_at 11 rfl | exact mem_at 12 rfl | exact mem_at 13 rfl | exact mem_at 14 rfl | exact mem_at 15 rfl | exact mem_at 16 rfl | exact mem_at 17 rfl | exact mem_at 18 rfl | exact mem_at 19 rfl | exact mem_at 20 rfl | exact mem_at 21 rfl)) (fun _ => rfl) (noLst_ok rfl)) fun r s' ⟨e, sm, kp, hn⟩ => ?_)
    · refine ex_cons (Γ₁ := [(Str.ofString "lo", .dat (.int p)), (Str.ofString "a", .val (.ref l)), (Str.ofString "x", .dat x), (Str.ofString "hi", .dat .none), (Str.ofString "key", .val (.ref kv))]) (own₁ := some (Str.ofString "a", ds)) (ex_if_false (et_cmp (ev_var (by first | exact mem_at 0 rfl | exact mem_at 1 rfl | exact mem_at 2 rfl | exact mem_at 3 rfl | exact mem_at 4 rfl | exact mem_at 5 rfl | exact mem_at 6 rfl | exact mem_at 7 rfl | exact mem_at 8 rfl | exact mem_at 9 rfl | exact mem_at 10 rfl | exact mem_at 11 rfl | exact mem_at 12 rfl | exact mem_at 13 rfl | exact mem_at 14 rfl | exact mem_at 15 rfl | exact mem_at 16 rfl | exact mem_at 17 rfl | exact mem_at 18 rfl | exact mem_at 19 rfl | exact mem_at 20 rfl | exact mem_at 21 rfl)) ev_none cmpR_is_none_ref) (ex_one (ex_assign (b := .dat (.int p))
        (ev_def (ev_glob rfl (I.gl rfl)) (evl_cons (ev_var (b := .lst ds) (by first | exact mem_at 0 rfl | exact mem_at 1 rfl | exact mem_at 2 rfl | exact mem_at 3 rfl | exact mem_at 4 rfl | exact mem_at 5 rfl | exact mem_at 6 rfl | exact mem_at 7 rfl | exact mem_at 8 rfl | exact mem_at 9 rfl | exact mem_at 10 rfl | exact mem_at 11 rfl | exact mem_at 12 rfl | exact mem_at 13 rfl | exact mem_at 14 rfl | exact mem_at 15 rfl | exact mem_at 16 rfl | exact mem_at 17 rfl | exact mem_at 18 rfl | exact mem_at 19 rfl | exact mem_at 20 rfl | exact mem_at 21 rfl)) (evl_cons (ev_def (ev_var (by first | exact mem_at 0 rfl | exact mem_at 1 rfl | exact mem_at 2 rfl | exact mem_at 3 rfl | exact mem_at 4 rfl | exact mem_at 5 rfl | exact mem_at 6 rfl | exact mem_at 7 rfl | exact mem_at 8 rfl | exact mem_at 9 rfl | exact mem_at 10 rfl | exact mem_at 11 rfl | exact mem_at 12 rfl | exact mem_at 13 rfl | exact mem_at 14 rfl | exact mem_at 15 rfl | exact mem_at 16 rfl | exact mem_at 17 rfl | exact mem_at 18 rfl | exact mem_at 19 rfl | exact mem_at 20 rfl | exact mem_at 21 rfl)) (evl_cons (ev_var (by first | exact mem_at 0 rfl | exact mem_at 1 rfl | exact mem_at 2 rfl | exact mem_at 3 rfl | exact mem_at 4 rfl | exact mem_at 5 rfl | exact mem_at 6 rfl | exact mem_at 7 rfl | exact mem_at 8 rfl | exact mem_at 9 rfl | exact mem_at 10 rfl | exact mem_at 11 rfl | exact mem_at 12 rfl | exact mem_at 13 rfl | exact mem_at 14 rfl | exact mem_at 15 rfl | exact mem_at 16 rfl | exact mem_at 17 rfl | exact mem_at 18 rfl | exact mem_at 19 rfl | exact mem_at 20 rfl | exact mem_at 21 rfl)) evl_nil) evkw_nil hko hkd (hk _ (like_into2 _ _) _ (.head _))) (evl_cons (ev_var (by first | exact mem_at 0 rfl | exact mem_at 1 rfl | exact mem_at 2 rfl | exact mem_at 3 rfl | exact mem_at 4 rfl | exact mem_at 5 rfl | exact mem_at 6 rfl | exact mem_at 7 rfl | exact mem_at 8 rfl | exact mem_at 9 rfl | exact mem_at 10 rfl | exact mem_at 11 rfl | exact mem_at 12 rfl | exact mem_at 13 rfl | exact mem_at 14 rfl | exact mem_at 15 rfl | exact mem_at 16 rfl | exact mem_at 17 rfl | exact mem_at 18 rfl | exact mem_at 19 rfl | exact mem_at 20 rfl | exact mem_at 21 rfl)) (evl_cons (ev_var (by first | exact mem_at 0 rfl | exact mem_at 1 rfl | exact mem_at 2 rfl | exact mem_at 3 rfl | exact mem_at 4 rfl | exact mem_at 5 rfl | exact mem_at 6 rfl | exact mem_at 7 rfl | exact mem_at 8 rfl | exact mem_at 9 rfl | exact mem_at 10 rfl | exact mem_at 11 rfl | exact mem_at 12 rfl | exact mem_at 13 rfl | exact mem_at 14 rfl | exact mem_at 15 rfl | exact mem_at 16 rfl | exact mem_at 17 rfl | exact mem_at 18 rfl | exact mem_at 19 rfl | exact mem_at 20 rfl | exact mem_at 21 rfl)) evl_nil)))) (evkw_cons (ev_var (by first | exact mem_at 0 rfl | exact mem_at 1 rfl | exact mem_at 2 rfl | exact mem_at 3 rfl | exact mem_at 4 rfl | exact mem_at 5 rfl | exact mem_at 6 rfl | exact mem_at 7 rfl | exact mem_at 8 rfl | exact mem_at 9 rfl | exact mem_at 10 rfl | exact mem_at 11 rfl | exact mem_at 12 rfl | exact mem_at 13 rfl | exact mem_at 14 rfl | exact mem_at 15 rfl | exact mem_at 16 rfl | exact mem_at 17 rfl | exact mem_at 18 rfl | exact mem_at 19 rfl | exact mem_at 20 rfl | exact mem_at 21 rfl)) evkw_nil) (I.at (a := 46) rfl) rfl
          (br_key4 (I.into _) (by show 0 < C.fuel - 1; (first | lia | omega)) hko hkd (fun C' hC d hd => hk C' ((like_into _ _).trans hC) d (.tail _ hd)) hz hp (fun F i h => hc F i h))) (by first | exact Or.inl rfl | exact Or.inr ⟨rfl, rfl, rfl⟩) (by intro y ds e; cases e; decide) (Pk.g (by repeat (first | exact Pk.nil | refine Pk.here ?_ | refine Pk.cons (by first | exact mem_at 0 rfl | exact mem_at 1 rfl | exact mem_at 2 rfl | exact mem_at 3 rfl | exact mem_at 4 rfl | exact mem_at 5 rfl | exact mem_at 6 rfl | exact mem_at 7 rfl | exact mem_at 8 rfl | exact mem_at 9 rfl | exact mem_at 10 rfl | exact mem_at 11 rfl | exact mem_at 12 rfl | exact mem_at 13 rfl | exact mem_at 14 rfl | exact mem_at 15 rfl | exact mem_at 16 rfl | exact mem_at 17 rfl | exact mem_at 18 rfl | exact mem_at 19 rfl | exact mem_at 20 rfl | exact mem_at 21 rfl) rfl ?_)))))) ?_
      exact ex_one (ex_meth (evl_cons (ev_var (by first | exact mem_at 0 rfl | exact mem_at 1 rfl | exact mem_at 2 rfl | exact mem_at 3 rfl | exact mem_at 4 rfl | exact mem_at 5 rfl | exact mem_at 6 rfl | exact mem_at 7 rfl | exact mem_at 8 rfl | exact mem_at 9 rfl | exact mem_at 10 rfl | exact mem_at 11 rfl | exact mem_at 12 rfl | exact mem_at 13 rfl | exact mem_at 14 rfl | exact mem_at 15 rfl | exact mem_at 16 rfl | exact mem_at 17 rfl | exact mem_at 18 rfl | exact mem_at 19 rfl | exact mem_at 20 rfl | exact mem_at 21 rfl)) (evl_cons (ev_var (by first | exact mem_at 0 rfl | exact mem_at 1 rfl | exact mem_at 2 rfl | exact mem_at 3 rfl | exact mem_at 4 rfl | exact mem_at 5 rfl | exact mem_at 6 rfl | exact mem_at 7 rfl | exact mem_at 8 rfl | exact mem_at 9 rfl | exact mem_at 10 rfl | exact mem_at 11 rfl | exact mem_at 12 rfl | exact mem_at 13 rfl | exact mem_at 14 rfl | exact mem_at 15 rfl | exact mem_at 16 rfl | exact mem_at 17 rfl | exact mem_at 18 rfl | exact mem_at 19 rfl | exact mem_at 20 rfl | exact mem_at 21 rfl)) evl_nil)) PySem.F.slot_list_insert PySem.F.type_list_insert (mutOk_insert hp (by first | decide | assumption | with_reducible exact Int.natCast_nonneg _ | with_reducible exact Nat.le_trans (by assumption) (by decide) | with_reducible exact Nat.lt_of_lt_of_le (by assumption) (by decide) | with_reducible exact lt_mil (Nat.lt_of_lt_of_le (by assumption) (by decide)) | with_reducible exact lt_mil (Nat.lt_of_le_of_lt (by assumption) (by decide)) | with_reducible exact Nat.le_trans (Nat.le_of_lt (by assumption)) (by decide) | (first | lia | omega))) (noLst_ok rfl) (hi := rfl))
    · subst e
      exact ⟨rfl, sm, kp, hn⟩
theorem il_key (I : Is1 P C) (hf : 1 < C.fuel) {ds : List PyData} {x : PyData} {p : Nat} {kv : Addr} {ko : Obj} {kd : FuncData} {key : PyData → PyData} (hko : C.g kv = some ko) (hkd : ko.data = .func kd) (hk : ∀ C', Like 2 C C' → ∀ d ∈ x :: ds, CallOk C' (.ref kv) [.dat d] [] [] (.dat (key d))) (hz : ds.length ≤ 1000) (hp : p ≤ ds.length) (hc : ∀ F i, (h : i < ds.length) → CmpR F .Lt (.dat (key ds[i])) (.dat (key x)) (decide (i < p))) :
    MutOk C (.ref 55) [.dat x] [Str.ofString "key"] [.val (.ref kv)] ds (ds.take p ++ x :: ds.drop p) := .mk fun ok W s l lv n vs ks S hWl hgl hl rl hx hy => by
    obtain ⟨_, rfl, r2⟩ := BAll.inv1 hx
    obtain ⟨_, rfl, r5⟩ := BAll.inv1 hy
    refine wpAny_call (codeAny_mono (enter_mut (x := Str.ofString "a") (ds' := ds.take p ++ x :: ds.drop p) (Γ' := fun _ => [(Str.ofString "lo", .dat (.int p)), (Str.ofString "a", .val (.ref l)), (Str.ofString "x", .dat x), (Str.ofString "hi", .dat .none), (Str.ofString "key", .val (.ref kv))]) ok (by first | decide | assumption | with_reducible exact Int.natCast_nonneg _ | with_reducible exact Nat.le_trans (by assumption) (by decide) | with_reducible exact Nat.lt_of_lt_of_le (by assumption) (by decide) | with_reducible exact lt_mil (Nat.lt_of_lt_of_le (by assumption) (by decide)) | with_reducible exact lt_mil (Nat.lt_of_le_of_lt (by assumption) (by decide)) | with_reducible exact Nat.le_trans (Nat.le_of_lt (by assumption)) (by decide) | (first | lia | omega)) S hWl hgl hl rl (I.lk (a := 55) rfl) (by rw [I.K]; rfl) (binds := [(Str.ofString "a", _), (Str.ofString "x", _), (Str.ofString "lo", _), (Str.ofString "hi", _), (Str.ofString "key", _)]) (kp_binds (K := hd1.heap_39 P) (I.inn S) (fun _ => rfl))
      (.cons (b := .val (.ref l)) rfl (.cons r2 (.cons (b := .dat (.int 0)) (.int _ _) (.cons (b := .dat .none) .none (.cons r5 .nil))))) (show [Str.ofString "a", Str.ofString "x", Str.ofString "lo", Str.ofString "hi", Str.ofString "key"].Nodup by decide) rfl (.head _) (fun L => ?_) (fun L => (by first | exact mem_at 0 rfl | exact mem_at 1 rfl | exact mem_at 2 rfl | exact mem_at 3 rfl | exact mem_at 4 rfl | exact mem_at 5 rfl | exact mem_at 6 rfl | exact mem_at 7 rfl | exact mem_at 8 rfl | exact mem_at 9 rfl | exact mem_at 10 rfl | exact mem_at 11 rfl | exact mem_at 12 rfl | exact mem_at 13 rfl | exact mem_at 14 rfl | exact mem_at 15 rfl | exact mem_at 16 rfl | exact mem_at 17 rfl | exact mem_at 18 rfl | exact mem_at 19 rfl | exact mem_at 20 rfl | exact mem_at 21 rfl)) (fun _ => rfl) (noLst_ok rfl)) fun r s' ⟨e, sm, kp, hn⟩ => ?_)
    · refine ex_cons (Γ₁ := [(Str.ofString "lo", .dat (.int p)), (Str.ofString "a", .val (.ref l)), (Str.ofString "x", .dat x), (Str.ofString "hi", .dat .none), (Str.ofString "key", .val (.ref kv))]) (own₁ := some (Str.ofString "a", ds)) (ex_if_false (et_cmp (ev_var (by first | exact mem_at 0 rfl | exact mem_at 1 rfl | exact mem_at 2 rfl | exact mem_at 3 rfl | exact mem_at 4 rfl | exact mem_at 5 rfl | exact mem_at 6 rfl | exact mem_at 7 rfl | exact mem_at 8 rfl | exact mem_at 9 rfl | exact mem_at 10 rfl | exact mem_at 11 rfl | exact mem_at 12 rfl | exact mem_at 13 rfl | exact mem_at 14 rfl | exact mem_at 15 rfl | exact mem_at 16 rfl | exact mem_at 17 rfl | exact mem_at 18 rfl | exact mem_at 19 rfl | exact mem_at 20 rfl | exact mem_at 21 rfl)) ev_none cmpR_is_none_ref) (ex_one (ex_assign (b := .dat (.int p))
        (ev_def (ev_glob rfl (I.gl rfl)) (evl_cons (ev_var (b := .lst ds) (by first | exact mem_at 0 rfl | exact mem_at 1 rfl | exact mem_at 2 rfl | exact mem_at 3 rfl | exact mem_at 4 rfl | exact mem_at 5 rfl | exact mem_at 6 rfl | exact mem_at 7 rfl | exact mem_at 8 rfl | exact mem_at 9 rfl | exact mem_at 10 rfl | exact mem_at 11 rfl | exact mem_at 12 rfl | exact mem_at 13 rfl | exact mem_at 14 rfl | exact mem_at 15 rfl | exact mem_at 16 rfl | exact mem_at 17 rfl | exact mem_at 18 rfl | exact mem_at 19 rfl | exact mem_at 20 rfl | exact mem_at 21 rfl)) (evl_cons (ev_def (ev_var (by first | exact mem_at 0 rfl | exact mem_at 1 rfl | exact mem_at 2 rfl | exact mem_at 3 rfl | exact mem_at 4 rfl | exact mem_at 5 rfl | exact mem_at 6 rfl | exact mem_at 7 rfl | exact mem_at 8 rfl | exact mem_at 9 rfl | exact mem_at 10 rfl | exact mem_at 11 rfl | exact mem_at 12 rfl | exact mem_at 13 rfl | exact mem_at 14 rfl | exact mem_at 15 rfl | exact mem_at 16 rfl | exact mem_at 17 rfl | exact mem_at 18 rfl | exact mem_at 19 rfl | exact mem_at 20 rfl | exact mem_at 21 rfl)) (evl_cons (ev_var (by first | exact mem_at 0 rfl | exact mem_at 1 rfl | exact mem_at 2 rfl | exact mem_at 3 rfl | exact mem_at 4 rfl | exact mem_at 5 rfl | exact mem_at 6 rfl | exact mem_at 7 rfl | exact mem_at 8 rfl | exact mem_at 9 rfl | exact mem_at 10 rfl | exact mem_at 11 rfl | exact mem_at 12 rfl | exact mem_at 13 rfl | exact mem_at 14 rfl | exact mem_at 15 rfl | exact mem_at 16 rfl | exact mem_at 17 rfl | exact mem_at 18 rfl | exact mem_at 19 rfl | exact mem_at 20 rfl | exact mem_at 21 rfl)) evl_nil) evkw_nil hko hkd (hk _ (like_into2 _ _) _ (.head _))) (evl_cons (ev_var (by first | exact mem_at 0 rfl | exact mem_at 1 rfl | exact mem_at 2 rfl | exact mem_at 3 rfl | exact mem_at 4 rfl | exact mem_at 5 rfl | exact mem_at 6 rfl | exact mem_at 7 rfl | exact mem_at 8 rfl | exact mem_at 9 rfl | exact mem_at 10 rfl | exact mem_at 11 rfl | exact mem_at 12 rfl | exact mem_at 13 rfl | exact mem_at 14 rfl | exact mem_at 15 rfl | exact mem_at 16 rfl | exact mem_at 17 rfl | exact mem_at 18 rfl | exact mem_at 19 rfl | exact mem_at 20 rfl | exact mem_at 21 rfl)) (evl_cons (ev_var (by first | exact mem_at 0 rfl | exact mem_at 1 rfl | exact mem_at 2 rfl | exact mem_at 3 rfl | exact mem_at 4 rfl | exact mem_at 5 rfl | exact mem_at 6 rfl | exact mem_at 7 rfl | exact mem_at 8 rfl | exact mem_at 9 rfl | exact mem_at 10 rfl | exact mem_at 11 rfl | exact mem_at 12 rfl | exact mem_at 13 rfl | exact mem_at 14 rfl | exact mem_at 15 rfl | exact mem_at 16 rfl | exact mem_at 17 rfl | exact mem_at 18 rfl | exact mem_at 19 rfl | exact mem_at 20 rfl | exact mem_at 21 rfl)) evl_nil)))) (evkw_cons (ev_var (by first | exact mem_at 0 rfl | exact mem_at 1 rfl | exact mem_at 2 rfl | exact mem_at 3 rfl | exact mem_at 4 rfl | exact mem_at 5 rfl | exact mem_at 6 rfl | exact mem_at 7 rfl | exact mem_at 8 rfl | exact mem_at 9 rfl | exact mem_at 10 rfl | exact mem_at 11 rfl | exact mem_at 12 rfl | exact mem_at 13 rfl | exact mem_at 14 rfl | exact mem_at 15 rfl | exact mem_at 16 rfl | exact mem_at 17 rfl | exact mem_at 18 rfl | exact mem_at 19 rfl | exact mem_at 20 rfl | exact mem_at 21 rfl)) evkw_nil) (I.at (a := 64) rfl) rfl
          (bl_key4 (I.into _) (by show 0 < C.fuel - 1; (first | lia | omega)) hko hkd (fun C' hC d hd => hk C' ((like_into _ _).trans hC) d (.tail _ hd)) hz hp (fun F i h => hc F i h))) (by first | exact Or.inl rfl | exact Or.inr ⟨rfl, rfl, rfl⟩) (by intro y ds e; cases e; decide) (Pk.g (by repeat (first | exact Pk.nil | refine Pk.here ?_ | refine Pk.cons (by first | exact mem_at 0 rfl | exact mem_at 1 rfl | exact mem_at 2 rfl | exact mem_at 3 rfl | exact mem_at 4 rfl | exact mem_at 5 rfl | exact mem_at 6 rfl | exact mem_at 7 rfl | exact mem_at 8 rfl | exact mem_at 9 rfl | exact mem_at 10 rfl | exact mem_at 11 rfl | exact mem_at 12 rfl | exact mem_at 13 rfl | exact mem_at 14 rfl | exact mem_at 15 rfl | exact mem_at 16 rfl | exact mem_at 17 rfl | exact mem_at 18 rfl | exact mem_at 19 rfl | exact mem_at 20 rfl | exact mem_at 21 rfl) rfl ?_)))))) ?_
      exact ex_one (ex_meth (evl_cons (ev_var (by first | exact mem_at 0 rfl | exact mem_at 1 rfl | exact mem_at 2 rfl | exact mem_at 3 rfl | exact mem_at 4 rfl | exact mem_at 5 rfl | exact mem_at 6 rfl | exact mem_at 7 rfl | exact mem_at 8 rfl | exact mem_at 9 rfl | exact mem_at 10 rfl | exact mem_at 11 rfl | exact mem_at 12 rfl | exact mem_at 13 rfl | exact mem_at 14 rfl | exact mem_at 15 rfl | exact mem_at 16 rfl | exact mem_at 17 rfl | exact mem_at 18 rfl | exact mem_at 19 rfl | exact mem_at 20 rfl | exact mem_at 21 rfl)) (evl_cons (ev_var (by first | exact mem_at 0 rfl | exact mem_at 1 rfl | exact mem_at 2 rfl | exact mem_at 3 rfl | exact mem_at 4 rfl | exact mem_at 5 rfl | exact mem_at 6 rfl | exact mem_at 7 rfl | exact mem_at 8 rfl | exact mem_at 9 rfl | exact mem_at 10 rfl | exact mem_at 11 rfl | exact mem_at 12 rfl | exact mem_at 13 rfl | exact mem_at 14 rfl | exact mem_at 15 rfl | exact mem_at 16 rfl | exact mem_at 17 rfl | exact mem_at 18 rfl | exact mem_at 19 rfl | exact mem_at 20 rfl | exact mem_at 21 rfl)) evl_nil)) PySem.F.slot_list_insert PySem.F.type_list_insert (mutOk_insert hp (by first | decide | assumption | with_reducible exact Int.natCast_nonneg _ | with_reducible exact Nat.le_trans (by assumption) (by decide) | with_reducible exact Nat.lt_of_lt_of_le (by assumption) (by decide) | with_reducible exact lt_mil (Nat.lt_of_lt_of_le (by assumption) (by decide)) | with_reducible exact lt_mil (Nat.lt_of_le_of_lt (by assumption) (by decide)) | with_reducible exact Nat.le_trans (Nat.le_of_lt (by assumption)) (by decide) | (first | lia | omega))) (noLst_ok rfl) (hi := rfl))
    · subst e
      exact ⟨rfl, sm, kp, hn⟩
theorem ir_none (I : Is1 P C) (hf : 1 < C.fuel) {ds : List PyData} {x : PyData} {p : Nat} (hz : ds.length ≤ 1000) (hp : p ≤ ds.length) (hc : ∀ F i, (h : i < ds.length) → CmpR F .Lt (.dat x) (.dat ds[i]) (decide (p ≤ i))) :
    MutOk C (.ref 37) [.dat x] [] [] ds (ds.take p ++ x :: ds.drop p) := .mk fun ok W s l lv n vs ks S hWl hgl hl rl hx hy => by
    obtain ⟨_, rfl, r2⟩ := BAll.inv1 hx
    obtain rfl := BAll.inv0 hy
    refine wpAny_call (codeAny_mono (enter_mut (x := Str.ofString "a") (ds' := ds.take p ++ x :: ds.drop p) (Γ' := fun _ => [(Str.ofString "lo", .dat (.int p)), (Str.ofString "a", .val (.ref l)), (Str.ofString "x", .dat x), (Str.ofString "hi", .dat .none), (Str.ofString "key", .dat .none)]) ok (by first | decide | assumption | with_reducible exact Int.natCast_nonneg _ | with_reducible exact Nat.le_trans (by assumption) (by decide) | with_reducible exact Nat.lt_of_lt_of_le (by assumption) (by decide) | with_reducible exact lt_mil (Nat.lt_of_lt_of_le (by assumption) (by decide)) | with_reducible exact lt_mil (Nat.lt_of_le_of_lt (by assumption) (by decide)) | with_reducible exact Nat.le_trans (Nat.le_of_lt (by assumption)) (by decide) | (first | lia | omega)) S hWl hgl hl rl (I.lk (a := 37) rfl) (by rw [I.K]; rfl) (binds := [(Str.ofString "a", _), (Str.ofString "x", _), (Str.ofString "lo", _), (Str.ofString "hi", _), (Str.ofString "key", _)]) (kp_binds (K := hd1.heap_39 P) (I.inn S) (fun _ => rfl))
      (.cons (b := .val (.ref l)) rfl (.cons r2 (.cons (b := .dat (.int 0)) (.int _ _) (.cons (b := .dat .none) .none (.cons (b := .dat .none) .none .nil))))) (show [Str.ofString "a", Str.ofString "x", Str.ofString "lo", Str.ofString "hi", Str.ofString "key"].Nodup by decide) rfl (.head _) (fun L => ?_) (fun L => (by first | exact mem_at 0 rfl | exact mem_at 1 rfl | exact mem_at 2 rfl | exact mem_at 3 rfl | exact mem_at 4 rfl | exact mem_at 5 rfl | exact mem_at 6 rfl | exact mem_at 7 rfl | exact mem_at 8 rfl | exact mem_at 9 rfl | exact mem_at 10 rfl | exact mem_at 11 rfl | exact mem_at 12 rfl | exact mem_at 13 rfl | exact mem_at 14 rfl | exact mem_at 15 rfl | exact mem_at 16 rfl | exact mem_at 17 rfl | exact mem_at 18 rfl | exact mem_at 19 rfl | exact mem_at 20 rfl | exact mem_at 21 rfl)) (fun _ => rfl) (noLst_ok rfl)) fun r s' ⟨e, sm, kp, hn⟩ => ?_)
    · refine ex_cons (Γ₁ := [(Str.ofString "lo", .dat (.int p)), (Str.ofString "a", .val (.ref l)), (Str.ofString "x", .dat x), (Str.ofString "hi", .dat .none), (Str.ofString "key", .dat .none)]) (own₁ := some (Str.ofString "a", ds)) (ex_if_true (et_cmp (ev_var (by first | exact mem_at 0 rfl | exact mem_at 1 rfl | exact mem_at 2 rfl | exact mem_at 3 rfl | exact mem_at 4 rfl | exact mem_at 5 rfl | exact mem_at 6 rfl | exact mem_at 7 rfl | exact mem_at 8 rfl | exact mem_at 9 rfl | exact mem_at 10 rfl | exact mem_at 11 rfl | exact mem_at 12 rfl | exact mem_at 13 rfl | exact mem_at 14 rfl | exact mem_at 15 rfl | exact mem_at 16 rfl | exact mem_at 17 rfl | exact mem_at 18 rfl | exact mem_at 19 rfl | exact mem_at 20 rfl | exact mem_at 21 rfl)) ev_none cmpR_is_none) (ex_one (ex_assign (b := .dat (.int p))
        (ev_def (ev_glob rfl (I.gl rfl)) (evl_cons (ev_var (b := .lst ds) (by first | exact mem_at 0 rfl | exact mem_at 1 rfl | exact mem_at 2 rfl | exact mem_at 3 rfl | exact mem_at 4 rfl | exact mem_at 5 rfl | exact mem_at 6 rfl | exact mem_at 7 rfl | exact mem_at 8 rfl | exact mem_at 9 rfl | exact mem_at 10 rfl | exact mem_at 11 rfl | exact mem_at 12 rfl | exact mem_at 13 rfl | exact mem_at 14 rfl | exact mem_at 15 rfl | exact mem_at 16 rfl | exact mem_at 17 rfl | exact mem_at 18 rfl | exact mem_at 19 rfl | exact mem_at 20 rfl | exact mem_at 21 rfl)) (evl_cons (ev_var (by first | exact mem_at 0 rfl | exact mem_at 1 rfl | exact mem_at 2 rfl | exact mem_at 3 rfl | exact mem_at 4 rfl | exact mem_at 5 rfl | exact mem_at 6 rfl | exact mem_at 7 rfl | exact mem_at 8 rfl | exact mem_at 9 rfl | exact mem_at 10 rfl | exact mem_at 11 rfl | exact mem_at 12 rfl | exact mem_at 13 rfl | exact mem_at 14 rfl | exact mem_at 15 rfl | exact mem_at 16 rfl | exact mem_at 17 rfl | exact mem_at 18 rfl | exact mem_at 19 rfl | exact mem_at 20 rfl | exact mem_at 21 rfl)) (evl_cons (ev_var (by first | exact mem_at 0 rfl | exact mem_at 1 rfl | exact mem_at 2 rfl | exact mem_at 3 rfl | exact mem_at 4 rfl | exact mem_at 5 rfl | exact mem_at 6 rfl | exact mem_at 7 rfl | exact mem_at 8 rfl | exact mem_at 9 rfl | exact mem_at 10 rfl | exact mem_at 11 rfl | exact mem_at 12 rfl | exact mem_at 13 rfl | exact mem_at 14 rfl | exact mem_at 15 rfl | exact mem_at 16 rfl | exact mem_at 17 rfl | exact mem_at 18 rfl | exact mem_at 19 rfl | exact mem_at 20 rfl | exact mem_at 21 rfl)) (evl_cons (ev_var (by first | exact mem_at 0 rfl | exact mem_at 1 rfl | exact mem_at 2 rfl | exact mem_at 3 rfl | exact mem_at 4 rfl | exact mem_at 5 rfl | exact mem_at 6 rfl | exact mem_at 7 rfl | exact mem_at 8 rfl | exact mem_at 9 rfl | exact mem_at 10 rfl | exact mem_at 11 rfl | exact mem_at 12 rfl | exact mem_at 13 rfl | exact mem_at 14 rfl | exact mem_at 15 rfl | exact mem_at 16 rfl | exact mem_at 17 rfl | exact mem_at 18 rfl | exact mem_at 19 rfl | exact mem_at 20 rfl | exact mem_at 21 rfl)) evl_nil)))) evkw_nil (I.at (a := 46) rfl) rfl
          (br_none4 (I.into _) (by show 0 < C.fuel - 1; (first | lia | omega)) hz hp (fun F i h => hc F i h))) (by first | exact Or.inl rfl | exact Or.inr ⟨rfl, rfl, rfl⟩) (by intro y ds e; cases e; decide) (Pk.g (by repeat (first | exact Pk.nil | refine Pk.here ?_ | refine Pk.cons (by first | exact mem_at 0 rfl | exact mem_at 1 rfl | exact mem_at 2 rfl | exact mem_at 3 rfl | exact mem_at 4 rfl | exact mem_at 5 rfl | exact mem_at 6 rfl | exact mem_at 7 rfl | exact mem_at 8 rfl | exact mem_at 9 rfl | exact mem_at 10 rfl | exact mem_at 11 rfl | exact mem_at 12 rfl | exact mem_at 13 rfl | exact mem_at 14 rfl | exact mem_at 15 rfl | exact mem_at 16 rfl | exact mem_at 17 rfl | exact mem_at 18 rfl | exact mem_at 19 rfl | exact mem_at 20 rfl | exact mem_at 21 rfl) rfl ?_)))))) ?_
      exact ex_one (ex_meth (evl_cons (ev_var (by first | exact mem_at 0 rfl | exact mem_at 1 rfl | exact mem_at 2 rfl | exact mem_at 3 rfl | exact mem_at 4 rfl | exact mem_at 5 rfl | exact mem_at 6 rfl | exact mem_at 7 rfl | exact mem_at 8 rfl | exact mem_at 9 rfl | exact mem_at 10 rfl | exact mem_at 11 rfl | exact mem_at 12 rfl | exact mem_at 13 rfl | exact mem_at 14 rfl | exact mem_at 15 rfl | exact mem_at 16 rfl | exact mem_at 17 rfl | exact mem_at 18 rfl | exact mem_at 19 rfl | exact mem_at 20 rfl | exact mem_at 21 rfl)) (evl_cons (ev_var (by first | exact mem_at 0 rfl | exact mem_at 1 rfl | exact mem_at 2 rfl | exact mem_at 3 rfl | exact mem_at 4 rfl | exact mem_at 5 rfl | exact mem_at 6 rfl | exact mem_at 7 rfl | exact mem_at 8 rfl | exact mem_at 9 rfl | exact mem_at 10 rfl | exact mem_at 11 rfl | exact mem_at 12 rfl | exact mem_at 13 rfl | exact mem_at 14 rfl | exact mem_at 15 rfl | exact mem_at 16 rfl | exact mem_at 17 rfl | exact mem_at 18 rfl | exact mem_at 19 rfl | exact mem_at 20 rfl | exact mem_at 21 rfl)) evl_nil)) PySem.F.slot_list_insert PySem.F.type_list_insert (mutOk_insert hp (by first | decide | assumption | with_reducible exact Int.natCast_nonneg _ | with_reducible exact Nat.le_trans (by assumption) (by decide) | with_reducible exact Nat.lt_of_lt_of_le (by assumption) (by decide) | with_reducible exact lt_mil (Nat.lt_of_lt_of_le (by assumption) (by decide)) | with_reducible exact lt_mil (Nat.lt_of_le_of_lt (by assumption) (by decide)) | with_reducible exact Nat.le_trans (Nat.le_of_lt (by assumption)) (by decide) | (first | lia | omega))) (noLst_ok rfl) (hi := rfl))
    · subst e
      exact ⟨rfl, sm, kp, hn⟩
end
end Mine

namespace Mine
open PySem PySem.W PyProof.Rows PySem.Calls
set_option maxRecDepth 100000

/-! ### Tables of nested code: a lambda's code is made once and kept there -/
abbrev Tab := Addr × Pos × Str
def TabJ (q : Tab) (W : Addr → Prop) (h : Heap) : Prop :=
  ∃ ps, h.get? q.1 = some (tabObj ps) ∧ (ps = #[] ∨ ∃ c oc vs t, ps = #[rawInt q.2.1.line, rawInt q.2.1.col, .ref c] ∧ ¬ W c ∧ h.get? c = some oc ∧ oc.data = .fields vs ∧ vs[1]? = some (.str q.2.2 t))
theorem TabJ.gen {q : Tab} {W W' : Addr → Prop} {h h' : Heap} (x : TabJ q W h) (hW : ∀ a, W' a → W a ∨ h.get? a = none) (hk : ∀ b o, ¬ W b → h.get? b = some o → (∀ xs n, o.data ≠ .seq xs n) → h'.get? b = some o) (hq : ∀ o, h.get? q.1 = some o → h'.get? q.1 = some o) : TabJ q W' h' := by
  obtain ⟨ps, e, r⟩ := x
  refine ⟨ps, hq _ e, r.imp id fun ⟨c, oc, vs, t, e1, n, e2, r⟩ => ⟨c, oc, vs, t, e1, fun w => ?_, hk _ _ n e2 (fun xs n q => by rw [r.1] at q; cases q), r⟩⟩
  rcases hW c w with w | w
  · exact n w
  · rw [w] at e2; cases e2
def TabsJ (tabs : List Tab) (W : Addr → Prop) (h : Heap) : Prop := ∀ q ∈ tabs, TabJ q W h
def TOf (tabs : List Tab) (a : Addr) : Prop := ∃ q ∈ tabs, q.1 = a
theorem TabsJ.at {tabs : List Tab} {W : Addr → Prop} {h : Heap} (x : TabsJ tabs W h) {a : Addr} (ha : TOf tabs a) : ∃ ps, h.get? a = some (tabObj ps) := by
  obtain ⟨q, hq, rfl⟩ := ha
  obtain ⟨ps, e, _⟩ := x q hq
  exact ⟨ps, e⟩
theorem TabsJ.gen {tabs : List Tab} {W W' : Addr → Prop} {h h' : Heap} (x : TabsJ tabs W h) (hW : ∀ a, W' a → W a ∨ h.get? a = none) (hk : ∀ b o, ¬ W b → h.get? b = some o → (∀ xs n, o.data ≠ .seq xs n) → h'.get? b = some o) (hT : ∀ a, TOf tabs a → ∀ o, h.get? a = some o → h'.get? a = some o) : TabsJ tabs W' h' :=
  fun q hq => (x q hq).gen hW hk (hT q.1 ⟨q, hq, rfl⟩)
theorem TabsJ.keeps {tabs : List Tab} {W : Addr → Prop} {h h' : Heap} (x : TabsJ tabs W h) (k : KeepAll h h') : TabsJ tabs W h' := x.gen (fun _ w => .inl w) (fun b o _ e _ => k b o e) fun a _ o e => k a o e
theorem tab_noIsList {h : Heap} {a : Addr} {ps xs : Array Value} (e : h.get? a = some (tabObj ps)) (x : h.IsList a xs) : False := by
  obtain ⟨o, ho, hc, _⟩ := x
  rw [e] at ho; cases ho; cases hc
theorem tab_noNs {h : Heap} {a : Addr} {ps : Array Value} {m : Str → Option Value} (e : h.get? a = some (tabObj ps)) (x : h.Ns a m) : False := by
  obtain ⟨o, es, ep, ho, hd, _⟩ := x
  rw [e] at ho; cases ho; cases hd
theorem tab_noCell {h : Heap} {a : Addr} {ps : Array Value} {v : Option Value} (e : h.get? a = some (tabObj ps)) (x : h.IsCell a v) : False := by
  obtain ⟨o, ho, hd⟩ := x
  rw [e] at ho; cases ho; cases hd

abbrev ExJ (tabs : List Tab) (F : Fm) (Γ : List (Str × Bd)) (own : Own) (t : Sem Flow) (out : Out) : Prop := Wrap (∀ W O, F.Ok W O → (∀ a, TOf tabs a → O a) → ∀ h0, Gd F O h0 → ∀ s, PreS F W h0 Γ own s → TabsJ tabs W s.heap →
  wpAny (model F.prog F.w) F.A t (fun f s' => (Same s s' ∧ TabsJ tabs W s'.heap) ∧ OutS F W h0 out f s') (fun _ _ => False) s)

section
variable {tabs : List Tab} {F : Fm} {Γ Γ' : List (Str × Bd)} {own : Own} {out : Out} {W O : Addr → Prop} {h0 : Gh} {l : Addr} {s : Shared}

/-- the tables are put aside: what a plain statement does keeps them -/
theorem liftJ (ok : F.Ok W O) (gd : Gd F O h0) (p : OpS F W h0 Γ own l s) (J : TabsJ tabs W s.heap) :
    ∃ (O' : Addr → Prop) (h1 : Gh), F.Ok W O' ∧ Gd F O' h1 ∧ OpS F W h1 Γ own l s ∧ (∀ h', GIn h1 h' → TabsJ tabs W h') ∧ (∀ b o, h0 b = some o → h1 b = some o) ∧ (∀ b o, ghostOff O own l s.heap b = some o → h1 b = some o) := by
  have hl : ∀ b o, s.heap.get? b = some o → (∀ xs n, o.data ≠ .seq xs n) → own.isSome = true → b ≠ l := fun b o e n h q => by
    obtain ⟨y, hy⟩ := Option.isSome_iff_exists.mp h
    obtain ⟨_, _, _, vs, k, a4, _⟩ := p.own y.1 y.2 hy
    rw [q, a4] at e; cases e; exact n _ _ rfl
  have ok' : F.Ok W (fun a => O a ∧ ¬ TOf tabs a) := ⟨ok.cx, ok.kind, ok.eg, ok.eb, ⟨ok.loc, fun t => by
      obtain ⟨ps, e⟩ := J.at t
      obtain ⟨m, hm⟩ := p.pre.ns
      exact tab_noNs e hm⟩, fun a h => ok.OW a h.1, fun a h => ok.Og a h.1, ok.cne, ok.cinj, ok.cW, fun st x c k e => ⟨ok.cO st x c k e, fun t => by
      obtain ⟨ps, e'⟩ := J.at t
      obtain ⟨v, hv⟩ := p.pre.cells x c e
      exact tab_noCell e' hv⟩⟩
  have gd' : Gd F (fun a => O a ∧ ¬ TOf tabs a) h0 := ⟨gd.g, fun a h => gd.O a h.1⟩
  have inn : ∀ b o, (¬ O b ∨ TOf tabs b) → (own.isSome = true → b ≠ l) → s.heap.get? b = some o → ghostOff (fun a => O a ∧ ¬ TOf tabs a) own l s.heap b = some o := fun b o h1 h2 e =>
    (ghostOff_in (fun h => h1.elim (fun n => n h.1) fun t => h.2 t) h2).trans e
  refine ⟨_, _, ok', ghostOff_gd ok' gd' p, p.reghost, fun h' g => J.gen (W' := W) (h' := h') (fun _ w => .inl w) (fun b o n e hd => g b o (inn b o (.inl fun h => n (ok.OW b h)) (hl b o e hd) e)) fun a ha o e => ?_, fun b o e => inn b o (.inl fun h => by rw [gd.O b h] at e; cases e) (fun h q => ?_) (p.g b o e), fun b o e => ?_⟩
  · obtain ⟨ps, e'⟩ := J.at ha
    exact g a o (inn a o (.inr ha) (hl a o e (by rw [e'] at e; cases e; intro xs n; simp)) e)
  · obtain ⟨y, hy⟩ := Option.isSome_iff_exists.mp h
    have := (p.own y.1 y.2 hy).nh
    rw [q, this] at e; cases e
  · obtain ⟨a, b', c⟩ := ghostOff_some e
    exact inn b o (.inl a) b' c

theorem OpS.regh {h1 : Gh} (p : OpS F W h1 Γ own l s) (up : ∀ b o, h0 b = some o → h1 b = some o) : OpS F W h0 Γ own l s :=
  ⟨fun b o e => p.g b o (up b o e), p.pre, fun y ds e => by
    obtain ⟨a1, a2, a3, a4⟩ := p.own y ds e
    refine ⟨?_, a2, a3, a4⟩
    cases q : h0 l with
    | none => rfl
    | some o => rw [up _ _ q] at a1; cases a1⟩
theorem OutS.regh {h1 : Gh} {f : Flow} (up : ∀ b o, h0 b = some o → h1 b = some o) (x : OutS F W h1 out f s) : GIn h1 s.heap ∧ OutS F W h0 out f s := by
  cases out with
  | next Γ₁ own₁ =>
    obtain ⟨e, l₁, q⟩ := x
    exact ⟨q.g, e, l₁, q.regh up⟩
  | ret b =>
    obtain ⟨v, e, g, r⟩ := x
    exact ⟨g, v, e, fun b o e => g b o (up b o e), r⟩
theorem exj_of {t : Sem Flow} (x : ExG F Γ own t out) : ExJ tabs F Γ own t out := .mk fun W O ok hT h0 gd s ⟨l, p⟩ J => by
  obtain ⟨O', h1, ok', gd', p', kJ, up, _⟩ := liftJ ok gd p J
  refine wpAny_mono (x.run W O' ok' h1 gd' s ⟨l, p'⟩) (fun f s' hh₀ => ?_) fun _ _ f => f
  obtain ⟨sm, q⟩ := hh₀
  obtain ⟨g, q⟩ := q.regh up
  exact ⟨⟨sm, kJ _ g⟩, q⟩
theorem exj_cons {st : Stmt} {rest : List Stmt} {own₁ : Own} {Γ₁ : List (Str × Bd)} (x : ExJ tabs F Γ own (exec st F.env) (.next Γ₁ own₁)) (y : ExJ tabs F Γ₁ own₁ (execs rest F.env) out) : ExJ tabs F Γ own (execs (st :: rest) F.env) out := .mk fun W O ok hT h0 gd s p J =>
  wpAny_execs_cons (wpAny_mono (x.run W O ok hT h0 gd s p J) (fun f s₁ ⟨⟨sm, J₁⟩, e, p₁⟩ => by
    subst e
    exact wpAny_mono (y.run W O ok hT h0 gd s₁ p₁ J₁) (fun f s₂ ⟨⟨sm₂, J₂⟩, q⟩ => ⟨⟨same_trans sm sm₂, J₂⟩, q⟩) fun _ _ f => f) fun _ _ f => f)
theorem exj_freeze {t : Sem Flow} {x : Str} {ds : List PyData} (h : ExJ tabs F ((x, .dat (.list ds)) :: Γ) none t out) : ExJ tabs F Γ (some (x, ds)) t out := .mk fun W O ok hT h0 gd s ⟨l, p⟩ => by
  obtain ⟨a1, a2, a3, vs, n, a4, a5⟩ := p.own x ds rfl
  have q := p.drop
  refine h.run W O ok hT h0 gd s ⟨l, q.g, ⟨q.pre.st, fun r hr => ?_, q.pre.ns, q.pre.cells⟩, fun x ds e => by cases e⟩
  rcases List.mem_cons.mp hr with rfl | hr
  · exact ⟨_, a3, Rep.list a2 (.of a4) (a5.less fun a w => .inl w)⟩
  · exact q.pre.vars r hr
/-! some objects that nothing known reaches have changed -/
theorem bRep_butT {I : Addr → Prop} {h h' : Heap} {v : Value} {b : Bd} (x : BRep W h v b) (hI : ∀ a, I a → W a) (hk : ∀ b o, ¬ I b → h.get? b = some o → h'.get? b = some o) (hnl : ∀ a xs, I a → ¬ h.IsList a xs) : BRep W h' v b := by
  cases b with
  | dat d => exact Rep.gen (fun _ w => .inl w) (fun b o hb e => hk b o (fun q => hb (hI b q)) e) x
  | lst ds =>
    obtain ⟨l, vs, e, hl, r⟩ := x
    exact ⟨l, vs, e, isList_keeps hl fun o => hk l o fun q => hnl _ _ q hl, r.gen (fun _ w => .inl w) fun b o hb e => hk b o (fun q => hb (hI b q)) e⟩
  | val u => exact x
theorem bAll_butT {I : Addr → Prop} {h h' : Heap} {vs : List Value} {bs : List Bd} (x : BAll W h vs bs) (hI : ∀ a, I a → W a) (hk : ∀ b o, ¬ I b → h.get? b = some o → h'.get? b = some o) (hnl : ∀ a xs, I a → ¬ h.IsList a xs) : BAll W h' vs bs := by
  induction x with
  | nil => exact .nil
  | cons a _ ih => exact .cons (bRep_butT a hI hk hnl) ih
theorem varAt_butT {env : Env} {I : Addr → Prop} {h h' : Heap} {x : Str} {v : Value} (a : VarAt env h x v) (hk : ∀ b o, ¬ I b → h.get? b = some o → h'.get? b = some o) (hL : ¬ I env.locals) (hc : ∀ y c, env.cells.lookup y = some c → ¬ I c) : VarAt env h' x v := by
  cases a with
  | loc d1 d2 d3 => exact .loc d1 (d2.at' fun o e => hk _ o hL e) d3
  | cell d1 d2 d3 => obtain ⟨o, ho, hd⟩ := d3; exact .cell d1 d2 ⟨o, hk _ o (hc _ _ d2) ho, hd⟩
  | free d1 d2 d3 d4 => obtain ⟨o, ho, hd⟩ := d4; exact .free d1 d2 d3 ⟨o, hk _ o (hc _ _ d3) ho, hd⟩
theorem OpS.butT (p : OpS F W h0 Γ own l s) {I : Addr → Prop} {h' : Heap} {tk : Nat} (hI : ∀ a, I a → W a) (hh : ∀ a, I a → h0 a = none) (hk : ∀ b o, ¬ I b → s.heap.get? b = some o → h'.get? b = some o) (hex : ∀ a, I a → ∃ o, h'.get? a = some o)
    (hnl : ∀ a xs, I a → ¬ s.heap.IsList a xs) (hL : ¬ I F.env.locals) (hc : ∀ y c, F.env.cells.lookup y = some c → ¬ I c) (hg : ∀ a, I a → F.g a = none) : OpS F W h0 Γ own l { s with heap := h', toks := tk } := by
  refine ⟨fun b o e => hk b o (fun q => by rw [hh b q] at e; cases e) (p.g b o e), ⟨⟨fun b o e => hk b o (fun q => by rw [hg b q] at e; cases e) (p.pre.st.g b o e), fun b w => ?_⟩, fun q hq => ?_, ?_, fun y c e => ?_⟩, fun y ds e => ?_⟩
  · by_cases q : I b
    · exact hex b q
    · obtain ⟨o, ho⟩ := p.pre.st.W b w; exact ⟨o, hk b o q ho⟩
  · obtain ⟨v, a, b⟩ := p.pre.vars q hq
    exact ⟨v, varAt_butT a hk hL hc, bRep_butT b (fun a h => wid_le _ (hI a h)) hk hnl⟩
  · obtain ⟨m, hm⟩ := p.pre.ns
    exact ⟨m, hm.at' fun o e => hk _ o hL e⟩
  · obtain ⟨v, o, ho, hd⟩ := p.pre.cells y c e
    exact ⟨v, o, hk _ o (hc _ _ e) ho, hd⟩
  · obtain ⟨a1, a2, a3, vs, n, a4, a5⟩ := p.own y ds e
    exact ⟨a1, a2, varAt_butT a3 hk hL hc, vs, n, hk _ _ (fun q => a2 (hI _ q)) a4, a5.gen (fun _ w => .inl w) fun b o hb e => hk b o (fun q => hb (.inl (hI b q))) e⟩
end
end Mine

namespace Mine
open PySem PySem.W PyProof.Rows PySem.Calls
set_option maxRecDepth 100000

section
variable {tabs : List Tab} {F : Fm} {Γ Γ' : List (Str × Bd)} {own : Own} {out : Out} {W O : Addr → Prop} {h0 : Gh} {l : Addr} {s : Shared}
/-- a for, beside the tables -/
theorem exj_for {target iter : Expr} {body : List Stmt} {pos : Pos} {items : List PyData} (G Gb : Nat → List (Str × Bd)) (ow : Nat → Own) (hi : EvI F (gam (G 0) (ow 0)) iter items)
    (ha : ∀ i (h : i < items.length), Asg F (G i) (ow i) target items[i] (Gb i))
    (hb : ∀ i, i < items.length → ExJ tabs F (Gb i) (ow i) (execs body F.env) (.next (G (i + 1)) (ow (i + 1))))
    (hs : ∀ x, foldedSetIterable iter F.env x = pure x := by intro _; rfl) : ExJ tabs F (G 0) (ow 0) (exec (.For target iter body [] pos) F.env) (.next (G items.length) (ow items.length)) := .mk fun W O ok hTO h0 gd s ⟨l, p⟩ J => by
  refine wpAny_For ?_ hs
  have okl := p.ok ok gd
  refine wpAny_mono (hi.run _ _ okl s p.gam) (fun x s₁ hh₀ => ?_) fun _ _ f => f.elim
  obtain ⟨k₁, hit⟩ := hh₀
  refine wpAny_mono hit (fun it s₂ hh₀ => ?_) fun _ _ f => f.elim
  obtain ⟨k₂, I, fp, wr, P, St, e, Wk, hst, hwr, hfp, hP, hT, hwI, hIw⟩ := hh₀
  subst e
  have p₁ := p.keeps k₁
  have hIfp : I ∈ fp := Wk.sub I hIw
  have hIW : ¬ wid W l (ow 0) I := (hfp I hIfp).1
  have hI1 : s₁.heap.get? I = none := hwr I hIw
  have k12 := keeps_trans k₁ k₂
  have p₂ := p.keeps k12
  have okI : F.Ok (fun a => W a ∨ a = I) O := ⟨ok.cx, ok.kind, ok.eg, ok.eb, ok.loc, fun a h => .inl (ok.OW a h), ok.Og, ok.cne, ok.cinj, fun x c e => .inl (ok.cW x c e), ok.cO⟩
  have hIL : I ≠ F.env.locals := fun q => hIW (wid_le _ (q ▸ ok.OW _ ok.loc))
  have hIc : ∀ y c, F.env.cells.lookup y = some c → I ≠ c := fun y c e q => hIW (wid_le _ (q ▸ ok.cW _ _ e))
  have hIg : F.g I = none := by
    cases q : F.g I with
    | none => rfl
    | some o => rw [p₁.pre.st.g _ _ q] at hI1; cases hI1
  have hIO : ¬ O I := fun h => hIW (wid_le _ (ok.OW _ h))
  obtain ⟨oI, TI, hoI, _⟩ := hT 0 _ hst
  -- the ghost of the whole loop: all that lay there but the frame's own
  let hx : Gh := fun b => if b = I then none else ghostOff O (ow 0) l s₂.heap b
  have hx_h0 : ∀ b o, h0 b = some o → hx b = some o := fun b o e => by
    have hb1 := p₁.g b o e
    have n1 : b ≠ I := fun q => by rw [q, hI1] at hb1; cases hb1
    show (if b = I then none else ghostOff O (ow 0) l s₂.heap b) = some o
    rw [if_neg n1, ghostOff_in (fun h => by rw [gd.O b h] at e; cases e) fun h q => ?_]
    · exact p₂.g b o e
    · obtain ⟨y, hy⟩ := Option.isSome_iff_exists.mp h
      have := (p.own y.1 y.2 hy).nh
      rw [q, this] at e; cases e
  have hxI : hx I = none := by show (if I = I then none else _) = none; rw [if_pos rfl]
  have gdx : Gd F O hx := ⟨fun b o e => by
    have n1 : b ≠ I := fun q => by rw [q, hIg] at e; cases e
    show (if b = I then none else ghostOff O (ow 0) l s₂.heap b) = some o
    rw [if_neg n1]; exact (ghostOff_gd ok gd p₂).g b o e, fun a h => by
    show (if a = I then none else ghostOff O (ow 0) l s₂.heap a) = none
    split
    · rfl
    · exact (ghostOff_gd ok gd p₂).O a h⟩
  have up1 : ∀ {v : Value} {d : PyData}, Rep (wid W l (ow 0)) s₁.heap v d → Rep (wid (fun a => W a ∨ a = I) l (ow 0)) s₂.heap v d := fun r => r.gen (fun a w => by
    cases hown : ow 0 with
    | none => rw [hown] at w; exact w.imp id fun q => by rw [q]; exact hI1
    | some y =>
      rw [hown] at w
      rcases w with (w | w) | w
      · exact .inl (.inl w)
      · exact .inr (by rw [w]; exact hI1)
      · exact .inl (.inr w)) fun b o _ e => keeps_heap k₂ b o e
  have up1' : ∀ {v : List Value} {d : List PyData}, RepAll (wid W l (ow 0)) s₁.heap v d → RepAll (wid (fun a => W a ∨ a = I) l (ow 0)) s₂.heap v d := fun r => r.gen (fun a w => by
    cases hown : ow 0 with
    | none => rw [hown] at w; exact w.imp id fun q => by rw [q]; exact hI1
    | some y =>
      rw [hown] at w
      rcases w with (w | w) | w
      · exact .inl (.inl w)
      · exact .inr (by rw [w]; exact hI1)
      · exact .inl (.inr w)) fun b o _ e => keeps_heap k₂ b o e
  have opx : OpS F (fun a => W a ∨ a = I) hx (G 0) (ow 0) l s₂ := by
    refine ⟨fun b o e => ?_, ⟨⟨p₂.pre.st.g, fun a w => ?_⟩, fun q hq => ?_, p₂.pre.ns, p₂.pre.cells⟩, fun y ds e => ?_⟩
    · have e : (if b = I then none else ghostOff O (ow 0) l s₂.heap b) = some o := e
      by_cases q : b = I
      · rw [if_pos q] at e; cases e
      · rw [if_neg q] at e; exact (ghostOff_some e).2.2
    · have : wid W l (ow 0) a ∨ a = I := by
        cases hown : ow 0 with
        | none => rw [hown] at w; exact w
        | some y =>
          rw [hown] at w
          rcases w with (w | w) | w
          · exact .inl (.inl w)
          · exact .inr w
          · exact .inl (.inr w)
      rcases this with w | w
      · exact p₂.pre.st.W a w
      · exact ⟨oI, w ▸ hoI⟩
    · obtain ⟨v, a, b⟩ := p₁.pre.vars q hq
      refine ⟨v, a.keeps (keeps_heap k₂), ?_⟩
      cases hb : q.2 with
      | dat d => rw [hb] at b; exact up1 b
      | lst ds => rw [hb] at b; obtain ⟨l', vs, e, hl, r⟩ := b; exact ⟨l', vs, e, isList_keeps hl (keeps_heap k₂ l'), up1' r⟩
      | val u => rw [hb] at b; exact b
    · obtain ⟨a1, a2, a3, vs, n, a4, a5⟩ := p₁.own y ds e
      refine ⟨?_, fun w => w.elim a2 fun q => ?_, a3.keeps (keeps_heap k₂), vs, n, keeps_heap k₂ _ _ a4, ?_⟩
      · show (if l = I then none else ghostOff O (ow 0) l s₂.heap l) = none
        split
        · rfl
        · exact ghostOff_own (by rw [e]; rfl)
      · rw [q, hI1] at a4; cases a4
      · have := up1' (by rw [e]; exact a5 : RepAll (wid W l (ow 0)) s₁.heap vs ds)
        rw [e] at this; exact this
  have inv0 : LoopI F (fun a => W a ∨ a = I) O hx P St fp items (G 0) (ow 0) 0 l s₂ := by
    refine ⟨opx, hst, fun b hb => ⟨(hfp b hb).2, fun h => (hfp b hb).1 (wid_le _ (ok.OW _ h)), fun h q => (hfp b hb).1 ?_⟩, fun j v hj hv => ?_⟩
    · cases hown : ow 0 with
      | none => rw [hown] at h; simp at h
      | some y => exact .inr q
    · obtain ⟨d, hd, r⟩ := hP j v hj hv
      exact ⟨d, hd, up1 r⟩
  have hI0 : s.heap.get? I = none := by
    cases q : s.heap.get? I with
    | none => rfl
    | some o => rw [keeps_heap k₁ _ _ q] at hI1; cases hI1
  have hTI : ∀ a, TOf tabs a → a ≠ I := fun a ha q => by
    obtain ⟨ps, e⟩ := J.at ha
    rw [q, hI0] at e; cases e
  have J2 : TabsJ tabs (fun a => W a ∨ a = I) s₂.heap := J.gen (fun a w => w.imp id fun q => by rw [q]; exact hI0) (fun b o _ e _ => keeps_heap k12 b o e) fun a _ o e => keeps_heap k12 a o e
  -- what is left when the loop is over
  have leave : ∀ {i l s' h' tk}, OpS F (fun a => W a ∨ a = I) hx (G i) (ow i) l s' → (∀ b o, b ≠ I → s'.heap.get? b = some o → h'.get? b = some o) → (∀ xs, ¬ s'.heap.IsList I xs) → PreS F W h0 (G i) (ow i) { s' with heap := h', toks := tk } := fun {i l s' h' tk} q hk hnl => by
    have le : ∀ a, wid W l (ow i) a → wid (fun a => W a ∨ a = I) l (ow i) a := fun a w => by
      cases hown : ow i with
      | none => rw [hown] at w; exact .inl w
      | some y => rw [hown] at w; exact w.imp .inl id
    have WI : wid (fun a => W a ∨ a = I) l (ow i) I := wid_le _ (.inr rfl)
    refine ⟨l, fun b o e => hk b o (fun q => ?_) (q.g b o (hx_h0 b o e)), ⟨⟨fun b o e => hk b o (fun q => ?_) (q.pre.st.g b o e), fun a w => ?_⟩, fun r hr => ?_, ?_, fun y c e => ?_⟩, fun y ds e => ?_⟩
    · have := hx_h0 b o e; rw [q, hxI] at this; cases this
    · rw [q, hIg] at e; cases e
    · obtain ⟨o, ho⟩ := q.pre.st.W a (le a w)
      refine ⟨o, hk a o (fun qq => ?_) ho⟩
      subst qq
      cases hown : ow i with
      | none => rw [hown] at w; exact hIW (wid_le _ w)
      | some y =>
        rw [hown] at w
        rcases w with w | w
        · exact hIW (wid_le _ w)
        · exact (q.own y.1 y.2 (by rw [hown])).nW (.inr w.symm)
    · obtain ⟨v, a, b⟩ := q.pre.vars r hr
      exact ⟨v, varAt_but a hk hIL hIc, (bRep_but b WI hk hnl).less le⟩
    · obtain ⟨m, hm⟩ := q.pre.ns
      exact ⟨m, hm.at' fun o e => hk _ o (Ne.symm hIL) e⟩
    · obtain ⟨v, o, ho, hd⟩ := q.pre.cells y c e
      exact ⟨v, o, hk _ o (Ne.symm (hIc _ _ e)) ho, hd⟩
    · obtain ⟨a1, a2, a3, vs, n, a4, a5⟩ := q.own y ds e
      have hlI : l ≠ I := fun q => a2 (.inr q)
      refine ⟨?_, fun w => a2 (.inl w), varAt_but a3 hk hIL hIc, vs, n, hk _ _ hlI a4, a5.gen (fun a w => .inl (w.imp .inl id)) fun b o hb e => hk b o (fun q => hb (.inl (.inr q))) e⟩
      cases hh : h0 l with
      | none => rfl
      | some o => rw [hx_h0 l o hh] at a1; cases a1
  refine codeAny_forLoop_any (fun m s' => Same s s' ∧ ∃ i l, m = items.length - i ∧ i ≤ items.length ∧ LoopI F (fun a => W a ∨ a = I) O hx P St fp items (G i) (ow i) i l s' ∧ TabsJ tabs (fun a => W a ∨ a = I) s'.heap) ?_ items.length ⟨same_keeps k12, 0, l, rfl, Nat.zero_le _, inv0, J2⟩
  rintro m s' ⟨sm, i, l', rfl, hin, inv, Ji⟩
  have hnl : ∀ xs, ¬ s'.heap.IsList I xs := fun xs ⟨o, ho, hc, _⟩ => by
    obtain ⟨o', T, ho', hc', _, hT'⟩ := hT i _ inv.st
    rw [ho] at ho'; cases ho'; rw [hc] at hc'; cases hc'; exact hT' rfl
  rcases Nat.lt_or_ge i items.length with hlt | hge
  · refine Wk.item i s' _ _ hlt inv.st fun v h' tk hPv hst' hk' => ?_
    have hkI : ∀ b o, b ≠ I → s'.heap.get? b = some o → h'.get? b = some o := fun b o hb e => hk' b o (fun q => hb (hwI b q)) e
    obtain ⟨oI', TI', hoI', hcI', hTI', _⟩ := hT (i + 1) _ hst'
    refine wpAny_letOwned hoI' hcI' hTI' ?_
    have op' := inv.op.but (h' := h') (tk := tk) (.inr rfl) hxI hkI ⟨_, hoI'⟩ hnl hIL hIc hIg
    obtain ⟨d, hd, rd⟩ := inv.items i v hlt hPv
    have hdi : d = items[i] := by rw [List.getElem?_eq_getElem hlt] at hd; exact (Option.some.inj hd).symm
    have wI : wid (fun a => W a ∨ a = I) l' (ow i) I := wid_le _ (.inr rfl)
    have butR : ∀ {v : Value} {d : PyData}, Rep (wid (fun a => W a ∨ a = I) l' (ow i)) s'.heap v d → Rep (wid (fun a => W a ∨ a = I) l' (ow i)) h' v d := fun r => r.gen (fun _ w => .inl w) fun b o hb e => hkI b o (fun q => hb (by rw [q]; exact wI)) e
    have rd' := butR rd
    rw [hdi] at rd'
    have Jh : TabsJ tabs (fun a => W a ∨ a = I) h' := Ji.gen (fun _ w => .inl w) (fun b o n e _ => hkI b o (fun q => n (.inr q)) e) fun a ha o e => hkI a o (hTI a ha) e
    obtain ⟨O', hx', okI', gdx', opx', kJ, up, upO⟩ := liftJ okI gdx op' Jh
    refine wpAny_mono ((ha i hlt).run _ _ okI' _ gdx' l' _ v opx' rd') (fun _ s₃ hh₀ => ?_) fun _ _ f => f.elim
    obtain ⟨sm₃, p₃⟩ := hh₀
    have J3 := kJ _ p₃.g
    have p₃ := p₃.regh upO
    -- what the target's store has kept
    have keptN : ∀ (o₃ : Own) (l₃ : Addr) (s₄ : Shared) (G₃ : List (Str × Bd)), OpS F (fun a => W a ∨ a = I) (ghostOff O (ow i) l' h') G₃ o₃ l₃ s₄ → LoopI F (fun a => W a ∨ a = I) O hx P St fp items G₃ o₃ (i + 1) l₃ s₄ := fun o₃ l₃ s₄ G₃ q => by
      have hgl : o₃.isSome = true → ghostOff O (ow i) l' h' l₃ = none := fun h => by
        obtain ⟨y, hy⟩ := Option.isSome_iff_exists.mp h
        exact (q.own y.1 y.2 hy).nh
      have fpk : ∀ b ∈ fp, ∃ o, h'.get? b = some o ∧ ghostOff O (ow i) l' h' b = some o := fun b hb => by
        obtain ⟨⟨o, ho⟩, n1, n2⟩ := inv.fp b hb
        by_cases q : b = I
        · subst q; exact ⟨oI', hoI', (ghostOff_in n1 n2).trans hoI'⟩
        · exact ⟨o, hkI b o q ho, (ghostOff_in n1 n2).trans (hkI b o q ho)⟩
      refine ⟨⟨fun b o e => ?_, q.pre, fun y ds e => ?_⟩, Wk.frame _ _ _ hst' fun b hb o e => ?_, fun b hb => ?_, fun j u hj hu => ?_⟩
      · have e1 := e
        have e : (if b = I then none else ghostOff O (ow 0) l s₂.heap b) = some o := e
        by_cases qI : b = I
        · rw [if_pos qI] at e; cases e
        · rw [if_neg qI] at e
          have g1 := ghostOff_some e
          have g2 := inv.op.g b o e1
          refine q.g b o ((ghostOff_in g1.1 fun h q2 => ?_).trans (hkI b o qI g2))
          obtain ⟨y, hy⟩ := Option.isSome_iff_exists.mp h
          have := (inv.op.own y.1 y.2 hy).nh
          rw [q2] at e1; rw [this] at e1; cases e1
      · obtain ⟨a1, a2, a3, a4⟩ := q.own y ds e
        refine ⟨?_, a2, a3, a4⟩
        cases hh : hx l₃ with
        | none => rfl
        | some o =>
          have e1 := hh
          have hh : (if l₃ = I then none else ghostOff O (ow 0) l s₂.heap l₃) = some o := hh
          by_cases qI : l₃ = I
          · rw [if_pos qI] at hh; cases hh
          · rw [if_neg qI] at hh
            have g1 := ghostOff_some hh
            have g2 := inv.op.g _ o e1
            rw [(ghostOff_in g1.1 fun h q2 => ?_).trans (hkI _ o qI g2)] at a1
            · cases a1
            · obtain ⟨y', hy'⟩ := Option.isSome_iff_exists.mp h
              have := (inv.op.own y'.1 y'.2 hy').nh
              rw [q2] at e1; rw [this] at e1; cases e1
      · obtain ⟨o', ho', hg'⟩ := fpk b hb
        rw [ho'] at e; cases e
        exact q.g b _ hg'
      · obtain ⟨o', ho', hg'⟩ := fpk b hb
        refine ⟨⟨o', q.g b _ hg'⟩, (inv.fp b hb).2.1, fun h qq => ?_⟩
        have := hgl h
        rw [← qq, hg'] at this; cases this
      · obtain ⟨d', hd', r'⟩ := inv.items j u hj hu
        exact ⟨d', hd', rep_next okI (butR r') q.g hgl⟩
    have sm3 : Same s s₃ := same_trans sm (same_trans ⟨h', tk, rfl⟩ sm₃)
    have inv3 := keptN _ _ _ _ p₃
    -- the ghost for the body
    refine wpAny_mono ((hb i hlt).run _ _ okI hTO _ (ghostOff_gd okI gdx inv3.op) s₃ ⟨l', inv3.op.reghost (O := O)⟩ J3) (fun f s₄ hh₀ => ?_) fun _ _ f => f.elim
    obtain ⟨⟨sm₄, J4⟩, e, l₄, p₄⟩ := hh₀
    subst e
    refine ⟨items.length - (i + 1), by (first | lia | omega), same_trans sm3 sm₄, i + 1, l₄, rfl, hlt, ?_, J4⟩
    -- from s₃ to s₄
    have hgl : (ow (i + 1)).isSome = true → ghostOff O (ow i) l' s₃.heap l₄ = none := fun h => by
      obtain ⟨y, hy⟩ := Option.isSome_iff_exists.mp h
      exact (p₄.own y.1 y.2 hy).nh
    have fpk : ∀ b ∈ fp, ∃ o, s₃.heap.get? b = some o ∧ ghostOff O (ow i) l' s₃.heap b = some o := fun b hb => by
      obtain ⟨⟨o, ho⟩, n1, n2⟩ := inv3.fp b hb
      exact ⟨o, ho, (ghostOff_in n1 n2).trans ho⟩
    have hxk : ∀ b o, hx b = some o → ghostOff O (ow i) l' s₃.heap b = some o := fun b o e => by
      refine (ghostOff_in (fun h => by rw [gdx.O b h] at e; cases e) fun h q2 => ?_).trans (inv3.op.g b o e)
      obtain ⟨y, hy⟩ := Option.isSome_iff_exists.mp h
      have := (inv3.op.own y.1 y.2 hy).nh
      rw [q2, this] at e; cases e
    refine ⟨⟨fun b o e => p₄.g b o (hxk b o e), p₄.pre, fun y ds e => ?_⟩, Wk.frame _ _ _ inv3.st fun b hb o e => ?_, fun b hb => ?_, fun j u hj hu => ?_⟩
    · obtain ⟨a1, a2, a3, a4⟩ := p₄.own y ds e
      refine ⟨?_, a2, a3, a4⟩
      cases hh : hx l₄ with
      | none => rfl
      | some o => rw [hxk _ _ hh] at a1; cases a1
    · obtain ⟨o', ho', hg'⟩ := fpk b hb
      rw [ho'] at e; cases e
      exact p₄.g b _ hg'
    · obtain ⟨o', ho', hg'⟩ := fpk b hb
      refine ⟨⟨o', p₄.g b _ hg'⟩, (inv3.fp b hb).2.1, fun h qq => ?_⟩
      have := hgl h
      rw [← qq, hg'] at this; cases this
    · obtain ⟨d', hd', r'⟩ := inv3.items j u hj hu
      exact ⟨d', hd', rep_next okI r' p₄.g hgl⟩
  · have hin' : i = items.length := by (first | lia | omega)
    subst hin'
    refine Wk.done s' _ _ inv.st fun h' tk hk' => ?_
    have hkI : ∀ b o, b ≠ I → s'.heap.get? b = some o → h'.get? b = some o := fun b o hb e => hk' b o (fun q => hb (hwI b q)) e
    refine wpAny_execs_nil ?_
    exact ⟨⟨same_trans sm ⟨h', tk, rfl⟩, Ji.gen (fun a w => .inl (.inl w)) (fun b o n e _ => hkI b o (fun q => n (.inr q)) e) fun a ha o e => hkI a o (hTI a ha) e⟩, rfl, leave inv.op hkI hnl⟩
end
end Mine

namespace Mine
open PySem PySem.W PyProof.Rows PySem.Calls
set_option maxRecDepth 100000

section
variable {tabs : List Tab} {C : Cx} {W : Addr → Prop} {s : Shared} {f : Addr} {o : Obj} {name qual : Str} {params : Arguments} {body : List Stmt} {scope : Scope} {dV kV doc pm cdv ct : Value} {an : Option Addr}
  {args : Args} {binds : List (Str × Value)} {bs : List Bd} {b : Bd}
/-- into a def beside the tables -/
theorem enterJ (ok : C.Ok) (hf : 0 < C.fuel) (S : C.St W s) (hTW : ∀ a, TOf tabs a → W a) (hTg : ∀ a, TOf tabs a → C.g a = none) (J : TabsJ tabs W s.heap)
    (hK : s.heap.get? f = some o) (hfd : o.data = .func (fnOf name qual params body scope dV kV doc pm an cdv ct)) (hcd : s.heap.CodeRec cdv qual)
    (hbind : BindsTo s (fnOf name qual params body scope dV kV doc pm an cdv ct) args binds) (hb : BAll W s.heap (binds.map (·.2)) bs) (hn : (binds.map (·.1)).Nodup)
    (hkind : (binds.all fun y => scope.names.lookup y.1 == some .local || scope.names.lookup y.1 == some .cell) = true)
    (hbody : ∀ L, ExJ tabs (C.into (envOfC qual scope L f cdv)) ((binds.map (·.1)).zip bs) none (execs body (envOfC qual scope L f cdv)) (.ret b))
    (hco : scope.isCoroutine = false := by rfl) (hgen : scope.isGenerator = false := by rfl) (hk : scope.kind = .function := by rfl) :
    codeAny (model C.prog C.w) C.A (.call (.ref f) args) (fun r s' => ∃ v, r = .ok (.ret v) ∧ (Same s s' ∧ (∀ b o, ¬ TOf tabs b → s.heap.get? b = some o → s'.heap.get? b = some o) ∧ TabsJ tabs W s'.heap) ∧ BRep W s'.heap v b) s := by
  classical
  have hkk := kindsX hkind
  refine codeAny_call_function (by have := ok.depth; show C.A.depth < 1000; (first | lia | omega)) hK hfd hco hgen rfl hcd (hbind _ _ _ _ ?_)
  refine wpAny_newFunctionEnv_cells hk (hkk _) fun env' he s' x => ?_
  subst he
  refine ⟨(ok.nolimit _ S.g).keeps x.toInCall.keep, codeAny_func ?_⟩
  have kp := x.toInCall.keep
  obtain ⟨W', O, hW, hW2, ok', gd, l, p⟩ := entered (bs := bs) ok S (env := envOfC qual scope s.heap.objs.size f cdv) rfl rfl hk rfl rfl hf x hb hn (hkk _)
  obtain ⟨h₁, tk, rfl⟩ := x.toInCall.same
  have ok2 : (C.into (envOfC qual scope s.heap.objs.size f cdv)).Ok W' (fun a => O a ∨ TOf tabs a) := ⟨ok'.cx, ok'.kind, ok'.eg, ok'.eb, .inl ok'.loc, fun a h => h.elim (ok'.OW a) fun t => hW a (hTW a t), fun a h => h.elim (ok'.Og a) fun t => hTg a t, ok'.cne, ok'.cinj, ok'.cW, fun st x c k e => .inl (ok'.cO st x c k e)⟩
  have gd2 : Gd (C.into (envOfC qual scope s.heap.objs.size f cdv)) (fun a => O a ∨ TOf tabs a) (fun b => if TOf tabs b then none else s.heap.get? b) := ⟨fun b o e => by
      have : ¬ TOf tabs b := fun t => by have e : C.g b = some o := e; rw [hTg b t] at e; cases e
      rw [if_neg this]; exact gd.g b o e, fun a h => by
      by_cases t : TOf tabs a
      · rw [if_pos t]
      · rw [if_neg t]; exact gd.O a (h.resolve_right t)⟩
  have up : ∀ b o, (if TOf tabs b then none else s.heap.get? b) = some o → s.heap.get? b = some o := fun b o e => by
    by_cases t : TOf tabs b
    · rw [if_pos t] at e; cases e
    · rw [if_neg t] at e; exact e
  have J' : TabsJ tabs W' h₁ := J.gen (fun a w => (hW2 a w).imp id (gd.O a)) (fun b o _ e _ => kp b o e) fun a _ o e => kp a o e
  refine wpAny_mono ((hbody s.heap.objs.size).run W' _ ok2 (fun a t => .inr t) _ gd2 _ ⟨l, p.regh up⟩ J') (fun fl s₂ hh₀ => ?_) fun _ _ f => f.elim
  obtain ⟨⟨⟨h₂, t₂, e₂⟩, J₂⟩, v, e, hG, r⟩ := hh₀
  subst e
  subst e₂
  exact ⟨v, rfl, ⟨⟨h₂, t₂, rfl⟩, fun b o n e => hG b o (by show (if TOf tabs b then none else s.heap.get? b) = some o; rw [if_neg n]; exact e), J₂.gen (fun a w => .inl (hW a w)) (fun b o _ e _ => e) fun _ _ _ e => e⟩, r.less hW⟩
end

/-- what a callable that fills the tables gives -/
abbrev CallJ (tabs : List Tab) (C : Cx) (f : Value) (args : List Bd) (c : Bd) : Prop := Wrap (C.Ok → (∀ a, TOf tabs a → C.g a = none) → ∀ W s vs, C.St W s → (∀ a, TOf tabs a → W a) → TabsJ tabs W s.heap → BAll W s.heap vs args →
  wpAny (model C.prog C.w) C.A (call f vs []) (fun r s' => (Same s s' ∧ (∀ b o, ¬ TOf tabs b → s.heap.get? b = some o → s'.heap.get? b = some o) ∧ TabsJ tabs W s'.heap) ∧ BRep W s'.heap r c) (fun _ _ => False) s)
theorem callJ_of {tabs : List Tab} {C : Cx} {f : Addr} {ab : List Bd} {b : Bd} (h : C.Ok → (∀ a, TOf tabs a → C.g a = none) → ∀ W s vs, C.St W s → (∀ a, TOf tabs a → W a) → TabsJ tabs W s.heap → BAll W s.heap vs ab →
    codeAny (model C.prog C.w) C.A (.call (.ref f) ⟨vs, []⟩) (fun r s' => ∃ v, r = .ok (.ret v) ∧ (Same s s' ∧ (∀ b o, ¬ TOf tabs b → s.heap.get? b = some o → s'.heap.get? b = some o) ∧ TabsJ tabs W s'.heap) ∧ BRep W s'.heap v b) s) :
    CallJ tabs C (.ref f) ab b := .mk fun ok hT W s vs S hW J x =>
  wpAny_call (codeAny_mono (h ok hT W s vs S hW J x) fun r s' ⟨v, e, k, q⟩ => by subst e; exact ⟨k, q⟩)

section
variable {tabs : List Tab} {F : Fm} {Γ Γ' : List (Str × Bd)} {own : Own} {out : Out}
/-- x = f(..) where f fills the tables -/
theorem exj_call {x : Str} {px pos cpos : Pos} {fe : Expr} {es : List Expr} {a : Addr} {o : Obj} {fd : FuncData} {args : List Bd} {c : Bd}
    (hf : EvB F Γ fe (.val (.ref a))) (y : EvL F Γ cpos es args) (hg : F.g a = some o) (hd : o.data = .func fd) (h : CallJ tabs F.toCx (.ref a) args c) (hk : Sto F x) (hΓ : ∀ q ∈ Γ', q = (x, c) ∨ (q ∈ Γ ∧ q.1 ≠ x))
    (hn : ∀ env, (starEach es env).any (·.1) = false := by intro _; rfl)
    (harm : ∀ env, eval (.Call fe es [] cpos) env = (do callWith cpos (← eval fe env) [] (backTo cpos (starEach es env)) (backToKw cpos (keywordEach [] env))) := by intro _; rfl)
    (hs : swapsWith (.Call fe es [] cpos) (some (.Name x px)) pos.line F.env = pure false := by rfl) : ExJ tabs F Γ none (exec (.Assign [.Name x px] (.Call fe es [] cpos) pos) F.env) (.next Γ' none) := .mk fun W O ok hTO h0 gd s ⟨l, p⟩ J => by
  refine wpAny_Assign_Name ?_ hs
  rw [harm]
  have hTW : ∀ a, TOf tabs a → W a := fun a t => ok.OW a (hTO a t)
  have hTg : ∀ a, TOf tabs a → F.g a = none := fun a t => ok.Og a (hTO a t)
  refine wpAny_bind (hf.use ok p.pre fun f s₁ k₁ p₁ r₁ => ?_)
  have r₁ : f = .ref a := r₁
  subst r₁
  refine callWith_function_kw (o := o) (fd := fd) (evalArgs_any (by rw [backTo_plain]; exact hn _) rfl (wpAny_mono (y.run _ _ ok s₁ p₁) (fun vs s₂ hh₀ => ?_) fun _ _ f => f.elim))
  obtain ⟨k₂, r₂⟩ := hh₀
  refine wpAny_evalAll_nil ⟨⟨(p₁.keeps k₂).st.g _ _ hg, hd⟩, ?_⟩
  have k12 := keeps_trans k₁ k₂
  have p₂ := p.keeps k12
  have J₂ := J.keeps (keeps_heap k12)
  refine wpAny_mono (h.run ok.cx hTg W s₂ vs p₂.pre.st hTW J₂ r₂) (fun r s₃ hh₀ => ?_) fun _ _ f => f.elim
  obtain ⟨⟨⟨h₃, t₃, rfl⟩, kp, J₃⟩, r₃⟩ := hh₀
  have p₃ : OpS F W h0 Γ none l { s₂ with heap := h₃, toks := t₃ } := p₂.butT (I := TOf tabs) hTW (fun a t => gd.O a (hTO a t)) kp (fun a t => by obtain ⟨ps, e⟩ := J₃.at t; exact ⟨_, e⟩)
    (fun a xs t q => by obtain ⟨ps, e⟩ := J₂.at t; exact tab_noIsList e q) (fun t => by
      obtain ⟨ps, e⟩ := J₂.at t
      obtain ⟨m, hm⟩ := p₂.pre.ns
      exact tab_noNs e hm) (fun y c e t => by
      obtain ⟨ps, e'⟩ := J₂.at t
      obtain ⟨v, hv⟩ := p₂.pre.cells y c e
      exact tab_noCell e' hv) hTg
  obtain ⟨O', h1, ok', gd', p', kJ, up, _⟩ := liftJ ok gd p₃ J₃
  refine p'.store ok' gd' (b := c) r₃ hk (fun y ds e => by cases e) hΓ fun s₄ sm₄ q₄ => ⟨⟨same_trans (same_trans (same_keeps k12) ⟨h₃, t₃, rfl⟩) sm₄, kJ _ q₄.g⟩, rfl, l, q₄.regh up⟩

/-- what a frame that makes functions must know -/
def Bm (C : Cx) : Prop := ∃ bm ob, C.mg "__builtins__" = some (.ref bm) ∧ bm ≠ builtinsNs ∧ bm ≠ mainGlobals ∧ C.g bm = some ob ∧ ob.cls = .type "module" ∧ ob.dict = some builtinsNs ∧ ob.data = .plain

/-- a lambda -/
theorem lam_made {q : Tab} {lp : Arguments} {lb : Expr} {ls : Scope} {lpos : Pos} {cc : Addr} {clos : List (Str × Addr)} {W W' O : Addr → Prop} {s : Shared} {E : Value → Shared → Prop} {Q : Value → Shared → Prop} (ok : F.Ok W O) (S : F.toCx.St W' s) (hW' : ∀ a, W a → W' a) (hTW : ∀ a, TOf tabs a → W a) (J : TabsJ tabs W s.heap) (hq : q ∈ tabs) (hnd : ∀ r ∈ tabs, r.1 = q.1 → r = q)
    (hpos : q.2.1 = lpos) (hqual : F.env.qual ++ "<lambda>" = q.2.2) (hcode : F.env.code = .ref cc) (hC : codeHdIn F.K cc q.1 = true) (hcl : closureFor ls F.env = pure clos) (hdef : defaultsOf lp F.env = ([], [])) (hbm : Bm F.toCx) (hgP : mainGlobals ≠ q.1)
    (h : ∀ f pm c' ctv oc vs t h' tk, (∀ b o, b ≠ q.1 → s.heap.get? b = some o → h'.get? b = some o) → TabsJ tabs W h' → h'.get? f = some (kla_obj "<lambda>" q.2.2 lp lb ls clos pm c' ctv) → h'.get? c' = some oc → oc.data = .fields vs → vs[1]? = some (.str q.2.2 t) →
      Q (.ref f) { s with heap := h', toks := tk }) : wpAny (model F.prog F.w) F.A (eval (.Lambda lp lb ls lpos) F.env) Q E s := by
  obtain ⟨ps, hP, hps⟩ := J q hq
  have X : F.K.In s.heap := fun a o e => S.g _ _ (ok.cx.KIn a o e)
  have C := codeHd_of_K X hC
  have hg := ok.cx.gns _ S.g
  obtain ⟨bm, ob, b1, b2, b3, b4, b5, b6, b7⟩ := hbm
  have hbo := S.g _ _ b4
  have hb : s.heap.BuiltinsAt F.mg q.1 := ⟨bm, ob, b1, b2, b3, (fun e => by rw [e, hP] at hbo; cases hbo; cases b5), hbo, b5, b6, b7⟩
  have keepT : ∀ (h' : Heap), (∀ b o, b ≠ q.1 → s.heap.get? b = some o → h'.get? b = some o) → TabJ q W h' → TabsJ tabs W h' := fun h' kp x r hr => by
    by_cases e : r.1 = q.1
    · rw [hnd r hr e]; exact x
    · exact (J r hr).gen (fun _ w => .inl w) (fun b o n e _ => kp b o (fun e' => n (e' ▸ hTW q.1 ⟨q, hq, rfl⟩)) e) fun o e' => kp _ o e e'
  refine kla_eval hdef ?_
  rw [hqual]
  subst hpos
  have old : ∀ a, W a → ∃ o, s.heap.get? a = some o := fun a w => S.W a (hW' a w)
  rcases hps with rfl | ⟨c, oc, vs, t, rfl, n, e1, e2, e3⟩
  · refine kla_makeFunction hcl ok.eg hg hcode C hP trivial rfl hgP hb fun c' ctv h' tk hx hge hlt hrec htb => ?_
    obtain ⟨c₂, oc, vs, t, e, hoc, hd, hv⟩ := hrec
    cases e
    have kp : ∀ b o, b ≠ q.1 → s.heap.get? b = some o → (h'.push (kla_obj "<lambda>" q.2.2 lp lb ls clos ((F.mg "__name__").getD .none) c' ctv)).get? b = some o := fun b o hb e => Heap.get?_push_of_some _ (hx b o hb e)
    refine h _ _ c' ctv oc vs t _ tk kp (keepT _ kp ⟨_, Heap.get?_push_of_some _ htb, .inr ⟨c', oc, vs, t, rfl, fun w => ?_, Heap.get?_push_of_some _ hoc, hd, hv⟩⟩) (Heap.get?_push_size _ rfl) (Heap.get?_push_of_some _ hoc) hd hv
    obtain ⟨o, ho⟩ := old c' w
    exact absurd (Heap.lt_size ho) (Nat.not_lt.mpr hge)
  · have hf : codeAmong q.2.1 (#[rawInt q.2.1.line, rawInt q.2.1.col, .ref c] : Array Value).toList = some (.ref c) := by
      have := codeAmong_snoc (pos := q.2.1) (c := .ref c) [] trivial rfl
      simpa using this
    refine kla_makeFunctionHit hcl ok.eg hg hcode C hP ⟨⟩ hf hb fun ctv h' tk hx hge => ?_
    have kp : ∀ b o, b ≠ q.1 → s.heap.get? b = some o → (h'.push (kla_obj "<lambda>" q.2.2 lp lb ls clos ((F.mg "__name__").getD .none) c ctv)).get? b = some o := fun b o _ e => Heap.get?_push_of_some _ (hx b o e)
    exact h _ _ c ctv oc vs t _ tk kp (keepT _ kp ⟨_, Heap.get?_push_of_some _ (hx _ _ hP), .inr ⟨c, oc, vs, t, rfl, n, Heap.get?_push_of_some _ (hx _ _ e1), e2, e3⟩⟩) (Heap.get?_push_size _ rfl) (Heap.get?_push_of_some _ (hx _ _ e1)) e2 e3
end
end Mine

namespace Mine
open PySem PySem.W PyProof.Rows PySem.Calls
set_option maxRecDepth 100000

/-- a lambda's object, its code and the int cells that it sees -/
structure LamAt (g : Gh) (f : Addr) (qual : Str) (lp : Arguments) (lb : Expr) (ls : Scope) (clos : List (Str × Addr)) : Prop where
  at' : ∃ pm c' ctv oc vs t, g f = some (kla_obj "<lambda>" qual lp lb ls clos pm c' ctv) ∧ g c' = some oc ∧ oc.data = .fields vs ∧ vs[1]? = some (.str qual t)
def CellsAt (F : Fm) (Γ : List (Str × Bd)) (g : Gh) : Prop := ∀ y i, (y, Bd.dat (.int i)) ∈ Γ → F.env.kindOf y = some .cell → ∃ c o t, F.env.cells.lookup y = some c ∧ g c = some o ∧ o.data = .cell (some (.int i t))

section
variable {tabs : List Tab} {F : Fm} {Γ Γ' : List (Str × Bd)} {own : Own} {out : Out}
/-- a statement that calls a changer of the owned list with a lambda as its key -/
theorem exj_mut_lam (q : Tab) {x kn : Str} {fe : Expr} {es : List Expr} {lp : Arguments} {lb : Expr} {ls : Scope} {lpos kp px pos pos' : Pos} {a cc : Addr} {o : Obj} {fd : FuncData} {args : List Bd} {clos : List (Str × Addr)} {ds ds' : List PyData}
    (hf : EvB F (gam Γ (some (x, ds))) fe (.val (.ref a))) (ha : EvL F (gam Γ (some (x, ds))) pos es args) (hgo : F.g a = some o) (hfd : o.data = .func fd)
    (hq : q ∈ tabs) (hnd : ∀ r ∈ tabs, r.1 = q.1 → r = q) (hpos : q.2.1 = lpos) (hqual : F.env.qual ++ "<lambda>" = q.2.2) (hcode : F.env.code = .ref cc) (hC : codeHdIn F.K cc q.1 = true) (hcl : closureFor ls F.env = pure clos) (hdef : defaultsOf lp F.env = ([], [])) (hbm : Bm F.toCx) (hgP : mainGlobals ≠ q.1)
    (h : ∀ g' f, (∀ b o, F.g b = some o → g' b = some o) → LamAt g' f q.2.2 lp lb ls clos → CellsAt F Γ g' → MutOk (F.toCx.reb g') (.ref a) args [kn] [.val (.ref f)] ds ds')
    (hno : ∀ p ∈ Γ, ∀ ds, p.2 ≠ .lst ds) (hd : (x == ("__debug__" : Str)) = false := by decide)
    (hn : ∀ env, starEach (.Name x px :: es) env = (false, eval (.Name x px) env) :: starEach es env := by intro _; rfl) (hn' : ∀ env, (starEach es env).any (·.1) = false := by intro _; rfl)
    (harm : ∀ env, eval (.Call fe (.Name x px :: es) [⟨some kn, .Lambda lp lb ls lpos, kp⟩] pos) env = (do callWith pos (← eval fe env) [] (backTo pos (starEach (.Name x px :: es) env)) (backToKw pos (keywordEach [⟨some kn, .Lambda lp lb ls lpos, kp⟩] env))) := by intro _; rfl)
    (hi : interactive F.env = false) (hs : swapsWith (.Call fe (.Name x px :: es) [⟨some kn, .Lambda lp lb ls lpos, kp⟩] pos) none pos'.line F.env = pure false := by rfl) :
    ExJ tabs F Γ (some (x, ds)) (exec (.Expr (.Call fe (.Name x px :: es) [⟨some kn, .Lambda lp lb ls lpos, kp⟩] pos) pos') F.env) (.next Γ (some (x, ds'))) := .mk fun W O ok hTO h0 gd s ⟨l, p⟩ J => by
  have hTW : ∀ a, TOf tabs a → W a := fun a t => ok.OW a (hTO a t)
  refine wpAny_Expr ?_ hi hs
  rw [harm]
  have okl := p.ok ok gd
  refine wpAny_bind (p.ev ok gd hf fun f s₁ k₁ p₁ r₁ => ?_)
  have r₁ : f = .ref a := r₁
  subst r₁
  obtain ⟨a1, a2, a3, _⟩ := p₁.own x ds rfl
  have hst : (backTo pos (starEach (.Name x px :: es) F.env)) = (false, eval (.Name x px) F.env) :: backTo pos (starEach es F.env) := by rw [hn]; rfl
  refine callWith_function_kw (o := o) (fd := fd) (evalArgs_any (by rw [backTo_plain, hn]; simpa using hn' _) rfl ?_)
  rw [hst]
  refine Calls.spliced_cons (wpAny_Name (a3.load ok.kind ?_) hd)
  refine wpAny_mono (ha.run _ _ okl s₁ p₁.gam) (fun vs s₂ hh₀ => ?_) fun _ _ f => f.elim
  obtain ⟨k₂, r₂⟩ := hh₀
  have p₂ := p₁.keeps k₂
  have J₂ := J.keeps (keeps_heap (keeps_trans k₁ k₂))
  show wpAny _ _ (evalAll [(do let v ← eval (.Lambda lp lb ls lpos) F.env; standAt pos; pure v)]) _ _ s₂
  refine wpAny_evalAll_cons (wpAny_bind (lam_made ok p₂.pre.st wid_le hTW J₂ hq hnd hpos hqual hcode hC hcl hdef hbm hgP fun f pm c' ctv oc vs' t h' tk kpq J₃ hf' hc' hcd hcv => wpAny_bind (wpAny_standAt (wpAny_pure (wpAny_evalAll_nil ?_)))))
  obtain ⟨psq, eq⟩ := J₂.at ⟨q, hq, rfl⟩
  have hnl : ∀ xs, ¬ s₂.heap.IsList q.1 xs := fun xs y => tab_noIsList eq y
  have p₃ : OpS F W h0 Γ (some (x, ds)) l { s₂ with heap := h', toks := tk } := p₂.but (hTW q.1 ⟨q, hq, rfl⟩) (gd.O q.1 (hTO q.1 ⟨q, hq, rfl⟩)) kpq (by obtain ⟨ps, e⟩ := J₃.at ⟨q, hq, rfl⟩; exact ⟨_, e⟩) hnl
    (fun e => by obtain ⟨m, hm⟩ := p₂.pre.ns; exact tab_noNs eq (e ▸ hm)) (fun y c e e' => by obtain ⟨v, hv⟩ := p₂.pre.cells y c e; exact tab_noCell eq (e' ▸ hv)) (ok.Og q.1 (hTO q.1 ⟨q, hq, rfl⟩))
  have r₃ : BAll (wid W l (some (x, ds))) h' vs args := bAll_butT r₂ (I := fun b => b = q.1) (fun b e => wid_le _ (e ▸ hTW q.1 ⟨q, hq, rfl⟩)) kpq (fun b xs e => e ▸ hnl xs)
  refine ⟨⟨p₃.pre.st.g _ _ hgo, hfd⟩, ?_⟩
  obtain ⟨c1, c2, c3, lv, n, c4, c5⟩ := p₃.own x ds rfl
  classical
  have hnotl : ∀ b o, h'.get? b = some o → (∀ xs n, o.data ≠ .seq xs n) → b ≠ l := fun b o e n q => by
    rw [q] at e
    have c4 : h'.get? l = some (listOf lv.toArray _) := c4
    rw [c4] at e; cases e; exact n _ _ rfl
  let g' : Gh := fun b => if b = l then none else h'.get? b
  have inn : ∀ b o, h'.get? b = some o → b ≠ l → g' b = some o := fun b o e n => by show (if b = l then none else h'.get? b) = some o; rw [if_neg n]; exact e
  have hup : ∀ b o, F.g b = some o → g' b = some o := fun b o e => inn b o (p₃.pre.st.g b o e) fun q => by rw [q, okl.Og l (.inr rfl)] at e; cases e
  have hg' : GIn g' h' := fun b o e => by
    have e : (if b = l then none else h'.get? b) = some o := e
    by_cases q : b = l
    · rw [if_pos q] at e; cases e
    · rw [if_neg q] at e; exact e
  have hM := h g' f hup ⟨pm, c', ctv, oc, vs', t, inn _ _ hf' (hnotl _ _ hf' (by intro xs n; simp)), inn _ _ hc' (hnotl _ _ hc' (by rw [hcd]; intro xs n; simp)), hcd, hcv⟩ (fun y i hy hk => by
    obtain ⟨v, b1, b2⟩ := p₃.pre.vars _ hy
    obtain ⟨t, rfl⟩ := Rep.inv_int b2
    cases b1 with
    | loc d1 => rw [hk] at d1; cases d1
    | cell d1 d2 d3 => obtain ⟨o, ho, hd⟩ := d3; exact ⟨_, o, t, d2, inn _ _ ho (hnotl _ _ ho (by rw [hd]; intro xs n; simp)), hd⟩
    | free d1 => rw [hk] at d1; cases d1)
  refine wpAny_mono (hM.run (ok.cx.reb hup) (wid W l (some (x, ds))) { s₂ with heap := h', toks := tk } l lv n vs [.ref f] ⟨hg', p₃.pre.st.W⟩ (.inr rfl) (by show (if l = l then none else h'.get? l) = none; rw [if_pos rfl]) c4 c5 r₃ (.cons rfl .nil)) (fun r s₄ hh₀ => ?_) fun _ _ f => f.elim
  obtain ⟨e, sm, kp, hnew⟩ := hh₀
  subst e
  refine ⟨⟨same_trans (same_trans (same_trans (same_keeps k₁) (same_keeps k₂)) ⟨h', tk, rfl⟩) sm, J₃.gen (fun _ w => .inl w) (fun b o _ e n => kp b o (hnotl b o e n) e) fun b hb o e => kp b o (hnotl b o e ?_) e⟩, rfl, l, p₃.mut ok gd hno kp hnew⟩
  obtain ⟨ps, e'⟩ := J₃.at hb
  rw [e'] at e; cases e; intro xs n; simp
end

/-- a value that avoids W avoids cells too -/
theorem Rep.cells {W V : Addr → Prop} {h : Heap} (hV : ∀ a, V a → ∃ v, h.IsCell a v) {v : Value} {d : PyData} (r : Rep W h v d) : Rep (fun a => W a ∨ V a) h v d :=
  Rep.rec (motive_1 := fun v d _ => Rep (fun a => W a ∨ V a) h v d) (motive_2 := fun vs ds _ => RepAll (fun a => W a ∨ V a) h vs ds) .none (fun b => .bool b) (fun i t => .int i t) (fun x t => .str x t)
    (fun hn hl _ ih => .list (fun w => w.elim hn fun w => by
      obtain ⟨v, o, ho, hd⟩ := hV _ w
      obtain ⟨o', ho', _, n, hd'⟩ := hl.1
      rw [ho] at ho'; cases ho'; rw [hd] at hd'; cases hd') hl ih)
    (fun hn hl _ ih => .tuple (fun w => w.elim hn fun w => by
      obtain ⟨v, o, ho, hd⟩ := hV _ w
      obtain ⟨o', ho', _, n, hd'⟩ := hl
      rw [ho] at ho'; cases ho'; rw [hd] at hd'; cases hd') hl ih) .nil (fun _ _ ih1 ih2 => .cons ih1 ih2) r

/-- a lambda of one argument, called -/
theorem lam_call {C : Cx} {f : Addr} {qual x : Str} {lp : Arguments} {lb : Expr} {ls : Scope} {cl : List (Str × Addr)} {d : PyData} {b : Bd} {Δ : List (Str × Bd)} (hf : 0 < C.fuel) (hl : LamAt C.g f qual lp lb ls cl)
    (hbind : ∀ pm c' ctv v, bindArgs (kla_fn "<lambda>" qual lp lb ls cl pm (.ref c') ctv) ⟨[v], []⟩ = pure [(x, v)]) (hx : ls.names.lookup x = some .local)
    (hcl : ∀ y c, cl.lookup y = some c → ∃ o v, C.g c = some o ∧ o.data = .cell v) (hinj : ∀ y z c, cl.lookup y = some c → cl.lookup z = some c → y = z)
    (hΔ : ∀ p ∈ Δ, ∃ i c o t, p.2 = .dat (.int i) ∧ ls.names.lookup p.1 = some .free ∧ (p.1 == ("__classdict__" : Str)) = false ∧ cl.lookup p.1 = some c ∧ C.g c = some o ∧ o.data = .cell (some (.int i t)))
    (hbody : ∀ L c', EvB (C.into (envX qual ls L f (.ref c') cl)) ((x, .dat d) :: Δ) lb b)
    (hco : ls.isCoroutine = false := by rfl) (hgen : ls.isGenerator = false := by rfl) (hk : ls.kind = .function := by rfl) (hcell : ∀ y ∈ ls.names, y.2 ≠ .cell := by decide) : CallOk C (.ref f) [.dat d] [] [] b := .mk fun ok W s vs ks S hx' hy => by
  obtain ⟨v, rfl, r⟩ := BAll.inv1 hx'
  obtain rfl := BAll.inv0 hy
  obtain ⟨pm, c', ctv, oc, cvs, t, g1, g2, g3, g4⟩ := hl.at'
  refine wpAny_call (kla_callFunE (by have := ok.depth; show C.A.depth < 1000; (first | lia | omega)) (S.g _ _ g1) rfl hco hgen rfl ⟨c', oc, cvs, t, rfl, S.g _ _ g2, g3, g4⟩ ?_)
  show wpAny _ _ (bindArgs (kla_fn "<lambda>" qual lp lb ls cl pm (.ref c') ctv) ⟨[v], []⟩) _ _ s
  rw [hbind]
  refine wpAny_pure (wpAny_newFunctionEnv hcell (by intro y hy; rw [List.mem_singleton] at hy; rw [hy]; exact hx) (fun h₁ hns hsb => ⟨(ok.nolimit _ S.g).fresh _ hsb, ?_⟩) hk)
  show codeAny _ _ (.expr lb (envX qual ls s.heap.objs.size f (.ref c') cl)) _ _
  have kp : ∀ b o, s.heap.get? b = some o → h₁.get? b = some o := fun b o e => hsb.extBut b o (Nat.ne_of_lt (Heap.lt_size e)) (Heap.get?_push_of_some _ e)
  have hL : s.heap.get? s.heap.objs.size = none := get?_size _
  have hcl' : ∀ y c, cl.lookup y = some c → ∃ o v, s.heap.get? c = some o ∧ o.data = .cell v := fun y c e => by
    obtain ⟨o, v, e1, e2⟩ := hcl y c e
    exact ⟨o, v, S.g _ _ e1, e2⟩
  have ok' : (C.into (envX qual ls s.heap.objs.size f (.ref c') cl)).Ok (fun a => (W a ∨ ∃ y, cl.lookup y = some a) ∨ a = s.heap.objs.size) (fun a => a = s.heap.objs.size) := by
    refine ⟨ok.into hf _, hk, rfl, rfl, rfl, fun a h => .inr h, fun a h => ?_, fun y c e q => ?_, hinj, fun y c e => .inl (.inr ⟨y, e⟩), fun _ y c k e => ?_⟩
    · cases q : C.g a with
      | none => exact q
      | some o => have := S.g _ _ q; rw [h, hL] at this; cases this
    · obtain ⟨o, v, e1, _⟩ := hcl' y c e
      have q : c = s.heap.objs.size := q
      rw [q, hL] at e1; cases e1
    · exact absurd rfl (hcell (y, .cell) (mem_of_lookup k))
  have hRep : BRep (fun a => (W a ∨ ∃ y, cl.lookup y = some a) ∨ a = s.heap.objs.size) h₁ v (.dat d) := by
    have r : Rep W s.heap v d := r
    exact (Rep.cells (V := fun a => ∃ y, cl.lookup y = some a) (fun a ⟨y, e⟩ => by obtain ⟨o, v, e1, e2⟩ := hcl' y a e; exact ⟨v, o, e1, e2⟩) r).gen (fun a w => w.imp id fun q => by rw [q]; exact hL) fun b o _ e => kp b o e
  have p' : (C.into (envX qual ls s.heap.objs.size f (.ref c') cl)).Pre (fun a => (W a ∨ ∃ y, cl.lookup y = some a) ∨ a = s.heap.objs.size) ((x, .dat d) :: Δ) { s with heap := h₁, toks := s.toks + 1 } := by
    refine ⟨⟨fun b o e => kp b o (S.g b o e), fun a w => ?_⟩, fun q hq => ?_, ⟨_, hns⟩, fun y c e => ?_⟩
    · rcases w with (w | ⟨y, e⟩) | w
      · obtain ⟨o, ho⟩ := S.W a w; exact ⟨o, kp a o ho⟩
      · obtain ⟨o, v, e1, _⟩ := hcl' y a e; exact ⟨o, kp a o e1⟩
      · obtain ⟨o, _, _, ho, _⟩ := hns; exact ⟨o, w ▸ ho⟩
    · rcases List.mem_cons.mp hq with rfl | hq
      · exact ⟨v, .loc hx hns (by simp), hRep⟩
      · obtain ⟨i, c, o, t, e1, e2, e3, e4, e5, e6⟩ := hΔ q hq
        refine ⟨.int i t, .free e2 e3 e4 ⟨o, kp _ _ (S.g _ _ e5), e6⟩, ?_⟩
        rw [e1]; exact Rep.int i t
    · obtain ⟨o, v, e1, e2⟩ := hcl' y c e
      exact ⟨v, o, kp _ _ e1, e2⟩
  refine kla_codeExpr (wpAny_mono ((hbody _ _).run _ _ ok' _ p') (fun r s' hh₀ => ?_) fun _ _ f => f.elim)
  obtain ⟨⟨h₂, t₂, e₂, k₂⟩, r₂⟩ := hh₀
  subst e₂
  exact ⟨⟨h₂, t₂, rfl, fun b o e => k₂ b o (kp b o e)⟩, r₂.less fun a w => .inl (.inl w)⟩
end Mine

namespace Mine
open PySem PySem.W PyProof.Rows PySem.Calls
set_option maxRecDepth 100000

section
variable {tabs : List Tab} {F : Fm} {Γ Γ' : List (Str × Bd)} {own : Own} {out : Out}
theorem exj_make {x : Str} {px pos : Pos} {e : Expr} {rest : List Stmt} {b : Bd} {C : Addr} (v : EvM F Γ e C) (hk : Sto F x) (hΓ : ∀ q ∈ Γ', q ∈ Γ ∧ q.1 ≠ x)
    (hrest : ∀ g' a dx, (∀ b o, F.g b = some o → g' b = some o) → g' a = some (instObj C dx) → g' dx = some emptyDict → ExJ tabs (F.reb g') ((x, .val (.ref a)) :: Γ') none (execs rest F.env) (.ret b))
    (hs : swapsWith e (some (.Name x px)) pos.line F.env = pure false := by rfl) : ExJ tabs F Γ none (execs (.Assign [.Name x px] e pos :: rest) F.env) (.ret b) := .mk fun W O ok hTO h0 gd s ⟨l, p⟩ J => by
  refine wpAny_execs_cons (wpAny_Assign_Name (wpAny_mono (v.run _ _ ok s p.pre) (fun u s₁ hh₀ => ?_) fun _ _ f => f.elim) hs)
  obtain ⟨k₁, a, dx, e₁, ha, hdx, nWa, nWd⟩ := hh₀
  subst e₁
  have p₁ := p.keeps k₁
  have J₁ := J.keeps (keeps_heap k₁)
  obtain ⟨h1, gd1, q1, up, all⟩ := ghost_strong ok gd p₁
  obtain ⟨O', h1', ok', gd', q1', kJ, up', _⟩ := liftJ ok gd1 q1 J₁
  refine q1'.store (Γ' := (x, .val (.ref a)) :: Γ') ok' gd' (b := .val (.ref a)) rfl hk (fun y ds e => by cases e) (fun q hq => ?_) fun s₂ sm₂ q₂' => ?_
  · rcases List.mem_cons.mp hq with rfl | hq
    · exact .inl rfl
    · exact .inr (hΓ q hq)
  · have q₂ := q₂'.regh up'
    have J₂ := kJ _ q₂'.g
    have h1a := all _ _ (fun w => nWa (ok.OW _ w)) ha
    have h1d := all _ _ (fun w => nWd (ok.OW _ w)) hdx
    have ok2 : (F.reb h1).Ok W O := ⟨ok.cx.reb gd1.g, ok.kind, ok.eg, ok.eb, ok.loc, ok.OW, gd1.O, ok.cne, ok.cinj, ok.cW, ok.cO⟩
    have gd2 : Gd (F.reb h1) O h1 := ⟨fun _ _ e => e, gd1.O⟩
    have p2 : OpS (F.reb h1) W h1 ((x, .val (.ref a)) :: Γ') none l s₂ := ⟨q₂.g, ⟨⟨q₂.g, q₂.pre.st.W⟩, q₂.pre.vars, q₂.pre.ns, q₂.pre.cells⟩, fun x ds e => by cases e⟩
    exact wpAny_mono ((hrest h1 a dx gd1.g h1a h1d).run W O ok2 hTO h1 gd2 s₂ ⟨l, p2⟩ J₂) (fun f s₃ ⟨⟨sm₃, J₃⟩, v, e, g, r⟩ => ⟨⟨same_trans (same_trans (same_keeps k₁) sm₂) sm₃, J₃⟩, v, e, fun b o e => g b o (up b o e), r⟩) fun _ _ f => f
theorem Bm.mono {C C' : Cx} (h : Bm C) (hmg : C'.mg = C.mg) (hg : ∀ b o, C.g b = some o → C'.g b = some o) : Bm C' := by
  obtain ⟨bm, ob, b1, b2, b3, b4, r⟩ := h
  exact ⟨bm, ob, by rw [hmg]; exact b1, b2, b3, hg _ _ b4, r⟩
end
end Mine

namespace Mine
open PySem PySem.W PyProof.Rows PySem.Calls Builtin
set_option maxRecDepth 100000

/-- a number below 20 as figures -/
def dec (a : Nat) : List Nat := (if 10 ≤ a then [49] else []) ++ [48 + a % 10]
theorem dec_len {a : Nat} : 1 ≤ (dec a).length ∧ (dec a).length ≤ 2 := by unfold dec; split <;> simp
def rj (w : Nat) (l : List Nat) : List Nat := List.replicate (w - l.length) 32 ++ l
def fmtTree (a w : Nat) (t u : Tok) : Sem Fin := typeNameOf (.str (st [48 + w]) u) >>= fun _ => typeNameOfCut 200 (.int (a : Int) t) >>= fun _ => retStr (st (rj w (dec a)))
theorem int_fmt {a w : Nat} (ha : a < 12) (h1 : 1 ≤ w) (h2 : w ≤ 2) (t u : Tok) : «int.__format__» ⟨[.int (a : Int) t, .str (st [48 + w]) u], []⟩ = fmtTree a w t u := by
  have hw : w = 1 ∨ w = 2 := by (first | lia | omega)
  have ha : a = 0 ∨ a = 1 ∨ a = 2 ∨ a = 3 ∨ a = 4 ∨ a = 5 ∨ a = 6 ∨ a = 7 ∨ a = 8 ∨ a = 9 ∨ a = 10 ∨ a = 11 := by (first | lia | omega)
  rcases hw with rfl | rfl <;> rcases ha with rfl | rfl | rfl | rfl | rfl | rfl | rfl | rfl | rfl | rfl | rfl | rfl <;> kernel_rfl
theorem gives_int_fmt {a w : Nat} (ha : a < 12) (h1 : 1 ≤ w) (h2 : w ≤ 2) (t u : Tok) : Gives («int.__format__» ⟨[.int (a : Int) t, .str (st [48 + w]) u], []⟩) (.str (st (rj w (dec a)))) := by
  rw [int_fmt ha h1 h2]
  exact gives_after_typeNameOf (T := "str") (fun s => typeIs_str s _ _) (by decide) fun _ prog wd A R s hq => wpAny_bind (wpAny_typeNameOfCut_int (wpAny_bind (wpAny_mkStr (wpAny_pure hq.2) hq.1)))

theorem callOk_format_int {C : Cx} {a w : Nat} (ha : a < 12) (h1 : 1 ≤ w) (h2 : w ≤ 2) : CallOk C (.builtin "format") [.dat (.int (a : Int)), .dat (.str (st [48 + w]))] [] [] (.dat (.str (st (rj w (dec a))))) := .mk fun ok W s vs ks S x y => by
  obtain rfl := BAll.inv0 y
  obtain ⟨_, _, rfl, r1, r2⟩ := BAll.inv2 x
  obtain ⟨t, rfl⟩ := Rep.inv_int r1
  obtain ⟨u, rfl⟩ := Rep.inv_str r2
  refine format_of rfl (wpAny_callSpecial?_slot (name := Str.ofString "__format__") (typeIs_int _ _ _) PySem.F.slot_int_format (call_gives PySem.F.slot_int_format (typeIs_int _ _ _) PySem.F.entry_int_format (PySem.F.args_int_format_2 _ _) (gives_int_fmt ha h1 h2 t u) ?_))
  refine ⟨?_, _, _, rfl, keeps_tok s _, .str _ _⟩
  have := @dec_len a
  rw [st_len, sizeLine_eq]; simp [rj]; (first | lia | omega)

/-- a number below 20 as a text -/
theorem str_dec {a : Nat} (ha : a < 12) : (Str.ofString (toString (a : Int))) = st (dec a) := by
  have ha : a = 0 ∨ a = 1 ∨ a = 2 ∨ a = 3 ∨ a = 4 ∨ a = 5 ∨ a = 6 ∨ a = 7 ∨ a = 8 ∨ a = 9 ∨ a = 10 ∨ a = 11 := by (first | lia | omega)
  rcases ha with rfl | rfl | rfl | rfl | rfl | rfl | rfl | rfl | rfl | rfl | rfl | rfl <;> rfl
end Mine

namespace Mine
open PySem PySem.W PyProof.Rows PySem.Calls
set_option maxRecDepth 100000

/-! ### the rows of law 1, as plain data -/
def insAtP {α : Type} (row : List α) (p : Nat) (x : α) : List α := row.take p ++ x :: row.drop p
theorem insAtP_perm {α : Type} (row : List α) (p : Nat) (x : α) : (insAtP row p x).Perm (x :: row) := by
  unfold insAtP
  have h := List.perm_middle (a := x) (l₁ := row.take p) (l₂ := row.drop p)
  rwa [List.take_append_drop] at h
theorem insAtP_map {α β : Type} (f : α → β) (row : List α) (p : Nat) (x : α) : (insAtP row p x).map f = (row.map f).take p ++ f x :: (row.map f).drop p := by
  simp [insAtP, List.map_take, List.map_drop]
/-- where all that satisfy q stand first, q tells the place -/
theorem cnt_at {α : Type} {row : List α} {q : α → Bool} (h : row.Pairwise fun a b => q b = true → q a = true) : ∀ i, (hi : i < row.length) → q row[i] = decide (i < row.countP q) := by
  induction row with
  | nil => intro i hi; cases hi
  | cons e r ih =>
    intro i hi
    cases h with
    | cons h1 h2 =>
      rw [List.countP_cons]
      cases he : q e with
      | true =>
        cases i with
        | zero => simp [he]
        | succ i => have := ih h2 i (by simpa using hi); simp at this ⊢; rw [this]
      | false =>
        have h0 : r.countP q = 0 := by
          rw [List.countP_eq_zero]
          intro b hb hq
          have := h1 b hb hq
          rw [he] at this; cases this
        rw [h0]
        cases i with
        | zero => simp [he]
        | succ i =>
          have hb : r[i]'(by simpa using hi) ∈ r := List.getElem_mem _
          have := List.countP_eq_zero.mp h0 _ hb
          simpa using this
theorem mem_take_cnt {α : Type} {row : List α} {q : α → Bool} (h : row.Pairwise fun a b => q b = true → q a = true) {a : α} (ha : a ∈ row.take (row.countP q)) : q a = true := by
  obtain ⟨i, hi, rfl⟩ := List.getElem_of_mem ha
  rw [List.length_take] at hi
  rw [List.getElem_take, cnt_at h i (by first | decide | assumption | with_reducible exact Int.natCast_nonneg _ | with_reducible exact Nat.le_trans (by assumption) (by decide) | with_reducible exact Nat.lt_of_lt_of_le (by assumption) (by decide) | with_reducible exact lt_mil (Nat.lt_of_lt_of_le (by assumption) (by decide)) | with_reducible exact lt_mil (Nat.lt_of_le_of_lt (by assumption) (by decide)) | with_reducible exact Nat.le_trans (Nat.le_of_lt (by assumption)) (by decide) | (first | lia | omega))]
  exact decide_eq_true (by first | decide | assumption | with_reducible exact Int.natCast_nonneg _ | with_reducible exact Nat.le_trans (by assumption) (by decide) | with_reducible exact Nat.lt_of_lt_of_le (by assumption) (by decide) | with_reducible exact lt_mil (Nat.lt_of_lt_of_le (by assumption) (by decide)) | with_reducible exact lt_mil (Nat.lt_of_le_of_lt (by assumption) (by decide)) | with_reducible exact Nat.le_trans (Nat.le_of_lt (by assumption)) (by decide) | (first | lia | omega))
theorem mem_drop_cnt {α : Type} {row : List α} {q : α → Bool} (h : row.Pairwise fun a b => q b = true → q a = true) {a : α} (ha : a ∈ row.drop (row.countP q)) : q a = false := by
  obtain ⟨i, hi, rfl⟩ := List.getElem_of_mem ha
  rw [List.length_drop] at hi
  rw [List.getElem_drop, cnt_at h _ (by first | decide | assumption | with_reducible exact Int.natCast_nonneg _ | with_reducible exact Nat.le_trans (by assumption) (by decide) | with_reducible exact Nat.lt_of_lt_of_le (by assumption) (by decide) | with_reducible exact lt_mil (Nat.lt_of_lt_of_le (by assumption) (by decide)) | with_reducible exact lt_mil (Nat.lt_of_le_of_lt (by assumption) (by decide)) | with_reducible exact Nat.le_trans (Nat.le_of_lt (by assumption)) (by decide) | (first | lia | omega))]
  exact decide_eq_false (by first | decide | assumption | with_reducible exact Int.natCast_nonneg _ | with_reducible exact Nat.le_trans (by assumption) (by decide) | with_reducible exact Nat.lt_of_lt_of_le (by assumption) (by decide) | with_reducible exact lt_mil (Nat.lt_of_lt_of_le (by assumption) (by decide)) | with_reducible exact lt_mil (Nat.lt_of_le_of_lt (by assumption) (by decide)) | with_reducible exact Nat.le_trans (Nat.le_of_lt (by assumption)) (by decide) | (first | lia | omega))
/-- a row stays in order -/
theorem insAtP_pairwise {α : Type} {R : α → α → Prop} {row : List α} {q : α → Bool} {x : α} (h : row.Pairwise R) (hq : row.Pairwise fun a b => q b = true → q a = true) (h1 : ∀ a ∈ row, q a = true → R a x) (h2 : ∀ a ∈ row, q a = false → R x a) : (insAtP row (row.countP q) x).Pairwise R := by
  unfold insAtP
  have hh := h
  rw [← List.take_append_drop (row.countP q) row, List.pairwise_append] at hh
  obtain ⟨a1, a2, a3⟩ := hh
  rw [List.pairwise_append]
  refine ⟨a1, List.Pairwise.cons (fun b hb => h2 b (List.drop_subset _ _ hb) (mem_drop_cnt hq hb)) a2, fun a ha b hb => ?_⟩
  rcases List.mem_cons.mp hb with rfl | hb
  · exact h1 a (List.take_subset _ _ ha) (mem_take_cnt hq ha)
  · exact a3 a ha b hb

/-- what a row is when k of xs are laid in -/
def layUp {α : Type} (q : α → α → Bool) (xs : List α) : Nat → List α
  | 0 => []
  | k + 1 => match xs[k]? with
    | some x => insAtP (layUp q xs k) ((layUp q xs k).countP (q x)) x
    | none => layUp q xs k
theorem layUp_succ {α : Type} {q : α → α → Bool} {xs : List α} {k : Nat} {x : α} (h : xs[k]? = some x) : layUp q xs (k + 1) = insAtP (layUp q xs k) ((layUp q xs k).countP (q x)) x := by
  rw [layUp, h]
theorem layUp_perm {α : Type} (q : α → α → Bool) (xs : List α) : ∀ k, (layUp q xs k).Perm (xs.take k)
  | 0 => by simp [layUp]
  | k + 1 => by
    have ih := layUp_perm q xs k
    cases h : xs[k]? with
    | none =>
      rw [layUp, h]
      have hk := List.getElem?_eq_none_iff.mp h
      rw [List.take_of_length_le (by first | decide | assumption | with_reducible exact Int.natCast_nonneg _ | with_reducible exact Nat.le_trans (by assumption) (by decide) | with_reducible exact Nat.lt_of_lt_of_le (by assumption) (by decide) | with_reducible exact lt_mil (Nat.lt_of_lt_of_le (by assumption) (by decide)) | with_reducible exact lt_mil (Nat.lt_of_le_of_lt (by assumption) (by decide)) | with_reducible exact Nat.le_trans (Nat.le_of_lt (by assumption)) (by decide) | (first | lia | omega))]
      rwa [List.take_of_length_le hk] at ih
    | some x =>
      rw [layUp_succ h]
      refine (insAtP_perm _ _ _).trans ?_
      have e : xs.take (k + 1) = xs.take k ++ [x] := by
        obtain ⟨hk, rfl⟩ := List.getElem?_eq_some_iff.mp h
        exact List.take_succ_eq_append_getElem hk
      rw [e]
      exact ((List.Perm.cons x ih).trans (List.perm_append_comm (l₁ := [x]) (l₂ := xs.take k)))
theorem layUp_len {α : Type} {q : α → α → Bool} {xs : List α} {k : Nat} (h : k ≤ xs.length) : (layUp q xs k).length = k := by
  rw [(layUp_perm q xs k).length_eq, List.length_take]; (first | lia | omega)
theorem layUp_le {α : Type} {q : α → α → Bool} {xs : List α} {k : Nat} : (layUp q xs k).length ≤ k := by
  rw [(layUp_perm q xs k).length_eq, List.length_take]; (first | lia | omega)
theorem layUp_mem {α : Type} {q : α → α → Bool} {xs : List α} {k : Nat} {x : α} (h : x ∈ layUp q xs k) : x ∈ xs := List.take_subset _ _ ((layUp_perm q xs k).subset h)
/-- by a total preorder a row that is laid so stands in order -/
theorem layUp_pairwise {α : Type} {R : α → α → Prop} {q : α → α → Bool} (tr : ∀ x a b, R a b → q x b = true → q x a = true) (h1 : ∀ x a, q x a = true → R a x) (h2 : ∀ x a, q x a = false → R x a) (xs : List α) : ∀ k, (layUp q xs k).Pairwise R
  | 0 => List.Pairwise.nil
  | k + 1 => by
    have ih := layUp_pairwise tr h1 h2 xs k
    unfold layUp
    split
    · rename_i x _
      exact insAtP_pairwise ih (ih.imp fun {a b} r => tr x a b r) (fun a _ => h1 x a) fun a _ => h2 x a
    · exact ih

/-! goods: place of birth, price -/
abbrev Gd1 := Nat × Nat
def zf (w : Nat) (l : List Nat) : List Nat := List.replicate (w - l.length) 48 ++ l
def gD (sz : Nat) (e : Gd1) : PyData := .list [.int (e.1 : Int), .int (e.2 : Int), .str (st (rj (sz - 2) (dec e.2))), .str (st (zf sz (dec e.2)))]
def gQ (x e : Gd1) : Bool := decide (e.2 ≤ x.2)
def gUp (ps : List Nat) (k : Nat) : List Gd1 := layUp gQ (ps.zipIdx.map fun e => (e.2, e.1)) k
def textD : PyData → PyData
  | .list [_, _, _, t] => t
  | _ => .none
theorem gUp_sorted (ps : List Nat) (k : Nat) : (gUp ps k).Pairwise fun a b => a.2 ≤ b.2 :=
  layUp_pairwise (fun x a b h q => decide_eq_true (by have := of_decide_eq_true q; (first | lia | omega))) (fun x a q => of_decide_eq_true q) (fun x a q => by have := of_decide_eq_false q; (first | lia | omega)) _ k
theorem zf_lt {sz p q : Nat} (h3 : sz = 3 ∨ sz = 4) (hp : p < 12) (hq : q < 12) : zf sz (dec p) < zf sz (dec q) ↔ p < q := by
  have key : ∀ p < 12, ∀ q < 12, decide (zf 3 (dec p) < zf 3 (dec q)) = decide (p < q) ∧ decide (zf 4 (dec p) < zf 4 (dec q)) = decide (p < q) := by decide
  obtain ⟨a, b⟩ := key p hp q hq
  rcases h3 with rfl | rfl
  · exact decide_eq_decide.mp a
  · exact decide_eq_decide.mp b

/-! baskets: a name and what it costs -/
abbrev Bk := List Nat × Nat
def bD (e : Bk) : PyData := .list [.str (st e.1), .int (e.2 : Int)]
def bStep (room purse k p : Nat) (bs : List Bk) : List Bk := bs ++ (bs.map fun e => (e.1 ++ [48 + k], e.2 + p)).filter fun e => decide (e.1.length ≤ room) && decide (e.2 ≤ purse)
def bUp (room purse : Nat) (prs : List Nat) : Nat → List Bk
  | 0 => [([], 0)]
  | k + 1 => match prs[k]? with
    | some p => bStep room purse k p (bUp room purse prs k)
    | none => bUp room purse prs k
theorem bUp_succ {room purse k p : Nat} {prs : List Nat} (h : prs[k]? = some p) : bUp room purse prs (k + 1) = bStep room purse k p (bUp room purse prs k) := by rw [bUp, h]
theorem bStep_len {room purse k p : Nat} {bs : List Bk} : (bStep room purse k p bs).length ≤ 2 * bs.length := by
  have := List.length_filter_le (fun e : Bk => decide (e.1.length ≤ room) && decide (e.2 ≤ purse)) (bs.map fun e => (e.1 ++ [48 + k], e.2 + p))
  rw [List.length_map] at this
  simp only [bStep, List.length_append]; (first | lia | omega)
theorem bUp_len {room purse : Nat} {prs : List Nat} : ∀ k, (bUp room purse prs k).length ≤ 2 ^ k
  | 0 => by simp [bUp]
  | k + 1 => by
    have ih := bUp_len (room := room) (purse := purse) (prs := prs) k
    have e : 2 ^ (k + 1) = 2 * 2 ^ k := by rw [Nat.pow_succ]; (first | lia | omega)
    unfold bUp
    split
    · rename_i p _
      have := bStep_len (room := room) (purse := purse) (k := k) (p := p) (bs := bUp room purse prs k)
      (first | lia | omega)
    · (first | lia | omega)
theorem bUp_ok {room purse : Nat} {prs : List Nat} : ∀ k, ∀ e ∈ bUp room purse prs k, e.1.length ≤ k ∧ (e.1.length ≤ room) ∧ ∀ c ∈ e.1, 48 ≤ c ∧ c < 48 + k
  | 0, e, h => by
    simp only [bUp, List.mem_singleton] at h
    subst h
    exact ⟨Nat.le_refl _, Nat.zero_le _, fun c hc => by cases hc⟩
  | k + 1, e, h => by
    unfold bUp at h
    split at h
    · rcases List.mem_append.mp h with h | h
      · obtain ⟨a, b, c⟩ := bUp_ok k e h
        exact ⟨by (first | lia | omega), b, fun x hx => by have := c x hx; (first | lia | omega)⟩
      · obtain ⟨h, hr⟩ := List.mem_filter.mp h
        obtain ⟨f, hf, rfl⟩ := List.mem_map.mp h
        obtain ⟨a, b, c⟩ := bUp_ok k f hf
        simp only [Bool.and_eq_true, decide_eq_true_eq] at hr
        refine ⟨by simp; (first | lia | omega), hr.1, fun x hx => ?_⟩
        rcases List.mem_append.mp hx with hx | hx
        · have := c x hx; (first | lia | omega)
        · rw [List.mem_singleton] at hx; (first | lia | omega)
    · obtain ⟨a, b, c⟩ := bUp_ok k e h
      exact ⟨by (first | lia | omega), b, fun x hx => by have := c x hx; (first | lia | omega)⟩

/-! the mirrors -/
def mUp (turned : Bool) (many : Nat) : Nat → List (List Nat)
  | 0 => [[]]
  | j + 1 => mUp turned many j ++ (if turned then (mUp turned many j).reverse else mUp turned many j).map fun n => (48 + (many - 1 - j)) :: n
theorem mUp_len {turned : Bool} {many : Nat} : ∀ j, (mUp turned many j).length = 2 ^ j
  | 0 => rfl
  | j + 1 => by
    have ih := mUp_len (turned := turned) (many := many) j
    unfold mUp
    rw [Nat.pow_succ]
    cases turned <;> simp [ih] <;> (first | lia | omega)
theorem mUp_ok {turned : Bool} {many : Nat} : ∀ j, j ≤ many → ∀ n ∈ mUp turned many j, n.length ≤ j ∧ ∀ c ∈ n, 48 ≤ c ∧ c < 48 + many
  | 0, _, n, h => by
    simp only [mUp, List.mem_singleton] at h
    subst h
    exact ⟨Nat.le_refl _, fun c hc => by cases hc⟩
  | j + 1, hj, n, h => by
    unfold mUp at h
    rcases List.mem_append.mp h with h | h
    · obtain ⟨a, b⟩ := mUp_ok j (by first | decide | assumption | with_reducible exact Int.natCast_nonneg _ | with_reducible exact Nat.le_trans (by assumption) (by decide) | with_reducible exact Nat.lt_of_lt_of_le (by assumption) (by decide) | with_reducible exact lt_mil (Nat.lt_of_lt_of_le (by assumption) (by decide)) | with_reducible exact lt_mil (Nat.lt_of_le_of_lt (by assumption) (by decide)) | with_reducible exact Nat.le_trans (Nat.le_of_lt (by assumption)) (by decide) | (first | lia | omega)) n h
      exact ⟨by (first | lia | omega), b⟩
    · obtain ⟨m, hm, rfl⟩ := List.mem_map.mp h
      have hm : m ∈ mUp turned many j := by cases turned <;> simpa using hm
      obtain ⟨a, b⟩ := mUp_ok j (by first | decide | assumption | with_reducible exact Int.natCast_nonneg _ | with_reducible exact Nat.le_trans (by assumption) (by decide) | with_reducible exact Nat.lt_of_lt_of_le (by assumption) (by decide) | with_reducible exact lt_mil (Nat.lt_of_lt_of_le (by assumption) (by decide)) | with_reducible exact lt_mil (Nat.lt_of_le_of_lt (by assumption) (by decide)) | with_reducible exact Nat.le_trans (Nat.le_of_lt (by assumption)) (by decide) | (first | lia | omega)) m hm
      refine ⟨by simp; (first | lia | omega), fun c hc => ?_⟩
      rcases List.mem_cons.mp hc with rfl | hc
      · (first | lia | omega)
      · exact b c hc

/-! the names, turned -/
def nD (fl sz : Nat) (n : List Nat) : PyData := .list [.str (st (fill fl 60 sz n)), .str (st n)]
def kc (fl sz p : Nat) (n : List Nat) : Nat := (fill fl 60 sz n).getD p 0
def tQ (fl sz p : Nat) (x e : List Nat) : Bool := decide (kc fl sz p e < kc fl sz p x)
def turnUp (fl sz : Nat) (xs : List (List Nat)) : Nat → List (List Nat)
  | 0 => xs
  | j + 1 => layUp (tQ fl sz (sz - 1 - j)) (turnUp fl sz xs j) (turnUp fl sz xs j).length
theorem turnUp_perm (fl sz : Nat) (xs : List (List Nat)) : ∀ j, (turnUp fl sz xs j).Perm xs
  | 0 => List.Perm.refl _
  | j + 1 => by
    have ih := turnUp_perm fl sz xs j
    have := layUp_perm (tQ fl sz (sz - 1 - j)) (turnUp fl sz xs j) (turnUp fl sz xs j).length
    rw [List.take_of_length_le (Nat.le_refl _)] at this
    exact this.trans ih
def sQ (x e : List Nat) : Bool := decide (¬ x < e)

def stepAt (row : List (List Nat)) (k : Nat) : Nat :=
  max ((row.getD (if k = 0 then row.length - 1 else k - 1) []).filter fun c => decide (c ∉ row.getD k [])).length ((row.getD k []).filter fun c => decide (c ∉ row.getD (if k = 0 then row.length - 1 else k - 1) [])).length
end Mine

namespace Mine
open PySem PySem.W PyProof.Rows PySem.Calls
set_option maxRecDepth 100000

theorem Is1.reb {P : Params} {F : Fm} {g' : Gh} (I : Is1 P F.toCx) (up : ∀ b o, F.g b = some o → g' b = some o) : Is1 P (F.reb g').toCx := ⟨I.K, fun a o e => up _ _ (I.g a o e), I.mg⟩
theorem Is1.comp {P : Params} {F : Fm} (I : Is1 P F.toCx) (sc : Scope) (cl : List (Str × Addr)) (L : Addr) : Is1 P (F.comp sc cl L).toCx := ⟨I.K, I.g, I.mg⟩

section
variable {P : Params} {C : Cx}
theorem sp_format1 (I : Is1 P C) (hf : 0 < C.fuel) {v : Value} {l : List Nat} {c a w : Nat} (hc : c < 128) (ha : a = 60 ∨ a = 62) (h1 : 1 ≤ w) (h2 : w ≤ 7) (hz : l.length ≤ 1000) :
    CallOk C (.ref 114) [.val v, .dat (.str (st l)), .dat (.str (st [c, a, 48 + w]))] [] [] (.dat (.str (st (fill c a w l)))) :=
  callOk_of fun ok W s vs ks S hx hy => by
    obtain ⟨_, _, _, rfl, r1, r2, r3⟩ := BAll.inv3 hx
    obtain rfl := BAll.inv0 hy
    refine enter ok hf S (I.lk (a := 114) rfl) (by rw [I.K]; rfl) (binds := [(Str.ofString "self", _), (Str.ofString "value", _), (Str.ofString "format_spec", _)]) (kp_binds (K := hd1.heap_39 P) (I.inn S) (fun _ => rfl))
      (.cons r1 (.cons r2 (.cons r3 .nil))) (show [Str.ofString "self", Str.ofString "value", Str.ofString "format_spec"].Nodup by decide) rfl fun L => ?_
    exact ex_one (ex_return (ev_call_bi (ev_builtin rfl (I.gl rfl) rfl) (evl_cons (ev_var (by first | exact mem_at 0 rfl | exact mem_at 1 rfl | exact mem_at 2 rfl | exact mem_at 3 rfl | exact mem_at 4 rfl | exact mem_at 5 rfl | exact mem_at 6 rfl | exact mem_at 7 rfl | exact mem_at 8 rfl | exact mem_at 9 rfl | exact mem_at 10 rfl | exact mem_at 11 rfl | exact mem_at 12 rfl | exact mem_at 13 rfl | exact mem_at 14 rfl | exact mem_at 15 rfl | exact mem_at 16 rfl | exact mem_at 17 rfl | exact mem_at 18 rfl | exact mem_at 19 rfl | exact mem_at 20 rfl | exact mem_at 21 rfl)) (evl_cons (ev_var (by first | exact mem_at 0 rfl | exact mem_at 1 rfl | exact mem_at 2 rfl | exact mem_at 3 rfl | exact mem_at 4 rfl | exact mem_at 5 rfl | exact mem_at 6 rfl | exact mem_at 7 rfl | exact mem_at 8 rfl | exact mem_at 9 rfl | exact mem_at 10 rfl | exact mem_at 11 rfl | exact mem_at 12 rfl | exact mem_at 13 rfl | exact mem_at 14 rfl | exact mem_at 15 rfl | exact mem_at 16 rfl | exact mem_at 17 rfl | exact mem_at 18 rfl | exact mem_at 19 rfl | exact mem_at 20 rfl | exact mem_at 21 rfl)) evl_nil)) (callOk_format_str hc ha h1 h2 hz)))
theorem sp_formatN (I : Is1 P C) (hf : 0 < C.fuel) {v : Value} {a w : Nat} (ha : a < 12) (h1 : 1 ≤ w) (h2 : w ≤ 2) :
    CallOk C (.ref 114) [.val v, .dat (.int (a : Int)), .dat (.str (st [48 + w]))] [] [] (.dat (.str (st (rj w (dec a))))) :=
  callOk_of fun ok W s vs ks S hx hy => by
    obtain ⟨_, _, _, rfl, r1, r2, r3⟩ := BAll.inv3 hx
    obtain rfl := BAll.inv0 hy
    refine enter ok hf S (I.lk (a := 114) rfl) (by rw [I.K]; rfl) (binds := [(Str.ofString "self", _), (Str.ofString "value", _), (Str.ofString "format_spec", _)]) (kp_binds (K := hd1.heap_39 P) (I.inn S) (fun _ => rfl))
      (.cons r1 (.cons r2 (.cons r3 .nil))) (show [Str.ofString "self", Str.ofString "value", Str.ofString "format_spec"].Nodup by decide) rfl fun L => ?_
    exact ex_one (ex_return (ev_call_bi (ev_builtin rfl (I.gl rfl) rfl) (evl_cons (ev_var (by first | exact mem_at 0 rfl | exact mem_at 1 rfl | exact mem_at 2 rfl | exact mem_at 3 rfl | exact mem_at 4 rfl | exact mem_at 5 rfl | exact mem_at 6 rfl | exact mem_at 7 rfl | exact mem_at 8 rfl | exact mem_at 9 rfl | exact mem_at 10 rfl | exact mem_at 11 rfl | exact mem_at 12 rfl | exact mem_at 13 rfl | exact mem_at 14 rfl | exact mem_at 15 rfl | exact mem_at 16 rfl | exact mem_at 17 rfl | exact mem_at 18 rfl | exact mem_at 19 rfl | exact mem_at 20 rfl | exact mem_at 21 rfl)) (evl_cons (ev_var (by first | exact mem_at 0 rfl | exact mem_at 1 rfl | exact mem_at 2 rfl | exact mem_at 3 rfl | exact mem_at 4 rfl | exact mem_at 5 rfl | exact mem_at 6 rfl | exact mem_at 7 rfl | exact mem_at 8 rfl | exact mem_at 9 rfl | exact mem_at 10 rfl | exact mem_at 11 rfl | exact mem_at 12 rfl | exact mem_at 13 rfl | exact mem_at 14 rfl | exact mem_at 15 rfl | exact mem_at 16 rfl | exact mem_at 17 rfl | exact mem_at 18 rfl | exact mem_at 19 rfl | exact mem_at 20 rfl | exact mem_at 21 rfl)) evl_nil)) (callOk_format_int ha h1 h2)))

/-- the writer -/
structure Wr (C : Cx) (x dx : Addr) : Prop where
  x : C.g x = some (instObj 138 dx)
  d : C.g dx = some emptyDict
theorem Wr.like {k : Nat} {C C' : Cx} {x dx : Addr} (I : Wr C x dx) (h : Like k C C') : Wr C' x dx := ⟨by rw [h.g]; exact I.x, by rw [h.g]; exact I.d⟩
theorem ev_write {F : Fm} {Γ : List (Str × Bd)} {o : Expr} {es : List Expr} {apos pos : Pos} {x dx : Addr} {l : List Nat} {c a w : Nat} (I : Is1 P F.toCx) (hf : 0 < F.fuel) (X : Wr F.toCx x dx) (hc : c < 128) (ha : a = 60 ∨ a = 62) (h1 : 1 ≤ w) (h2 : w ≤ 7) (hz : l.length ≤ 1000)
    (ho : EvB F Γ o (.val (.ref x))) (y : EvL F Γ pos es [.dat (.str (st l)), .dat (.str (st [c, a, 48 + w]))])
    (hbase : ∀ env, attributeBase o (Str.ofString "format_field") env (eval o env) = eval o env := by intro _; rfl) (hn : ∀ env, (starEach es env).any (·.1) = false := by intro _; rfl) (hlen : decide (es.length < 29) = true := by rfl) (hline : (apos.endLine == pos.line) = true := by rfl) :
    EvB F Γ (.Call (.Attribute o (Str.ofString "format_field") apos) es [] pos) (.dat (.str (st (fill c a w l)))) :=
  ev_inst ho y X.x X.d (by rw [I.K]; rfl) (by rw [I.K]; rfl) (by rw [I.K]; rfl) (I.at (a := 114) rfl) rfl (sp_format1 I hf hc ha h1 h2 hz) hbase hn hlen hline
theorem ev_writeN {F : Fm} {Γ : List (Str × Bd)} {o : Expr} {es : List Expr} {apos pos : Pos} {x dx : Addr} {a w : Nat} (I : Is1 P F.toCx) (hf : 0 < F.fuel) (X : Wr F.toCx x dx) (ha : a < 12) (h1 : 1 ≤ w) (h2 : w ≤ 2)
    (ho : EvB F Γ o (.val (.ref x))) (y : EvL F Γ pos es [.dat (.int (a : Int)), .dat (.str (st [48 + w]))])
    (hbase : ∀ env, attributeBase o (Str.ofString "format_field") env (eval o env) = eval o env := by intro _; rfl) (hn : ∀ env, (starEach es env).any (·.1) = false := by intro _; rfl) (hlen : decide (es.length < 29) = true := by rfl) (hline : (apos.endLine == pos.line) = true := by rfl) :
    EvB F Γ (.Call (.Attribute o (Str.ofString "format_field") apos) es [] pos) (.dat (.str (st (rj w (dec a))))) :=
  ev_inst ho y X.x X.d (by rw [I.K]; rfl) (by rw [I.K]; rfl) (by rw [I.K]; rfl) (I.at (a := 114) rfl) rfl (sp_formatN I hf ha h1 h2) hbase hn hlen hline

/-- str(..) of a number below 12 -/
theorem ev_strN {F : Fm} {Γ : List (Str × Bd)} {e : Expr} {pos : Pos} {p : Pos} {n : Int} {a : Nat} (I : Is1 P F.toCx) (ha : a < 12) (x : EvE F Γ e (.int n)) (hn : n = (a : Int)) (hk : F.env.kindOf (Str.ofString "str") = some .globalImplicit) (hs : starEach [e] = fun env => (false, eval e env) :: starEach [] env := by rfl)
    (harm : ∀ env, eval (.Call (.Name (Str.ofString "str") p) [e] [] pos) env = (do callWith pos (← eval (.Name (Str.ofString "str") p) env) [] (backTo pos (starEach [e] env)) (backToKw pos (keywordEach [] env))) := by intro _; rfl) :
    EvB F Γ (.Call (.Name (Str.ofString "str") p) [e] [] pos) (.dat (.str (st (dec a)))) := by
  subst hn
  exact ev_eq (ev_call_ty (ev_builtin hk (I.gl rfl) rfl) (evl_cons x evl_nil (fun env => by rw [hs])) (callOk_str_int (by first | decide | assumption | with_reducible exact Int.natCast_nonneg _ | with_reducible exact Nat.le_trans (by assumption) (by decide) | with_reducible exact Nat.lt_of_lt_of_le (by assumption) (by decide) | with_reducible exact lt_mil (Nat.lt_of_lt_of_le (by assumption) (by decide)) | with_reducible exact lt_mil (Nat.lt_of_le_of_lt (by assumption) (by decide)) | with_reducible exact Nat.le_trans (Nat.le_of_lt (by assumption)) (by decide) | (first | lia | omega))) (fun env => by rw [hs]; rfl) harm) (congrArg (fun z => Bd.dat (.str z)) (str_dec ha))
end
end Mine

namespace Mine
open PySem PySem.W PyProof.Rows PySem.Calls
set_option maxRecDepth 100000

theorem flatten_rep (n c : Nat) : (List.replicate n [c]).flatten = List.replicate n c := by
  induction n with
  | zero => rfl
  | succ n ih => rw [List.replicate_succ, List.flatten_cons, ih]; rfl
theorem range_at {n i : Nat} (h : i < ((List.range n).map fun i : Nat => PyData.int (i : Int)).length) : ((List.range n).map fun i : Nat => PyData.int (i : Int))[i] = .int (i : Int) := by simp
theorem dec_small {a : Nat} (h : a < 10) : dec a = [48 + a] := by unfold dec; rw [if_neg (by first | decide | assumption | with_reducible exact Int.natCast_nonneg _ | with_reducible exact Nat.le_trans (by assumption) (by decide) | with_reducible exact Nat.lt_of_lt_of_le (by assumption) (by decide) | with_reducible exact lt_mil (Nat.lt_of_lt_of_le (by assumption) (by decide)) | with_reducible exact lt_mil (Nat.lt_of_le_of_lt (by assumption) (by decide)) | with_reducible exact Nat.le_trans (Nat.le_of_lt (by assumption)) (by decide) | (first | lia | omega)), Nat.mod_eq_of_lt h]; rfl
theorem fill_zf {w : Nat} {l : List Nat} : fill 48 62 w l = zf w l := by simp [fill, zf]
def pI (p : Nat) : PyData := .int (p : Int)

def tabG : Tab := (144, ⟨138, 66, 138, 84⟩, (Str.ofString "_law_goods" ++ Str.ofString ".<locals>.") ++ Str.ofString "<lambda>")
def tabT : Tab := (168, ⟨165, 39, 165, 66⟩, (Str.ofString "_law_turned" ++ Str.ofString ".<locals>.") ++ Str.ofString "<lambda>")
def tabs1 : List Tab := [tabG, tabT]
theorem tabG_nd : ∀ r ∈ tabs1, r.1 = tabG.1 → r = tabG := fun r hr e => by
  rcases List.mem_cons.mp hr with rfl | hr
  · rfl
  · rw [List.mem_singleton] at hr; subst hr; cases e
theorem tabT_nd : ∀ r ∈ tabs1, r.1 = tabT.1 → r = tabT := fun r hr e => by
  rcases List.mem_cons.mp hr with rfl | hr
  · cases e
  · rw [List.mem_singleton] at hr; exact hr

section
variable {tabs : List Tab} {C : Cx} {W : Addr → Prop} {s : Shared} {f : Addr} {oc : Value} {od : Option Addr} {osl : Array (Option Value)} {name qual : Str} {params : Arguments} {body : List Stmt} {scope : Scope} {dV kV doc pm cdv ct : Value} {an : Option Addr}
  {args : Args} {binds : List (Str × Value)} {bs : List Bd} {b : Bd}
theorem enterJK (ok : C.Ok) (hf : 0 < C.fuel) (S : C.St W s) (hTW : ∀ a, TOf tabs a → W a) (hTg : ∀ a, TOf tabs a → C.g a = none) (J : TabsJ tabs W s.heap)
    (ho : C.K.lookup f = some ⟨oc, od, .func (fnOf name qual params body scope dV kV doc pm an cdv ct), osl⟩) (hcd : codeIn C.K cdv qual = true)
    (hbind : BindsTo s (fnOf name qual params body scope dV kV doc pm an cdv ct) args binds) (hb : BAll W s.heap (binds.map (·.2)) bs) (hn : (binds.map (·.1)).Nodup)
    (hkind : (binds.all fun y => scope.names.lookup y.1 == some .local || scope.names.lookup y.1 == some .cell) = true)
    (hbody : ∀ L, ExJ tabs (C.into (envOfC qual scope L f cdv)) ((binds.map (·.1)).zip bs) none (execs body (envOfC qual scope L f cdv)) (.ret b))
    (hco : scope.isCoroutine = false := by rfl) (hgen : scope.isGenerator = false := by rfl) (hk : scope.kind = .function := by rfl) :
    codeAny (model C.prog C.w) C.A (.call (.ref f) args) (fun r s' => ∃ v, r = .ok (.ret v) ∧ (Same s s' ∧ (∀ b o, ¬ TOf tabs b → s.heap.get? b = some o → s'.heap.get? b = some o) ∧ TabsJ tabs W s'.heap) ∧ BRep W s'.heap v b) s :=
  enterJ ok hf S hTW hTg J (S.g _ _ (ok.KIn _ _ ho)) rfl (codeRec_of (h := s.heap) (fun a o e => S.g _ _ (ok.KIn a o e)) hcd) hbind hb hn hkind hbody hco hgen hk
end
section
variable {tabs : List Tab} {F : Fm} {Γ Γ' : List (Str × Bd)} {own : Own} {out : Out}
theorem ex_weak {t : Sem Flow} {Γ₁ Γ₂ : List (Str × Bd)} (h : ∀ p ∈ Γ₂, p ∈ Γ₁) (x : ExG F Γ own t (.next Γ₁ own)) : ExG F Γ own t (.next Γ₂ own) := .mk fun W O ok h0 gd s p =>
  wpAny_mono (x.run W O ok h0 gd s p) (fun f s' ⟨sm, e, l, q⟩ => ⟨sm, e, l, q.g, q.pre.sub h, q.own⟩) fun _ _ f => f
theorem ex_weakO {t : Sem Flow} {own₁ : Own} {Γ₁ Γ₂ : List (Str × Bd)} (h : ∀ p ∈ Γ₂, p ∈ Γ₁) (x : ExG F Γ own t (.next Γ₁ own₁)) : ExG F Γ own t (.next Γ₂ own₁) := .mk fun W O ok h0 gd s p =>
  wpAny_mono (x.run W O ok h0 gd s p) (fun f s' ⟨sm, e, l, q⟩ => ⟨sm, e, l, q.g, q.pre.sub h, q.own⟩) fun _ _ f => f
theorem exj_forN {target iter : Expr} {body : List Stmt} {pos : Pos} {items : List PyData} (n : Nat) (G Gb : Nat → List (Str × Bd)) (ow : Nat → Own) (hn : items.length = n) (hi : EvI F (gam (G 0) (ow 0)) iter items)
    (ha : ∀ i (h : i < items.length), Asg F (G i) (ow i) target items[i] (Gb i))
    (hb : ∀ i, i < n → ExJ tabs F (Gb i) (ow i) (execs body F.env) (.next (G (i + 1)) (ow (i + 1))))
    (hs : ∀ x, foldedSetIterable iter F.env x = pure x := by intro _; rfl) : ExJ tabs F (G 0) (ow 0) (exec (.For target iter body [] pos) F.env) (.next (G n) (ow n)) := by
  subst hn
  exact exj_for G Gb ow hi ha hb hs
end

theorem fuel_reb {F : Fm} {g' : Gh} {C' : Cx} (h : Like 2 (F.reb g').toCx C') (hf : 2 < F.fuel) : 0 < C'.fuel := by
  have h1 := h.fuel
  have h2 : (F.reb g').toCx.fuel = F.fuel := rfl
  (first | lia | omega)
section
variable {P : Params} {C : Cx}
theorem gBirth {ps : List Nat} {i p : Nat} (h : ps[i]? = some p) : (ps.zipIdx.map fun e => (e.2, e.1))[i]? = some (i, p) := by
  rw [List.getElem?_map, List.getElem?_zipIdx, h]; simp
theorem gUp_succ {ps : List Nat} {i p : Nat} (h : ps[i]? = some p) : gUp ps (i + 1) = insAtP (gUp ps i) ((gUp ps i).countP (gQ (i, p))) (i, p) := layUp_succ (gBirth h)
theorem gUp_len {ps : List Nat} {i : Nat} (h : i ≤ ps.length) : (gUp ps i).length = i := layUp_len (by simpa using h)
theorem gUp_mem {ps : List Nat} {i : Nat} {e : Gd1} (h : e ∈ gUp ps i) : e.2 ∈ ps := by
  have := layUp_mem h
  obtain ⟨x, hx, rfl⟩ := List.mem_map.mp this
  have := (List.mem_zipIdx hx).2.2
  rw [this]; exact List.getElem_mem _
theorem gd_lt {sz : Nat} (h3 : sz = 3 ∨ sz = 4) {row : List Gd1} {x : Gd1} (hr : ∀ e ∈ row, e.2 < 12) (hx : x.2 < 12) (hs : row.Pairwise fun a b => a.2 ≤ b.2) : ∀ F i, (h : i < (row.map (gD sz)).length) → CmpR F .Lt (.dat (textD (gD sz x))) (.dat (textD (row.map (gD sz))[i])) (decide (row.countP (gQ x) ≤ i)) := fun F i h => by
  rw [List.length_map] at h
  rw [List.getElem_map]
  have e : decide (row.countP (gQ x) ≤ i) = decide (zf sz (dec x.2) < zf sz (dec row[i].2)) := by
    have := cnt_at (q := gQ x) (hs.imp fun {a b} r q => decide_eq_true (by have := of_decide_eq_true q; (first | lia | omega))) i h
    have k := zf_lt h3 hx (hr _ (List.getElem_mem h))
    apply decide_eq_decide.mpr
    rw [k]
    have this : decide (row[i].2 ≤ x.2) = decide (i < row.countP (gQ x)) := this
    rw [decide_eq_decide] at this
    (first | lia | omega)
  rw [e]
  exact cmpR_lt_str

theorem sp_goods (I : Is1 P C) (B : Bm C) (hf : 6 < C.fuel) {x dx : Addr} (X : Wr C x dx) {ps : List Nat} (hp : ∀ p ∈ ps, p < 12) (hz : ps.length ≤ 20) {sz : Nat} (h3 : sz = 3 ∨ sz = 4) :
    CallJ tabs1 C (.ref 149) [.val (.ref x), .dat (.list (ps.map pI)), .dat (.int (sz : Int))] (.dat (.list ((gUp ps ps.length).map (gD sz)))) :=
  callJ_of fun ok hT W s vs S hW J hx => by
    obtain ⟨_, _, _, rfl, r1, r2, r3⟩ := BAll.inv3 hx
    refine enterJK ok (by first | decide | assumption | with_reducible exact Int.natCast_nonneg _ | with_reducible exact Nat.le_trans (by assumption) (by decide) | with_reducible exact Nat.lt_of_lt_of_le (by assumption) (by decide) | with_reducible exact lt_mil (Nat.lt_of_lt_of_le (by assumption) (by decide)) | with_reducible exact lt_mil (Nat.lt_of_le_of_lt (by assumption) (by decide)) | with_reducible exact Nat.le_trans (Nat.le_of_lt (by assumption)) (by decide) | (first | lia | omega)) S hW hT J (I.lk (a := 149) rfl) (by rw [I.K]; rfl) (binds := [(Str.ofString "writer", _), (Str.ofString "prices", _), (Str.ofString "size", _)]) (kp_binds (K := hd1.heap_39 P) (I.inn S) (fun _ => rfl))
      (.cons r1 (.cons r2 (.cons r3 .nil))) (show [Str.ofString "writer", Str.ofString "prices", Str.ofString "size"].Nodup by decide) rfl fun L => ?_
    refine exj_cons (exj_of (ex_assign_own (Γ' := [(Str.ofString "writer", .val (.ref x)), (Str.ofString "prices", .dat (.list (ps.map pI))), (Str.ofString "size", .dat (.int (sz : Int)))]) evn_nil (by first | exact Or.inl rfl | exact Or.inr ⟨rfl, rfl, rfl⟩) (Pq.g (by repeat (first | exact Pq.nil | refine Pq.cons (by first | exact mem_at 0 rfl | exact mem_at 1 rfl | exact mem_at 2 rfl | exact mem_at 3 rfl | exact mem_at 4 rfl | exact mem_at 5 rfl | exact mem_at 6 rfl | exact mem_at 7 rfl | exact mem_at 8 rfl | exact mem_at 9 rfl | exact mem_at 10 rfl | exact mem_at 11 rfl | exact mem_at 12 rfl | exact mem_at 13 rfl | exact mem_at 14 rfl | exact mem_at 15 rfl | exact mem_at 16 rfl | exact mem_at 17 rfl | exact mem_at 18 rfl | exact mem_at 19 rfl | exact mem_at 20 rfl | exact mem_at 21 rfl) rfl ?_))))) ?_
    refine exj_cons (exj_forN (items := ps.map pI) ps.length (fun _ => [(Str.ofString "writer", .val (.ref x)), (Str.ofString "prices", .dat (.list (ps.map pI))), (Str.ofString "size", .dat (.int (sz : Int)))])
      (fun i => match ps[i]? with | some p => [(Str.ofString "price", .dat (.int (p : Int))), (Str.ofString "writer", .val (.ref x)), (Str.ofString "prices", .dat (.list (ps.map pI))), (Str.ofString "size", .dat (.int (sz : Int)))] | none => [])
      (fun i => some (Str.ofString "goods", (gUp ps i).map (gD sz))) (by simp) (evi_list (ev_var (by first | exact mem_at 0 rfl | exact mem_at 1 rfl | exact mem_at 2 rfl | exact mem_at 3 rfl | exact mem_at 4 rfl | exact mem_at 5 rfl | exact mem_at 6 rfl | exact mem_at 7 rfl | exact mem_at 8 rfl | exact mem_at 9 rfl | exact mem_at 10 rfl | exact mem_at 11 rfl | exact mem_at 12 rfl | exact mem_at 13 rfl | exact mem_at 14 rfl | exact mem_at 15 rfl | exact mem_at 16 rfl | exact mem_at 17 rfl | exact mem_at 18 rfl | exact mem_at 19 rfl | exact mem_at 20 rfl | exact mem_at 21 rfl))) ?_ ?_) (exj_freeze (exj_of (ex_one (ex_return (ev_var (by first | exact mem_at 0 rfl | exact mem_at 1 rfl | exact mem_at 2 rfl | exact mem_at 3 rfl | exact mem_at 4 rfl | exact mem_at 5 rfl | exact mem_at 6 rfl | exact mem_at 7 rfl | exact mem_at 8 rfl | exact mem_at 9 rfl | exact mem_at 10 rfl | exact mem_at 11 rfl | exact mem_at 12 rfl | exact mem_at 13 rfl | exact mem_at 14 rfl | exact mem_at 15 rfl | exact mem_at 16 rfl | exact mem_at 17 rfl | exact mem_at 18 rfl | exact mem_at 19 rfl | exact mem_at 20 rfl | exact mem_at 21 rfl))))))
    · intro i hi
      rw [List.length_map] at hi
      rw [List.getElem?_eq_getElem hi, List.getElem_map]
      exact asg_name (by first | exact Or.inl rfl | exact Or.inr ⟨rfl, rfl, rfl⟩) (by intro y ds e; first | (cases e; done) | (cases e; decide)) (Pk.g (by repeat (first | exact Pk.nil | refine Pk.here ?_ | refine Pk.cons (by first | exact mem_at 0 rfl | exact mem_at 1 rfl | exact mem_at 2 rfl | exact mem_at 3 rfl | exact mem_at 4 rfl | exact mem_at 5 rfl | exact mem_at 6 rfl | exact mem_at 7 rfl | exact mem_at 8 rfl | exact mem_at 9 rfl | exact mem_at 10 rfl | exact mem_at 11 rfl | exact mem_at 12 rfl | exact mem_at 13 rfl | exact mem_at 14 rfl | exact mem_at 15 rfl | exact mem_at 16 rfl | exact mem_at 17 rfl | exact mem_at 18 rfl | exact mem_at 19 rfl | exact mem_at 20 rfl | exact mem_at 21 rfl) rfl ?_)))
    · intro i hi
      obtain ⟨p, hpi⟩ : ∃ p, ps[i]? = some p := ⟨_, List.getElem?_eq_getElem hi⟩
      have hp12 := hp _ (List.mem_of_getElem? hpi)
      have hlen : (gUp ps i).length = i := gUp_len (by first | decide | assumption | with_reducible exact Int.natCast_nonneg _ | with_reducible exact Nat.le_trans (by assumption) (by decide) | with_reducible exact Nat.lt_of_lt_of_le (by assumption) (by decide) | with_reducible exact lt_mil (Nat.lt_of_lt_of_le (by assumption) (by decide)) | with_reducible exact lt_mil (Nat.lt_of_le_of_lt (by assumption) (by decide)) | with_reducible exact Nat.le_trans (Nat.le_of_lt (by assumption)) (by decide) | (first | lia | omega))
      have hsd := gUp_sorted ps i
      have hmem : ∀ e ∈ gUp ps i, e.2 < 12 := fun e he => hp _ (gUp_mem he)
      simp only [hpi, gUp_succ hpi]
      generalize gUp ps i = R at hlen hsd hmem ⊢
      have hlR : (R.map (gD sz)).length = i := by rw [List.length_map, hlen]
      refine exj_cons (exj_of (ex_assign (Γ' := [(Str.ofString "short", .dat (.str (st (rj (sz - 2) (dec p))))), (Str.ofString "price", .dat (.int (p : Int))), (Str.ofString "writer", .val (.ref x)), (Str.ofString "prices", .dat (.list (ps.map pI))), (Str.ofString "size", .dat (.int (sz : Int)))])
        (ev_writeN (a := p) (w := sz - 2) (I.into _) (by show 0 < C.fuel - 1; (first | lia | omega)) (X.like (like_into _ _)) hp12 (by first | decide | assumption | with_reducible exact Int.natCast_nonneg _ | with_reducible exact Nat.le_trans (by assumption) (by decide) | with_reducible exact Nat.lt_of_lt_of_le (by assumption) (by decide) | with_reducible exact lt_mil (Nat.lt_of_lt_of_le (by assumption) (by decide)) | with_reducible exact lt_mil (Nat.lt_of_le_of_lt (by assumption) (by decide)) | with_reducible exact Nat.le_trans (Nat.le_of_lt (by assumption)) (by decide) | (first | lia | omega)) (by first | decide | assumption | with_reducible exact Int.natCast_nonneg _ | with_reducible exact Nat.le_trans (by assumption) (by decide) | with_reducible exact Nat.lt_of_lt_of_le (by assumption) (by decide) | with_reducible exact lt_mil (Nat.lt_of_lt_of_le (by assumption) (by decide)) | with_reducible exact lt_mil (Nat.lt_of_le_of_lt (by assumption) (by decide)) | with_reducible exact Nat.le_trans (Nat.le_of_lt (by assumption)) (by decide) | (first | lia | omega)) (ev_var (by first | exact mem_at 0 rfl | exact mem_at 1 rfl | exact mem_at 2 rfl | exact mem_at 3 rfl | exact mem_at 4 rfl | exact mem_at 5 rfl | exact mem_at 6 rfl | exact mem_at 7 rfl | exact mem_at 8 rfl | exact mem_at 9 rfl | exact mem_at 10 rfl | exact mem_at 11 rfl | exact mem_at 12 rfl | exact mem_at 13 rfl | exact mem_at 14 rfl | exact mem_at 15 rfl | exact mem_at 16 rfl | exact mem_at 17 rfl | exact mem_at 18 rfl | exact mem_at 19 rfl | exact mem_at 20 rfl | exact mem_at 21 rfl)) (evl_cons (ev_var (by first | exact mem_at 0 rfl | exact mem_at 1 rfl | exact mem_at 2 rfl | exact mem_at 3 rfl | exact mem_at 4 rfl | exact mem_at 5 rfl | exact mem_at 6 rfl | exact mem_at 7 rfl | exact mem_at 8 rfl | exact mem_at 9 rfl | exact mem_at 10 rfl | exact mem_at 11 rfl | exact mem_at 12 rfl | exact mem_at 13 rfl | exact mem_at 14 rfl | exact mem_at 15 rfl | exact mem_at 16 rfl | exact mem_at 17 rfl | exact mem_at 18 rfl | exact mem_at 19 rfl | exact mem_at 20 rfl | exact mem_at 21 rfl)) (evl_cons (ev_eq (ev_strN (a := sz - 2) (I.into _) (by first | decide | assumption | with_reducible exact Int.natCast_nonneg _ | with_reducible exact Nat.le_trans (by assumption) (by decide) | with_reducible exact Nat.lt_of_lt_of_le (by assumption) (by decide) | with_reducible exact lt_mil (Nat.lt_of_lt_of_le (by assumption) (by decide)) | with_reducible exact lt_mil (Nat.lt_of_le_of_lt (by assumption) (by decide)) | with_reducible exact Nat.le_trans (Nat.le_of_lt (by assumption)) (by decide) | (first | lia | omega)) (ev_bin (ev_var (by first | exact mem_at 0 rfl | exact mem_at 1 rfl | exact mem_at 2 rfl | exact mem_at 3 rfl | exact mem_at 4 rfl | exact mem_at 5 rfl | exact mem_at 6 rfl | exact mem_at 7 rfl | exact mem_at 8 rfl | exact mem_at 9 rfl | exact mem_at 10 rfl | exact mem_at 11 rfl | exact mem_at 12 rfl | exact mem_at 13 rfl | exact mem_at 14 rfl | exact mem_at 15 rfl | exact mem_at 16 rfl | exact mem_at 17 rfl | exact mem_at 18 rfl | exact mem_at 19 rfl | exact mem_at 20 rfl | exact mem_at 21 rfl)) ev_int binR_sub_int) (by first | decide | assumption | with_reducible exact Int.natCast_nonneg _ | with_reducible exact Nat.le_trans (by assumption) (by decide) | with_reducible exact Nat.lt_of_lt_of_le (by assumption) (by decide) | with_reducible exact lt_mil (Nat.lt_of_lt_of_le (by assumption) (by decide)) | with_reducible exact lt_mil (Nat.lt_of_le_of_lt (by assumption) (by decide)) | with_reducible exact Nat.le_trans (Nat.le_of_lt (by assumption)) (by decide) | (first | lia | omega)) rfl) (by rw [dec_small (by first | decide | assumption | with_reducible exact Int.natCast_nonneg _ | with_reducible exact Nat.le_trans (by assumption) (by decide) | with_reducible exact Nat.lt_of_lt_of_le (by assumption) (by decide) | with_reducible exact lt_mil (Nat.lt_of_lt_of_le (by assumption) (by decide)) | with_reducible exact lt_mil (Nat.lt_of_le_of_lt (by assumption) (by decide)) | with_reducible exact Nat.le_trans (Nat.le_of_lt (by assumption)) (by decide) | (first | lia | omega))])) evl_nil))) (by first | exact Or.inl rfl | exact Or.inr ⟨rfl, rfl, rfl⟩) (by intro y ds e; first | (cases e; done) | (cases e; decide)) (Pk.g (by repeat (first | exact Pk.nil | refine Pk.here ?_ | refine Pk.cons (by first | exact mem_at 0 rfl | exact mem_at 1 rfl | exact mem_at 2 rfl | exact mem_at 3 rfl | exact mem_at 4 rfl | exact mem_at 5 rfl | exact mem_at 6 rfl | exact mem_at 7 rfl | exact mem_at 8 rfl | exact mem_at 9 rfl | exact mem_at 10 rfl | exact mem_at 11 rfl | exact mem_at 12 rfl | exact mem_at 13 rfl | exact mem_at 14 rfl | exact mem_at 15 rfl | exact mem_at 16 rfl | exact mem_at 17 rfl | exact mem_at 18 rfl | exact mem_at 19 rfl | exact mem_at 20 rfl | exact mem_at 21 rfl) rfl ?_))))) ?_
      refine exj_cons (exj_of (ex_assign (Γ' := [(Str.ofString "text", .dat (.str (st (zf sz (dec p))))), (Str.ofString "short", .dat (.str (st (rj (sz - 2) (dec p))))), (Str.ofString "price", .dat (.int (p : Int))), (Str.ofString "writer", .val (.ref x)), (Str.ofString "prices", .dat (.list (ps.map pI))), (Str.ofString "size", .dat (.int (sz : Int)))])
        (ev_eq (ev_write (l := dec p) (c := 48) (a := 62) (w := sz) (I.into _) (by show 0 < C.fuel - 1; (first | lia | omega)) (X.like (like_into _ _)) (by first | decide | assumption | with_reducible exact Int.natCast_nonneg _ | with_reducible exact Nat.le_trans (by assumption) (by decide) | with_reducible exact Nat.lt_of_lt_of_le (by assumption) (by decide) | with_reducible exact lt_mil (Nat.lt_of_lt_of_le (by assumption) (by decide)) | with_reducible exact lt_mil (Nat.lt_of_le_of_lt (by assumption) (by decide)) | with_reducible exact Nat.le_trans (Nat.le_of_lt (by assumption)) (by decide) | (first | lia | omega)) (.inr rfl) (by first | decide | assumption | with_reducible exact Int.natCast_nonneg _ | with_reducible exact Nat.le_trans (by assumption) (by decide) | with_reducible exact Nat.lt_of_lt_of_le (by assumption) (by decide) | with_reducible exact lt_mil (Nat.lt_of_lt_of_le (by assumption) (by decide)) | with_reducible exact lt_mil (Nat.lt_of_le_of_lt (by assumption) (by decide)) | with_reducible exact Nat.le_trans (Nat.le_of_lt (by assumption)) (by decide) | (first | lia | omega)) (by first | decide | assumption | with_reducible exact Int.natCast_nonneg _ | with_reducible exact Nat.le_trans (by assumption) (by decide) | with_reducible exact Nat.lt_of_lt_of_le (by assumption) (by decide) | with_reducible exact lt_mil (Nat.lt_of_lt_of_le (by assumption) (by decide)) | with_reducible exact lt_mil (Nat.lt_of_le_of_lt (by assumption) (by decide)) | with_reducible exact Nat.le_trans (Nat.le_of_lt (by assumption)) (by decide) | (first | lia | omega)) (by have := @dec_len p; (first | lia | omega)) (ev_var (by first | exact mem_at 0 rfl | exact mem_at 1 rfl | exact mem_at 2 rfl | exact mem_at 3 rfl | exact mem_at 4 rfl | exact mem_at 5 rfl | exact mem_at 6 rfl | exact mem_at 7 rfl | exact mem_at 8 rfl | exact mem_at 9 rfl | exact mem_at 10 rfl | exact mem_at 11 rfl | exact mem_at 12 rfl | exact mem_at 13 rfl | exact mem_at 14 rfl | exact mem_at 15 rfl | exact mem_at 16 rfl | exact mem_at 17 rfl | exact mem_at 18 rfl | exact mem_at 19 rfl | exact mem_at 20 rfl | exact mem_at 21 rfl)) (evl_cons (ev_strN (a := p) (I.into _) hp12 (ev_var (by first | exact mem_at 0 rfl | exact mem_at 1 rfl | exact mem_at 2 rfl | exact mem_at 3 rfl | exact mem_at 4 rfl | exact mem_at 5 rfl | exact mem_at 6 rfl | exact mem_at 7 rfl | exact mem_at 8 rfl | exact mem_at 9 rfl | exact mem_at 10 rfl | exact mem_at 11 rfl | exact mem_at 12 rfl | exact mem_at 13 rfl | exact mem_at 14 rfl | exact mem_at 15 rfl | exact mem_at 16 rfl | exact mem_at 17 rfl | exact mem_at 18 rfl | exact mem_at 19 rfl | exact mem_at 20 rfl | exact mem_at 21 rfl)) rfl rfl)
          (evl_cons (ev_eq (b := .dat (.str (st [48, 62, 48 + sz]))) (ev_bin (ev_strL (l := [48, 62]) rfl) (ev_strN (a := sz) (I.into _) (by first | decide | assumption | with_reducible exact Int.natCast_nonneg _ | with_reducible exact Nat.le_trans (by assumption) (by decide) | with_reducible exact Nat.lt_of_lt_of_le (by assumption) (by decide) | with_reducible exact lt_mil (Nat.lt_of_lt_of_le (by assumption) (by decide)) | with_reducible exact lt_mil (Nat.lt_of_le_of_lt (by assumption) (by decide)) | with_reducible exact Nat.le_trans (Nat.le_of_lt (by assumption)) (by decide) | (first | lia | omega)) (ev_var (by first | exact mem_at 0 rfl | exact mem_at 1 rfl | exact mem_at 2 rfl | exact mem_at 3 rfl | exact mem_at 4 rfl | exact mem_at 5 rfl | exact mem_at 6 rfl | exact mem_at 7 rfl | exact mem_at 8 rfl | exact mem_at 9 rfl | exact mem_at 10 rfl | exact mem_at 11 rfl | exact mem_at 12 rfl | exact mem_at 13 rfl | exact mem_at 14 rfl | exact mem_at 15 rfl | exact mem_at 16 rfl | exact mem_at 17 rfl | exact mem_at 18 rfl | exact mem_at 19 rfl | exact mem_at 20 rfl | exact mem_at 21 rfl)) rfl rfl) (binR_add_str (by have := @dec_len sz; simp; (first | lia | omega)))) (by rw [dec_small (by first | decide | assumption | with_reducible exact Int.natCast_nonneg _ | with_reducible exact Nat.le_trans (by assumption) (by decide) | with_reducible exact Nat.lt_of_lt_of_le (by assumption) (by decide) | with_reducible exact lt_mil (Nat.lt_of_lt_of_le (by assumption) (by decide)) | with_reducible exact lt_mil (Nat.lt_of_le_of_lt (by assumption) (by decide)) | with_reducible exact Nat.le_trans (Nat.le_of_lt (by assumption)) (by decide) | (first | lia | omega))]; rfl)) evl_nil))) (by rw [fill_zf])) (by first | exact Or.inl rfl | exact Or.inr ⟨rfl, rfl, rfl⟩) (by intro y ds e; first | (cases e; done) | (cases e; decide)) (Pk.g (by repeat (first | exact Pk.nil | refine Pk.here ?_ | refine Pk.cons (by first | exact mem_at 0 rfl | exact mem_at 1 rfl | exact mem_at 2 rfl | exact mem_at 3 rfl | exact mem_at 4 rfl | exact mem_at 5 rfl | exact mem_at 6 rfl | exact mem_at 7 rfl | exact mem_at 8 rfl | exact mem_at 9 rfl | exact mem_at 10 rfl | exact mem_at 11 rfl | exact mem_at 12 rfl | exact mem_at 13 rfl | exact mem_at 14 rfl | exact mem_at 15 rfl | exact mem_at 16 rfl | exact mem_at 17 rfl | exact mem_at 18 rfl | exact mem_at 19 rfl | exact mem_at 20 rfl | exact mem_at 21 rfl) rfl ?_))))) ?_
      refine exj_cons (exj_mut_lam tabG (clos := []) (cc := 148) (args := [.dat (gD sz (i, p))]) (ds := R.map (gD sz)) (ds' := (insAtP R (R.countP (gQ (i, p))) (i, p)).map (gD sz)) (ev_glob rfl ((I.into _).gl rfl))
        (evl_cons (ev_list (ds := [.int (i : Int), .int (p : Int), .str (st (rj (sz - 2) (dec p))), .str (st (zf sz (dec p)))]) (evd_cons (ev_eq (ev_call_bi (ev_builtin rfl ((I.into _).gl rfl) rfl) (evl_cons (ev_var (b := .lst (R.map (gD sz))) (by first | exact mem_at 0 rfl | exact mem_at 1 rfl | exact mem_at 2 rfl | exact mem_at 3 rfl | exact mem_at 4 rfl | exact mem_at 5 rfl | exact mem_at 6 rfl | exact mem_at 7 rfl | exact mem_at 8 rfl | exact mem_at 9 rfl | exact mem_at 10 rfl | exact mem_at 11 rfl | exact mem_at 12 rfl | exact mem_at 13 rfl | exact mem_at 14 rfl | exact mem_at 15 rfl | exact mem_at 16 rfl | exact mem_at 17 rfl | exact mem_at 18 rfl | exact mem_at 19 rfl | exact mem_at 20 rfl | exact mem_at 21 rfl)) evl_nil) (callOk_len_list (by first | decide | assumption | with_reducible exact Int.natCast_nonneg _ | with_reducible exact Nat.le_trans (by assumption) (by decide) | with_reducible exact Nat.lt_of_lt_of_le (by assumption) (by decide) | with_reducible exact lt_mil (Nat.lt_of_lt_of_le (by assumption) (by decide)) | with_reducible exact lt_mil (Nat.lt_of_le_of_lt (by assumption) (by decide)) | with_reducible exact Nat.le_trans (Nat.le_of_lt (by assumption)) (by decide) | (first | lia | omega)))) (by rw [hlR])) (evd_cons (ev_var (by first | exact mem_at 0 rfl | exact mem_at 1 rfl | exact mem_at 2 rfl | exact mem_at 3 rfl | exact mem_at 4 rfl | exact mem_at 5 rfl | exact mem_at 6 rfl | exact mem_at 7 rfl | exact mem_at 8 rfl | exact mem_at 9 rfl | exact mem_at 10 rfl | exact mem_at 11 rfl | exact mem_at 12 rfl | exact mem_at 13 rfl | exact mem_at 14 rfl | exact mem_at 15 rfl | exact mem_at 16 rfl | exact mem_at 17 rfl | exact mem_at 18 rfl | exact mem_at 19 rfl | exact mem_at 20 rfl | exact mem_at 21 rfl)) (evd_cons (ev_var (by first | exact mem_at 0 rfl | exact mem_at 1 rfl | exact mem_at 2 rfl | exact mem_at 3 rfl | exact mem_at 4 rfl | exact mem_at 5 rfl | exact mem_at 6 rfl | exact mem_at 7 rfl | exact mem_at 8 rfl | exact mem_at 9 rfl | exact mem_at 10 rfl | exact mem_at 11 rfl | exact mem_at 12 rfl | exact mem_at 13 rfl | exact mem_at 14 rfl | exact mem_at 15 rfl | exact mem_at 16 rfl | exact mem_at 17 rfl | exact mem_at 18 rfl | exact mem_at 19 rfl | exact mem_at 20 rfl | exact mem_at 21 rfl)) (evd_cons (ev_var (by first | exact mem_at 0 rfl | exact mem_at 1 rfl | exact mem_at 2 rfl | exact mem_at 3 rfl | exact mem_at 4 rfl | exact mem_at 5 rfl | exact mem_at 6 rfl | exact mem_at 7 rfl | exact mem_at 8 rfl | exact mem_at 9 rfl | exact mem_at 10 rfl | exact mem_at 11 rfl | exact mem_at 12 rfl | exact mem_at 13 rfl | exact mem_at 14 rfl | exact mem_at 15 rfl | exact mem_at 16 rfl | exact mem_at 17 rfl | exact mem_at 18 rfl | exact mem_at 19 rfl | exact mem_at 20 rfl | exact mem_at 21 rfl)) evd_nil))))) evl_nil)
        ((I.into _).at (a := 37) rfl) rfl (.head _) tabG_nd rfl rfl rfl (by rw [(I.into _).K]; rfl) (by rfl) rfl (B.mono rfl fun _ _ e => e) (by decide) (fun g' f up hl _ => ?_) (hno := noLst_ok rfl) (hi := rfl)) (exj_of (ex_sub (Sb.g (by repeat (first | exact Sb.nil | refine Sb.cons (by first | exact mem_at 0 rfl | exact mem_at 1 rfl | exact mem_at 2 rfl | exact mem_at 3 rfl | exact mem_at 4 rfl | exact mem_at 5 rfl | exact mem_at 6 rfl | exact mem_at 7 rfl | exact mem_at 8 rfl | exact mem_at 9 rfl | exact mem_at 10 rfl | exact mem_at 11 rfl | exact mem_at 12 rfl | exact mem_at 13 rfl | exact mem_at 14 rfl | exact mem_at 15 rfl | exact mem_at 16 rfl | exact mem_at 17 rfl | exact mem_at 18 rfl | exact mem_at 19 rfl | exact mem_at 20 rfl | exact mem_at 21 rfl) ?_))) ex_nil))
      obtain ⟨pm, c', ctv, oc, vs', t, g1, _⟩ := id hl.at'
      rw [insAtP_map]
      refine ir_key ((I.into _).reb up) (by show 1 < C.fuel - 1; (first | lia | omega)) (key := textD) g1 rfl (fun C' hC d hd => ?_) (by first | decide | assumption | with_reducible exact Int.natCast_nonneg _ | with_reducible exact Nat.le_trans (by assumption) (by decide) | with_reducible exact Nat.lt_of_lt_of_le (by assumption) (by decide) | with_reducible exact lt_mil (Nat.lt_of_lt_of_le (by assumption) (by decide)) | with_reducible exact lt_mil (Nat.lt_of_le_of_lt (by assumption) (by decide)) | with_reducible exact Nat.le_trans (Nat.le_of_lt (by assumption)) (by decide) | (first | lia | omega)) (by rw [List.length_map]; exact List.countP_le_length) (gd_lt h3 hmem hp12 hsd)
      have hd : ∃ e, d = gD sz e := by
        rcases List.mem_cons.mp hd with rfl | hd
        · exact ⟨_, rfl⟩
        · obtain ⟨e, _, rfl⟩ := List.mem_map.mp hd; exact ⟨e, rfl⟩
      obtain ⟨e, rfl⟩ := hd
      exact lam_call (x := Str.ofString "one") (Δ := []) (fuel_reb hC (by show 2 < C.fuel - 1; (first | lia | omega))) (by rw [hC.g]; exact hl) (fun _ _ _ _ => rfl) rfl (fun y c e => by cases e) (fun y z c e => by cases e) (fun p hp => by cases hp)
        fun L c' => ev_item (ev_lst (ev_var (by first | exact mem_at 0 rfl | exact mem_at 1 rfl | exact mem_at 2 rfl | exact mem_at 3 rfl | exact mem_at 4 rfl | exact mem_at 5 rfl | exact mem_at 6 rfl | exact mem_at 7 rfl | exact mem_at 8 rfl | exact mem_at 9 rfl | exact mem_at 10 rfl | exact mem_at 11 rfl | exact mem_at 12 rfl | exact mem_at 13 rfl | exact mem_at 14 rfl | exact mem_at 15 rfl | exact mem_at 16 rfl | exact mem_at 17 rfl | exact mem_at 18 rfl | exact mem_at 19 rfl | exact mem_at 20 rfl | exact mem_at 21 rfl))) ev_int (getR_list (d := textD (gD sz e)) (by first | decide | assumption | with_reducible exact Int.natCast_nonneg _ | with_reducible exact Nat.le_trans (by assumption) (by decide) | with_reducible exact Nat.lt_of_lt_of_le (by assumption) (by decide) | with_reducible exact lt_mil (Nat.lt_of_lt_of_le (by assumption) (by decide)) | with_reducible exact lt_mil (Nat.lt_of_le_of_lt (by assumption) (by decide)) | with_reducible exact Nat.le_trans (Nat.le_of_lt (by assumption)) (by decide) | (first | lia | omega)) rfl (by first | decide | assumption | with_reducible exact Int.natCast_nonneg _ | with_reducible exact Nat.le_trans (by assumption) (by decide) | with_reducible exact Nat.lt_of_lt_of_le (by assumption) (by decide) | with_reducible exact lt_mil (Nat.lt_of_lt_of_le (by assumption) (by decide)) | with_reducible exact lt_mil (Nat.lt_of_le_of_lt (by assumption) (by decide)) | with_reducible exact Nat.le_trans (Nat.le_of_lt (by assumption)) (by decide) | (first | lia | omega)))
end
end Mine

namespace Mine
open PySem PySem.W PyProof.Rows PySem.Calls
set_option maxRecDepth 100000

def leQ (p : Nat) : PyData → Bool
  | .list (_ :: .int q :: _) => decide (q ≤ (p : Int))
  | _ => false
theorem leQ_g (p sz : Nat) (e : Gd1) : leQ p (gD sz e) = decide (e.2 ≤ p) := by
  show decide ((e.2 : Int) ≤ (p : Int)) = _
  simp
theorem filter_g (p sz : Nat) (R : List Gd1) : ((R.map (gD sz)).filter (leQ p)).map id = (R.filter fun e => decide (e.2 ≤ p)).map (gD sz) := by
  rw [List.map_id, List.filter_map]
  congr 1
  apply List.filter_congr
  intro e _
  exact leQ_g p sz e
theorem dec_parts {p : Nat} (hp : p < 12) : List.replicate (p / 10) 49 ++ [48 + p % 10] = dec p := by
  unfold dec
  by_cases h : 10 ≤ p
  · rw [if_pos h, show p / 10 = 1 by (first | lia | omega)]; rfl
  · rw [if_neg h, show p / 10 = 0 by (first | lia | omega)]; rfl

section
variable {P : Params} {C : Cx}
theorem sp_counted (I : Is1 P C) (hf : 0 < C.fuel) {ps : List Nat} (hp : ∀ p ∈ ps, p < 12) (hz : ps.length ≤ 20) {sz : Nat} (h3 : sz = 3 ∨ sz = 4) :
    CallOk C (.ref 154) [.dat (.list (ps.map pI)), .dat (.int (sz : Int))] [] [] (.dat (.list ((gUp ps ps.length).map (gD sz)))) :=
  callOk_of fun ok W s vs ks S hx hy => by
    obtain ⟨_, _, rfl, r1, r2⟩ := BAll.inv2 hx
    obtain rfl := BAll.inv0 hy
    refine enter ok (by first | decide | assumption | with_reducible exact Int.natCast_nonneg _ | with_reducible exact Nat.le_trans (by assumption) (by decide) | with_reducible exact Nat.lt_of_lt_of_le (by assumption) (by decide) | with_reducible exact lt_mil (Nat.lt_of_lt_of_le (by assumption) (by decide)) | with_reducible exact lt_mil (Nat.lt_of_le_of_lt (by assumption) (by decide)) | with_reducible exact Nat.le_trans (Nat.le_of_lt (by assumption)) (by decide) | (first | lia | omega)) S (I.lk (a := 154) rfl) (by rw [I.K]; rfl) (binds := [(Str.ofString "prices", _), (Str.ofString "size", _)]) (kp_binds (K := hd1.heap_39 P) (I.inn S) (fun _ => rfl))
      (.cons r1 (.cons r2 .nil)) (show [Str.ofString "prices", Str.ofString "size"].Nodup by decide) rfl fun L => ?_
    refine ex_cons (ex_assign (Γ' := [(Str.ofString "goods", .dat (.list ((gUp ps 0).map (gD sz)))), (Str.ofString "prices", .dat (.list (ps.map pI))), (Str.ofString "size", .dat (.int (sz : Int)))]) (ev_list evd_nil) (by first | exact Or.inl rfl | exact Or.inr ⟨rfl, rfl, rfl⟩) (by intro y ds e; first | (cases e; done) | (cases e; decide)) (Pk.g (by repeat (first | exact Pk.nil | refine Pk.here ?_ | refine Pk.cons (by first | exact mem_at 0 rfl | exact mem_at 1 rfl | exact mem_at 2 rfl | exact mem_at 3 rfl | exact mem_at 4 rfl | exact mem_at 5 rfl | exact mem_at 6 rfl | exact mem_at 7 rfl | exact mem_at 8 rfl | exact mem_at 9 rfl | exact mem_at 10 rfl | exact mem_at 11 rfl | exact mem_at 12 rfl | exact mem_at 13 rfl | exact mem_at 14 rfl | exact mem_at 15 rfl | exact mem_at 16 rfl | exact mem_at 17 rfl | exact mem_at 18 rfl | exact mem_at 19 rfl | exact mem_at 20 rfl | exact mem_at 21 rfl) rfl ?_)))) ?_
    refine ex_cons (Γ₁ := [(Str.ofString "goods", .dat (.list ((gUp ps ps.length).map (gD sz)))), (Str.ofString "prices", .dat (.list (ps.map pI))), (Str.ofString "size", .dat (.int (sz : Int)))]) (own₁ := none) ?_ (ex_one (ex_return (ev_var (by first | exact mem_at 0 rfl | exact mem_at 1 rfl | exact mem_at 2 rfl | exact mem_at 3 rfl | exact mem_at 4 rfl | exact mem_at 5 rfl | exact mem_at 6 rfl | exact mem_at 7 rfl | exact mem_at 8 rfl | exact mem_at 9 rfl | exact mem_at 10 rfl | exact mem_at 11 rfl | exact mem_at 12 rfl | exact mem_at 13 rfl | exact mem_at 14 rfl | exact mem_at 15 rfl | exact mem_at 16 rfl | exact mem_at 17 rfl | exact mem_at 18 rfl | exact mem_at 19 rfl | exact mem_at 20 rfl | exact mem_at 21 rfl))))
    refine ex_for (items := ps.map pI) (fun i => [(Str.ofString "goods", .dat (.list ((gUp ps i).map (gD sz)))), (Str.ofString "prices", .dat (.list (ps.map pI))), (Str.ofString "size", .dat (.int (sz : Int)))])
      (fun i => match ps[i]? with | some p => [(Str.ofString "price", .dat (.int (p : Int))), (Str.ofString "goods", .dat (.list ((gUp ps i).map (gD sz)))), (Str.ofString "prices", .dat (.list (ps.map pI))), (Str.ofString "size", .dat (.int (sz : Int)))] | none => []) (fun i => none) ps.length (evi_list (ev_var (by first | exact mem_at 0 rfl | exact mem_at 1 rfl | exact mem_at 2 rfl | exact mem_at 3 rfl | exact mem_at 4 rfl | exact mem_at 5 rfl | exact mem_at 6 rfl | exact mem_at 7 rfl | exact mem_at 8 rfl | exact mem_at 9 rfl | exact mem_at 10 rfl | exact mem_at 11 rfl | exact mem_at 12 rfl | exact mem_at 13 rfl | exact mem_at 14 rfl | exact mem_at 15 rfl | exact mem_at 16 rfl | exact mem_at 17 rfl | exact mem_at 18 rfl | exact mem_at 19 rfl | exact mem_at 20 rfl | exact mem_at 21 rfl))) ?_ ?_ (.inl ⟨by simp, rfl⟩)
    · intro i hi _
      rw [List.length_map] at hi
      rw [List.getElem?_eq_getElem hi, List.getElem_map]
      exact asg_name (by first | exact Or.inl rfl | exact Or.inr ⟨rfl, rfl, rfl⟩) (by intro y ds e; first | (cases e; done) | (cases e; decide)) (Pk.g (by repeat (first | exact Pk.nil | refine Pk.here ?_ | refine Pk.cons (by first | exact mem_at 0 rfl | exact mem_at 1 rfl | exact mem_at 2 rfl | exact mem_at 3 rfl | exact mem_at 4 rfl | exact mem_at 5 rfl | exact mem_at 6 rfl | exact mem_at 7 rfl | exact mem_at 8 rfl | exact mem_at 9 rfl | exact mem_at 10 rfl | exact mem_at 11 rfl | exact mem_at 12 rfl | exact mem_at 13 rfl | exact mem_at 14 rfl | exact mem_at 15 rfl | exact mem_at 16 rfl | exact mem_at 17 rfl | exact mem_at 18 rfl | exact mem_at 19 rfl | exact mem_at 20 rfl | exact mem_at 21 rfl) rfl ?_)))
    · intro i hi _
      rw [List.length_map] at hi
      obtain ⟨p, hpi⟩ : ∃ p, ps[i]? = some p := ⟨_, List.getElem?_eq_getElem hi⟩
      have hp12 := hp _ (List.mem_of_getElem? hpi)
      have hlen : (gUp ps i).length = i := gUp_len (by first | decide | assumption | with_reducible exact Int.natCast_nonneg _ | with_reducible exact Nat.le_trans (by assumption) (by decide) | with_reducible exact Nat.lt_of_lt_of_le (by assumption) (by decide) | with_reducible exact lt_mil (Nat.lt_of_lt_of_le (by assumption) (by decide)) | with_reducible exact lt_mil (Nat.lt_of_le_of_lt (by assumption) (by decide)) | with_reducible exact Nat.le_trans (Nat.le_of_lt (by assumption)) (by decide) | (first | lia | omega))
      simp only [hpi, gUp_succ hpi]
      generalize gUp ps i = R at hlen ⊢
      have hd1 := (@dec_len p).1
      have hd2 := (@dec_len p).2
      have hcl : R.countP (gQ (i, p)) ≤ i := hlen ▸ List.countP_le_length
      have hcn : ((R.filter fun e => decide (e.2 ≤ p)).map (gD sz)).length = R.countP (gQ (i, p)) := by rw [List.length_map, List.countP_eq_length_filter]; rfl
      generalize R.countP (gQ (i, p)) = n at hcl hcn ⊢
      refine ex_cons (ex_assign (Γ' := [(Str.ofString "place", .dat (.int (n : Int))), (Str.ofString "price", .dat (.int (p : Int))), (Str.ofString "goods", .dat (.list (R.map (gD sz)))), (Str.ofString "prices", .dat (.list (ps.map pI))), (Str.ofString "size", .dat (.int (sz : Int)))])
        (ev_eq (ev_call_bi (ev_builtin rfl ((I.into _).gl rfl) rfl) (evl_cons (ev_lst (ev_acomp [(Str.ofString "price", L + 1)] [(Str.ofString "price", .dat (.int (p : Int)))] (leQ p) id ((R.filter fun e => decide (e.2 ≤ p)).map (gD sz)) (evi_list (ev_var (b := .dat (.list (R.map (gD sz)))) (by first | exact mem_at 0 rfl | exact mem_at 1 rfl | exact mem_at 2 rfl | exact mem_at 3 rfl | exact mem_at 4 rfl | exact mem_at 5 rfl | exact mem_at 6 rfl | exact mem_at 7 rfl | exact mem_at 8 rfl | exact mem_at 9 rfl | exact mem_at 10 rfl | exact mem_at 11 rfl | exact mem_at 12 rfl | exact mem_at 13 rfl | exact mem_at 14 rfl | exact mem_at 15 rfl | exact mem_at 16 rfl | exact mem_at 17 rfl | exact mem_at 18 rfl | exact mem_at 19 rfl | exact mem_at 20 rfl | exact mem_at 21 rfl))) (by rw [List.length_map]; (first | lia | omega)) (filter_g p sz R) ?_ (by intro q hq; repeat (first | (rcases List.mem_cons.mp hq with rfl | hq; exact ⟨(by first | exact mem_at 0 rfl | exact mem_at 1 rfl | exact mem_at 2 rfl | exact mem_at 3 rfl | exact mem_at 4 rfl | exact mem_at 5 rfl | exact mem_at 6 rfl | exact mem_at 7 rfl | exact mem_at 8 rfl | exact mem_at 9 rfl | exact mem_at 10 rfl | exact mem_at 11 rfl | exact mem_at 12 rfl | exact mem_at 13 rfl | exact mem_at 14 rfl | exact mem_at 15 rfl | exact mem_at 16 rfl | exact mem_at 17 rfl | exact mem_at 18 rfl | exact mem_at 19 rfl | exact mem_at 20 rfl | exact mem_at 21 rfl), show (some NameKind.cell : Option NameKind) ≠ some .local by decide, by first | exact Or.inl rfl | exact Or.inr ⟨rfl, rfl⟩, rfl⟩) | cases hq)) rfl (lookup_sub (by intro p hp; repeat (first | (rcases List.mem_cons.mp hp with rfl | hp; exact rfl) | cases hp))))) evl_nil) (callOk_len_list (by rw [hcn]; (first | lia | omega)))) (by rw [hcn])) (by first | exact Or.inl rfl | exact Or.inr ⟨rfl, rfl, rfl⟩) (by intro y ds e; first | (cases e; done) | (cases e; decide)) (Pk.g (by repeat (first | exact Pk.nil | refine Pk.here ?_ | refine Pk.cons (by first | exact mem_at 0 rfl | exact mem_at 1 rfl | exact mem_at 2 rfl | exact mem_at 3 rfl | exact mem_at 4 rfl | exact mem_at 5 rfl | exact mem_at 6 rfl | exact mem_at 7 rfl | exact mem_at 8 rfl | exact mem_at 9 rfl | exact mem_at 10 rfl | exact mem_at 11 rfl | exact mem_at 12 rfl | exact mem_at 13 rfl | exact mem_at 14 rfl | exact mem_at 15 rfl | exact mem_at 16 rfl | exact mem_at 17 rfl | exact mem_at 18 rfl | exact mem_at 19 rfl | exact mem_at 20 rfl | exact mem_at 21 rfl) rfl ?_)))) ?_
      · intro L' d hd
        obtain ⟨e, he, rfl⟩ := List.mem_map.mp hd
        refine ⟨[(Str.ofString "one", .dat (gD sz e)), (Str.ofString "price", .dat (.int (p : Int)))], asg_name (by first | exact Or.inl rfl | exact Or.inr ⟨rfl, rfl, rfl⟩) (by intro y ds e; first | (cases e; done) | (cases e; decide)) (Pk.g (by repeat (first | exact Pk.nil | refine Pk.here ?_ | refine Pk.cons (by first | exact mem_at 0 rfl | exact mem_at 1 rfl | exact mem_at 2 rfl | exact mem_at 3 rfl | exact mem_at 4 rfl | exact mem_at 5 rfl | exact mem_at 6 rfl | exact mem_at 7 rfl | exact mem_at 8 rfl | exact mem_at 9 rfl | exact mem_at 10 rfl | exact mem_at 11 rfl | exact mem_at 12 rfl | exact mem_at 13 rfl | exact mem_at 14 rfl | exact mem_at 15 rfl | exact mem_at 16 rfl | exact mem_at 17 rfl | exact mem_at 18 rfl | exact mem_at 19 rfl | exact mem_at 20 rfl | exact mem_at 21 rfl) rfl ?_))), evts_one ?_, fun _ => ev_var (by first | exact mem_at 0 rfl | exact mem_at 1 rfl | exact mem_at 2 rfl | exact mem_at 3 rfl | exact mem_at 4 rfl | exact mem_at 5 rfl | exact mem_at 6 rfl | exact mem_at 7 rfl | exact mem_at 8 rfl | exact mem_at 9 rfl | exact mem_at 10 rfl | exact mem_at 11 rfl | exact mem_at 12 rfl | exact mem_at 13 rfl | exact mem_at 14 rfl | exact mem_at 15 rfl | exact mem_at 16 rfl | exact mem_at 17 rfl | exact mem_at 18 rfl | exact mem_at 19 rfl | exact mem_at 20 rfl | exact mem_at 21 rfl)⟩
        exact et_eq (et_cmp (ev_item (ev_lst (ev_var (b := .dat (gD sz e)) (by first | exact mem_at 0 rfl | exact mem_at 1 rfl | exact mem_at 2 rfl | exact mem_at 3 rfl | exact mem_at 4 rfl | exact mem_at 5 rfl | exact mem_at 6 rfl | exact mem_at 7 rfl | exact mem_at 8 rfl | exact mem_at 9 rfl | exact mem_at 10 rfl | exact mem_at 11 rfl | exact mem_at 12 rfl | exact mem_at 13 rfl | exact mem_at 14 rfl | exact mem_at 15 rfl | exact mem_at 16 rfl | exact mem_at 17 rfl | exact mem_at 18 rfl | exact mem_at 19 rfl | exact mem_at 20 rfl | exact mem_at 21 rfl))) ev_int (getR_list (d := .int (e.2 : Int)) (by first | decide | assumption | with_reducible exact Int.natCast_nonneg _ | with_reducible exact Nat.le_trans (by assumption) (by decide) | with_reducible exact Nat.lt_of_lt_of_le (by assumption) (by decide) | with_reducible exact lt_mil (Nat.lt_of_lt_of_le (by assumption) (by decide)) | with_reducible exact lt_mil (Nat.lt_of_le_of_lt (by assumption) (by decide)) | with_reducible exact Nat.le_trans (Nat.le_of_lt (by assumption)) (by decide) | (first | lia | omega)) rfl (by first | decide | assumption | with_reducible exact Int.natCast_nonneg _ | with_reducible exact Nat.le_trans (by assumption) (by decide) | with_reducible exact Nat.lt_of_lt_of_le (by assumption) (by decide) | with_reducible exact lt_mil (Nat.lt_of_lt_of_le (by assumption) (by decide)) | with_reducible exact lt_mil (Nat.lt_of_le_of_lt (by assumption) (by decide)) | with_reducible exact Nat.le_trans (Nat.le_of_lt (by assumption)) (by decide) | (first | lia | omega)))) (ev_var (by first | exact mem_at 0 rfl | exact mem_at 1 rfl | exact mem_at 2 rfl | exact mem_at 3 rfl | exact mem_at 4 rfl | exact mem_at 5 rfl | exact mem_at 6 rfl | exact mem_at 7 rfl | exact mem_at 8 rfl | exact mem_at 9 rfl | exact mem_at 10 rfl | exact mem_at 11 rfl | exact mem_at 12 rfl | exact mem_at 13 rfl | exact mem_at 14 rfl | exact mem_at 15 rfl | exact mem_at 16 rfl | exact mem_at 17 rfl | exact mem_at 18 rfl | exact mem_at 19 rfl | exact mem_at 20 rfl | exact mem_at 21 rfl)) cmpR_le_int) rfl
      refine ex_cons (ex_assign (Γ' := [(Str.ofString "figures", .dat (.str (st (dec p)))), (Str.ofString "place", .dat (.int (n : Int))), (Str.ofString "price", .dat (.int (p : Int))), (Str.ofString "goods", .dat (.list (R.map (gD sz)))), (Str.ofString "prices", .dat (.list (ps.map pI))), (Str.ofString "size", .dat (.int (sz : Int)))])
        (ev_eq (ev_bin (ev_bin (ev_strL (l := [49]) rfl) (ev_bin (ev_var (by first | exact mem_at 0 rfl | exact mem_at 1 rfl | exact mem_at 2 rfl | exact mem_at 3 rfl | exact mem_at 4 rfl | exact mem_at 5 rfl | exact mem_at 6 rfl | exact mem_at 7 rfl | exact mem_at 8 rfl | exact mem_at 9 rfl | exact mem_at 10 rfl | exact mem_at 11 rfl | exact mem_at 12 rfl | exact mem_at 13 rfl | exact mem_at 14 rfl | exact mem_at 15 rfl | exact mem_at 16 rfl | exact mem_at 17 rfl | exact mem_at 18 rfl | exact mem_at 19 rfl | exact mem_at 20 rfl | exact mem_at 21 rfl)) ev_int (binR_divN (a := p) (c := p / 10) (k := 10) rfl rfl (by first | decide | assumption | with_reducible exact Int.natCast_nonneg _ | with_reducible exact Nat.le_trans (by assumption) (by decide) | with_reducible exact Nat.lt_of_lt_of_le (by assumption) (by decide) | with_reducible exact lt_mil (Nat.lt_of_lt_of_le (by assumption) (by decide)) | with_reducible exact lt_mil (Nat.lt_of_le_of_lt (by assumption) (by decide)) | with_reducible exact Nat.le_trans (Nat.le_of_lt (by assumption)) (by decide) | (first | lia | omega)) (by first | decide | assumption | with_reducible exact Int.natCast_nonneg _ | with_reducible exact Nat.le_trans (by assumption) (by decide) | with_reducible exact Nat.lt_of_lt_of_le (by assumption) (by decide) | with_reducible exact lt_mil (Nat.lt_of_lt_of_le (by assumption) (by decide)) | with_reducible exact lt_mil (Nat.lt_of_le_of_lt (by assumption) (by decide)) | with_reducible exact Nat.le_trans (Nat.le_of_lt (by assumption)) (by decide) | (first | lia | omega)))) (binR_mul_str (by first | decide | assumption | with_reducible exact Int.natCast_nonneg _ | with_reducible exact Nat.le_trans (by assumption) (by decide) | with_reducible exact Nat.lt_of_lt_of_le (by assumption) (by decide) | with_reducible exact lt_mil (Nat.lt_of_lt_of_le (by assumption) (by decide)) | with_reducible exact lt_mil (Nat.lt_of_le_of_lt (by assumption) (by decide)) | with_reducible exact Nat.le_trans (Nat.le_of_lt (by assumption)) (by decide) | (first | lia | omega)) (by first | decide | assumption | with_reducible exact Int.natCast_nonneg _ | with_reducible exact Nat.le_trans (by assumption) (by decide) | with_reducible exact Nat.lt_of_lt_of_le (by assumption) (by decide) | with_reducible exact lt_mil (Nat.lt_of_lt_of_le (by assumption) (by decide)) | with_reducible exact lt_mil (Nat.lt_of_le_of_lt (by assumption) (by decide)) | with_reducible exact Nat.le_trans (Nat.le_of_lt (by assumption)) (by decide) | (first | lia | omega)) (by simp)))
          (ev_item (ev_strL (l := [48, 49, 50, 51, 52, 53, 54, 55, 56, 57]) rfl) (ev_bin (ev_var (by first | exact mem_at 0 rfl | exact mem_at 1 rfl | exact mem_at 2 rfl | exact mem_at 3 rfl | exact mem_at 4 rfl | exact mem_at 5 rfl | exact mem_at 6 rfl | exact mem_at 7 rfl | exact mem_at 8 rfl | exact mem_at 9 rfl | exact mem_at 10 rfl | exact mem_at 11 rfl | exact mem_at 12 rfl | exact mem_at 13 rfl | exact mem_at 14 rfl | exact mem_at 15 rfl | exact mem_at 16 rfl | exact mem_at 17 rfl | exact mem_at 18 rfl | exact mem_at 19 rfl | exact mem_at 20 rfl | exact mem_at 21 rfl)) ev_int (binR_modN (a := p) (c := p % 10) (k := 10) rfl rfl (by first | decide | assumption | with_reducible exact Int.natCast_nonneg _ | with_reducible exact Nat.le_trans (by assumption) (by decide) | with_reducible exact Nat.lt_of_lt_of_le (by assumption) (by decide) | with_reducible exact lt_mil (Nat.lt_of_lt_of_le (by assumption) (by decide)) | with_reducible exact lt_mil (Nat.lt_of_le_of_lt (by assumption) (by decide)) | with_reducible exact Nat.le_trans (Nat.le_of_lt (by assumption)) (by decide) | (first | lia | omega)))) (getR_str (c := 48 + p % 10) (by first | decide | assumption | with_reducible exact Int.natCast_nonneg _ | with_reducible exact Nat.le_trans (by assumption) (by decide) | with_reducible exact Nat.lt_of_lt_of_le (by assumption) (by decide) | with_reducible exact lt_mil (Nat.lt_of_lt_of_le (by assumption) (by decide)) | with_reducible exact lt_mil (Nat.lt_of_le_of_lt (by assumption) (by decide)) | with_reducible exact Nat.le_trans (Nat.le_of_lt (by assumption)) (by decide) | (first | lia | omega)) ?_ (by first | decide | assumption | with_reducible exact Int.natCast_nonneg _ | with_reducible exact Nat.le_trans (by assumption) (by decide) | with_reducible exact Nat.lt_of_lt_of_le (by assumption) (by decide) | with_reducible exact lt_mil (Nat.lt_of_lt_of_le (by assumption) (by decide)) | with_reducible exact lt_mil (Nat.lt_of_le_of_lt (by assumption) (by decide)) | with_reducible exact Nat.le_trans (Nat.le_of_lt (by assumption)) (by decide) | (first | lia | omega)))) (binR_add_str (by rw [flatten_rep]; simp; (first | lia | omega)))) (by rw [flatten_rep, Int.toNat_natCast, dec_parts hp12])) (by first | exact Or.inl rfl | exact Or.inr ⟨rfl, rfl, rfl⟩) (by intro y ds e; first | (cases e; done) | (cases e; decide)) (Pk.g (by repeat (first | exact Pk.nil | refine Pk.here ?_ | refine Pk.cons (by first | exact mem_at 0 rfl | exact mem_at 1 rfl | exact mem_at 2 rfl | exact mem_at 3 rfl | exact mem_at 4 rfl | exact mem_at 5 rfl | exact mem_at 6 rfl | exact mem_at 7 rfl | exact mem_at 8 rfl | exact mem_at 9 rfl | exact mem_at 10 rfl | exact mem_at 11 rfl | exact mem_at 12 rfl | exact mem_at 13 rfl | exact mem_at 14 rfl | exact mem_at 15 rfl | exact mem_at 16 rfl | exact mem_at 17 rfl | exact mem_at 18 rfl | exact mem_at 19 rfl | exact mem_at 20 rfl | exact mem_at 21 rfl) rfl ?_)))) ?_
      · rw [Int.toNat_natCast]
        have h10 : p % 10 < 10 := Nat.mod_lt _ (by first | decide | assumption | with_reducible exact Int.natCast_nonneg _ | with_reducible exact Nat.le_trans (by assumption) (by decide) | with_reducible exact Nat.lt_of_lt_of_le (by assumption) (by decide) | with_reducible exact lt_mil (Nat.lt_of_lt_of_le (by assumption) (by decide)) | with_reducible exact lt_mil (Nat.lt_of_le_of_lt (by assumption) (by decide)) | with_reducible exact Nat.le_trans (Nat.le_of_lt (by assumption)) (by decide) | (first | lia | omega))
        generalize p % 10 = r at h10
        have : r = 0 ∨ r = 1 ∨ r = 2 ∨ r = 3 ∨ r = 4 ∨ r = 5 ∨ r = 6 ∨ r = 7 ∨ r = 8 ∨ r = 9 := by (first | lia | omega)
        rcases this with rfl | rfl | rfl | rfl | rfl | rfl | rfl | rfl | rfl | rfl <;> rfl
      refine ex_cons (ex_assign (Γ' := [(Str.ofString "rest", .dat (.int ((sz : Int) - (dec p).length))), (Str.ofString "figures", .dat (.str (st (dec p)))), (Str.ofString "place", .dat (.int (n : Int))), (Str.ofString "price", .dat (.int (p : Int))), (Str.ofString "goods", .dat (.list (R.map (gD sz)))), (Str.ofString "prices", .dat (.list (ps.map pI))), (Str.ofString "size", .dat (.int (sz : Int)))])
        (ev_bin (ev_var (by first | exact mem_at 0 rfl | exact mem_at 1 rfl | exact mem_at 2 rfl | exact mem_at 3 rfl | exact mem_at 4 rfl | exact mem_at 5 rfl | exact mem_at 6 rfl | exact mem_at 7 rfl | exact mem_at 8 rfl | exact mem_at 9 rfl | exact mem_at 10 rfl | exact mem_at 11 rfl | exact mem_at 12 rfl | exact mem_at 13 rfl | exact mem_at 14 rfl | exact mem_at 15 rfl | exact mem_at 16 rfl | exact mem_at 17 rfl | exact mem_at 18 rfl | exact mem_at 19 rfl | exact mem_at 20 rfl | exact mem_at 21 rfl)) (ev_call_bi (ev_builtin rfl ((I.into _).gl rfl) rfl) (evl_cons (ev_var (b := .dat (.str (st (dec p)))) (by first | exact mem_at 0 rfl | exact mem_at 1 rfl | exact mem_at 2 rfl | exact mem_at 3 rfl | exact mem_at 4 rfl | exact mem_at 5 rfl | exact mem_at 6 rfl | exact mem_at 7 rfl | exact mem_at 8 rfl | exact mem_at 9 rfl | exact mem_at 10 rfl | exact mem_at 11 rfl | exact mem_at 12 rfl | exact mem_at 13 rfl | exact mem_at 14 rfl | exact mem_at 15 rfl | exact mem_at 16 rfl | exact mem_at 17 rfl | exact mem_at 18 rfl | exact mem_at 19 rfl | exact mem_at 20 rfl | exact mem_at 21 rfl)) evl_nil) (callOk_len_str (by first | decide | assumption | with_reducible exact Int.natCast_nonneg _ | with_reducible exact Nat.le_trans (by assumption) (by decide) | with_reducible exact Nat.lt_of_lt_of_le (by assumption) (by decide) | with_reducible exact lt_mil (Nat.lt_of_lt_of_le (by assumption) (by decide)) | with_reducible exact lt_mil (Nat.lt_of_le_of_lt (by assumption) (by decide)) | with_reducible exact Nat.le_trans (Nat.le_of_lt (by assumption)) (by decide) | (first | lia | omega)))) binR_sub_int) (by first | exact Or.inl rfl | exact Or.inr ⟨rfl, rfl, rfl⟩) (by intro y ds e; first | (cases e; done) | (cases e; decide)) (Pk.g (by repeat (first | exact Pk.nil | refine Pk.here ?_ | refine Pk.cons (by first | exact mem_at 0 rfl | exact mem_at 1 rfl | exact mem_at 2 rfl | exact mem_at 3 rfl | exact mem_at 4 rfl | exact mem_at 5 rfl | exact mem_at 6 rfl | exact mem_at 7 rfl | exact mem_at 8 rfl | exact mem_at 9 rfl | exact mem_at 10 rfl | exact mem_at 11 rfl | exact mem_at 12 rfl | exact mem_at 13 rfl | exact mem_at 14 rfl | exact mem_at 15 rfl | exact mem_at 16 rfl | exact mem_at 17 rfl | exact mem_at 18 rfl | exact mem_at 19 rfl | exact mem_at 20 rfl | exact mem_at 21 rfl) rfl ?_)))) ?_
      refine ex_cons (ex_assign (Γ' := [(Str.ofString "good", .dat (gD sz (i, p))), (Str.ofString "place", .dat (.int (n : Int))), (Str.ofString "goods", .dat (.list (R.map (gD sz)))), (Str.ofString "prices", .dat (.list (ps.map pI))), (Str.ofString "size", .dat (.int (sz : Int)))])
        (ev_list (ds := [.int (i : Int), .int (p : Int), .str (st (rj (sz - 2) (dec p))), .str (st (zf sz (dec p)))]) (evd_cons (ev_eq (ev_call_bi (ev_builtin rfl ((I.into _).gl rfl) rfl) (evl_cons (ev_lst (ev_var (b := .dat (.list (R.map (gD sz)))) (by first | exact mem_at 0 rfl | exact mem_at 1 rfl | exact mem_at 2 rfl | exact mem_at 3 rfl | exact mem_at 4 rfl | exact mem_at 5 rfl | exact mem_at 6 rfl | exact mem_at 7 rfl | exact mem_at 8 rfl | exact mem_at 9 rfl | exact mem_at 10 rfl | exact mem_at 11 rfl | exact mem_at 12 rfl | exact mem_at 13 rfl | exact mem_at 14 rfl | exact mem_at 15 rfl | exact mem_at 16 rfl | exact mem_at 17 rfl | exact mem_at 18 rfl | exact mem_at 19 rfl | exact mem_at 20 rfl | exact mem_at 21 rfl))) evl_nil) (callOk_len_list (by rw [List.length_map]; (first | lia | omega)))) (by rw [List.length_map, hlen])) (evd_cons (ev_var (by first | exact mem_at 0 rfl | exact mem_at 1 rfl | exact mem_at 2 rfl | exact mem_at 3 rfl | exact mem_at 4 rfl | exact mem_at 5 rfl | exact mem_at 6 rfl | exact mem_at 7 rfl | exact mem_at 8 rfl | exact mem_at 9 rfl | exact mem_at 10 rfl | exact mem_at 11 rfl | exact mem_at 12 rfl | exact mem_at 13 rfl | exact mem_at 14 rfl | exact mem_at 15 rfl | exact mem_at 16 rfl | exact mem_at 17 rfl | exact mem_at 18 rfl | exact mem_at 19 rfl | exact mem_at 20 rfl | exact mem_at 21 rfl))
          (evd_cons (ev_eq (ev_bin (ev_bin (ev_strL (l := [32]) rfl) (ev_bin (ev_var (by first | exact mem_at 0 rfl | exact mem_at 1 rfl | exact mem_at 2 rfl | exact mem_at 3 rfl | exact mem_at 4 rfl | exact mem_at 5 rfl | exact mem_at 6 rfl | exact mem_at 7 rfl | exact mem_at 8 rfl | exact mem_at 9 rfl | exact mem_at 10 rfl | exact mem_at 11 rfl | exact mem_at 12 rfl | exact mem_at 13 rfl | exact mem_at 14 rfl | exact mem_at 15 rfl | exact mem_at 16 rfl | exact mem_at 17 rfl | exact mem_at 18 rfl | exact mem_at 19 rfl | exact mem_at 20 rfl | exact mem_at 21 rfl)) ev_int binR_sub_int) (binR_mul_str (by first | decide | assumption | with_reducible exact Int.natCast_nonneg _ | with_reducible exact Nat.le_trans (by assumption) (by decide) | with_reducible exact Nat.lt_of_lt_of_le (by assumption) (by decide) | with_reducible exact lt_mil (Nat.lt_of_lt_of_le (by assumption) (by decide)) | with_reducible exact lt_mil (Nat.lt_of_le_of_lt (by assumption) (by decide)) | with_reducible exact Nat.le_trans (Nat.le_of_lt (by assumption)) (by decide) | (first | lia | omega)) (by first | decide | assumption | with_reducible exact Int.natCast_nonneg _ | with_reducible exact Nat.le_trans (by assumption) (by decide) | with_reducible exact Nat.lt_of_lt_of_le (by assumption) (by decide) | with_reducible exact lt_mil (Nat.lt_of_lt_of_le (by assumption) (by decide)) | with_reducible exact lt_mil (Nat.lt_of_le_of_lt (by assumption) (by decide)) | with_reducible exact Nat.le_trans (Nat.le_of_lt (by assumption)) (by decide) | (first | lia | omega)) (by simp))) (ev_var (b := .dat (.str (st (dec p)))) (by first | exact mem_at 0 rfl | exact mem_at 1 rfl | exact mem_at 2 rfl | exact mem_at 3 rfl | exact mem_at 4 rfl | exact mem_at 5 rfl | exact mem_at 6 rfl | exact mem_at 7 rfl | exact mem_at 8 rfl | exact mem_at 9 rfl | exact mem_at 10 rfl | exact mem_at 11 rfl | exact mem_at 12 rfl | exact mem_at 13 rfl | exact mem_at 14 rfl | exact mem_at 15 rfl | exact mem_at 16 rfl | exact mem_at 17 rfl | exact mem_at 18 rfl | exact mem_at 19 rfl | exact mem_at 20 rfl | exact mem_at 21 rfl)) (binR_add_str (by rw [flatten_rep, List.length_replicate]; (first | lia | omega)))) (by rw [flatten_rep, show ((sz : Int) - ((dec p).length : Int) - 2).toNat = sz - 2 - (dec p).length by (first | lia | omega)]; rfl))
          (evd_cons (ev_eq (ev_bin (ev_bin (ev_strL (l := [48]) rfl) (ev_var (by first | exact mem_at 0 rfl | exact mem_at 1 rfl | exact mem_at 2 rfl | exact mem_at 3 rfl | exact mem_at 4 rfl | exact mem_at 5 rfl | exact mem_at 6 rfl | exact mem_at 7 rfl | exact mem_at 8 rfl | exact mem_at 9 rfl | exact mem_at 10 rfl | exact mem_at 11 rfl | exact mem_at 12 rfl | exact mem_at 13 rfl | exact mem_at 14 rfl | exact mem_at 15 rfl | exact mem_at 16 rfl | exact mem_at 17 rfl | exact mem_at 18 rfl | exact mem_at 19 rfl | exact mem_at 20 rfl | exact mem_at 21 rfl)) (binR_mul_str (by first | decide | assumption | with_reducible exact Int.natCast_nonneg _ | with_reducible exact Nat.le_trans (by assumption) (by decide) | with_reducible exact Nat.lt_of_lt_of_le (by assumption) (by decide) | with_reducible exact lt_mil (Nat.lt_of_lt_of_le (by assumption) (by decide)) | with_reducible exact lt_mil (Nat.lt_of_le_of_lt (by assumption) (by decide)) | with_reducible exact Nat.le_trans (Nat.le_of_lt (by assumption)) (by decide) | (first | lia | omega)) (by first | decide | assumption | with_reducible exact Int.natCast_nonneg _ | with_reducible exact Nat.le_trans (by assumption) (by decide) | with_reducible exact Nat.lt_of_lt_of_le (by assumption) (by decide) | with_reducible exact lt_mil (Nat.lt_of_lt_of_le (by assumption) (by decide)) | with_reducible exact lt_mil (Nat.lt_of_le_of_lt (by assumption) (by decide)) | with_reducible exact Nat.le_trans (Nat.le_of_lt (by assumption)) (by decide) | (first | lia | omega)) (by simp))) (ev_var (b := .dat (.str (st (dec p)))) (by first | exact mem_at 0 rfl | exact mem_at 1 rfl | exact mem_at 2 rfl | exact mem_at 3 rfl | exact mem_at 4 rfl | exact mem_at 5 rfl | exact mem_at 6 rfl | exact mem_at 7 rfl | exact mem_at 8 rfl | exact mem_at 9 rfl | exact mem_at 10 rfl | exact mem_at 11 rfl | exact mem_at 12 rfl | exact mem_at 13 rfl | exact mem_at 14 rfl | exact mem_at 15 rfl | exact mem_at 16 rfl | exact mem_at 17 rfl | exact mem_at 18 rfl | exact mem_at 19 rfl | exact mem_at 20 rfl | exact mem_at 21 rfl)) (binR_add_str (by rw [flatten_rep, List.length_replicate]; (first | lia | omega)))) (by rw [flatten_rep, show ((sz : Int) - ((dec p).length : Int)).toNat = sz - (dec p).length by (first | lia | omega)]; rfl)) evd_nil))))) (by first | exact Or.inl rfl | exact Or.inr ⟨rfl, rfl, rfl⟩) (by intro y ds e; first | (cases e; done) | (cases e; decide)) (Pk.g (by repeat (first | exact Pk.nil | refine Pk.here ?_ | refine Pk.cons (by first | exact mem_at 0 rfl | exact mem_at 1 rfl | exact mem_at 2 rfl | exact mem_at 3 rfl | exact mem_at 4 rfl | exact mem_at 5 rfl | exact mem_at 6 rfl | exact mem_at 7 rfl | exact mem_at 8 rfl | exact mem_at 9 rfl | exact mem_at 10 rfl | exact mem_at 11 rfl | exact mem_at 12 rfl | exact mem_at 13 rfl | exact mem_at 14 rfl | exact mem_at 15 rfl | exact mem_at 16 rfl | exact mem_at 17 rfl | exact mem_at 18 rfl | exact mem_at 19 rfl | exact mem_at 20 rfl | exact mem_at 21 rfl) rfl ?_)))) ?_
      refine ex_one (ex_assign (ev_eq (b := .dat (.list ((insAtP R n (i, p)).map (gD sz)))) (ev_bin (ev_lst (ev_bin (ev_lst (ev_slice (ev_lst (ev_var (b := .dat (.list (R.map (gD sz)))) (by first | exact mem_at 0 rfl | exact mem_at 1 rfl | exact mem_at 2 rfl | exact mem_at 3 rfl | exact mem_at 4 rfl | exact mem_at 5 rfl | exact mem_at 6 rfl | exact mem_at 7 rfl | exact mem_at 8 rfl | exact mem_at 9 rfl | exact mem_at 10 rfl | exact mem_at 11 rfl | exact mem_at 12 rfl | exact mem_at 13 rfl | exact mem_at 14 rfl | exact mem_at 15 rfl | exact mem_at 16 rfl | exact mem_at 17 rfl | exact mem_at 18 rfl | exact mem_at 19 rfl | exact mem_at 20 rfl | exact mem_at 21 rfl))) evp_none (evp_some (ev_var (b := .dat (.int (n : Int))) (by first | exact mem_at 0 rfl | exact mem_at 1 rfl | exact mem_at 2 rfl | exact mem_at 3 rfl | exact mem_at 4 rfl | exact mem_at 5 rfl | exact mem_at 6 rfl | exact mem_at 7 rfl | exact mem_at 8 rfl | exact mem_at 9 rfl | exact mem_at 10 rfl | exact mem_at 11 rfl | exact mem_at 12 rfl | exact mem_at 13 rfl | exact mem_at 14 rfl | exact mem_at 15 rfl | exact mem_at 16 rfl | exact mem_at 17 rfl | exact mem_at 18 rfl | exact mem_at 19 rfl | exact mem_at 20 rfl | exact mem_at 21 rfl))) evp_none (sliceR_list (by rw [List.length_map]; (first | lia | omega))))) (ev_lst (ev_list (ds := [gD sz (i, p)]) (evd_cons (ev_var (by first | exact mem_at 0 rfl | exact mem_at 1 rfl | exact mem_at 2 rfl | exact mem_at 3 rfl | exact mem_at 4 rfl | exact mem_at 5 rfl | exact mem_at 6 rfl | exact mem_at 7 rfl | exact mem_at 8 rfl | exact mem_at 9 rfl | exact mem_at 10 rfl | exact mem_at 11 rfl | exact mem_at 12 rfl | exact mem_at 13 rfl | exact mem_at 14 rfl | exact mem_at 15 rfl | exact mem_at 16 rfl | exact mem_at 17 rfl | exact mem_at 18 rfl | exact mem_at 19 rfl | exact mem_at 20 rfl | exact mem_at 21 rfl)) evd_nil))) (binR_add_list ?_)))
        (ev_lst (ev_slice (ev_lst (ev_var (b := .dat (.list (R.map (gD sz)))) (by first | exact mem_at 0 rfl | exact mem_at 1 rfl | exact mem_at 2 rfl | exact mem_at 3 rfl | exact mem_at 4 rfl | exact mem_at 5 rfl | exact mem_at 6 rfl | exact mem_at 7 rfl | exact mem_at 8 rfl | exact mem_at 9 rfl | exact mem_at 10 rfl | exact mem_at 11 rfl | exact mem_at 12 rfl | exact mem_at 13 rfl | exact mem_at 14 rfl | exact mem_at 15 rfl | exact mem_at 16 rfl | exact mem_at 17 rfl | exact mem_at 18 rfl | exact mem_at 19 rfl | exact mem_at 20 rfl | exact mem_at 21 rfl))) (evp_some (ev_var (b := .dat (.int (n : Int))) (by first | exact mem_at 0 rfl | exact mem_at 1 rfl | exact mem_at 2 rfl | exact mem_at 3 rfl | exact mem_at 4 rfl | exact mem_at 5 rfl | exact mem_at 6 rfl | exact mem_at 7 rfl | exact mem_at 8 rfl | exact mem_at 9 rfl | exact mem_at 10 rfl | exact mem_at 11 rfl | exact mem_at 12 rfl | exact mem_at 13 rfl | exact mem_at 14 rfl | exact mem_at 15 rfl | exact mem_at 16 rfl | exact mem_at 17 rfl | exact mem_at 18 rfl | exact mem_at 19 rfl | exact mem_at 20 rfl | exact mem_at 21 rfl))) evp_none evp_none (sliceR_list (by rw [List.length_map]; (first | lia | omega))))) (binR_add_list ?_)) ?_) (by first | exact Or.inl rfl | exact Or.inr ⟨rfl, rfl, rfl⟩) (by intro y ds e; first | (cases e; done) | (cases e; decide)) (Pk.g (by repeat (first | exact Pk.nil | refine Pk.here ?_ | refine Pk.cons (by first | exact mem_at 0 rfl | exact mem_at 1 rfl | exact mem_at 2 rfl | exact mem_at 3 rfl | exact mem_at 4 rfl | exact mem_at 5 rfl | exact mem_at 6 rfl | exact mem_at 7 rfl | exact mem_at 8 rfl | exact mem_at 9 rfl | exact mem_at 10 rfl | exact mem_at 11 rfl | exact mem_at 12 rfl | exact mem_at 13 rfl | exact mem_at 14 rfl | exact mem_at 15 rfl | exact mem_at 16 rfl | exact mem_at 17 rfl | exact mem_at 18 rfl | exact mem_at 19 rfl | exact mem_at 20 rfl | exact mem_at 21 rfl) rfl ?_))))
      · rw [pySl_upto _ (by first | decide | assumption | with_reducible exact Int.natCast_nonneg _ | with_reducible exact Nat.le_trans (by assumption) (by decide) | with_reducible exact Nat.lt_of_lt_of_le (by assumption) (by decide) | with_reducible exact lt_mil (Nat.lt_of_lt_of_le (by assumption) (by decide)) | with_reducible exact lt_mil (Nat.lt_of_le_of_lt (by assumption) (by decide)) | with_reducible exact Nat.le_trans (Nat.le_of_lt (by assumption)) (by decide) | (first | lia | omega))]; simp; (first | lia | omega)
      · rw [pySl_upto _ (by first | decide | assumption | with_reducible exact Int.natCast_nonneg _ | with_reducible exact Nat.le_trans (by assumption) (by decide) | with_reducible exact Nat.lt_of_lt_of_le (by assumption) (by decide) | with_reducible exact lt_mil (Nat.lt_of_lt_of_le (by assumption) (by decide)) | with_reducible exact lt_mil (Nat.lt_of_le_of_lt (by assumption) (by decide)) | with_reducible exact Nat.le_trans (Nat.le_of_lt (by assumption)) (by decide) | (first | lia | omega)), pySl_from _ (by first | decide | assumption | with_reducible exact Int.natCast_nonneg _ | with_reducible exact Nat.le_trans (by assumption) (by decide) | with_reducible exact Nat.lt_of_lt_of_le (by assumption) (by decide) | with_reducible exact lt_mil (Nat.lt_of_lt_of_le (by assumption) (by decide)) | with_reducible exact lt_mil (Nat.lt_of_le_of_lt (by assumption) (by decide)) | with_reducible exact Nat.le_trans (Nat.le_of_lt (by assumption)) (by decide) | (first | lia | omega))]; simp; (first | lia | omega)
      · rw [pySl_upto _ (by first | decide | assumption | with_reducible exact Int.natCast_nonneg _ | with_reducible exact Nat.le_trans (by assumption) (by decide) | with_reducible exact Nat.lt_of_lt_of_le (by assumption) (by decide) | with_reducible exact lt_mil (Nat.lt_of_lt_of_le (by assumption) (by decide)) | with_reducible exact lt_mil (Nat.lt_of_le_of_lt (by assumption) (by decide)) | with_reducible exact Nat.le_trans (Nat.le_of_lt (by assumption)) (by decide) | (first | lia | omega)), pySl_from _ (by first | decide | assumption | with_reducible exact Int.natCast_nonneg _ | with_reducible exact Nat.le_trans (by assumption) (by decide) | with_reducible exact Nat.lt_of_lt_of_le (by assumption) (by decide) | with_reducible exact lt_mil (Nat.lt_of_lt_of_le (by assumption) (by decide)) | with_reducible exact lt_mil (Nat.lt_of_le_of_lt (by assumption) (by decide)) | with_reducible exact Nat.le_trans (Nat.le_of_lt (by assumption)) (by decide) | (first | lia | omega)), insAtP_map, Int.toNat_natCast, List.append_assoc]; rfl
end
end Mine

namespace Mine
open PySem PySem.W PyProof.Rows PySem.Calls
set_option maxRecDepth 100000

def sD (l : List Nat) : PyData := .str (st l)
def moreD (k p : Nat) : PyData → PyData
  | .list [.str x, .int c] => .list [.str (st (x.cps.toList ++ [48 + k])), .int (c + (p : Int))]
  | _ => .none
theorem moreD_b (k p : Nat) (e : Bk) : moreD k p (bD e) = bD (e.1 ++ [48 + k], e.2 + p) := by simp [moreD, bD, st]
def okD (room purse : Nat) : PyData → Bool
  | .list [.str x, .int c] => decide ((x.length : Int) ≤ (room : Int)) && (decide (c ≤ (purse : Int)) && true)
  | _ => false
theorem okD_b (room purse : Nat) (e : Bk) : okD room purse (bD e) = (decide (e.1.length ≤ room) && decide (e.2 ≤ purse)) := by
  show (decide (((st e.1).length : Int) ≤ (room : Int)) && (decide ((e.2 : Int) ≤ (purse : Int)) && true)) = _
  rw [st_len]; simp
def headD1 : PyData → PyData
  | .list (t :: _) => t
  | _ => .none
def preD (k : Nat) : PyData → PyData
  | .str x => .str (st ((48 + k) :: x.cps.toList))
  | _ => .none
def notD (b : List Nat) : PyData → Bool
  | .str x => !(Txt.contains (st b) x)
  | _ => false
def sgD (c : Nat) : PyData := .str (st [c])
theorem contains_one (b : List Nat) (c : Nat) : Txt.contains (st b) (st [c]) = decide (c ∈ b) := PySem.StrLaws.found_one (st b) c
theorem filter_not (a b : List Nat) : ((a.map sgD).filter (notD b)).map id = (a.filter fun c => decide (c ∉ b)).map sgD := by
  rw [List.map_id, List.filter_map]
  congr 1
  apply List.filter_congr
  intro c _
  show (!(Txt.contains (st b) (st [c]))) = _
  rw [contains_one]; simp

section
variable {P : Params} {C : Cx}
theorem sp_baskets (I : Is1 P C) (hf : 0 < C.fuel) {R : List Gd1} (hz : R.length ≤ 5) {sz room purse : Nat} :
    CallOk C (.ref 159) [.dat (.list (R.map (gD sz))), .dat (.int (purse : Int)), .dat (.int (room : Int))] [] [] (.dat (.list ((bUp room purse (R.map (·.2)) R.length).map fun e => sD e.1))) :=
  callOk_of fun ok W s vs ks S hx hy => by
    obtain ⟨_, _, _, rfl, r1, r2, r3⟩ := BAll.inv3 hx
    obtain rfl := BAll.inv0 hy
    refine enter ok (by first | decide | assumption | with_reducible exact Int.natCast_nonneg _ | with_reducible exact Nat.le_trans (by assumption) (by decide) | with_reducible exact Nat.lt_of_lt_of_le (by assumption) (by decide) | with_reducible exact lt_mil (Nat.lt_of_lt_of_le (by assumption) (by decide)) | with_reducible exact lt_mil (Nat.lt_of_le_of_lt (by assumption) (by decide)) | with_reducible exact Nat.le_trans (Nat.le_of_lt (by assumption)) (by decide) | (first | lia | omega)) S (I.lk (a := 159) rfl) (by rw [I.K]; rfl) (binds := [(Str.ofString "goods", _), (Str.ofString "purse", _), (Str.ofString "room", _)]) (kp_binds (K := hd1.heap_39 P) (I.inn S) (fun _ => rfl))
      (.cons r1 (.cons r2 (.cons r3 .nil))) (show [Str.ofString "goods", Str.ofString "purse", Str.ofString "room"].Nodup by decide) rfl fun L => ?_
    have h32 : ∀ k, k ≤ 5 → (bUp room purse (R.map (·.2)) k).length ≤ 32 := fun k hk => Nat.le_trans (bUp_len k) (Nat.pow_le_pow_right (n := 2) (by first | decide | assumption | with_reducible exact Int.natCast_nonneg _ | with_reducible exact Nat.le_trans (by assumption) (by decide) | with_reducible exact Nat.lt_of_lt_of_le (by assumption) (by decide) | with_reducible exact lt_mil (Nat.lt_of_lt_of_le (by assumption) (by decide)) | with_reducible exact lt_mil (Nat.lt_of_le_of_lt (by assumption) (by decide)) | with_reducible exact Nat.le_trans (Nat.le_of_lt (by assumption)) (by decide) | (first | lia | omega)) hk)
    refine ex_cons (ex_assign (Γ' := [(Str.ofString "baskets", .dat (.list ((bUp room purse (R.map (·.2)) 0).map bD))), (Str.ofString "goods", .dat (.list (R.map (gD sz)))), (Str.ofString "purse", .dat (.int (purse : Int))), (Str.ofString "room", .dat (.int (room : Int)))]) (b := .dat (.list [.list [.str (st []), .int 0]])) (ev_list (evd_cons (ev_list (evd_cons (ev_strL (l := []) rfl) (evd_cons ev_int evd_nil))) evd_nil)) (by first | exact Or.inl rfl | exact Or.inr ⟨rfl, rfl, rfl⟩) (by intro y ds e; first | (cases e; done) | (cases e; decide)) (Pk.g (by repeat (first | exact Pk.nil | refine Pk.here ?_ | refine Pk.cons (by first | exact mem_at 0 rfl | exact mem_at 1 rfl | exact mem_at 2 rfl | exact mem_at 3 rfl | exact mem_at 4 rfl | exact mem_at 5 rfl | exact mem_at 6 rfl | exact mem_at 7 rfl | exact mem_at 8 rfl | exact mem_at 9 rfl | exact mem_at 10 rfl | exact mem_at 11 rfl | exact mem_at 12 rfl | exact mem_at 13 rfl | exact mem_at 14 rfl | exact mem_at 15 rfl | exact mem_at 16 rfl | exact mem_at 17 rfl | exact mem_at 18 rfl | exact mem_at 19 rfl | exact mem_at 20 rfl | exact mem_at 21 rfl) rfl ?_)))) ?_
    refine ex_cons (Γ₁ := [(Str.ofString "baskets", .dat (.list ((bUp room purse (R.map (·.2)) R.length).map bD)))]) (own₁ := none) ?_ (ex_one (ex_return (ev_acomp [] [] (fun _ => true) headD1 ((bUp room purse (R.map (·.2)) R.length).map fun e => sD e.1) (evi_list (ev_var (by first | exact mem_at 0 rfl | exact mem_at 1 rfl | exact mem_at 2 rfl | exact mem_at 3 rfl | exact mem_at 4 rfl | exact mem_at 5 rfl | exact mem_at 6 rfl | exact mem_at 7 rfl | exact mem_at 8 rfl | exact mem_at 9 rfl | exact mem_at 10 rfl | exact mem_at 11 rfl | exact mem_at 12 rfl | exact mem_at 13 rfl | exact mem_at 14 rfl | exact mem_at 15 rfl | exact mem_at 16 rfl | exact mem_at 17 rfl | exact mem_at 18 rfl | exact mem_at 19 rfl | exact mem_at 20 rfl | exact mem_at 21 rfl))) (by rw [List.length_map]; have := h32 _ hz; (first | lia | omega)) (by rw [filter_tt', List.map_map]; rfl) ?_ (by intro q hq; repeat (first | (rcases List.mem_cons.mp hq with rfl | hq; exact ⟨(by first | exact mem_at 0 rfl | exact mem_at 1 rfl | exact mem_at 2 rfl | exact mem_at 3 rfl | exact mem_at 4 rfl | exact mem_at 5 rfl | exact mem_at 6 rfl | exact mem_at 7 rfl | exact mem_at 8 rfl | exact mem_at 9 rfl | exact mem_at 10 rfl | exact mem_at 11 rfl | exact mem_at 12 rfl | exact mem_at 13 rfl | exact mem_at 14 rfl | exact mem_at 15 rfl | exact mem_at 16 rfl | exact mem_at 17 rfl | exact mem_at 18 rfl | exact mem_at 19 rfl | exact mem_at 20 rfl | exact mem_at 21 rfl), show (some NameKind.cell : Option NameKind) ≠ some .local by decide, by first | exact Or.inl rfl | exact Or.inr ⟨rfl, rfl⟩, rfl⟩) | cases hq)) rfl (lookup_sub (by intro p hp; repeat (first | (rcases List.mem_cons.mp hp with rfl | hp; exact rfl) | cases hp))))))
    · refine ex_sub (Γ' := [(Str.ofString "baskets", .dat (.list ((bUp room purse (R.map (·.2)) 0).map bD))), (Str.ofString "goods", .dat (.list (R.map (gD sz)))), (Str.ofString "purse", .dat (.int (purse : Int))), (Str.ofString "room", .dat (.int (room : Int)))]) (Sb.g (by repeat (first | exact Sb.nil | refine Sb.cons (by first | exact mem_at 0 rfl | exact mem_at 1 rfl | exact mem_at 2 rfl | exact mem_at 3 rfl | exact mem_at 4 rfl | exact mem_at 5 rfl | exact mem_at 6 rfl | exact mem_at 7 rfl | exact mem_at 8 rfl | exact mem_at 9 rfl | exact mem_at 10 rfl | exact mem_at 11 rfl | exact mem_at 12 rfl | exact mem_at 13 rfl | exact mem_at 14 rfl | exact mem_at 15 rfl | exact mem_at 16 rfl | exact mem_at 17 rfl | exact mem_at 18 rfl | exact mem_at 19 rfl | exact mem_at 20 rfl | exact mem_at 21 rfl) ?_))) (ex_weak (Γ₁ := [(Str.ofString "baskets", .dat (.list ((bUp room purse (R.map (·.2)) R.length).map bD))), (Str.ofString "goods", .dat (.list (R.map (gD sz)))), (Str.ofString "purse", .dat (.int (purse : Int))), (Str.ofString "room", .dat (.int (room : Int)))]) (Sb.g (by repeat (first | exact Sb.nil | refine Sb.cons (by first | exact mem_at 0 rfl | exact mem_at 1 rfl | exact mem_at 2 rfl | exact mem_at 3 rfl | exact mem_at 4 rfl | exact mem_at 5 rfl | exact mem_at 6 rfl | exact mem_at 7 rfl | exact mem_at 8 rfl | exact mem_at 9 rfl | exact mem_at 10 rfl | exact mem_at 11 rfl | exact mem_at 12 rfl | exact mem_at 13 rfl | exact mem_at 14 rfl | exact mem_at 15 rfl | exact mem_at 16 rfl | exact mem_at 17 rfl | exact mem_at 18 rfl | exact mem_at 19 rfl | exact mem_at 20 rfl | exact mem_at 21 rfl) ?_))) ?_)
      refine ex_for (items := (List.range R.length).map fun i : Nat => PyData.int (i : Int)) (fun i => [(Str.ofString "baskets", .dat (.list ((bUp room purse (R.map (·.2)) i).map bD))), (Str.ofString "goods", .dat (.list (R.map (gD sz)))), (Str.ofString "purse", .dat (.int (purse : Int))), (Str.ofString "room", .dat (.int (room : Int)))])
        (fun i => [(Str.ofString "k", .dat (.int (i : Int))), (Str.ofString "baskets", .dat (.list ((bUp room purse (R.map (·.2)) i).map bD))), (Str.ofString "goods", .dat (.list (R.map (gD sz)))), (Str.ofString "purse", .dat (.int (purse : Int))), (Str.ofString "room", .dat (.int (room : Int)))]) (fun i => none) R.length ?_ ?_ ?_ (.inl ⟨by simp, rfl⟩)
      · exact evi_range1 (n := (R.length : Int)) (ev_builtin rfl ((I.into _).gl rfl) rfl) (ev_eq (ev_call_bi (ev_builtin rfl ((I.into _).gl rfl) rfl) (evl_cons (ev_lst (ev_var (by first | exact mem_at 0 rfl | exact mem_at 1 rfl | exact mem_at 2 rfl | exact mem_at 3 rfl | exact mem_at 4 rfl | exact mem_at 5 rfl | exact mem_at 6 rfl | exact mem_at 7 rfl | exact mem_at 8 rfl | exact mem_at 9 rfl | exact mem_at 10 rfl | exact mem_at 11 rfl | exact mem_at 12 rfl | exact mem_at 13 rfl | exact mem_at 14 rfl | exact mem_at 15 rfl | exact mem_at 16 rfl | exact mem_at 17 rfl | exact mem_at 18 rfl | exact mem_at 19 rfl | exact mem_at 20 rfl | exact mem_at 21 rfl))) evl_nil) (callOk_len_list (by rw [List.length_map]; (first | lia | omega)))) (by rw [List.length_map])) (by first | decide | assumption | with_reducible exact Int.natCast_nonneg _ | with_reducible exact Nat.le_trans (by assumption) (by decide) | with_reducible exact Nat.lt_of_lt_of_le (by assumption) (by decide) | with_reducible exact lt_mil (Nat.lt_of_lt_of_le (by assumption) (by decide)) | with_reducible exact lt_mil (Nat.lt_of_le_of_lt (by assumption) (by decide)) | with_reducible exact Nat.le_trans (Nat.le_of_lt (by assumption)) (by decide) | (first | lia | omega))
      · intro i hi _
        rw [range_at hi]
        exact asg_name (by first | exact Or.inl rfl | exact Or.inr ⟨rfl, rfl, rfl⟩) (by intro y ds e; first | (cases e; done) | (cases e; decide)) (Pk.g (by repeat (first | exact Pk.nil | refine Pk.here ?_ | refine Pk.cons (by first | exact mem_at 0 rfl | exact mem_at 1 rfl | exact mem_at 2 rfl | exact mem_at 3 rfl | exact mem_at 4 rfl | exact mem_at 5 rfl | exact mem_at 6 rfl | exact mem_at 7 rfl | exact mem_at 8 rfl | exact mem_at 9 rfl | exact mem_at 10 rfl | exact mem_at 11 rfl | exact mem_at 12 rfl | exact mem_at 13 rfl | exact mem_at 14 rfl | exact mem_at 15 rfl | exact mem_at 16 rfl | exact mem_at 17 rfl | exact mem_at 18 rfl | exact mem_at 19 rfl | exact mem_at 20 rfl | exact mem_at 21 rfl) rfl ?_)))
      · intro i hi _
        rw [List.length_map, List.length_range] at hi
        obtain ⟨e, hei⟩ : ∃ e, R[i]? = some e := ⟨_, List.getElem?_eq_getElem hi⟩
        have hb := h32 i (by first | decide | assumption | with_reducible exact Int.natCast_nonneg _ | with_reducible exact Nat.le_trans (by assumption) (by decide) | with_reducible exact Nat.lt_of_lt_of_le (by assumption) (by decide) | with_reducible exact lt_mil (Nat.lt_of_lt_of_le (by assumption) (by decide)) | with_reducible exact lt_mil (Nat.lt_of_le_of_lt (by assumption) (by decide)) | with_reducible exact Nat.le_trans (Nat.le_of_lt (by assumption)) (by decide) | (first | lia | omega))
        rw [bUp_succ (p := e.2) (by rw [List.getElem?_map, hei]; rfl)]
        have hok := bUp_ok (room := room) (purse := purse) (prs := R.map (·.2)) i
        generalize bUp room purse (R.map (·.2)) i = B at hb hok ⊢
        refine ex_cons (ex_acomp (Γ' := [(Str.ofString "more", .dat (.list ((B.map fun b => (b.1 ++ [48 + i], b.2 + e.2)).map bD))), (Str.ofString "k", .dat (.int (i : Int))), (Str.ofString "baskets", .dat (.list (B.map bD))), (Str.ofString "goods", .dat (.list (R.map (gD sz)))), (Str.ofString "purse", .dat (.int (purse : Int))), (Str.ofString "room", .dat (.int (room : Int)))]) [(Str.ofString "k", L + 4), (Str.ofString "goods", L + 1)] [(Str.ofString "goods", .dat (.list (R.map (gD sz)))), (Str.ofString "k", .dat (.int (i : Int)))] (fun _ => true) (moreD i e.2) ((B.map fun b => (b.1 ++ [48 + i], b.2 + e.2)).map bD)
          (evi_list (ev_var (b := .dat (.list (B.map bD))) (by first | exact mem_at 0 rfl | exact mem_at 1 rfl | exact mem_at 2 rfl | exact mem_at 3 rfl | exact mem_at 4 rfl | exact mem_at 5 rfl | exact mem_at 6 rfl | exact mem_at 7 rfl | exact mem_at 8 rfl | exact mem_at 9 rfl | exact mem_at 10 rfl | exact mem_at 11 rfl | exact mem_at 12 rfl | exact mem_at 13 rfl | exact mem_at 14 rfl | exact mem_at 15 rfl | exact mem_at 16 rfl | exact mem_at 17 rfl | exact mem_at 18 rfl | exact mem_at 19 rfl | exact mem_at 20 rfl | exact mem_at 21 rfl))) (by rw [List.length_map]; (first | lia | omega)) (by rw [filter_tt', List.map_map, List.map_map]; apply List.map_congr_left; intro b _; exact moreD_b i e.2 b) ?_ (by intro q hq; repeat (first | (rcases List.mem_cons.mp hq with rfl | hq; exact ⟨(by first | exact mem_at 0 rfl | exact mem_at 1 rfl | exact mem_at 2 rfl | exact mem_at 3 rfl | exact mem_at 4 rfl | exact mem_at 5 rfl | exact mem_at 6 rfl | exact mem_at 7 rfl | exact mem_at 8 rfl | exact mem_at 9 rfl | exact mem_at 10 rfl | exact mem_at 11 rfl | exact mem_at 12 rfl | exact mem_at 13 rfl | exact mem_at 14 rfl | exact mem_at 15 rfl | exact mem_at 16 rfl | exact mem_at 17 rfl | exact mem_at 18 rfl | exact mem_at 19 rfl | exact mem_at 20 rfl | exact mem_at 21 rfl), show (some NameKind.cell : Option NameKind) ≠ some .local by decide, by first | exact Or.inl rfl | exact Or.inr ⟨rfl, rfl⟩, rfl⟩) | cases hq)) rfl (lookup_sub (by intro p hp; repeat (first | (rcases List.mem_cons.mp hp with rfl | hp; exact rfl) | cases hp))) (by rfl) (by first | exact Or.inl rfl | exact Or.inr ⟨rfl, rfl, rfl⟩) (by intro y ds e; first | (cases e; done) | (cases e; decide)) (Pk.g (by repeat (first | exact Pk.nil | refine Pk.here ?_ | refine Pk.cons (by first | exact mem_at 0 rfl | exact mem_at 1 rfl | exact mem_at 2 rfl | exact mem_at 3 rfl | exact mem_at 4 rfl | exact mem_at 5 rfl | exact mem_at 6 rfl | exact mem_at 7 rfl | exact mem_at 8 rfl | exact mem_at 9 rfl | exact mem_at 10 rfl | exact mem_at 11 rfl | exact mem_at 12 rfl | exact mem_at 13 rfl | exact mem_at 14 rfl | exact mem_at 15 rfl | exact mem_at 16 rfl | exact mem_at 17 rfl | exact mem_at 18 rfl | exact mem_at 19 rfl | exact mem_at 20 rfl | exact mem_at 21 rfl) rfl ?_)))) ?_
        · intro L' d hd
          obtain ⟨b, hb', rfl⟩ := List.mem_map.mp hd
          have hbl := (hok b hb').1
          refine ⟨[(Str.ofString "name", .dat (.str (st b.1))), (Str.ofString "cost", .dat (.int (b.2 : Int))), (Str.ofString "goods", .dat (.list (R.map (gD sz)))), (Str.ofString "k", .dat (.int (i : Int)))], asg_tuple (by first | exact names2 | exact names3) rfl (asgAll_cons (Γ₁ := [(Str.ofString "name", .dat (.str (st b.1))), (Str.ofString "goods", .dat (.list (R.map (gD sz)))), (Str.ofString "k", .dat (.int (i : Int)))]) (asg_name (by first | exact Or.inl rfl | exact Or.inr ⟨rfl, rfl, rfl⟩) (by intro y ds e; first | (cases e; done) | (cases e; decide)) (Pk.g (by repeat (first | exact Pk.nil | refine Pk.here ?_ | refine Pk.cons (by first | exact mem_at 0 rfl | exact mem_at 1 rfl | exact mem_at 2 rfl | exact mem_at 3 rfl | exact mem_at 4 rfl | exact mem_at 5 rfl | exact mem_at 6 rfl | exact mem_at 7 rfl | exact mem_at 8 rfl | exact mem_at 9 rfl | exact mem_at 10 rfl | exact mem_at 11 rfl | exact mem_at 12 rfl | exact mem_at 13 rfl | exact mem_at 14 rfl | exact mem_at 15 rfl | exact mem_at 16 rfl | exact mem_at 17 rfl | exact mem_at 18 rfl | exact mem_at 19 rfl | exact mem_at 20 rfl | exact mem_at 21 rfl) rfl ?_)))) (asgAll_cons (asg_name (by first | exact Or.inl rfl | exact Or.inr ⟨rfl, rfl, rfl⟩) (by intro y ds e; first | (cases e; done) | (cases e; decide)) (Pk.g (by repeat (first | exact Pk.nil | refine Pk.here ?_ | refine Pk.cons (by first | exact mem_at 0 rfl | exact mem_at 1 rfl | exact mem_at 2 rfl | exact mem_at 3 rfl | exact mem_at 4 rfl | exact mem_at 5 rfl | exact mem_at 6 rfl | exact mem_at 7 rfl | exact mem_at 8 rfl | exact mem_at 9 rfl | exact mem_at 10 rfl | exact mem_at 11 rfl | exact mem_at 12 rfl | exact mem_at 13 rfl | exact mem_at 14 rfl | exact mem_at 15 rfl | exact mem_at 16 rfl | exact mem_at 17 rfl | exact mem_at 18 rfl | exact mem_at 19 rfl | exact mem_at 20 rfl | exact mem_at 21 rfl) rfl ?_)))) asgAll_nil)), evts_nil, fun _ => ?_⟩
          refine ev_eq (ev_list (ds := [.str (st (b.1 ++ [48 + i])), .int ((b.2 : Int) + (e.2 : Int))]) (evd_cons (ev_bin (ev_var (by first | exact mem_at 0 rfl | exact mem_at 1 rfl | exact mem_at 2 rfl | exact mem_at 3 rfl | exact mem_at 4 rfl | exact mem_at 5 rfl | exact mem_at 6 rfl | exact mem_at 7 rfl | exact mem_at 8 rfl | exact mem_at 9 rfl | exact mem_at 10 rfl | exact mem_at 11 rfl | exact mem_at 12 rfl | exact mem_at 13 rfl | exact mem_at 14 rfl | exact mem_at 15 rfl | exact mem_at 16 rfl | exact mem_at 17 rfl | exact mem_at 18 rfl | exact mem_at 19 rfl | exact mem_at 20 rfl | exact mem_at 21 rfl)) (ev_item (ev_strL (l := [48, 49, 50, 51, 52]) rfl) (ev_var (by first | exact mem_at 0 rfl | exact mem_at 1 rfl | exact mem_at 2 rfl | exact mem_at 3 rfl | exact mem_at 4 rfl | exact mem_at 5 rfl | exact mem_at 6 rfl | exact mem_at 7 rfl | exact mem_at 8 rfl | exact mem_at 9 rfl | exact mem_at 10 rfl | exact mem_at 11 rfl | exact mem_at 12 rfl | exact mem_at 13 rfl | exact mem_at 14 rfl | exact mem_at 15 rfl | exact mem_at 16 rfl | exact mem_at 17 rfl | exact mem_at 18 rfl | exact mem_at 19 rfl | exact mem_at 20 rfl | exact mem_at 21 rfl)) (getR_str (c := 48 + i) (by first | decide | assumption | with_reducible exact Int.natCast_nonneg _ | with_reducible exact Nat.le_trans (by assumption) (by decide) | with_reducible exact Nat.lt_of_lt_of_le (by assumption) (by decide) | with_reducible exact lt_mil (Nat.lt_of_lt_of_le (by assumption) (by decide)) | with_reducible exact lt_mil (Nat.lt_of_le_of_lt (by assumption) (by decide)) | with_reducible exact Nat.le_trans (Nat.le_of_lt (by assumption)) (by decide) | (first | lia | omega)) ?_ (by first | decide | assumption | with_reducible exact Int.natCast_nonneg _ | with_reducible exact Nat.le_trans (by assumption) (by decide) | with_reducible exact Nat.lt_of_lt_of_le (by assumption) (by decide) | with_reducible exact lt_mil (Nat.lt_of_lt_of_le (by assumption) (by decide)) | with_reducible exact lt_mil (Nat.lt_of_le_of_lt (by assumption) (by decide)) | with_reducible exact Nat.le_trans (Nat.le_of_lt (by assumption)) (by decide) | (first | lia | omega)))) (binR_add_str (by simp; (first | lia | omega)))) (evd_cons (ev_bin (ev_var (by first | exact mem_at 0 rfl | exact mem_at 1 rfl | exact mem_at 2 rfl | exact mem_at 3 rfl | exact mem_at 4 rfl | exact mem_at 5 rfl | exact mem_at 6 rfl | exact mem_at 7 rfl | exact mem_at 8 rfl | exact mem_at 9 rfl | exact mem_at 10 rfl | exact mem_at 11 rfl | exact mem_at 12 rfl | exact mem_at 13 rfl | exact mem_at 14 rfl | exact mem_at 15 rfl | exact mem_at 16 rfl | exact mem_at 17 rfl | exact mem_at 18 rfl | exact mem_at 19 rfl | exact mem_at 20 rfl | exact mem_at 21 rfl)) (ev_item (ev_lst (ev_item (ev_lst (ev_var (b := .dat (.list (R.map (gD sz)))) (by first | exact mem_at 0 rfl | exact mem_at 1 rfl | exact mem_at 2 rfl | exact mem_at 3 rfl | exact mem_at 4 rfl | exact mem_at 5 rfl | exact mem_at 6 rfl | exact mem_at 7 rfl | exact mem_at 8 rfl | exact mem_at 9 rfl | exact mem_at 10 rfl | exact mem_at 11 rfl | exact mem_at 12 rfl | exact mem_at 13 rfl | exact mem_at 14 rfl | exact mem_at 15 rfl | exact mem_at 16 rfl | exact mem_at 17 rfl | exact mem_at 18 rfl | exact mem_at 19 rfl | exact mem_at 20 rfl | exact mem_at 21 rfl))) (ev_var (by first | exact mem_at 0 rfl | exact mem_at 1 rfl | exact mem_at 2 rfl | exact mem_at 3 rfl | exact mem_at 4 rfl | exact mem_at 5 rfl | exact mem_at 6 rfl | exact mem_at 7 rfl | exact mem_at 8 rfl | exact mem_at 9 rfl | exact mem_at 10 rfl | exact mem_at 11 rfl | exact mem_at 12 rfl | exact mem_at 13 rfl | exact mem_at 14 rfl | exact mem_at 15 rfl | exact mem_at 16 rfl | exact mem_at 17 rfl | exact mem_at 18 rfl | exact mem_at 19 rfl | exact mem_at 20 rfl | exact mem_at 21 rfl)) (getR_list (d := gD sz e) (by first | decide | assumption | with_reducible exact Int.natCast_nonneg _ | with_reducible exact Nat.le_trans (by assumption) (by decide) | with_reducible exact Nat.lt_of_lt_of_le (by assumption) (by decide) | with_reducible exact lt_mil (Nat.lt_of_lt_of_le (by assumption) (by decide)) | with_reducible exact lt_mil (Nat.lt_of_le_of_lt (by assumption) (by decide)) | with_reducible exact Nat.le_trans (Nat.le_of_lt (by assumption)) (by decide) | (first | lia | omega)) (by rw [Int.toNat_natCast, List.getElem?_map, hei]; rfl) (by first | decide | assumption | with_reducible exact Int.natCast_nonneg _ | with_reducible exact Nat.le_trans (by assumption) (by decide) | with_reducible exact Nat.lt_of_lt_of_le (by assumption) (by decide) | with_reducible exact lt_mil (Nat.lt_of_lt_of_le (by assumption) (by decide)) | with_reducible exact lt_mil (Nat.lt_of_le_of_lt (by assumption) (by decide)) | with_reducible exact Nat.le_trans (Nat.le_of_lt (by assumption)) (by decide) | (first | lia | omega))))) ev_int (getR_list (d := .int (e.2 : Int)) (by first | decide | assumption | with_reducible exact Int.natCast_nonneg _ | with_reducible exact Nat.le_trans (by assumption) (by decide) | with_reducible exact Nat.lt_of_lt_of_le (by assumption) (by decide) | with_reducible exact lt_mil (Nat.lt_of_lt_of_le (by assumption) (by decide)) | with_reducible exact lt_mil (Nat.lt_of_le_of_lt (by assumption) (by decide)) | with_reducible exact Nat.le_trans (Nat.le_of_lt (by assumption)) (by decide) | (first | lia | omega)) rfl (by first | decide | assumption | with_reducible exact Int.natCast_nonneg _ | with_reducible exact Nat.le_trans (by assumption) (by decide) | with_reducible exact Nat.lt_of_lt_of_le (by assumption) (by decide) | with_reducible exact lt_mil (Nat.lt_of_lt_of_le (by assumption) (by decide)) | with_reducible exact lt_mil (Nat.lt_of_le_of_lt (by assumption) (by decide)) | with_reducible exact Nat.le_trans (Nat.le_of_lt (by assumption)) (by decide) | (first | lia | omega)))) binR_add_int) evd_nil))) (by rw [moreD_b]; simp [bD])
          rw [Int.toNat_natCast]
          have : i = 0 ∨ i = 1 ∨ i = 2 ∨ i = 3 ∨ i = 4 := by (first | lia | omega)
          rcases this with rfl | rfl | rfl | rfl | rfl <;> rfl
        generalize hM : (B.map fun b : Bk => (b.1 ++ [48 + i], b.2 + e.2)) = M
        have hMz : M.length ≤ 32 := by rw [← hM, List.length_map]; exact hb
        have hMl : ∀ b ∈ M, b.1.length ≤ 6 := fun b hb' => by
          rw [← hM] at hb'
          obtain ⟨a, ha, rfl⟩ := List.mem_map.mp hb'
          have := (hok a ha).1
          simp; (first | lia | omega)
        have hFz := List.length_filter_le (fun b : Bk => decide (b.1.length ≤ room) && decide (b.2 ≤ purse)) M
        refine ex_one (ex_assign (ev_eq (b := .dat (.list ((bStep room purse i e.2 B).map bD))) (ev_bin (ev_lst (ev_var (b := .dat (.list (B.map bD))) (by first | exact mem_at 0 rfl | exact mem_at 1 rfl | exact mem_at 2 rfl | exact mem_at 3 rfl | exact mem_at 4 rfl | exact mem_at 5 rfl | exact mem_at 6 rfl | exact mem_at 7 rfl | exact mem_at 8 rfl | exact mem_at 9 rfl | exact mem_at 10 rfl | exact mem_at 11 rfl | exact mem_at 12 rfl | exact mem_at 13 rfl | exact mem_at 14 rfl | exact mem_at 15 rfl | exact mem_at 16 rfl | exact mem_at 17 rfl | exact mem_at 18 rfl | exact mem_at 19 rfl | exact mem_at 20 rfl | exact mem_at 21 rfl))) (ev_lst (ev_acomp [(Str.ofString "room", L + 3), (Str.ofString "purse", L + 2)] [(Str.ofString "purse", .dat (.int (purse : Int))), (Str.ofString "room", .dat (.int (room : Int)))] (okD room purse) id ((M.filter fun b => decide (b.1.length ≤ room) && decide (b.2 ≤ purse)).map bD)
          (evi_list (ev_var (b := .dat (.list (M.map bD))) (by first | exact mem_at 0 rfl | exact mem_at 1 rfl | exact mem_at 2 rfl | exact mem_at 3 rfl | exact mem_at 4 rfl | exact mem_at 5 rfl | exact mem_at 6 rfl | exact mem_at 7 rfl | exact mem_at 8 rfl | exact mem_at 9 rfl | exact mem_at 10 rfl | exact mem_at 11 rfl | exact mem_at 12 rfl | exact mem_at 13 rfl | exact mem_at 14 rfl | exact mem_at 15 rfl | exact mem_at 16 rfl | exact mem_at 17 rfl | exact mem_at 18 rfl | exact mem_at 19 rfl | exact mem_at 20 rfl | exact mem_at 21 rfl))) (by rw [List.length_map]; (first | lia | omega)) (by rw [List.map_id, List.filter_map]; congr 1; apply List.filter_congr; intro b _; exact okD_b room purse b) ?_ (by intro q hq; repeat (first | (rcases List.mem_cons.mp hq with rfl | hq; exact ⟨(by first | exact mem_at 0 rfl | exact mem_at 1 rfl | exact mem_at 2 rfl | exact mem_at 3 rfl | exact mem_at 4 rfl | exact mem_at 5 rfl | exact mem_at 6 rfl | exact mem_at 7 rfl | exact mem_at 8 rfl | exact mem_at 9 rfl | exact mem_at 10 rfl | exact mem_at 11 rfl | exact mem_at 12 rfl | exact mem_at 13 rfl | exact mem_at 14 rfl | exact mem_at 15 rfl | exact mem_at 16 rfl | exact mem_at 17 rfl | exact mem_at 18 rfl | exact mem_at 19 rfl | exact mem_at 20 rfl | exact mem_at 21 rfl), show (some NameKind.cell : Option NameKind) ≠ some .local by decide, by first | exact Or.inl rfl | exact Or.inr ⟨rfl, rfl⟩, rfl⟩) | cases hq)) rfl (lookup_sub (by intro p hp; repeat (first | (rcases List.mem_cons.mp hp with rfl | hp; exact rfl) | cases hp))))) (binR_add_list (by rw [List.length_map, List.length_map]; (first | lia | omega)))) (by rw [bStep, hM, List.map_append])) (by first | exact Or.inl rfl | exact Or.inr ⟨rfl, rfl, rfl⟩) (by intro y ds e; first | (cases e; done) | (cases e; decide)) (Pk.g (by repeat (first | exact Pk.nil | refine Pk.here ?_ | refine Pk.cons (by first | exact mem_at 0 rfl | exact mem_at 1 rfl | exact mem_at 2 rfl | exact mem_at 3 rfl | exact mem_at 4 rfl | exact mem_at 5 rfl | exact mem_at 6 rfl | exact mem_at 7 rfl | exact mem_at 8 rfl | exact mem_at 9 rfl | exact mem_at 10 rfl | exact mem_at 11 rfl | exact mem_at 12 rfl | exact mem_at 13 rfl | exact mem_at 14 rfl | exact mem_at 15 rfl | exact mem_at 16 rfl | exact mem_at 17 rfl | exact mem_at 18 rfl | exact mem_at 19 rfl | exact mem_at 20 rfl | exact mem_at 21 rfl) rfl ?_))))
        intro L' d hd
        obtain ⟨b, hb', rfl⟩ := List.mem_map.mp hd
        have hbl := hMl b hb'
        refine ⟨[(Str.ofString "one", .dat (bD b)), (Str.ofString "purse", .dat (.int (purse : Int))), (Str.ofString "room", .dat (.int (room : Int)))], asg_name (by first | exact Or.inl rfl | exact Or.inr ⟨rfl, rfl, rfl⟩) (by intro y ds e; first | (cases e; done) | (cases e; decide)) (Pk.g (by repeat (first | exact Pk.nil | refine Pk.here ?_ | refine Pk.cons (by first | exact mem_at 0 rfl | exact mem_at 1 rfl | exact mem_at 2 rfl | exact mem_at 3 rfl | exact mem_at 4 rfl | exact mem_at 5 rfl | exact mem_at 6 rfl | exact mem_at 7 rfl | exact mem_at 8 rfl | exact mem_at 9 rfl | exact mem_at 10 rfl | exact mem_at 11 rfl | exact mem_at 12 rfl | exact mem_at 13 rfl | exact mem_at 14 rfl | exact mem_at 15 rfl | exact mem_at 16 rfl | exact mem_at 17 rfl | exact mem_at 18 rfl | exact mem_at 19 rfl | exact mem_at 20 rfl | exact mem_at 21 rfl) rfl ?_))), evts_one ?_, fun _ => ev_var (by first | exact mem_at 0 rfl | exact mem_at 1 rfl | exact mem_at 2 rfl | exact mem_at 3 rfl | exact mem_at 4 rfl | exact mem_at 5 rfl | exact mem_at 6 rfl | exact mem_at 7 rfl | exact mem_at 8 rfl | exact mem_at 9 rfl | exact mem_at 10 rfl | exact mem_at 11 rfl | exact mem_at 12 rfl | exact mem_at 13 rfl | exact mem_at 14 rfl | exact mem_at 15 rfl | exact mem_at 16 rfl | exact mem_at 17 rfl | exact mem_at 18 rfl | exact mem_at 19 rfl | exact mem_at 20 rfl | exact mem_at 21 rfl)⟩
        exact et_eq (et_and (et_cmp (ev_call_bi (ev_builtin rfl (((I.into _).comp _ _ _).gl rfl) rfl) (evl_cons (ev_item (ev_lst (ev_var (b := .dat (bD b)) (by first | exact mem_at 0 rfl | exact mem_at 1 rfl | exact mem_at 2 rfl | exact mem_at 3 rfl | exact mem_at 4 rfl | exact mem_at 5 rfl | exact mem_at 6 rfl | exact mem_at 7 rfl | exact mem_at 8 rfl | exact mem_at 9 rfl | exact mem_at 10 rfl | exact mem_at 11 rfl | exact mem_at 12 rfl | exact mem_at 13 rfl | exact mem_at 14 rfl | exact mem_at 15 rfl | exact mem_at 16 rfl | exact mem_at 17 rfl | exact mem_at 18 rfl | exact mem_at 19 rfl | exact mem_at 20 rfl | exact mem_at 21 rfl))) ev_int (getR_list (d := .str (st b.1)) (by first | decide | assumption | with_reducible exact Int.natCast_nonneg _ | with_reducible exact Nat.le_trans (by assumption) (by decide) | with_reducible exact Nat.lt_of_lt_of_le (by assumption) (by decide) | with_reducible exact lt_mil (Nat.lt_of_lt_of_le (by assumption) (by decide)) | with_reducible exact lt_mil (Nat.lt_of_le_of_lt (by assumption) (by decide)) | with_reducible exact Nat.le_trans (Nat.le_of_lt (by assumption)) (by decide) | (first | lia | omega)) rfl (by first | decide | assumption | with_reducible exact Int.natCast_nonneg _ | with_reducible exact Nat.le_trans (by assumption) (by decide) | with_reducible exact Nat.lt_of_lt_of_le (by assumption) (by decide) | with_reducible exact lt_mil (Nat.lt_of_lt_of_le (by assumption) (by decide)) | with_reducible exact lt_mil (Nat.lt_of_le_of_lt (by assumption) (by decide)) | with_reducible exact Nat.le_trans (Nat.le_of_lt (by assumption)) (by decide) | (first | lia | omega)))) evl_nil) (callOk_len_str (by first | decide | assumption | with_reducible exact Int.natCast_nonneg _ | with_reducible exact Nat.le_trans (by assumption) (by decide) | with_reducible exact Nat.lt_of_lt_of_le (by assumption) (by decide) | with_reducible exact lt_mil (Nat.lt_of_lt_of_le (by assumption) (by decide)) | with_reducible exact lt_mil (Nat.lt_of_le_of_lt (by assumption) (by decide)) | with_reducible exact Nat.le_trans (Nat.le_of_lt (by assumption)) (by decide) | (first | lia | omega)))) (ev_var (by first | exact mem_at 0 rfl | exact mem_at 1 rfl | exact mem_at 2 rfl | exact mem_at 3 rfl | exact mem_at 4 rfl | exact mem_at 5 rfl | exact mem_at 6 rfl | exact mem_at 7 rfl | exact mem_at 8 rfl | exact mem_at 9 rfl | exact mem_at 10 rfl | exact mem_at 11 rfl | exact mem_at 12 rfl | exact mem_at 13 rfl | exact mem_at 14 rfl | exact mem_at 15 rfl | exact mem_at 16 rfl | exact mem_at 17 rfl | exact mem_at 18 rfl | exact mem_at 19 rfl | exact mem_at 20 rfl | exact mem_at 21 rfl)) cmpR_le_int) fun _ =>
          et_and (et_cmp (ev_item (ev_lst (ev_var (b := .dat (bD b)) (by first | exact mem_at 0 rfl | exact mem_at 1 rfl | exact mem_at 2 rfl | exact mem_at 3 rfl | exact mem_at 4 rfl | exact mem_at 5 rfl | exact mem_at 6 rfl | exact mem_at 7 rfl | exact mem_at 8 rfl | exact mem_at 9 rfl | exact mem_at 10 rfl | exact mem_at 11 rfl | exact mem_at 12 rfl | exact mem_at 13 rfl | exact mem_at 14 rfl | exact mem_at 15 rfl | exact mem_at 16 rfl | exact mem_at 17 rfl | exact mem_at 18 rfl | exact mem_at 19 rfl | exact mem_at 20 rfl | exact mem_at 21 rfl))) ev_int (getR_list (d := .int (b.2 : Int)) (by first | decide | assumption | with_reducible exact Int.natCast_nonneg _ | with_reducible exact Nat.le_trans (by assumption) (by decide) | with_reducible exact Nat.lt_of_lt_of_le (by assumption) (by decide) | with_reducible exact lt_mil (Nat.lt_of_lt_of_le (by assumption) (by decide)) | with_reducible exact lt_mil (Nat.lt_of_le_of_lt (by assumption) (by decide)) | with_reducible exact Nat.le_trans (Nat.le_of_lt (by assumption)) (by decide) | (first | lia | omega)) rfl (by first | decide | assumption | with_reducible exact Int.natCast_nonneg _ | with_reducible exact Nat.le_trans (by assumption) (by decide) | with_reducible exact Nat.lt_of_lt_of_le (by assumption) (by decide) | with_reducible exact lt_mil (Nat.lt_of_lt_of_le (by assumption) (by decide)) | with_reducible exact lt_mil (Nat.lt_of_le_of_lt (by assumption) (by decide)) | with_reducible exact Nat.le_trans (Nat.le_of_lt (by assumption)) (by decide) | (first | lia | omega)))) (ev_var (by first | exact mem_at 0 rfl | exact mem_at 1 rfl | exact mem_at 2 rfl | exact mem_at 3 rfl | exact mem_at 4 rfl | exact mem_at 5 rfl | exact mem_at 6 rfl | exact mem_at 7 rfl | exact mem_at 8 rfl | exact mem_at 9 rfl | exact mem_at 10 rfl | exact mem_at 11 rfl | exact mem_at 12 rfl | exact mem_at 13 rfl | exact mem_at 14 rfl | exact mem_at 15 rfl | exact mem_at 16 rfl | exact mem_at 17 rfl | exact mem_at 18 rfl | exact mem_at 19 rfl | exact mem_at 20 rfl | exact mem_at 21 rfl)) cmpR_le_int) fun _ => et_and_nil) (by rw [okD_b]; simp)
    · intro L' d hd
      obtain ⟨b, hb', rfl⟩ := List.mem_map.mp hd
      exact ⟨[(Str.ofString "name", .dat (.str (st b.1))), (Str.ofString "cost", .dat (.int (b.2 : Int)))], asg_tuple (by first | exact names2 | exact names3) rfl (asgAll_cons (Γ₁ := [(Str.ofString "name", .dat (.str (st b.1)))]) (asg_name (by first | exact Or.inl rfl | exact Or.inr ⟨rfl, rfl, rfl⟩) (by intro y ds e; first | (cases e; done) | (cases e; decide)) (Pk.g (by repeat (first | exact Pk.nil | refine Pk.here ?_ | refine Pk.cons (by first | exact mem_at 0 rfl | exact mem_at 1 rfl | exact mem_at 2 rfl | exact mem_at 3 rfl | exact mem_at 4 rfl | exact mem_at 5 rfl | exact mem_at 6 rfl | exact mem_at 7 rfl | exact mem_at 8 rfl | exact mem_at 9 rfl | exact mem_at 10 rfl | exact mem_at 11 rfl | exact mem_at 12 rfl | exact mem_at 13 rfl | exact mem_at 14 rfl | exact mem_at 15 rfl | exact mem_at 16 rfl | exact mem_at 17 rfl | exact mem_at 18 rfl | exact mem_at 19 rfl | exact mem_at 20 rfl | exact mem_at 21 rfl) rfl ?_)))) (asgAll_cons (asg_name (by first | exact Or.inl rfl | exact Or.inr ⟨rfl, rfl, rfl⟩) (by intro y ds e; first | (cases e; done) | (cases e; decide)) (Pk.g (by repeat (first | exact Pk.nil | refine Pk.here ?_ | refine Pk.cons (by first | exact mem_at 0 rfl | exact mem_at 1 rfl | exact mem_at 2 rfl | exact mem_at 3 rfl | exact mem_at 4 rfl | exact mem_at 5 rfl | exact mem_at 6 rfl | exact mem_at 7 rfl | exact mem_at 8 rfl | exact mem_at 9 rfl | exact mem_at 10 rfl | exact mem_at 11 rfl | exact mem_at 12 rfl | exact mem_at 13 rfl | exact mem_at 14 rfl | exact mem_at 15 rfl | exact mem_at 16 rfl | exact mem_at 17 rfl | exact mem_at 18 rfl | exact mem_at 19 rfl | exact mem_at 20 rfl | exact mem_at 21 rfl) rfl ?_)))) asgAll_nil)), evts_nil, fun _ => ev_var (by first | exact mem_at 0 rfl | exact mem_at 1 rfl | exact mem_at 2 rfl | exact mem_at 3 rfl | exact mem_at 4 rfl | exact mem_at 5 rfl | exact mem_at 6 rfl | exact mem_at 7 rfl | exact mem_at 8 rfl | exact mem_at 9 rfl | exact mem_at 10 rfl | exact mem_at 11 rfl | exact mem_at 12 rfl | exact mem_at 13 rfl | exact mem_at 14 rfl | exact mem_at 15 rfl | exact mem_at 16 rfl | exact mem_at 17 rfl | exact mem_at 18 rfl | exact mem_at 19 rfl | exact mem_at 20 rfl | exact mem_at 21 rfl)⟩
end
end Mine

namespace Mine
open PySem PySem.W PyProof.Rows PySem.Calls
set_option maxRecDepth 100000

theorem lt_of_not_lt {x a b : List Nat} (h : ¬ b < a) (q : ¬ x < b) : ¬ x < a := fun r => q (Std.lt_of_lt_of_le r (List.not_lt.mp h))
theorem strs_sorted (xs : List (List Nat)) (k : Nat) : (layUp sQ xs k).Pairwise fun a b => ¬ b < a :=
  layUp_pairwise (R := fun a b : List Nat => ¬ b < a) (q := sQ) (fun x a b h q => decide_eq_true (lt_of_not_lt h (of_decide_eq_true q))) (fun x a q => of_decide_eq_true q) (fun x a q => by
    have := of_decide_eq_false q
    exact List.lt_asymm (Classical.not_not.mp this)) _ k
theorem strs_lt {row : List (List Nat)} {x : List Nat} (hs : row.Pairwise fun a b => ¬ b < a) : ∀ F i, (h : i < (row.map sD).length) → CmpR F .Lt (.dat (sD x)) (.dat (row.map sD)[i]) (decide (row.countP (sQ x) ≤ i)) := fun F i h => by
  rw [List.length_map] at h
  rw [List.getElem_map]
  have e : decide (row.countP (sQ x) ≤ i) = decide (x < row[i]) := by
    have := cnt_at (q := sQ x) (hs.imp fun {a b} r q => decide_eq_true (lt_of_not_lt r (of_decide_eq_true q))) i h
    have this : decide (¬ x < row[i]) = decide (i < row.countP (sQ x)) := this
    rw [decide_eq_decide] at this ⊢
    rw [← Nat.not_lt, ← this]
    simp
  rw [e]
  exact cmpR_lt_str
theorem kcs_lt {fl sz p : Nat} {row : List (List Nat)} {x : List Nat} (hs : row.Pairwise fun a b => tQ fl sz p x b = true → tQ fl sz p x a = true) (key : PyData → PyData) (hk : ∀ n, key (nD fl sz n) = .str (st [kc fl sz p n])) : ∀ F i, (h : i < (row.map (nD fl sz)).length) → CmpR F .Lt (.dat (key (row.map (nD fl sz))[i])) (.dat (key (nD fl sz x))) (decide (i < row.countP (tQ fl sz p x))) := fun F i h => by
  rw [List.length_map] at h
  rw [List.getElem_map, hk, hk]
  have e : decide (i < row.countP (tQ fl sz p x)) = decide ([kc fl sz p row[i]] < [kc fl sz p x]) := by
    rw [← cnt_at hs i h]
    apply decide_eq_decide.mpr
    show kc fl sz p row[i] < kc fl sz p x ↔ _
    rw [List.cons_lt_cons_iff]
    simp
  rw [e]
  exact cmpR_lt_str
def keyD (p : Nat) : PyData → PyData
  | .list (.str x :: _) => .str (st [x.cps.toList.getD p 0])
  | _ => .none
theorem keyD_n (fl sz p : Nat) (n : List Nat) : keyD p (nD fl sz n) = .str (st [kc fl sz p n]) := by simp [keyD, nD, kc, st]
theorem turn_sorted (fl sz p : Nat) (x : List Nat) (xs : List (List Nat)) (k : Nat) : (layUp (tQ fl sz p) xs k).Pairwise fun a b => tQ fl sz p x b = true → tQ fl sz p x a = true :=
  (layUp_pairwise (R := fun a b => kc fl sz p a ≤ kc fl sz p b) (fun x a b h q => decide_eq_true (by have := of_decide_eq_true q; (first | lia | omega))) (fun x a q => by have := of_decide_eq_true q; (first | lia | omega)) (fun x a q => by have := of_decide_eq_false q; (first | lia | omega)) xs k).imp
    fun {a b} h q => decide_eq_true (by have := of_decide_eq_true q; (first | lia | omega))
def sndD : PyData → PyData
  | .list (_ :: t :: _) => t
  | _ => .none
theorem range_down {n i : Nat} (h : i < ((List.range n).reverse.map fun i : Nat => PyData.int (i : Int)).length) : ((List.range n).reverse.map fun i : Nat => PyData.int (i : Int))[i] = .int ((n - 1 - i : Nat) : Int) := by simp
theorem fill_len {c sz : Nat} {n : List Nat} (h : n.length ≤ sz) : (fill c 60 sz n).length = sz := by simp [fill]; (first | lia | omega)

section
variable {P : Params} {C : Cx}
theorem sp_straight (I : Is1 P C) (hf : 3 < C.fuel) {ns : List (List Nat)} {fl sz : Nat} (hz : ns.length ≤ 100) :
    CallOk C (.ref 166) [.dat (.list (ns.map (nD fl sz)))] [] [] (.dat (.list ((layUp sQ (ns.map (fill fl 60 sz)) ns.length).map sD))) :=
  callOk_of fun ok W s vs ks S hx hy => by
    obtain ⟨_, rfl, r1⟩ := BAll.inv1 hx
    obtain rfl := BAll.inv0 hy
    refine enter ok (by first | decide | assumption | with_reducible exact Int.natCast_nonneg _ | with_reducible exact Nat.le_trans (by assumption) (by decide) | with_reducible exact Nat.lt_of_lt_of_le (by assumption) (by decide) | with_reducible exact lt_mil (Nat.lt_of_lt_of_le (by assumption) (by decide)) | with_reducible exact lt_mil (Nat.lt_of_le_of_lt (by assumption) (by decide)) | with_reducible exact Nat.le_trans (Nat.le_of_lt (by assumption)) (by decide) | (first | lia | omega)) S (I.lk (a := 166) rfl) (by rw [I.K]; rfl) (binds := [(Str.ofString "named", _)]) (kp_binds (K := hd1.heap_39 P) (I.inn S) (fun _ => rfl))
      (.cons r1 .nil) (show [Str.ofString "named"].Nodup by decide) rfl fun L => ?_
    refine ex_cons (ex_assign_own (Γ' := [(Str.ofString "named", .dat (.list (ns.map (nD fl sz))))]) evn_nil (by first | exact Or.inl rfl | exact Or.inr ⟨rfl, rfl, rfl⟩) (Pq.g (by repeat (first | exact Pq.nil | refine Pq.cons (by first | exact mem_at 0 rfl | exact mem_at 1 rfl | exact mem_at 2 rfl | exact mem_at 3 rfl | exact mem_at 4 rfl | exact mem_at 5 rfl | exact mem_at 6 rfl | exact mem_at 7 rfl | exact mem_at 8 rfl | exact mem_at 9 rfl | exact mem_at 10 rfl | exact mem_at 11 rfl | exact mem_at 12 rfl | exact mem_at 13 rfl | exact mem_at 14 rfl | exact mem_at 15 rfl | exact mem_at 16 rfl | exact mem_at 17 rfl | exact mem_at 18 rfl | exact mem_at 19 rfl | exact mem_at 20 rfl | exact mem_at 21 rfl) rfl ?_)))) ?_
    refine ex_cons (Γ₁ := [(Str.ofString "named", .dat (.list (ns.map (nD fl sz))))]) (own₁ := some (Str.ofString "row", (layUp sQ (ns.map (fill fl 60 sz)) ns.length).map sD)) ?_ (ex_freeze (ex_one (ex_return (ev_var (by first | exact mem_at 0 rfl | exact mem_at 1 rfl | exact mem_at 2 rfl | exact mem_at 3 rfl | exact mem_at 4 rfl | exact mem_at 5 rfl | exact mem_at 6 rfl | exact mem_at 7 rfl | exact mem_at 8 rfl | exact mem_at 9 rfl | exact mem_at 10 rfl | exact mem_at 11 rfl | exact mem_at 12 rfl | exact mem_at 13 rfl | exact mem_at 14 rfl | exact mem_at 15 rfl | exact mem_at 16 rfl | exact mem_at 17 rfl | exact mem_at 18 rfl | exact mem_at 19 rfl | exact mem_at 20 rfl | exact mem_at 21 rfl)))))
    refine ex_for (items := ns.map (nD fl sz)) (fun i => [(Str.ofString "named", .dat (.list (ns.map (nD fl sz))))])
      (fun i => match ns[i]? with | some n => [(Str.ofString "filled", .dat (sD (fill fl 60 sz n))), (Str.ofString "name", .dat (sD n)), (Str.ofString "named", .dat (.list (ns.map (nD fl sz))))] | none => []) (fun i => some (Str.ofString "row", (layUp sQ (ns.map (fill fl 60 sz)) i).map sD)) ns.length (evi_list (ev_var (by first | exact mem_at 0 rfl | exact mem_at 1 rfl | exact mem_at 2 rfl | exact mem_at 3 rfl | exact mem_at 4 rfl | exact mem_at 5 rfl | exact mem_at 6 rfl | exact mem_at 7 rfl | exact mem_at 8 rfl | exact mem_at 9 rfl | exact mem_at 10 rfl | exact mem_at 11 rfl | exact mem_at 12 rfl | exact mem_at 13 rfl | exact mem_at 14 rfl | exact mem_at 15 rfl | exact mem_at 16 rfl | exact mem_at 17 rfl | exact mem_at 18 rfl | exact mem_at 19 rfl | exact mem_at 20 rfl | exact mem_at 21 rfl))) ?_ ?_ (.inl ⟨by simp, rfl⟩)
    · intro i hi _
      obtain ⟨n, hn, hin⟩ := map_at ns _ hi
      rw [hin, hn]
      exact asg_tuple (by first | exact names2 | exact names3) rfl (asgAll_cons (Γ₁ := [(Str.ofString "filled", .dat (sD (fill fl 60 sz n))), (Str.ofString "named", .dat (.list (ns.map (nD fl sz))))]) (asg_name (by first | exact Or.inl rfl | exact Or.inr ⟨rfl, rfl, rfl⟩) (by intro y ds e; first | (cases e; done) | (cases e; decide)) (Pk.g (by repeat (first | exact Pk.nil | refine Pk.here ?_ | refine Pk.cons (by first | exact mem_at 0 rfl | exact mem_at 1 rfl | exact mem_at 2 rfl | exact mem_at 3 rfl | exact mem_at 4 rfl | exact mem_at 5 rfl | exact mem_at 6 rfl | exact mem_at 7 rfl | exact mem_at 8 rfl | exact mem_at 9 rfl | exact mem_at 10 rfl | exact mem_at 11 rfl | exact mem_at 12 rfl | exact mem_at 13 rfl | exact mem_at 14 rfl | exact mem_at 15 rfl | exact mem_at 16 rfl | exact mem_at 17 rfl | exact mem_at 18 rfl | exact mem_at 19 rfl | exact mem_at 20 rfl | exact mem_at 21 rfl) rfl ?_)))) (asgAll_cons (asg_name (by first | exact Or.inl rfl | exact Or.inr ⟨rfl, rfl, rfl⟩) (by intro y ds e; first | (cases e; done) | (cases e; decide)) (Pk.g (by repeat (first | exact Pk.nil | refine Pk.here ?_ | refine Pk.cons (by first | exact mem_at 0 rfl | exact mem_at 1 rfl | exact mem_at 2 rfl | exact mem_at 3 rfl | exact mem_at 4 rfl | exact mem_at 5 rfl | exact mem_at 6 rfl | exact mem_at 7 rfl | exact mem_at 8 rfl | exact mem_at 9 rfl | exact mem_at 10 rfl | exact mem_at 11 rfl | exact mem_at 12 rfl | exact mem_at 13 rfl | exact mem_at 14 rfl | exact mem_at 15 rfl | exact mem_at 16 rfl | exact mem_at 17 rfl | exact mem_at 18 rfl | exact mem_at 19 rfl | exact mem_at 20 rfl | exact mem_at 21 rfl) rfl ?_)))) asgAll_nil))
    · intro i hi _
      rw [List.length_map] at hi
      obtain ⟨n, hn⟩ : ∃ n, ns[i]? = some n := ⟨_, List.getElem?_eq_getElem hi⟩
      have hle := layUp_le (q := sQ) (xs := ns.map (fill fl 60 sz)) (k := i)
      have hsd := strs_sorted (ns.map (fill fl 60 sz)) i
      simp only [hn, layUp_succ (q := sQ) (xs := ns.map (fill fl 60 sz)) (k := i) (x := fill fl 60 sz n) (by rw [List.getElem?_map, hn]; rfl)]
      generalize layUp sQ (ns.map (fill fl 60 sz)) i = R at hle hsd ⊢
      generalize fill fl 60 sz n = x
      rw [insAtP_map]
      exact ex_one (ex_weakO (Sb.g (by repeat (first | exact Sb.nil | refine Sb.cons (by first | exact mem_at 0 rfl | exact mem_at 1 rfl | exact mem_at 2 rfl | exact mem_at 3 rfl | exact mem_at 4 rfl | exact mem_at 5 rfl | exact mem_at 6 rfl | exact mem_at 7 rfl | exact mem_at 8 rfl | exact mem_at 9 rfl | exact mem_at 10 rfl | exact mem_at 11 rfl | exact mem_at 12 rfl | exact mem_at 13 rfl | exact mem_at 14 rfl | exact mem_at 15 rfl | exact mem_at 16 rfl | exact mem_at 17 rfl | exact mem_at 18 rfl | exact mem_at 19 rfl | exact mem_at 20 rfl | exact mem_at 21 rfl) ?_))) (ex_mut (ds := R.map sD) (args := [.dat (sD x)]) (ev_glob rfl ((I.into _).gl rfl)) (evl_cons (ev_var (by first | exact mem_at 0 rfl | exact mem_at 1 rfl | exact mem_at 2 rfl | exact mem_at 3 rfl | exact mem_at 4 rfl | exact mem_at 5 rfl | exact mem_at 6 rfl | exact mem_at 7 rfl | exact mem_at 8 rfl | exact mem_at 9 rfl | exact mem_at 10 rfl | exact mem_at 11 rfl | exact mem_at 12 rfl | exact mem_at 13 rfl | exact mem_at 14 rfl | exact mem_at 15 rfl | exact mem_at 16 rfl | exact mem_at 17 rfl | exact mem_at 18 rfl | exact mem_at 19 rfl | exact mem_at 20 rfl | exact mem_at 21 rfl)) evl_nil) evkw_nil (fun _ _ p => ⟨p.st.g _ _ ((I.into _).at (a := 37) rfl), rfl⟩)
        (ir_none (I.into _) (by show 1 < C.fuel - 1; (first | lia | omega)) (by rw [List.length_map]; (first | lia | omega)) (by rw [List.length_map]; exact List.countP_le_length) (strs_lt hsd)) (hno := noLst_ok rfl) (hi := rfl)))

theorem sp_mirror (I : Is1 P C) (hf : 0 < C.fuel) {n : Nat} {b : Bool} (hn : n ≤ 5) :
    CallOk C (.ref 176) [.dat (.int (n : Int)), .dat (.bool b)] [] [] (.dat (.list ((mUp b n n).reverse.map sD))) :=
  callOk_of fun ok W s vs ks S hx hy => by
    obtain ⟨_, _, rfl, r1, r2⟩ := BAll.inv2 hx
    obtain rfl := BAll.inv0 hy
    refine enter ok (by first | decide | assumption | with_reducible exact Int.natCast_nonneg _ | with_reducible exact Nat.le_trans (by assumption) (by decide) | with_reducible exact Nat.lt_of_lt_of_le (by assumption) (by decide) | with_reducible exact lt_mil (Nat.lt_of_lt_of_le (by assumption) (by decide)) | with_reducible exact lt_mil (Nat.lt_of_le_of_lt (by assumption) (by decide)) | with_reducible exact Nat.le_trans (Nat.le_of_lt (by assumption)) (by decide) | (first | lia | omega)) S (I.lk (a := 176) rfl) (by rw [I.K]; rfl) (binds := [(Str.ofString "many", _), (Str.ofString "turned", _)]) (kp_binds (K := hd1.heap_39 P) (I.inn S) (fun _ => rfl))
      (.cons r1 (.cons r2 .nil)) (show [Str.ofString "many", Str.ofString "turned"].Nodup by decide) rfl fun L => ?_
    have h32 : ∀ k, k ≤ 5 → (mUp b n k).length ≤ 32 := fun k hk => by rw [mUp_len]; exact Nat.pow_le_pow_right (n := 2) (by first | decide | assumption | with_reducible exact Int.natCast_nonneg _ | with_reducible exact Nat.le_trans (by assumption) (by decide) | with_reducible exact Nat.lt_of_lt_of_le (by assumption) (by decide) | with_reducible exact lt_mil (Nat.lt_of_lt_of_le (by assumption) (by decide)) | with_reducible exact lt_mil (Nat.lt_of_le_of_lt (by assumption) (by decide)) | with_reducible exact Nat.le_trans (Nat.le_of_lt (by assumption)) (by decide) | (first | lia | omega)) hk
    refine ex_cons (ex_assign (Γ' := [(Str.ofString "names", .dat (.list ((mUp b n 0).map sD))), (Str.ofString "many", .dat (.int (n : Int))), (Str.ofString "turned", .dat (.bool b))]) (ev_list (evd_cons (ev_strL (l := []) rfl) evd_nil)) (by first | exact Or.inl rfl | exact Or.inr ⟨rfl, rfl, rfl⟩) (by intro y ds e; first | (cases e; done) | (cases e; decide)) (Pk.g (by repeat (first | exact Pk.nil | refine Pk.here ?_ | refine Pk.cons (by first | exact mem_at 0 rfl | exact mem_at 1 rfl | exact mem_at 2 rfl | exact mem_at 3 rfl | exact mem_at 4 rfl | exact mem_at 5 rfl | exact mem_at 6 rfl | exact mem_at 7 rfl | exact mem_at 8 rfl | exact mem_at 9 rfl | exact mem_at 10 rfl | exact mem_at 11 rfl | exact mem_at 12 rfl | exact mem_at 13 rfl | exact mem_at 14 rfl | exact mem_at 15 rfl | exact mem_at 16 rfl | exact mem_at 17 rfl | exact mem_at 18 rfl | exact mem_at 19 rfl | exact mem_at 20 rfl | exact mem_at 21 rfl) rfl ?_)))) ?_
    refine ex_cons (Γ₁ := [(Str.ofString "names", .dat (.list ((mUp b n n).map sD))), (Str.ofString "many", .dat (.int (n : Int))), (Str.ofString "turned", .dat (.bool b))]) (own₁ := none) ?_ (ex_one (ex_return (ev_eq (ev_slice (ev_lst (ev_var (b := .dat (.list ((mUp b n n).map sD))) (by first | exact mem_at 0 rfl | exact mem_at 1 rfl | exact mem_at 2 rfl | exact mem_at 3 rfl | exact mem_at 4 rfl | exact mem_at 5 rfl | exact mem_at 6 rfl | exact mem_at 7 rfl | exact mem_at 8 rfl | exact mem_at 9 rfl | exact mem_at 10 rfl | exact mem_at 11 rfl | exact mem_at 12 rfl | exact mem_at 13 rfl | exact mem_at 14 rfl | exact mem_at 15 rfl | exact mem_at 16 rfl | exact mem_at 17 rfl | exact mem_at 18 rfl | exact mem_at 19 rfl | exact mem_at 20 rfl | exact mem_at 21 rfl))) evp_none evp_none (evp_some (ev_neg ev_int)) (sliceR_list_rev (by rw [List.length_map]; have := h32 n hn; (first | lia | omega)))) (by rw [List.map_reverse]))))
    refine ex_for (items := (List.range n).reverse.map fun i : Nat => PyData.int (i : Int)) (fun i => [(Str.ofString "names", .dat (.list ((mUp b n i).map sD))), (Str.ofString "many", .dat (.int (n : Int))), (Str.ofString "turned", .dat (.bool b))])
      (fun i => [(Str.ofString "k", .dat (.int ((n - 1 - i : Nat) : Int))), (Str.ofString "names", .dat (.list ((mUp b n i).map sD))), (Str.ofString "many", .dat (.int (n : Int))), (Str.ofString "turned", .dat (.bool b))]) (fun i => none) n ?_ ?_ ?_ (.inl ⟨by simp, rfl⟩)
    · exact evi_rangeDown (n := (n : Int)) (ev_builtin rfl ((I.into _).gl rfl) rfl) (ev_bin (ev_var (by first | exact mem_at 0 rfl | exact mem_at 1 rfl | exact mem_at 2 rfl | exact mem_at 3 rfl | exact mem_at 4 rfl | exact mem_at 5 rfl | exact mem_at 6 rfl | exact mem_at 7 rfl | exact mem_at 8 rfl | exact mem_at 9 rfl | exact mem_at 10 rfl | exact mem_at 11 rfl | exact mem_at 12 rfl | exact mem_at 13 rfl | exact mem_at 14 rfl | exact mem_at 15 rfl | exact mem_at 16 rfl | exact mem_at 17 rfl | exact mem_at 18 rfl | exact mem_at 19 rfl | exact mem_at 20 rfl | exact mem_at 21 rfl)) ev_int binR_sub_int) (ev_neg ev_int) (ev_neg ev_int) (by first | decide | assumption | with_reducible exact Int.natCast_nonneg _ | with_reducible exact Nat.le_trans (by assumption) (by decide) | with_reducible exact Nat.lt_of_lt_of_le (by assumption) (by decide) | with_reducible exact lt_mil (Nat.lt_of_lt_of_le (by assumption) (by decide)) | with_reducible exact lt_mil (Nat.lt_of_le_of_lt (by assumption) (by decide)) | with_reducible exact Nat.le_trans (Nat.le_of_lt (by assumption)) (by decide) | (first | lia | omega))
    · intro i hi _
      rw [range_down hi]
      exact asg_name (by first | exact Or.inl rfl | exact Or.inr ⟨rfl, rfl, rfl⟩) (by intro y ds e; first | (cases e; done) | (cases e; decide)) (Pk.g (by repeat (first | exact Pk.nil | refine Pk.here ?_ | refine Pk.cons (by first | exact mem_at 0 rfl | exact mem_at 1 rfl | exact mem_at 2 rfl | exact mem_at 3 rfl | exact mem_at 4 rfl | exact mem_at 5 rfl | exact mem_at 6 rfl | exact mem_at 7 rfl | exact mem_at 8 rfl | exact mem_at 9 rfl | exact mem_at 10 rfl | exact mem_at 11 rfl | exact mem_at 12 rfl | exact mem_at 13 rfl | exact mem_at 14 rfl | exact mem_at 15 rfl | exact mem_at 16 rfl | exact mem_at 17 rfl | exact mem_at 18 rfl | exact mem_at 19 rfl | exact mem_at 20 rfl | exact mem_at 21 rfl) rfl ?_)))
    · intro i hi _
      rw [List.length_map, List.length_reverse, List.length_range] at hi
      have hb := h32 i (by first | decide | assumption | with_reducible exact Int.natCast_nonneg _ | with_reducible exact Nat.le_trans (by assumption) (by decide) | with_reducible exact Nat.lt_of_lt_of_le (by assumption) (by decide) | with_reducible exact lt_mil (Nat.lt_of_lt_of_le (by assumption) (by decide)) | with_reducible exact lt_mil (Nat.lt_of_le_of_lt (by assumption) (by decide)) | with_reducible exact Nat.le_trans (Nat.le_of_lt (by assumption)) (by decide) | (first | lia | omega))
      have hok := mUp_ok (turned := b) (many := n) i (by first | decide | assumption | with_reducible exact Int.natCast_nonneg _ | with_reducible exact Nat.le_trans (by assumption) (by decide) | with_reducible exact Nat.lt_of_lt_of_le (by assumption) (by decide) | with_reducible exact lt_mil (Nat.lt_of_lt_of_le (by assumption) (by decide)) | with_reducible exact lt_mil (Nat.lt_of_le_of_lt (by assumption) (by decide)) | with_reducible exact Nat.le_trans (Nat.le_of_lt (by assumption)) (by decide) | (first | lia | omega))
      have hup : mUp b n (i + 1) = mUp b n i ++ (if b then (mUp b n i).reverse else mUp b n i).map fun x => (48 + (n - 1 - i)) :: x := rfl
      rw [hup]
      generalize mUp b n i = M at hb hok ⊢
      have hk5 : n - 1 - i < 5 := by (first | lia | omega)
      generalize n - 1 - i = k at hk5
      have hN : (if b then M.reverse else M).length ≤ 32 := by cases b <;> simpa using hb
      have hNl : ∀ x ∈ (if b then M.reverse else M), x.length ≤ 5 := fun x hx => by
        have hx : x ∈ M := by cases b <;> simpa using hx
        have := (hok x hx).1
        (first | lia | omega)
      have hNe : PyData.list ((if b then M.reverse else M).map sD) = if b then .list (M.map sD).reverse else .list (M.map sD) := by cases b <;> simp
      generalize (if b then M.reverse else M) = N at hN hNl hNe ⊢
      refine ex_one (ex_assign (ev_eq (b := .dat (.list ((M ++ N.map fun x => (48 + k) :: x).map sD))) (ev_bin (ev_lst (ev_var (b := .dat (.list (M.map sD))) (by first | exact mem_at 0 rfl | exact mem_at 1 rfl | exact mem_at 2 rfl | exact mem_at 3 rfl | exact mem_at 4 rfl | exact mem_at 5 rfl | exact mem_at 6 rfl | exact mem_at 7 rfl | exact mem_at 8 rfl | exact mem_at 9 rfl | exact mem_at 10 rfl | exact mem_at 11 rfl | exact mem_at 12 rfl | exact mem_at 13 rfl | exact mem_at 14 rfl | exact mem_at 15 rfl | exact mem_at 16 rfl | exact mem_at 17 rfl | exact mem_at 18 rfl | exact mem_at 19 rfl | exact mem_at 20 rfl | exact mem_at 21 rfl))) (ev_lst (ev_acomp [(Str.ofString "k", L + 1)] [(Str.ofString "k", .dat (.int (k : Int)))] (fun _ => true) (preD k) ((N.map fun x => (48 + k) :: x).map sD) (evi_list (ev_eq (b := .dat (.list (N.map sD))) (ev_ifexp (c := b) (d := .dat (if b then .list (M.map sD).reverse else .list (M.map sD))) (et_bool (ev_var (by first | exact mem_at 0 rfl | exact mem_at 1 rfl | exact mem_at 2 rfl | exact mem_at 3 rfl | exact mem_at 4 rfl | exact mem_at 5 rfl | exact mem_at 6 rfl | exact mem_at 7 rfl | exact mem_at 8 rfl | exact mem_at 9 rfl | exact mem_at 10 rfl | exact mem_at 11 rfl | exact mem_at 12 rfl | exact mem_at 13 rfl | exact mem_at 14 rfl | exact mem_at 15 rfl | exact mem_at 16 rfl | exact mem_at 17 rfl | exact mem_at 18 rfl | exact mem_at 19 rfl | exact mem_at 20 rfl | exact mem_at 21 rfl))) (fun e => ev_eq (ev_slice (ev_lst (ev_var (b := .dat (.list (M.map sD))) (by first | exact mem_at 0 rfl | exact mem_at 1 rfl | exact mem_at 2 rfl | exact mem_at 3 rfl | exact mem_at 4 rfl | exact mem_at 5 rfl | exact mem_at 6 rfl | exact mem_at 7 rfl | exact mem_at 8 rfl | exact mem_at 9 rfl | exact mem_at 10 rfl | exact mem_at 11 rfl | exact mem_at 12 rfl | exact mem_at 13 rfl | exact mem_at 14 rfl | exact mem_at 15 rfl | exact mem_at 16 rfl | exact mem_at 17 rfl | exact mem_at 18 rfl | exact mem_at 19 rfl | exact mem_at 20 rfl | exact mem_at 21 rfl))) evp_none evp_none (evp_some (ev_neg ev_int)) (sliceR_list_rev (by rw [List.length_map]; (first | lia | omega)))) (by rw [if_pos e])) (fun e => ev_eq (ev_var (b := .dat (.list (M.map sD))) (by first | exact mem_at 0 rfl | exact mem_at 1 rfl | exact mem_at 2 rfl | exact mem_at 3 rfl | exact mem_at 4 rfl | exact mem_at 5 rfl | exact mem_at 6 rfl | exact mem_at 7 rfl | exact mem_at 8 rfl | exact mem_at 9 rfl | exact mem_at 10 rfl | exact mem_at 11 rfl | exact mem_at 12 rfl | exact mem_at 13 rfl | exact mem_at 14 rfl | exact mem_at 15 rfl | exact mem_at 16 rfl | exact mem_at 17 rfl | exact mem_at 18 rfl | exact mem_at 19 rfl | exact mem_at 20 rfl | exact mem_at 21 rfl)) (by rw [e]; rfl))) (congrArg Bd.dat hNe.symm)))
        (by rw [List.length_map]; (first | lia | omega)) (by rw [filter_tt', List.map_map, List.map_map]; rfl) ?_ (by intro q hq; repeat (first | (rcases List.mem_cons.mp hq with rfl | hq; exact ⟨(by first | exact mem_at 0 rfl | exact mem_at 1 rfl | exact mem_at 2 rfl | exact mem_at 3 rfl | exact mem_at 4 rfl | exact mem_at 5 rfl | exact mem_at 6 rfl | exact mem_at 7 rfl | exact mem_at 8 rfl | exact mem_at 9 rfl | exact mem_at 10 rfl | exact mem_at 11 rfl | exact mem_at 12 rfl | exact mem_at 13 rfl | exact mem_at 14 rfl | exact mem_at 15 rfl | exact mem_at 16 rfl | exact mem_at 17 rfl | exact mem_at 18 rfl | exact mem_at 19 rfl | exact mem_at 20 rfl | exact mem_at 21 rfl), show (some NameKind.cell : Option NameKind) ≠ some .local by decide, by first | exact Or.inl rfl | exact Or.inr ⟨rfl, rfl⟩, rfl⟩) | cases hq)) rfl (lookup_sub (by intro p hp; repeat (first | (rcases List.mem_cons.mp hp with rfl | hp; exact rfl) | cases hp))))) (binR_add_list (by rw [List.length_map, List.length_map, List.length_map]; (first | lia | omega)))) (by rw [List.map_append])) (by first | exact Or.inl rfl | exact Or.inr ⟨rfl, rfl, rfl⟩) (by intro y ds e; first | (cases e; done) | (cases e; decide)) (Pk.g (by repeat (first | exact Pk.nil | refine Pk.here ?_ | refine Pk.cons (by first | exact mem_at 0 rfl | exact mem_at 1 rfl | exact mem_at 2 rfl | exact mem_at 3 rfl | exact mem_at 4 rfl | exact mem_at 5 rfl | exact mem_at 6 rfl | exact mem_at 7 rfl | exact mem_at 8 rfl | exact mem_at 9 rfl | exact mem_at 10 rfl | exact mem_at 11 rfl | exact mem_at 12 rfl | exact mem_at 13 rfl | exact mem_at 14 rfl | exact mem_at 15 rfl | exact mem_at 16 rfl | exact mem_at 17 rfl | exact mem_at 18 rfl | exact mem_at 19 rfl | exact mem_at 20 rfl | exact mem_at 21 rfl) rfl ?_))))
      intro L' d hd
      obtain ⟨x, hx, rfl⟩ := List.mem_map.mp hd
      have hxl := hNl x hx
      refine ⟨[(Str.ofString "name", .dat (sD x)), (Str.ofString "k", .dat (.int (k : Int)))], asg_name (by first | exact Or.inl rfl | exact Or.inr ⟨rfl, rfl, rfl⟩) (by intro y ds e; first | (cases e; done) | (cases e; decide)) (Pk.g (by repeat (first | exact Pk.nil | refine Pk.here ?_ | refine Pk.cons (by first | exact mem_at 0 rfl | exact mem_at 1 rfl | exact mem_at 2 rfl | exact mem_at 3 rfl | exact mem_at 4 rfl | exact mem_at 5 rfl | exact mem_at 6 rfl | exact mem_at 7 rfl | exact mem_at 8 rfl | exact mem_at 9 rfl | exact mem_at 10 rfl | exact mem_at 11 rfl | exact mem_at 12 rfl | exact mem_at 13 rfl | exact mem_at 14 rfl | exact mem_at 15 rfl | exact mem_at 16 rfl | exact mem_at 17 rfl | exact mem_at 18 rfl | exact mem_at 19 rfl | exact mem_at 20 rfl | exact mem_at 21 rfl) rfl ?_))), evts_nil, fun _ => ?_⟩
      refine ev_eq (ev_bin (ev_item (ev_strL (l := [48, 49, 50, 51, 52]) rfl) (ev_var (by first | exact mem_at 0 rfl | exact mem_at 1 rfl | exact mem_at 2 rfl | exact mem_at 3 rfl | exact mem_at 4 rfl | exact mem_at 5 rfl | exact mem_at 6 rfl | exact mem_at 7 rfl | exact mem_at 8 rfl | exact mem_at 9 rfl | exact mem_at 10 rfl | exact mem_at 11 rfl | exact mem_at 12 rfl | exact mem_at 13 rfl | exact mem_at 14 rfl | exact mem_at 15 rfl | exact mem_at 16 rfl | exact mem_at 17 rfl | exact mem_at 18 rfl | exact mem_at 19 rfl | exact mem_at 20 rfl | exact mem_at 21 rfl)) (getR_str (c := 48 + k) (by first | decide | assumption | with_reducible exact Int.natCast_nonneg _ | with_reducible exact Nat.le_trans (by assumption) (by decide) | with_reducible exact Nat.lt_of_lt_of_le (by assumption) (by decide) | with_reducible exact lt_mil (Nat.lt_of_lt_of_le (by assumption) (by decide)) | with_reducible exact lt_mil (Nat.lt_of_le_of_lt (by assumption) (by decide)) | with_reducible exact Nat.le_trans (Nat.le_of_lt (by assumption)) (by decide) | (first | lia | omega)) ?_ (by first | decide | assumption | with_reducible exact Int.natCast_nonneg _ | with_reducible exact Nat.le_trans (by assumption) (by decide) | with_reducible exact Nat.lt_of_lt_of_le (by assumption) (by decide) | with_reducible exact lt_mil (Nat.lt_of_lt_of_le (by assumption) (by decide)) | with_reducible exact lt_mil (Nat.lt_of_le_of_lt (by assumption) (by decide)) | with_reducible exact Nat.le_trans (Nat.le_of_lt (by assumption)) (by decide) | (first | lia | omega)))) (ev_var (b := .dat (.str (st x))) (by first | exact mem_at 0 rfl | exact mem_at 1 rfl | exact mem_at 2 rfl | exact mem_at 3 rfl | exact mem_at 4 rfl | exact mem_at 5 rfl | exact mem_at 6 rfl | exact mem_at 7 rfl | exact mem_at 8 rfl | exact mem_at 9 rfl | exact mem_at 10 rfl | exact mem_at 11 rfl | exact mem_at 12 rfl | exact mem_at 13 rfl | exact mem_at 14 rfl | exact mem_at 15 rfl | exact mem_at 16 rfl | exact mem_at 17 rfl | exact mem_at 18 rfl | exact mem_at 19 rfl | exact mem_at 20 rfl | exact mem_at 21 rfl)) (binR_add_str (by simp; (first | lia | omega)))) rfl
      rw [Int.toNat_natCast]
      have : k = 0 ∨ k = 1 ∨ k = 2 ∨ k = 3 ∨ k = 4 := by (first | lia | omega)
      rcases this with rfl | rfl | rfl | rfl | rfl <;> rfl

theorem steps_prev {row : List (List Nat)} {k : Nat} (hk : k < row.length) (h1000 : row.length ≤ 1000) {F : Fm} : GetR F (.lst (row.map sD)) (.dat (.int ((k : Int) - 1))) (.dat (sD (row.getD (if k = 0 then row.length - 1 else k - 1) []))) := by
  by_cases h : k = 0
  · subst h
    have e : (((0 : Nat) : Int) - 1) = -1 := by (first | lia | omega)
    rw [e, if_pos rfl]
    refine getR_list_last ?_ (by rw [List.length_map]; (first | lia | omega))
    rw [List.getLast?_eq_getElem?, List.length_map, List.getElem?_map, List.getD_eq_getElem?_getD, List.getElem?_eq_getElem (by first | decide | assumption | with_reducible exact Int.natCast_nonneg _ | with_reducible exact Nat.le_trans (by assumption) (by decide) | with_reducible exact Nat.lt_of_lt_of_le (by assumption) (by decide) | with_reducible exact lt_mil (Nat.lt_of_lt_of_le (by assumption) (by decide)) | with_reducible exact lt_mil (Nat.lt_of_le_of_lt (by assumption) (by decide)) | with_reducible exact Nat.le_trans (Nat.le_of_lt (by assumption)) (by decide) | (first | lia | omega))]
    rfl
  · rw [if_neg h]
    refine getR_list (by first | decide | assumption | with_reducible exact Int.natCast_nonneg _ | with_reducible exact Nat.le_trans (by assumption) (by decide) | with_reducible exact Nat.lt_of_lt_of_le (by assumption) (by decide) | with_reducible exact lt_mil (Nat.lt_of_lt_of_le (by assumption) (by decide)) | with_reducible exact lt_mil (Nat.lt_of_le_of_lt (by assumption) (by decide)) | with_reducible exact Nat.le_trans (Nat.le_of_lt (by assumption)) (by decide) | (first | lia | omega)) ?_ (by first | decide | assumption | with_reducible exact Int.natCast_nonneg _ | with_reducible exact Nat.le_trans (by assumption) (by decide) | with_reducible exact Nat.lt_of_lt_of_le (by assumption) (by decide) | with_reducible exact lt_mil (Nat.lt_of_lt_of_le (by assumption) (by decide)) | with_reducible exact lt_mil (Nat.lt_of_le_of_lt (by assumption) (by decide)) | with_reducible exact Nat.le_trans (Nat.le_of_lt (by assumption)) (by decide) | (first | lia | omega))
    rw [show ((k : Int) - 1).toNat = k - 1 by (first | lia | omega), List.getElem?_map, List.getD_eq_getElem?_getD, List.getElem?_eq_getElem (by first | decide | assumption | with_reducible exact Int.natCast_nonneg _ | with_reducible exact Nat.le_trans (by assumption) (by decide) | with_reducible exact Nat.lt_of_lt_of_le (by assumption) (by decide) | with_reducible exact lt_mil (Nat.lt_of_lt_of_le (by assumption) (by decide)) | with_reducible exact lt_mil (Nat.lt_of_le_of_lt (by assumption) (by decide)) | with_reducible exact Nat.le_trans (Nat.le_of_lt (by assumption)) (by decide) | (first | lia | omega))]
    rfl
theorem steps_this {row : List (List Nat)} {k : Nat} (hk : k < row.length) (h1000 : row.length ≤ 1000) {F : Fm} : GetR F (.lst (row.map sD)) (.dat (.int (k : Int))) (.dat (sD (row.getD k []))) := by
  refine getR_list (by first | decide | assumption | with_reducible exact Int.natCast_nonneg _ | with_reducible exact Nat.le_trans (by assumption) (by decide) | with_reducible exact Nat.lt_of_lt_of_le (by assumption) (by decide) | with_reducible exact lt_mil (Nat.lt_of_lt_of_le (by assumption) (by decide)) | with_reducible exact lt_mil (Nat.lt_of_le_of_lt (by assumption) (by decide)) | with_reducible exact Nat.le_trans (Nat.le_of_lt (by assumption)) (by decide) | (first | lia | omega)) ?_ (by first | decide | assumption | with_reducible exact Int.natCast_nonneg _ | with_reducible exact Nat.le_trans (by assumption) (by decide) | with_reducible exact Nat.lt_of_lt_of_le (by assumption) (by decide) | with_reducible exact lt_mil (Nat.lt_of_lt_of_le (by assumption) (by decide)) | with_reducible exact lt_mil (Nat.lt_of_le_of_lt (by assumption) (by decide)) | with_reducible exact Nat.le_trans (Nat.le_of_lt (by assumption)) (by decide) | (first | lia | omega))
  rw [Int.toNat_natCast, List.getElem?_map, List.getD_eq_getElem?_getD, List.getElem?_eq_getElem hk]
  rfl
theorem sp_steps (I : Is1 P C) (hf : 0 < C.fuel) {row : List (List Nat)} (hz : row.length ≤ 100) (hl : ∀ n ∈ row, n.length ≤ 100) :
    CallOk C (.ref 181) [.dat (.list (row.map sD))] [] [] (.dat (.list (((List.range row.length).map fun k => ((stepAt row k : Nat) : Int)).map .int))) :=
  callOk_of fun ok W s vs ks S hx hy => by
    obtain ⟨_, rfl, r1⟩ := BAll.inv1 hx
    obtain rfl := BAll.inv0 hy
    refine enter ok (by first | decide | assumption | with_reducible exact Int.natCast_nonneg _ | with_reducible exact Nat.le_trans (by assumption) (by decide) | with_reducible exact Nat.lt_of_lt_of_le (by assumption) (by decide) | with_reducible exact lt_mil (Nat.lt_of_lt_of_le (by assumption) (by decide)) | with_reducible exact lt_mil (Nat.lt_of_le_of_lt (by assumption) (by decide)) | with_reducible exact Nat.le_trans (Nat.le_of_lt (by assumption)) (by decide) | (first | lia | omega)) S (I.lk (a := 181) rfl) (by rw [I.K]; rfl) (binds := [(Str.ofString "row", _)]) (kp_binds (K := hd1.heap_39 P) (I.inn S) (fun _ => rfl))
      (.cons r1 .nil) (show [Str.ofString "row"].Nodup by decide) rfl fun L => ?_
    have hgl : ∀ k, (row.getD k []).length ≤ 100 := fun k => by
      rw [List.getD_eq_getElem?_getD]
      cases e : row[k]? with
      | none => simp
      | some n => exact hl n (List.mem_of_getElem? e)
    refine ex_cons (ex_assign_own (Γ' := [(Str.ofString "row", .dat (.list (row.map sD)))]) evn_nil (by first | exact Or.inl rfl | exact Or.inr ⟨rfl, rfl, rfl⟩) (Pq.g (by repeat (first | exact Pq.nil | refine Pq.cons (by first | exact mem_at 0 rfl | exact mem_at 1 rfl | exact mem_at 2 rfl | exact mem_at 3 rfl | exact mem_at 4 rfl | exact mem_at 5 rfl | exact mem_at 6 rfl | exact mem_at 7 rfl | exact mem_at 8 rfl | exact mem_at 9 rfl | exact mem_at 10 rfl | exact mem_at 11 rfl | exact mem_at 12 rfl | exact mem_at 13 rfl | exact mem_at 14 rfl | exact mem_at 15 rfl | exact mem_at 16 rfl | exact mem_at 17 rfl | exact mem_at 18 rfl | exact mem_at 19 rfl | exact mem_at 20 rfl | exact mem_at 21 rfl) rfl ?_)))) ?_
    refine ex_cons (Γ₁ := [(Str.ofString "row", .dat (.list (row.map sD)))]) (own₁ := some (Str.ofString "steps", ((List.range row.length).map fun k => ((stepAt row k : Nat) : Int)).map .int)) ?_ (ex_freeze (ex_one (ex_return (ev_var (by first | exact mem_at 0 rfl | exact mem_at 1 rfl | exact mem_at 2 rfl | exact mem_at 3 rfl | exact mem_at 4 rfl | exact mem_at 5 rfl | exact mem_at 6 rfl | exact mem_at 7 rfl | exact mem_at 8 rfl | exact mem_at 9 rfl | exact mem_at 10 rfl | exact mem_at 11 rfl | exact mem_at 12 rfl | exact mem_at 13 rfl | exact mem_at 14 rfl | exact mem_at 15 rfl | exact mem_at 16 rfl | exact mem_at 17 rfl | exact mem_at 18 rfl | exact mem_at 19 rfl | exact mem_at 20 rfl | exact mem_at 21 rfl)))))
    refine ex_for (items := (List.range row.length).map fun i : Nat => PyData.int (i : Int)) (fun i => [(Str.ofString "row", .dat (.list (row.map sD)))])
      (fun i => [(Str.ofString "k", .dat (.int (i : Int))), (Str.ofString "row", .dat (.list (row.map sD)))]) (fun i => some (Str.ofString "steps", ((List.range i).map fun k => ((stepAt row k : Nat) : Int)).map .int)) row.length ?_ ?_ ?_ (.inl ⟨by simp, rfl⟩)
    · exact evi_range1 (n := (row.length : Int)) (ev_builtin rfl ((I.into _).gl rfl) rfl) (ev_eq (ev_call_bi (ev_builtin rfl ((I.into _).gl rfl) rfl) (evl_cons (ev_lst (ev_var (b := .dat (.list (row.map sD))) (by first | exact mem_at 0 rfl | exact mem_at 1 rfl | exact mem_at 2 rfl | exact mem_at 3 rfl | exact mem_at 4 rfl | exact mem_at 5 rfl | exact mem_at 6 rfl | exact mem_at 7 rfl | exact mem_at 8 rfl | exact mem_at 9 rfl | exact mem_at 10 rfl | exact mem_at 11 rfl | exact mem_at 12 rfl | exact mem_at 13 rfl | exact mem_at 14 rfl | exact mem_at 15 rfl | exact mem_at 16 rfl | exact mem_at 17 rfl | exact mem_at 18 rfl | exact mem_at 19 rfl | exact mem_at 20 rfl | exact mem_at 21 rfl))) evl_nil) (callOk_len_list (by rw [List.length_map]; (first | lia | omega)))) (by rw [List.length_map])) (by first | decide | assumption | with_reducible exact Int.natCast_nonneg _ | with_reducible exact Nat.le_trans (by assumption) (by decide) | with_reducible exact Nat.lt_of_lt_of_le (by assumption) (by decide) | with_reducible exact lt_mil (Nat.lt_of_lt_of_le (by assumption) (by decide)) | with_reducible exact lt_mil (Nat.lt_of_le_of_lt (by assumption) (by decide)) | with_reducible exact Nat.le_trans (Nat.le_of_lt (by assumption)) (by decide) | (first | lia | omega))
    · intro i hi _
      rw [range_at hi]
      exact asg_name (by first | exact Or.inl rfl | exact Or.inr ⟨rfl, rfl, rfl⟩) (by intro y ds e; first | (cases e; done) | (cases e; decide)) (Pk.g (by repeat (first | exact Pk.nil | refine Pk.here ?_ | refine Pk.cons (by first | exact mem_at 0 rfl | exact mem_at 1 rfl | exact mem_at 2 rfl | exact mem_at 3 rfl | exact mem_at 4 rfl | exact mem_at 5 rfl | exact mem_at 6 rfl | exact mem_at 7 rfl | exact mem_at 8 rfl | exact mem_at 9 rfl | exact mem_at 10 rfl | exact mem_at 11 rfl | exact mem_at 12 rfl | exact mem_at 13 rfl | exact mem_at 14 rfl | exact mem_at 15 rfl | exact mem_at 16 rfl | exact mem_at 17 rfl | exact mem_at 18 rfl | exact mem_at 19 rfl | exact mem_at 20 rfl | exact mem_at 21 rfl) rfl ?_)))
    · intro i hi _
      rw [List.length_map, List.length_range] at hi
      have hA := hgl (if i = 0 then row.length - 1 else i - 1)
      have hB := hgl i
      have hgA := fun (F : Fm) => steps_prev (row := row) hi (by first | decide | assumption | with_reducible exact Int.natCast_nonneg _ | with_reducible exact Nat.le_trans (by assumption) (by decide) | with_reducible exact Nat.lt_of_lt_of_le (by assumption) (by decide) | with_reducible exact lt_mil (Nat.lt_of_lt_of_le (by assumption) (by decide)) | with_reducible exact lt_mil (Nat.lt_of_le_of_lt (by assumption) (by decide)) | with_reducible exact Nat.le_trans (Nat.le_of_lt (by assumption)) (by decide) | (first | lia | omega)) (F := F)
      have hgB := fun (F : Fm) => steps_this (row := row) hi (by first | decide | assumption | with_reducible exact Int.natCast_nonneg _ | with_reducible exact Nat.le_trans (by assumption) (by decide) | with_reducible exact Nat.lt_of_lt_of_le (by assumption) (by decide) | with_reducible exact lt_mil (Nat.lt_of_lt_of_le (by assumption) (by decide)) | with_reducible exact lt_mil (Nat.lt_of_le_of_lt (by assumption) (by decide)) | with_reducible exact Nat.le_trans (Nat.le_of_lt (by assumption)) (by decide) | (first | lia | omega)) (F := F)
      have hst : stepAt row i = max ((row.getD (if i = 0 then row.length - 1 else i - 1) []).filter fun c => decide (c ∉ row.getD i [])).length ((row.getD i []).filter fun c => decide (c ∉ row.getD (if i = 0 then row.length - 1 else i - 1) [])).length := rfl
      generalize row.getD (if i = 0 then row.length - 1 else i - 1) [] = A at hA hgA hst
      generalize row.getD i [] = B at hB hgB hst
      have hu := List.length_filter_le (fun c => decide (c ∉ B)) A
      have hv := List.length_filter_le (fun c => decide (c ∉ A)) B
      refine ex_cons (ex_acomp (Γ' := [(Str.ofString "gone", .dat (.list ((A.filter fun c => decide (c ∉ B)).map sgD))), (Str.ofString "k", .dat (.int (i : Int))), (Str.ofString "row", .dat (.list (row.map sD)))]) [(Str.ofString "row", L + 1), (Str.ofString "k", L + 2)] [(Str.ofString "k", .dat (.int (i : Int))), (Str.ofString "row", .dat (.list (row.map sD)))] (notD B) id ((A.filter fun c => decide (c ∉ B)).map sgD)
        (evi_str (ev_item (ev_lst (ev_var (b := .dat (.list (row.map sD))) (by first | exact mem_at 0 rfl | exact mem_at 1 rfl | exact mem_at 2 rfl | exact mem_at 3 rfl | exact mem_at 4 rfl | exact mem_at 5 rfl | exact mem_at 6 rfl | exact mem_at 7 rfl | exact mem_at 8 rfl | exact mem_at 9 rfl | exact mem_at 10 rfl | exact mem_at 11 rfl | exact mem_at 12 rfl | exact mem_at 13 rfl | exact mem_at 14 rfl | exact mem_at 15 rfl | exact mem_at 16 rfl | exact mem_at 17 rfl | exact mem_at 18 rfl | exact mem_at 19 rfl | exact mem_at 20 rfl | exact mem_at 21 rfl))) (ev_bin (ev_var (by first | exact mem_at 0 rfl | exact mem_at 1 rfl | exact mem_at 2 rfl | exact mem_at 3 rfl | exact mem_at 4 rfl | exact mem_at 5 rfl | exact mem_at 6 rfl | exact mem_at 7 rfl | exact mem_at 8 rfl | exact mem_at 9 rfl | exact mem_at 10 rfl | exact mem_at 11 rfl | exact mem_at 12 rfl | exact mem_at 13 rfl | exact mem_at 14 rfl | exact mem_at 15 rfl | exact mem_at 16 rfl | exact mem_at 17 rfl | exact mem_at 18 rfl | exact mem_at 19 rfl | exact mem_at 20 rfl | exact mem_at 21 rfl)) ev_int binR_sub_int) (hgA _))) (by rw [List.length_map]; (first | lia | omega)) (filter_not A B) ?_ (by intro q hq; repeat (first | (rcases List.mem_cons.mp hq with rfl | hq; exact ⟨(by first | exact mem_at 0 rfl | exact mem_at 1 rfl | exact mem_at 2 rfl | exact mem_at 3 rfl | exact mem_at 4 rfl | exact mem_at 5 rfl | exact mem_at 6 rfl | exact mem_at 7 rfl | exact mem_at 8 rfl | exact mem_at 9 rfl | exact mem_at 10 rfl | exact mem_at 11 rfl | exact mem_at 12 rfl | exact mem_at 13 rfl | exact mem_at 14 rfl | exact mem_at 15 rfl | exact mem_at 16 rfl | exact mem_at 17 rfl | exact mem_at 18 rfl | exact mem_at 19 rfl | exact mem_at 20 rfl | exact mem_at 21 rfl), show (some NameKind.cell : Option NameKind) ≠ some .local by decide, by first | exact Or.inl rfl | exact Or.inr ⟨rfl, rfl⟩, rfl⟩) | cases hq)) rfl (lookup_sub (by intro p hp; repeat (first | (rcases List.mem_cons.mp hp with rfl | hp; exact rfl) | cases hp))) (by rfl) (by first | exact Or.inl rfl | exact Or.inr ⟨rfl, rfl, rfl⟩) (by intro y ds e; first | (cases e; done) | (cases e; decide)) (Pk.g (by repeat (first | exact Pk.nil | refine Pk.here ?_ | refine Pk.cons (by first | exact mem_at 0 rfl | exact mem_at 1 rfl | exact mem_at 2 rfl | exact mem_at 3 rfl | exact mem_at 4 rfl | exact mem_at 5 rfl | exact mem_at 6 rfl | exact mem_at 7 rfl | exact mem_at 8 rfl | exact mem_at 9 rfl | exact mem_at 10 rfl | exact mem_at 11 rfl | exact mem_at 12 rfl | exact mem_at 13 rfl | exact mem_at 14 rfl | exact mem_at 15 rfl | exact mem_at 16 rfl | exact mem_at 17 rfl | exact mem_at 18 rfl | exact mem_at 19 rfl | exact mem_at 20 rfl | exact mem_at 21 rfl) rfl ?_)))) ?_
      · intro L' d hd
        obtain ⟨c, hc, rfl⟩ := List.mem_map.mp hd
        exact ⟨[(Str.ofString "sign", .dat (.str (st [c]))), (Str.ofString "k", .dat (.int (i : Int))), (Str.ofString "row", .dat (.list (row.map sD)))], asg_name (by first | exact Or.inl rfl | exact Or.inr ⟨rfl, rfl, rfl⟩) (by intro y ds e; first | (cases e; done) | (cases e; decide)) (Pk.g (by repeat (first | exact Pk.nil | refine Pk.here ?_ | refine Pk.cons (by first | exact mem_at 0 rfl | exact mem_at 1 rfl | exact mem_at 2 rfl | exact mem_at 3 rfl | exact mem_at 4 rfl | exact mem_at 5 rfl | exact mem_at 6 rfl | exact mem_at 7 rfl | exact mem_at 8 rfl | exact mem_at 9 rfl | exact mem_at 10 rfl | exact mem_at 11 rfl | exact mem_at 12 rfl | exact mem_at 13 rfl | exact mem_at 14 rfl | exact mem_at 15 rfl | exact mem_at 16 rfl | exact mem_at 17 rfl | exact mem_at 18 rfl | exact mem_at 19 rfl | exact mem_at 20 rfl | exact mem_at 21 rfl) rfl ?_))), evts_one (et_cmp (ev_var (by first | exact mem_at 0 rfl | exact mem_at 1 rfl | exact mem_at 2 rfl | exact mem_at 3 rfl | exact mem_at 4 rfl | exact mem_at 5 rfl | exact mem_at 6 rfl | exact mem_at 7 rfl | exact mem_at 8 rfl | exact mem_at 9 rfl | exact mem_at 10 rfl | exact mem_at 11 rfl | exact mem_at 12 rfl | exact mem_at 13 rfl | exact mem_at 14 rfl | exact mem_at 15 rfl | exact mem_at 16 rfl | exact mem_at 17 rfl | exact mem_at 18 rfl | exact mem_at 19 rfl | exact mem_at 20 rfl | exact mem_at 21 rfl)) (ev_item (ev_lst (ev_var (b := .dat (.list (row.map sD))) (by first | exact mem_at 0 rfl | exact mem_at 1 rfl | exact mem_at 2 rfl | exact mem_at 3 rfl | exact mem_at 4 rfl | exact mem_at 5 rfl | exact mem_at 6 rfl | exact mem_at 7 rfl | exact mem_at 8 rfl | exact mem_at 9 rfl | exact mem_at 10 rfl | exact mem_at 11 rfl | exact mem_at 12 rfl | exact mem_at 13 rfl | exact mem_at 14 rfl | exact mem_at 15 rfl | exact mem_at 16 rfl | exact mem_at 17 rfl | exact mem_at 18 rfl | exact mem_at 19 rfl | exact mem_at 20 rfl | exact mem_at 21 rfl))) (ev_var (by first | exact mem_at 0 rfl | exact mem_at 1 rfl | exact mem_at 2 rfl | exact mem_at 3 rfl | exact mem_at 4 rfl | exact mem_at 5 rfl | exact mem_at 6 rfl | exact mem_at 7 rfl | exact mem_at 8 rfl | exact mem_at 9 rfl | exact mem_at 10 rfl | exact mem_at 11 rfl | exact mem_at 12 rfl | exact mem_at 13 rfl | exact mem_at 14 rfl | exact mem_at 15 rfl | exact mem_at 16 rfl | exact mem_at 17 rfl | exact mem_at 18 rfl | exact mem_at 19 rfl | exact mem_at 20 rfl | exact mem_at 21 rfl)) (hgB _)) cmpR_notIn_str), fun _ => ev_var (by first | exact mem_at 0 rfl | exact mem_at 1 rfl | exact mem_at 2 rfl | exact mem_at 3 rfl | exact mem_at 4 rfl | exact mem_at 5 rfl | exact mem_at 6 rfl | exact mem_at 7 rfl | exact mem_at 8 rfl | exact mem_at 9 rfl | exact mem_at 10 rfl | exact mem_at 11 rfl | exact mem_at 12 rfl | exact mem_at 13 rfl | exact mem_at 14 rfl | exact mem_at 15 rfl | exact mem_at 16 rfl | exact mem_at 17 rfl | exact mem_at 18 rfl | exact mem_at 19 rfl | exact mem_at 20 rfl | exact mem_at 21 rfl)⟩
      refine ex_cons (ex_acomp (Γ' := [(Str.ofString "come", .dat (.list ((B.filter fun c => decide (c ∉ A)).map sgD))), (Str.ofString "gone", .dat (.list ((A.filter fun c => decide (c ∉ B)).map sgD))), (Str.ofString "k", .dat (.int (i : Int))), (Str.ofString "row", .dat (.list (row.map sD)))]) [(Str.ofString "row", L + 1), (Str.ofString "k", L + 2)] [(Str.ofString "k", .dat (.int (i : Int))), (Str.ofString "row", .dat (.list (row.map sD)))] (notD A) id ((B.filter fun c => decide (c ∉ A)).map sgD)
        (evi_str (ev_item (ev_lst (ev_var (b := .dat (.list (row.map sD))) (by first | exact mem_at 0 rfl | exact mem_at 1 rfl | exact mem_at 2 rfl | exact mem_at 3 rfl | exact mem_at 4 rfl | exact mem_at 5 rfl | exact mem_at 6 rfl | exact mem_at 7 rfl | exact mem_at 8 rfl | exact mem_at 9 rfl | exact mem_at 10 rfl | exact mem_at 11 rfl | exact mem_at 12 rfl | exact mem_at 13 rfl | exact mem_at 14 rfl | exact mem_at 15 rfl | exact mem_at 16 rfl | exact mem_at 17 rfl | exact mem_at 18 rfl | exact mem_at 19 rfl | exact mem_at 20 rfl | exact mem_at 21 rfl))) (ev_var (by first | exact mem_at 0 rfl | exact mem_at 1 rfl | exact mem_at 2 rfl | exact mem_at 3 rfl | exact mem_at 4 rfl | exact mem_at 5 rfl | exact mem_at 6 rfl | exact mem_at 7 rfl | exact mem_at 8 rfl | exact mem_at 9 rfl | exact mem_at 10 rfl | exact mem_at 11 rfl | exact mem_at 12 rfl | exact mem_at 13 rfl | exact mem_at 14 rfl | exact mem_at 15 rfl | exact mem_at 16 rfl | exact mem_at 17 rfl | exact mem_at 18 rfl | exact mem_at 19 rfl | exact mem_at 20 rfl | exact mem_at 21 rfl)) (hgB _))) (by rw [List.length_map]; (first | lia | omega)) (filter_not B A) ?_ (by intro q hq; repeat (first | (rcases List.mem_cons.mp hq with rfl | hq; exact ⟨(by first | exact mem_at 0 rfl | exact mem_at 1 rfl | exact mem_at 2 rfl | exact mem_at 3 rfl | exact mem_at 4 rfl | exact mem_at 5 rfl | exact mem_at 6 rfl | exact mem_at 7 rfl | exact mem_at 8 rfl | exact mem_at 9 rfl | exact mem_at 10 rfl | exact mem_at 11 rfl | exact mem_at 12 rfl | exact mem_at 13 rfl | exact mem_at 14 rfl | exact mem_at 15 rfl | exact mem_at 16 rfl | exact mem_at 17 rfl | exact mem_at 18 rfl | exact mem_at 19 rfl | exact mem_at 20 rfl | exact mem_at 21 rfl), show (some NameKind.cell : Option NameKind) ≠ some .local by decide, by first | exact Or.inl rfl | exact Or.inr ⟨rfl, rfl⟩, rfl⟩) | cases hq)) rfl (lookup_sub (by intro p hp; repeat (first | (rcases List.mem_cons.mp hp with rfl | hp; exact rfl) | cases hp))) (by rfl) (by first | exact Or.inl rfl | exact Or.inr ⟨rfl, rfl, rfl⟩) (by intro y ds e; first | (cases e; done) | (cases e; decide)) (Pk.g (by repeat (first | exact Pk.nil | refine Pk.here ?_ | refine Pk.cons (by first | exact mem_at 0 rfl | exact mem_at 1 rfl | exact mem_at 2 rfl | exact mem_at 3 rfl | exact mem_at 4 rfl | exact mem_at 5 rfl | exact mem_at 6 rfl | exact mem_at 7 rfl | exact mem_at 8 rfl | exact mem_at 9 rfl | exact mem_at 10 rfl | exact mem_at 11 rfl | exact mem_at 12 rfl | exact mem_at 13 rfl | exact mem_at 14 rfl | exact mem_at 15 rfl | exact mem_at 16 rfl | exact mem_at 17 rfl | exact mem_at 18 rfl | exact mem_at 19 rfl | exact mem_at 20 rfl | exact mem_at 21 rfl) rfl ?_)))) ?_
      · intro L' d hd
        obtain ⟨c, hc, rfl⟩ := List.mem_map.mp hd
        exact ⟨[(Str.ofString "sign", .dat (.str (st [c]))), (Str.ofString "k", .dat (.int (i : Int))), (Str.ofString "row", .dat (.list (row.map sD)))], asg_name (by first | exact Or.inl rfl | exact Or.inr ⟨rfl, rfl, rfl⟩) (by intro y ds e; first | (cases e; done) | (cases e; decide)) (Pk.g (by repeat (first | exact Pk.nil | refine Pk.here ?_ | refine Pk.cons (by first | exact mem_at 0 rfl | exact mem_at 1 rfl | exact mem_at 2 rfl | exact mem_at 3 rfl | exact mem_at 4 rfl | exact mem_at 5 rfl | exact mem_at 6 rfl | exact mem_at 7 rfl | exact mem_at 8 rfl | exact mem_at 9 rfl | exact mem_at 10 rfl | exact mem_at 11 rfl | exact mem_at 12 rfl | exact mem_at 13 rfl | exact mem_at 14 rfl | exact mem_at 15 rfl | exact mem_at 16 rfl | exact mem_at 17 rfl | exact mem_at 18 rfl | exact mem_at 19 rfl | exact mem_at 20 rfl | exact mem_at 21 rfl) rfl ?_))), evts_one (et_cmp (ev_var (by first | exact mem_at 0 rfl | exact mem_at 1 rfl | exact mem_at 2 rfl | exact mem_at 3 rfl | exact mem_at 4 rfl | exact mem_at 5 rfl | exact mem_at 6 rfl | exact mem_at 7 rfl | exact mem_at 8 rfl | exact mem_at 9 rfl | exact mem_at 10 rfl | exact mem_at 11 rfl | exact mem_at 12 rfl | exact mem_at 13 rfl | exact mem_at 14 rfl | exact mem_at 15 rfl | exact mem_at 16 rfl | exact mem_at 17 rfl | exact mem_at 18 rfl | exact mem_at 19 rfl | exact mem_at 20 rfl | exact mem_at 21 rfl)) (ev_item (ev_lst (ev_var (b := .dat (.list (row.map sD))) (by first | exact mem_at 0 rfl | exact mem_at 1 rfl | exact mem_at 2 rfl | exact mem_at 3 rfl | exact mem_at 4 rfl | exact mem_at 5 rfl | exact mem_at 6 rfl | exact mem_at 7 rfl | exact mem_at 8 rfl | exact mem_at 9 rfl | exact mem_at 10 rfl | exact mem_at 11 rfl | exact mem_at 12 rfl | exact mem_at 13 rfl | exact mem_at 14 rfl | exact mem_at 15 rfl | exact mem_at 16 rfl | exact mem_at 17 rfl | exact mem_at 18 rfl | exact mem_at 19 rfl | exact mem_at 20 rfl | exact mem_at 21 rfl))) (ev_bin (ev_var (by first | exact mem_at 0 rfl | exact mem_at 1 rfl | exact mem_at 2 rfl | exact mem_at 3 rfl | exact mem_at 4 rfl | exact mem_at 5 rfl | exact mem_at 6 rfl | exact mem_at 7 rfl | exact mem_at 8 rfl | exact mem_at 9 rfl | exact mem_at 10 rfl | exact mem_at 11 rfl | exact mem_at 12 rfl | exact mem_at 13 rfl | exact mem_at 14 rfl | exact mem_at 15 rfl | exact mem_at 16 rfl | exact mem_at 17 rfl | exact mem_at 18 rfl | exact mem_at 19 rfl | exact mem_at 20 rfl | exact mem_at 21 rfl)) ev_int binR_sub_int) (hgA _)) cmpR_notIn_str), fun _ => ev_var (by first | exact mem_at 0 rfl | exact mem_at 1 rfl | exact mem_at 2 rfl | exact mem_at 3 rfl | exact mem_at 4 rfl | exact mem_at 5 rfl | exact mem_at 6 rfl | exact mem_at 7 rfl | exact mem_at 8 rfl | exact mem_at 9 rfl | exact mem_at 10 rfl | exact mem_at 11 rfl | exact mem_at 12 rfl | exact mem_at 13 rfl | exact mem_at 14 rfl | exact mem_at 15 rfl | exact mem_at 16 rfl | exact mem_at 17 rfl | exact mem_at 18 rfl | exact mem_at 19 rfl | exact mem_at 20 rfl | exact mem_at 21 rfl)⟩
      rw [List.range_succ, List.map_append, List.map_append]
      refine ex_one (ex_weakO (Sb.g (by repeat (first | exact Sb.nil | refine Sb.cons (by first | exact mem_at 0 rfl | exact mem_at 1 rfl | exact mem_at 2 rfl | exact mem_at 3 rfl | exact mem_at 4 rfl | exact mem_at 5 rfl | exact mem_at 6 rfl | exact mem_at 7 rfl | exact mem_at 8 rfl | exact mem_at 9 rfl | exact mem_at 10 rfl | exact mem_at 11 rfl | exact mem_at 12 rfl | exact mem_at 13 rfl | exact mem_at 14 rfl | exact mem_at 15 rfl | exact mem_at 16 rfl | exact mem_at 17 rfl | exact mem_at 18 rfl | exact mem_at 19 rfl | exact mem_at 20 rfl | exact mem_at 21 rfl) ?_))) (ex_meth (args := [.dat (.int ((stepAt row i : Nat) : Int))]) (evl_cons (ev_eq (ev_call_bi (ev_builtin rfl ((I.into _).gl rfl) rfl) (evl_cons (ev_call_bi (ev_builtin rfl ((I.into _).gl rfl) rfl) (evl_cons (ev_lst (ev_var (b := .dat (.list ((A.filter fun c => decide (c ∉ B)).map sgD))) (by first | exact mem_at 0 rfl | exact mem_at 1 rfl | exact mem_at 2 rfl | exact mem_at 3 rfl | exact mem_at 4 rfl | exact mem_at 5 rfl | exact mem_at 6 rfl | exact mem_at 7 rfl | exact mem_at 8 rfl | exact mem_at 9 rfl | exact mem_at 10 rfl | exact mem_at 11 rfl | exact mem_at 12 rfl | exact mem_at 13 rfl | exact mem_at 14 rfl | exact mem_at 15 rfl | exact mem_at 16 rfl | exact mem_at 17 rfl | exact mem_at 18 rfl | exact mem_at 19 rfl | exact mem_at 20 rfl | exact mem_at 21 rfl))) evl_nil) (callOk_len_list (by rw [List.length_map]; (first | lia | omega))))
        (evl_cons (ev_call_bi (ev_builtin rfl ((I.into _).gl rfl) rfl) (evl_cons (ev_lst (ev_var (b := .dat (.list ((B.filter fun c => decide (c ∉ A)).map sgD))) (by first | exact mem_at 0 rfl | exact mem_at 1 rfl | exact mem_at 2 rfl | exact mem_at 3 rfl | exact mem_at 4 rfl | exact mem_at 5 rfl | exact mem_at 6 rfl | exact mem_at 7 rfl | exact mem_at 8 rfl | exact mem_at 9 rfl | exact mem_at 10 rfl | exact mem_at 11 rfl | exact mem_at 12 rfl | exact mem_at 13 rfl | exact mem_at 14 rfl | exact mem_at 15 rfl | exact mem_at 16 rfl | exact mem_at 17 rfl | exact mem_at 18 rfl | exact mem_at 19 rfl | exact mem_at 20 rfl | exact mem_at 21 rfl))) evl_nil) (callOk_len_list (by rw [List.length_map]; (first | lia | omega)))) evl_nil)) callOk_max2) (by rw [List.length_map, List.length_map, hst]; congr 2; (first | lia | omega))) evl_nil) PySem.F.slot_list_append PySem.F.type_list_append (mutOk_append (by simp; (first | lia | omega))) (noLst_ok rfl) (hi := rfl)))
end
end Mine

namespace Mine
open PySem PySem.W PyProof.Rows PySem.Calls
set_option maxRecDepth 100000

section
variable {P : Params} {C : Cx}
theorem sp_turned (I : Is1 P C) (B : Bm C) (hf : 6 < C.fuel) {ns : List (List Nat)} {fl sz : Nat} (hz : ns.length ≤ 100) (hl : ∀ n ∈ ns, n.length ≤ sz) (h4 : sz ≤ 4) :
    CallJ tabs1 C (.ref 171) [.dat (.list (ns.map (nD fl sz))), .dat (.int (sz : Int))] (.dat (.list ((turnUp fl sz ns sz).map sD))) :=
  callJ_of fun ok hT W s vs S hW J hx => by
    obtain ⟨_, _, rfl, r1, r2⟩ := BAll.inv2 hx
    refine enterJK ok (by first | decide | assumption | with_reducible exact Int.natCast_nonneg _ | with_reducible exact Nat.le_trans (by assumption) (by decide) | with_reducible exact Nat.lt_of_lt_of_le (by assumption) (by decide) | with_reducible exact lt_mil (Nat.lt_of_lt_of_le (by assumption) (by decide)) | with_reducible exact lt_mil (Nat.lt_of_le_of_lt (by assumption) (by decide)) | with_reducible exact Nat.le_trans (Nat.le_of_lt (by assumption)) (by decide) | (first | lia | omega)) S hW hT J (I.lk (a := 171) rfl) (by rw [I.K]; rfl) (binds := [(Str.ofString "named", _), (Str.ofString "size", _)]) (kp_binds (K := hd1.heap_39 P) (I.inn S) (fun _ => rfl))
      (.cons r1 (.cons r2 .nil)) (show [Str.ofString "named", Str.ofString "size"].Nodup by decide) rfl fun L => ?_
    have hTl : ∀ j, (turnUp fl sz ns j).length ≤ 100 := fun j => by rw [(turnUp_perm fl sz ns j).length_eq]; exact hz
    have hTm : ∀ j, ∀ n ∈ turnUp fl sz ns j, n.length ≤ sz := fun j n hn => hl n ((turnUp_perm fl sz ns j).subset hn)
    refine exj_cons (exj_of (ex_assign (Γ' := [(Str.ofString "row", .dat (.list ((turnUp fl sz ns 0).map (nD fl sz)))), (Str.ofString "size", .dat (.int (sz : Int)))]) (ev_var (b := .dat (.list (ns.map (nD fl sz)))) (by first | exact mem_at 0 rfl | exact mem_at 1 rfl | exact mem_at 2 rfl | exact mem_at 3 rfl | exact mem_at 4 rfl | exact mem_at 5 rfl | exact mem_at 6 rfl | exact mem_at 7 rfl | exact mem_at 8 rfl | exact mem_at 9 rfl | exact mem_at 10 rfl | exact mem_at 11 rfl | exact mem_at 12 rfl | exact mem_at 13 rfl | exact mem_at 14 rfl | exact mem_at 15 rfl | exact mem_at 16 rfl | exact mem_at 17 rfl | exact mem_at 18 rfl | exact mem_at 19 rfl | exact mem_at 20 rfl | exact mem_at 21 rfl)) (by first | exact Or.inl rfl | exact Or.inr ⟨rfl, rfl, rfl⟩) (by intro y ds e; first | (cases e; done) | (cases e; decide)) (Pk.g (by repeat (first | exact Pk.nil | refine Pk.here ?_ | refine Pk.cons (by first | exact mem_at 0 rfl | exact mem_at 1 rfl | exact mem_at 2 rfl | exact mem_at 3 rfl | exact mem_at 4 rfl | exact mem_at 5 rfl | exact mem_at 6 rfl | exact mem_at 7 rfl | exact mem_at 8 rfl | exact mem_at 9 rfl | exact mem_at 10 rfl | exact mem_at 11 rfl | exact mem_at 12 rfl | exact mem_at 13 rfl | exact mem_at 14 rfl | exact mem_at 15 rfl | exact mem_at 16 rfl | exact mem_at 17 rfl | exact mem_at 18 rfl | exact mem_at 19 rfl | exact mem_at 20 rfl | exact mem_at 21 rfl) rfl ?_))))) ?_
    refine exj_cons (exj_forN (items := (List.range sz).reverse.map fun i : Nat => PyData.int (i : Int)) sz (fun j => [(Str.ofString "row", .dat (.list ((turnUp fl sz ns j).map (nD fl sz)))), (Str.ofString "size", .dat (.int (sz : Int)))])
      (fun j => [(Str.ofString "place", .dat (.int ((sz - 1 - j : Nat) : Int))), (Str.ofString "row", .dat (.list ((turnUp fl sz ns j).map (nD fl sz)))), (Str.ofString "size", .dat (.int (sz : Int)))]) (fun _ => none) (by simp) (evi_rangeDown (n := (sz : Int)) (ev_builtin rfl ((I.into _).gl rfl) rfl) (ev_bin (ev_var (by first | exact mem_at 0 rfl | exact mem_at 1 rfl | exact mem_at 2 rfl | exact mem_at 3 rfl | exact mem_at 4 rfl | exact mem_at 5 rfl | exact mem_at 6 rfl | exact mem_at 7 rfl | exact mem_at 8 rfl | exact mem_at 9 rfl | exact mem_at 10 rfl | exact mem_at 11 rfl | exact mem_at 12 rfl | exact mem_at 13 rfl | exact mem_at 14 rfl | exact mem_at 15 rfl | exact mem_at 16 rfl | exact mem_at 17 rfl | exact mem_at 18 rfl | exact mem_at 19 rfl | exact mem_at 20 rfl | exact mem_at 21 rfl)) ev_int binR_sub_int) (ev_neg ev_int) (ev_neg ev_int) (by first | decide | assumption | with_reducible exact Int.natCast_nonneg _ | with_reducible exact Nat.le_trans (by assumption) (by decide) | with_reducible exact Nat.lt_of_lt_of_le (by assumption) (by decide) | with_reducible exact lt_mil (Nat.lt_of_lt_of_le (by assumption) (by decide)) | with_reducible exact lt_mil (Nat.lt_of_le_of_lt (by assumption) (by decide)) | with_reducible exact Nat.le_trans (Nat.le_of_lt (by assumption)) (by decide) | (first | lia | omega))) ?_ ?_)
      (exj_of (ex_one (ex_return (ev_acomp [] [] (fun _ => true) sndD ((turnUp fl sz ns sz).map sD) (evi_list (ev_var (b := .dat (.list ((turnUp fl sz ns sz).map (nD fl sz)))) (by first | exact mem_at 0 rfl | exact mem_at 1 rfl | exact mem_at 2 rfl | exact mem_at 3 rfl | exact mem_at 4 rfl | exact mem_at 5 rfl | exact mem_at 6 rfl | exact mem_at 7 rfl | exact mem_at 8 rfl | exact mem_at 9 rfl | exact mem_at 10 rfl | exact mem_at 11 rfl | exact mem_at 12 rfl | exact mem_at 13 rfl | exact mem_at 14 rfl | exact mem_at 15 rfl | exact mem_at 16 rfl | exact mem_at 17 rfl | exact mem_at 18 rfl | exact mem_at 19 rfl | exact mem_at 20 rfl | exact mem_at 21 rfl))) (by rw [List.length_map]; have := hTl sz; (first | lia | omega)) (by rw [filter_tt', List.map_map]; rfl) ?_ (by intro q hq; repeat (first | (rcases List.mem_cons.mp hq with rfl | hq; exact ⟨(by first | exact mem_at 0 rfl | exact mem_at 1 rfl | exact mem_at 2 rfl | exact mem_at 3 rfl | exact mem_at 4 rfl | exact mem_at 5 rfl | exact mem_at 6 rfl | exact mem_at 7 rfl | exact mem_at 8 rfl | exact mem_at 9 rfl | exact mem_at 10 rfl | exact mem_at 11 rfl | exact mem_at 12 rfl | exact mem_at 13 rfl | exact mem_at 14 rfl | exact mem_at 15 rfl | exact mem_at 16 rfl | exact mem_at 17 rfl | exact mem_at 18 rfl | exact mem_at 19 rfl | exact mem_at 20 rfl | exact mem_at 21 rfl), show (some NameKind.cell : Option NameKind) ≠ some .local by decide, by first | exact Or.inl rfl | exact Or.inr ⟨rfl, rfl⟩, rfl⟩) | cases hq)) rfl (lookup_sub (by intro p hp; repeat (first | (rcases List.mem_cons.mp hp with rfl | hp; exact rfl) | cases hp)))))))
    · intro j hj
      rw [range_down hj]
      exact asg_name (by first | exact Or.inl rfl | exact Or.inr ⟨rfl, rfl, rfl⟩) (by intro y ds e; first | (cases e; done) | (cases e; decide)) (Pk.g (by repeat (first | exact Pk.nil | refine Pk.here ?_ | refine Pk.cons (by first | exact mem_at 0 rfl | exact mem_at 1 rfl | exact mem_at 2 rfl | exact mem_at 3 rfl | exact mem_at 4 rfl | exact mem_at 5 rfl | exact mem_at 6 rfl | exact mem_at 7 rfl | exact mem_at 8 rfl | exact mem_at 9 rfl | exact mem_at 10 rfl | exact mem_at 11 rfl | exact mem_at 12 rfl | exact mem_at 13 rfl | exact mem_at 14 rfl | exact mem_at 15 rfl | exact mem_at 16 rfl | exact mem_at 17 rfl | exact mem_at 18 rfl | exact mem_at 19 rfl | exact mem_at 20 rfl | exact mem_at 21 rfl) rfl ?_)))
    · intro j hj
      have hRz := hTl j
      have hRl := hTm j
      have hup : turnUp fl sz ns (j + 1) = layUp (tQ fl sz (sz - 1 - j)) (turnUp fl sz ns j) (turnUp fl sz ns j).length := rfl
      rw [hup]
      generalize turnUp fl sz ns j = R at hRz hRl ⊢
      have hp : sz - 1 - j < sz := by (first | lia | omega)
      generalize sz - 1 - j = p at hp ⊢
      refine exj_cons (exj_of (ex_assign_own (Γ' := [(Str.ofString "place", .dat (.int (p : Int))), (Str.ofString "row", .dat (.list (R.map (nD fl sz)))), (Str.ofString "size", .dat (.int (sz : Int)))]) evn_nil (by first | exact Or.inl rfl | exact Or.inr ⟨rfl, rfl, rfl⟩) (Pq.g (by repeat (first | exact Pq.nil | refine Pq.cons (by first | exact mem_at 0 rfl | exact mem_at 1 rfl | exact mem_at 2 rfl | exact mem_at 3 rfl | exact mem_at 4 rfl | exact mem_at 5 rfl | exact mem_at 6 rfl | exact mem_at 7 rfl | exact mem_at 8 rfl | exact mem_at 9 rfl | exact mem_at 10 rfl | exact mem_at 11 rfl | exact mem_at 12 rfl | exact mem_at 13 rfl | exact mem_at 14 rfl | exact mem_at 15 rfl | exact mem_at 16 rfl | exact mem_at 17 rfl | exact mem_at 18 rfl | exact mem_at 19 rfl | exact mem_at 20 rfl | exact mem_at 21 rfl) rfl ?_))))) ?_
      refine exj_cons (exj_forN (items := R.map (nD fl sz)) R.length (fun _ => [(Str.ofString "place", .dat (.int (p : Int))), (Str.ofString "row", .dat (.list (R.map (nD fl sz)))), (Str.ofString "size", .dat (.int (sz : Int)))])
        (fun i => match R[i]? with | some n => [(Str.ofString "one", .dat (nD fl sz n)), (Str.ofString "place", .dat (.int (p : Int))), (Str.ofString "row", .dat (.list (R.map (nD fl sz)))), (Str.ofString "size", .dat (.int (sz : Int)))] | none => [])
        (fun i => some (Str.ofString "laid", (layUp (tQ fl sz p) R i).map (nD fl sz))) (by simp) (evi_list (ev_var (by first | exact mem_at 0 rfl | exact mem_at 1 rfl | exact mem_at 2 rfl | exact mem_at 3 rfl | exact mem_at 4 rfl | exact mem_at 5 rfl | exact mem_at 6 rfl | exact mem_at 7 rfl | exact mem_at 8 rfl | exact mem_at 9 rfl | exact mem_at 10 rfl | exact mem_at 11 rfl | exact mem_at 12 rfl | exact mem_at 13 rfl | exact mem_at 14 rfl | exact mem_at 15 rfl | exact mem_at 16 rfl | exact mem_at 17 rfl | exact mem_at 18 rfl | exact mem_at 19 rfl | exact mem_at 20 rfl | exact mem_at 21 rfl))) ?_ ?_)
        (exj_freeze (exj_of (ex_one (ex_assign (ev_var (b := .dat (.list ((layUp (tQ fl sz p) R R.length).map (nD fl sz)))) (by first | exact mem_at 0 rfl | exact mem_at 1 rfl | exact mem_at 2 rfl | exact mem_at 3 rfl | exact mem_at 4 rfl | exact mem_at 5 rfl | exact mem_at 6 rfl | exact mem_at 7 rfl | exact mem_at 8 rfl | exact mem_at 9 rfl | exact mem_at 10 rfl | exact mem_at 11 rfl | exact mem_at 12 rfl | exact mem_at 13 rfl | exact mem_at 14 rfl | exact mem_at 15 rfl | exact mem_at 16 rfl | exact mem_at 17 rfl | exact mem_at 18 rfl | exact mem_at 19 rfl | exact mem_at 20 rfl | exact mem_at 21 rfl)) (by first | exact Or.inl rfl | exact Or.inr ⟨rfl, rfl, rfl⟩) (by intro y ds e; first | (cases e; done) | (cases e; decide)) (Pk.g (by repeat (first | exact Pk.nil | refine Pk.here ?_ | refine Pk.cons (by first | exact mem_at 0 rfl | exact mem_at 1 rfl | exact mem_at 2 rfl | exact mem_at 3 rfl | exact mem_at 4 rfl | exact mem_at 5 rfl | exact mem_at 6 rfl | exact mem_at 7 rfl | exact mem_at 8 rfl | exact mem_at 9 rfl | exact mem_at 10 rfl | exact mem_at 11 rfl | exact mem_at 12 rfl | exact mem_at 13 rfl | exact mem_at 14 rfl | exact mem_at 15 rfl | exact mem_at 16 rfl | exact mem_at 17 rfl | exact mem_at 18 rfl | exact mem_at 19 rfl | exact mem_at 20 rfl | exact mem_at 21 rfl) rfl ?_)))))))
      · intro i hi
        obtain ⟨n, hn, hin⟩ := map_at R _ hi
        rw [hin, hn]
        exact asg_name (by first | exact Or.inl rfl | exact Or.inr ⟨rfl, rfl, rfl⟩) (by intro y ds e; first | (cases e; done) | (cases e; decide)) (Pk.g (by repeat (first | exact Pk.nil | refine Pk.here ?_ | refine Pk.cons (by first | exact mem_at 0 rfl | exact mem_at 1 rfl | exact mem_at 2 rfl | exact mem_at 3 rfl | exact mem_at 4 rfl | exact mem_at 5 rfl | exact mem_at 6 rfl | exact mem_at 7 rfl | exact mem_at 8 rfl | exact mem_at 9 rfl | exact mem_at 10 rfl | exact mem_at 11 rfl | exact mem_at 12 rfl | exact mem_at 13 rfl | exact mem_at 14 rfl | exact mem_at 15 rfl | exact mem_at 16 rfl | exact mem_at 17 rfl | exact mem_at 18 rfl | exact mem_at 19 rfl | exact mem_at 20 rfl | exact mem_at 21 rfl) rfl ?_)))
      · intro i hi
        obtain ⟨n, hn⟩ : ∃ n, R[i]? = some n := ⟨_, List.getElem?_eq_getElem hi⟩
        have hle := layUp_le (q := tQ fl sz p) (xs := R) (k := i)
        have hsd := turn_sorted fl sz p n R i
        have hLm : ∀ m ∈ layUp (tQ fl sz p) R i, m.length ≤ sz := fun m hm => hRl m (layUp_mem hm)
        have hnl := hRl n (List.mem_of_getElem? hn)
        simp only [hn, layUp_succ hn]
        generalize layUp (tQ fl sz p) R i = A at hle hsd hLm ⊢
        refine exj_cons (exj_mut_lam tabT (clos := [(Str.ofString "place", L + 1)]) (cc := 170) (args := [.dat (nD fl sz n)]) (ds := A.map (nD fl sz)) (ds' := (insAtP A (A.countP (tQ fl sz p n)) n).map (nD fl sz)) (ev_glob rfl ((I.into _).gl rfl))
          (evl_cons (ev_var (by first | exact mem_at 0 rfl | exact mem_at 1 rfl | exact mem_at 2 rfl | exact mem_at 3 rfl | exact mem_at 4 rfl | exact mem_at 5 rfl | exact mem_at 6 rfl | exact mem_at 7 rfl | exact mem_at 8 rfl | exact mem_at 9 rfl | exact mem_at 10 rfl | exact mem_at 11 rfl | exact mem_at 12 rfl | exact mem_at 13 rfl | exact mem_at 14 rfl | exact mem_at 15 rfl | exact mem_at 16 rfl | exact mem_at 17 rfl | exact mem_at 18 rfl | exact mem_at 19 rfl | exact mem_at 20 rfl | exact mem_at 21 rfl)) evl_nil) ((I.into _).at (a := 55) rfl) rfl (.tail _ (.head _)) tabT_nd rfl rfl rfl (by rw [(I.into _).K]; rfl) (by rfl) rfl (B.mono rfl fun _ _ e => e) (by decide) (fun g' f up hlam hcl => ?_) (hno := noLst_ok rfl) (hi := rfl)) (exj_of (ex_sub (Sb.g (by repeat (first | exact Sb.nil | refine Sb.cons (by first | exact mem_at 0 rfl | exact mem_at 1 rfl | exact mem_at 2 rfl | exact mem_at 3 rfl | exact mem_at 4 rfl | exact mem_at 5 rfl | exact mem_at 6 rfl | exact mem_at 7 rfl | exact mem_at 8 rfl | exact mem_at 9 rfl | exact mem_at 10 rfl | exact mem_at 11 rfl | exact mem_at 12 rfl | exact mem_at 13 rfl | exact mem_at 14 rfl | exact mem_at 15 rfl | exact mem_at 16 rfl | exact mem_at 17 rfl | exact mem_at 18 rfl | exact mem_at 19 rfl | exact mem_at 20 rfl | exact mem_at 21 rfl) ?_))) ex_nil))
        obtain ⟨pm, c', ctv, oc, vs', t, g1, _⟩ := id hlam.at'
        obtain ⟨cc, co, ct, hc1, hc2, hc3⟩ := hcl (Str.ofString "place") p (by first | exact mem_at 0 rfl | exact mem_at 1 rfl | exact mem_at 2 rfl | exact mem_at 3 rfl | exact mem_at 4 rfl | exact mem_at 5 rfl | exact mem_at 6 rfl | exact mem_at 7 rfl | exact mem_at 8 rfl | exact mem_at 9 rfl | exact mem_at 10 rfl | exact mem_at 11 rfl | exact mem_at 12 rfl | exact mem_at 13 rfl | exact mem_at 14 rfl | exact mem_at 15 rfl | exact mem_at 16 rfl | exact mem_at 17 rfl | exact mem_at 18 rfl | exact mem_at 19 rfl | exact mem_at 20 rfl | exact mem_at 21 rfl) rfl
        have hc1 : some (L + 1) = some cc := hc1
        cases hc1
        rw [insAtP_map]
        refine il_key ((I.into _).reb up) (by show 1 < C.fuel - 1; (first | lia | omega)) (key := keyD p) g1 rfl (fun C' hC d hd => ?_) (by rw [List.length_map]; (first | lia | omega)) (by rw [List.length_map]; exact List.countP_le_length) (kcs_lt hsd (keyD p) (keyD_n fl sz p))
        have hd : ∃ m, d = nD fl sz m ∧ m.length ≤ sz := by
          rcases List.mem_cons.mp hd with rfl | hd
          · exact ⟨_, rfl, hnl⟩
          · obtain ⟨m, hm, rfl⟩ := List.mem_map.mp hd; exact ⟨m, rfl, hLm m hm⟩
        obtain ⟨m, rfl, hm⟩ := hd
        rw [keyD_n]
        have hfl := fill_len (c := fl) (n := m) hm
        have cl1 : ∀ y c, [(Str.ofString "place", L + 1)].lookup y = some c → y = Str.ofString "place" ∧ c = L + 1 := fun y c e => by
          have := mem_of_lookup e
          rw [List.mem_singleton] at this
          cases this; exact ⟨rfl, rfl⟩
        have hgC : C'.g = g' := hC.g
        refine lam_call (x := Str.ofString "pair") (Δ := [(Str.ofString "place", .dat (.int (p : Int)))]) (fuel_reb hC (by show 2 < C.fuel - 1; (first | lia | omega))) (by rw [hgC]; exact hlam) (fun _ _ _ _ => rfl) rfl (fun y c e => ?_) (fun y z c e1 e2 => ?_) (fun q hq => ?_)
          fun L' c'' => ev_item (ev_item (ev_lst (ev_var (by first | exact mem_at 0 rfl | exact mem_at 1 rfl | exact mem_at 2 rfl | exact mem_at 3 rfl | exact mem_at 4 rfl | exact mem_at 5 rfl | exact mem_at 6 rfl | exact mem_at 7 rfl | exact mem_at 8 rfl | exact mem_at 9 rfl | exact mem_at 10 rfl | exact mem_at 11 rfl | exact mem_at 12 rfl | exact mem_at 13 rfl | exact mem_at 14 rfl | exact mem_at 15 rfl | exact mem_at 16 rfl | exact mem_at 17 rfl | exact mem_at 18 rfl | exact mem_at 19 rfl | exact mem_at 20 rfl | exact mem_at 21 rfl))) ev_int (getR_list (d := .str (st (fill fl 60 sz m))) (by first | decide | assumption | with_reducible exact Int.natCast_nonneg _ | with_reducible exact Nat.le_trans (by assumption) (by decide) | with_reducible exact Nat.lt_of_lt_of_le (by assumption) (by decide) | with_reducible exact lt_mil (Nat.lt_of_lt_of_le (by assumption) (by decide)) | with_reducible exact lt_mil (Nat.lt_of_le_of_lt (by assumption) (by decide)) | with_reducible exact Nat.le_trans (Nat.le_of_lt (by assumption)) (by decide) | (first | lia | omega)) rfl (by first | decide | assumption | with_reducible exact Int.natCast_nonneg _ | with_reducible exact Nat.le_trans (by assumption) (by decide) | with_reducible exact Nat.lt_of_lt_of_le (by assumption) (by decide) | with_reducible exact lt_mil (Nat.lt_of_lt_of_le (by assumption) (by decide)) | with_reducible exact lt_mil (Nat.lt_of_le_of_lt (by assumption) (by decide)) | with_reducible exact Nat.le_trans (Nat.le_of_lt (by assumption)) (by decide) | (first | lia | omega)))) (ev_var (by first | exact mem_at 0 rfl | exact mem_at 1 rfl | exact mem_at 2 rfl | exact mem_at 3 rfl | exact mem_at 4 rfl | exact mem_at 5 rfl | exact mem_at 6 rfl | exact mem_at 7 rfl | exact mem_at 8 rfl | exact mem_at 9 rfl | exact mem_at 10 rfl | exact mem_at 11 rfl | exact mem_at 12 rfl | exact mem_at 13 rfl | exact mem_at 14 rfl | exact mem_at 15 rfl | exact mem_at 16 rfl | exact mem_at 17 rfl | exact mem_at 18 rfl | exact mem_at 19 rfl | exact mem_at 20 rfl | exact mem_at 21 rfl)) (getR_str (by first | decide | assumption | with_reducible exact Int.natCast_nonneg _ | with_reducible exact Nat.le_trans (by assumption) (by decide) | with_reducible exact Nat.lt_of_lt_of_le (by assumption) (by decide) | with_reducible exact lt_mil (Nat.lt_of_lt_of_le (by assumption) (by decide)) | with_reducible exact lt_mil (Nat.lt_of_le_of_lt (by assumption) (by decide)) | with_reducible exact Nat.le_trans (Nat.le_of_lt (by assumption)) (by decide) | (first | lia | omega)) ?_ (by first | decide | assumption | with_reducible exact Int.natCast_nonneg _ | with_reducible exact Nat.le_trans (by assumption) (by decide) | with_reducible exact Nat.lt_of_lt_of_le (by assumption) (by decide) | with_reducible exact lt_mil (Nat.lt_of_lt_of_le (by assumption) (by decide)) | with_reducible exact lt_mil (Nat.lt_of_le_of_lt (by assumption) (by decide)) | with_reducible exact Nat.le_trans (Nat.le_of_lt (by assumption)) (by decide) | (first | lia | omega)))
        · obtain ⟨rfl, rfl⟩ := cl1 y c e
          exact ⟨co, _, by rw [hgC]; exact hc2, hc3⟩
        · rw [(cl1 y c e1).1, (cl1 z c e2).1]
        · rw [List.mem_singleton] at hq
          subst hq
          exact ⟨_, _, co, ct, rfl, rfl, rfl, rfl, by rw [hgC]; exact hc2, hc3⟩
        · unfold kc
          rw [Int.toNat_natCast, List.getD_eq_getElem?_getD, List.getElem?_eq_getElem (by first | decide | assumption | with_reducible exact Int.natCast_nonneg _ | with_reducible exact Nat.le_trans (by assumption) (by decide) | with_reducible exact Nat.lt_of_lt_of_le (by assumption) (by decide) | with_reducible exact lt_mil (Nat.lt_of_lt_of_le (by assumption) (by decide)) | with_reducible exact lt_mil (Nat.lt_of_le_of_lt (by assumption) (by decide)) | with_reducible exact Nat.le_trans (Nat.le_of_lt (by assumption)) (by decide) | (first | lia | omega))]; rfl
    · intro L' d hd
      obtain ⟨n, hn, rfl⟩ := List.mem_map.mp hd
      exact ⟨[(Str.ofString "filled", .dat (sD (fill fl 60 sz n))), (Str.ofString "name", .dat (sD n))], asg_tuple (by first | exact names2 | exact names3) rfl (asgAll_cons (Γ₁ := [(Str.ofString "filled", .dat (sD (fill fl 60 sz n)))]) (asg_name (by first | exact Or.inl rfl | exact Or.inr ⟨rfl, rfl, rfl⟩) (by intro y ds e; first | (cases e; done) | (cases e; decide)) (Pk.g (by repeat (first | exact Pk.nil | refine Pk.here ?_ | refine Pk.cons (by first | exact mem_at 0 rfl | exact mem_at 1 rfl | exact mem_at 2 rfl | exact mem_at 3 rfl | exact mem_at 4 rfl | exact mem_at 5 rfl | exact mem_at 6 rfl | exact mem_at 7 rfl | exact mem_at 8 rfl | exact mem_at 9 rfl | exact mem_at 10 rfl | exact mem_at 11 rfl | exact mem_at 12 rfl | exact mem_at 13 rfl | exact mem_at 14 rfl | exact mem_at 15 rfl | exact mem_at 16 rfl | exact mem_at 17 rfl | exact mem_at 18 rfl | exact mem_at 19 rfl | exact mem_at 20 rfl | exact mem_at 21 rfl) rfl ?_)))) (asgAll_cons (asg_name (by first | exact Or.inl rfl | exact Or.inr ⟨rfl, rfl, rfl⟩) (by intro y ds e; first | (cases e; done) | (cases e; decide)) (Pk.g (by repeat (first | exact Pk.nil | refine Pk.here ?_ | refine Pk.cons (by first | exact mem_at 0 rfl | exact mem_at 1 rfl | exact mem_at 2 rfl | exact mem_at 3 rfl | exact mem_at 4 rfl | exact mem_at 5 rfl | exact mem_at 6 rfl | exact mem_at 7 rfl | exact mem_at 8 rfl | exact mem_at 9 rfl | exact mem_at 10 rfl | exact mem_at 11 rfl | exact mem_at 12 rfl | exact mem_at 13 rfl | exact mem_at 14 rfl | exact mem_at 15 rfl | exact mem_at 16 rfl | exact mem_at 17 rfl | exact mem_at 18 rfl | exact mem_at 19 rfl | exact mem_at 20 rfl | exact mem_at 21 rfl) rfl ?_)))) asgAll_nil)), evts_nil, fun _ => ev_var (by first | exact mem_at 0 rfl | exact mem_at 1 rfl | exact mem_at 2 rfl | exact mem_at 3 rfl | exact mem_at 4 rfl | exact mem_at 5 rfl | exact mem_at 6 rfl | exact mem_at 7 rfl | exact mem_at 8 rfl | exact mem_at 9 rfl | exact mem_at 10 rfl | exact mem_at 11 rfl | exact mem_at 12 rfl | exact mem_at 13 rfl | exact mem_at 14 rfl | exact mem_at 15 rfl | exact mem_at 16 rfl | exact mem_at 17 rfl | exact mem_at 18 rfl | exact mem_at 19 rfl | exact mem_at 20 rfl | exact mem_at 21 rfl)⟩
end
end Mine

namespace Mine
open PySem PySem.W PyProof.Rows PySem.Calls
set_option maxRecDepth 100000

/-! ### the names in order -/
/-- the names over the figures n-j .. n-1, as the mirrors have them, read from the end -/
def gray (t : Bool) (n j : Nat) : List (List Nat) := (mUp t n j).reverse
theorem gray_zero (t : Bool) (n : Nat) : gray t n 0 = [[]] := rfl
theorem gray_succ (t : Bool) (n j : Nat) : gray t n (j + 1) = ((if t then (gray t n j).reverse else gray t n j).map fun x => (48 + (n - 1 - j)) :: x) ++ gray t n j := by
  unfold gray
  rw [show mUp t n (j + 1) = mUp t n j ++ (if t then (mUp t n j).reverse else mUp t n j).map fun x => (48 + (n - 1 - j)) :: x from rfl, List.reverse_append, ← List.map_reverse]
  cases t <;> simp
def Up (lo hi : Nat) (x : List Nat) : Prop := x.Pairwise (· < ·) ∧ ∀ c ∈ x, lo ≤ c ∧ c < hi
theorem up_nil {lo hi : Nat} : Up lo hi [] := ⟨List.Pairwise.nil, fun c hc => by cases hc⟩
theorem up_cons {lo hi c : Nat} {x : List Nat} : Up lo hi (c :: x) ↔ lo ≤ c ∧ c < hi ∧ Up (c + 1) hi x := by
  unfold Up
  rw [List.pairwise_cons]
  constructor
  · rintro ⟨⟨h1, h2⟩, h3⟩
    exact ⟨(h3 c (.head _)).1, (h3 c (.head _)).2, h2, fun d hd => ⟨h1 d hd, (h3 d (.tail _ hd)).2⟩⟩
  · rintro ⟨h1, h2, h3, h4⟩
    refine ⟨⟨fun d hd => (h4 d hd).1, h3⟩, fun d hd => ?_⟩
    rcases List.mem_cons.mp hd with rfl | hd
    · exact ⟨h1, h2⟩
    · exact ⟨by have := (h4 d hd).1; (first | lia | omega), (h4 d hd).2⟩
theorem up_less {lo lo' hi : Nat} {x : List Nat} (h : lo' ≤ lo) (u : Up lo hi x) : Up lo' hi x := ⟨u.1, fun c hc => ⟨by have := (u.2 c hc).1; (first | lia | omega), (u.2 c hc).2⟩⟩
theorem gray_mem {t : Bool} {n : Nat} : ∀ {j : Nat}, j ≤ n → ∀ x, x ∈ gray t n j ↔ Up (48 + (n - j)) (48 + n) x
  | 0, _, x => by
    rw [gray_zero, List.mem_singleton]
    constructor
    · rintro rfl; exact up_nil
    · intro u
      cases x with
      | nil => rfl
      | cons c x => rw [up_cons] at u; (first | lia | omega)
  | j + 1, hj, x => by
    have ih := @gray_mem t n j (by first | decide | assumption | with_reducible exact Int.natCast_nonneg _ | with_reducible exact Nat.le_trans (by assumption) (by decide) | with_reducible exact Nat.lt_of_lt_of_le (by assumption) (by decide) | with_reducible exact lt_mil (Nat.lt_of_lt_of_le (by assumption) (by decide)) | with_reducible exact lt_mil (Nat.lt_of_le_of_lt (by assumption) (by decide)) | with_reducible exact Nat.le_trans (Nat.le_of_lt (by assumption)) (by decide) | (first | lia | omega))
    rw [gray_succ, List.mem_append, List.mem_map, ih]
    have hm : ∀ y, y ∈ (if t then (gray t n j).reverse else gray t n j) ↔ Up (48 + (n - j)) (48 + n) y := fun y => by
      rw [← ih]; cases t <;> simp
    have e : 48 + (n - 1 - j) + 1 = 48 + (n - j) := by (first | lia | omega)
    have e2 : 48 + (n - (j + 1)) = 48 + (n - 1 - j) := by (first | lia | omega)
    rw [e2]
    constructor
    · rintro (⟨y, hy, rfl⟩ | h)
      · rw [up_cons, e]
        exact ⟨Nat.le_refl _, by (first | lia | omega), (hm y).mp hy⟩
      · exact up_less (by first | decide | assumption | with_reducible exact Int.natCast_nonneg _ | with_reducible exact Nat.le_trans (by assumption) (by decide) | with_reducible exact Nat.lt_of_lt_of_le (by assumption) (by decide) | with_reducible exact lt_mil (Nat.lt_of_lt_of_le (by assumption) (by decide)) | with_reducible exact lt_mil (Nat.lt_of_le_of_lt (by assumption) (by decide)) | with_reducible exact Nat.le_trans (Nat.le_of_lt (by assumption)) (by decide) | (first | lia | omega)) h
    · intro u
      cases x with
      | nil => exact .inr up_nil
      | cons c x =>
        rw [up_cons] at u
        by_cases h : c = 48 + (n - 1 - j)
        · subst h
          exact .inl ⟨x, (hm x).mpr (e ▸ u.2.2), rfl⟩
        · exact .inr (up_cons.mpr ⟨by (first | lia | omega), u.2.1, u.2.2⟩)
theorem gray_nodup {t : Bool} {n : Nat} : ∀ {j : Nat}, j ≤ n → (gray t n j).Nodup
  | 0, _ => by rw [gray_zero]; simp
  | j + 1, hj => by
    have ih := @gray_nodup t n j (by first | decide | assumption | with_reducible exact Int.natCast_nonneg _ | with_reducible exact Nat.le_trans (by assumption) (by decide) | with_reducible exact Nat.lt_of_lt_of_le (by assumption) (by decide) | with_reducible exact lt_mil (Nat.lt_of_lt_of_le (by assumption) (by decide)) | with_reducible exact lt_mil (Nat.lt_of_le_of_lt (by assumption) (by decide)) | with_reducible exact Nat.le_trans (Nat.le_of_lt (by assumption)) (by decide) | (first | lia | omega))
    rw [gray_succ, List.nodup_append]
    refine ⟨?_, ih, fun a ha b hb => ?_⟩
    · unfold List.Nodup
      rw [List.pairwise_map]
      have h : (if t then (gray t n j).reverse else gray t n j).Nodup := by
        cases t
        · exact ih
        · exact List.pairwise_reverse.mpr (ih.imp fun {a b} h => Ne.symm h)
      exact h.imp fun {a b} h q => h (List.cons.inj q).2
    · obtain ⟨y, _, rfl⟩ := List.mem_map.mp ha
      rintro rfl
      have := (up_cons.mp ((gray_mem (by first | decide | assumption | with_reducible exact Int.natCast_nonneg _ | with_reducible exact Nat.le_trans (by assumption) (by decide) | with_reducible exact Nat.lt_of_lt_of_le (by assumption) (by decide) | with_reducible exact lt_mil (Nat.lt_of_lt_of_le (by assumption) (by decide)) | with_reducible exact lt_mil (Nat.lt_of_le_of_lt (by assumption) (by decide)) | with_reducible exact Nat.le_trans (Nat.le_of_lt (by assumption)) (by decide) | (first | lia | omega)) _).mp hb)).1
      (first | lia | omega)

/-! filled texts -/
theorem fill_cons {fl w c : Nat} {x : List Nat} (h : (c :: x).length ≤ w) : fill fl 60 w (c :: x) = c :: fill fl 60 (w - 1) x := by
  have : w - (c :: x).length = w - 1 - x.length := by rw [List.length_cons]; (first | lia | omega)
  simp only [fill, this]; rfl
theorem fill_len' {fl w : Nat} {x : List Nat} (h : x.length ≤ w) : (fill fl 60 w x).length = w := by simp [fill]; (first | lia | omega)
/-- what stands behind c's names begins with more -/
theorem fill_head {fl w c lo hi : Nat} {x : List Nat} (hw : 0 < w) (hc : c < lo) (hf : c < fl) (u : Up lo hi x) : ∃ d r, fill fl 60 w x = d :: r ∧ c < d := by
  cases x with
  | nil =>
    obtain ⟨v, rfl⟩ := Nat.exists_eq_add_of_lt hw
    exact ⟨fl, List.replicate v fl, by simp [fill, List.replicate_succ], hf⟩
  | cons d x =>
    have := (up_cons.mp u).1
    exact ⟨d, x ++ List.replicate (w - (d :: x).length) fl, by simp [fill], by (first | lia | omega)⟩
theorem fill_inj {fl w hi : Nat} (hf : hi ≤ fl) : ∀ {x y : List Nat}, (∀ c ∈ x, c < hi) → (∀ c ∈ y, c < hi) → fill fl 60 w x = fill fl 60 w y → x = y := fun {x y} hx hy e => by
  have k : ∀ z : List Nat, (∀ c ∈ z, c < hi) → (fill fl 60 w z).filter (fun c => decide (c < hi)) = z := fun z hz => by
    simp only [fill, show ¬ (60 = 62) by decide, if_false, List.filter_append]
    rw [List.filter_eq_self.mpr fun c hc => decide_eq_true (hz c hc), List.filter_eq_nil_iff.mpr fun c hc => by
      rw [List.mem_replicate] at hc
      simp; (first | lia | omega)]
    simp
  rw [← k x hx, e, k y hy]
theorem gray_straight {fl n : Nat} (hf : 48 + n ≤ fl) : ∀ {j : Nat}, j ≤ n → ∀ w, (gray false n j).Pairwise fun a b => a.length ≤ w → b.length ≤ w → fill fl 60 w a < fill fl 60 w b
  | 0, _, w => by rw [gray_zero]; simp
  | j + 1, hj, w => by
    have ih := fun w => gray_straight hf (j := j) (by first | decide | assumption | with_reducible exact Int.natCast_nonneg _ | with_reducible exact Nat.le_trans (by assumption) (by decide) | with_reducible exact Nat.lt_of_lt_of_le (by assumption) (by decide) | with_reducible exact lt_mil (Nat.lt_of_lt_of_le (by assumption) (by decide)) | with_reducible exact lt_mil (Nat.lt_of_le_of_lt (by assumption) (by decide)) | with_reducible exact Nat.le_trans (Nat.le_of_lt (by assumption)) (by decide) | (first | lia | omega)) w
    rw [gray_succ]
    simp only [Bool.false_eq_true, if_false]
    rw [List.pairwise_append, List.pairwise_map]
    refine ⟨(ih (w - 1)).imp fun {a b} h h1 h2 => ?_, ih w, fun a ha b hb h1 h2 => ?_⟩
    · rw [fill_cons h1, fill_cons h2, List.cons_lt_cons_iff]
      rw [List.length_cons] at h1 h2
      exact .inr ⟨rfl, h (by first | decide | assumption | with_reducible exact Int.natCast_nonneg _ | with_reducible exact Nat.le_trans (by assumption) (by decide) | with_reducible exact Nat.lt_of_lt_of_le (by assumption) (by decide) | with_reducible exact lt_mil (Nat.lt_of_lt_of_le (by assumption) (by decide)) | with_reducible exact lt_mil (Nat.lt_of_le_of_lt (by assumption) (by decide)) | with_reducible exact Nat.le_trans (Nat.le_of_lt (by assumption)) (by decide) | (first | lia | omega)) (by first | decide | assumption | with_reducible exact Int.natCast_nonneg _ | with_reducible exact Nat.le_trans (by assumption) (by decide) | with_reducible exact Nat.lt_of_lt_of_le (by assumption) (by decide) | with_reducible exact lt_mil (Nat.lt_of_lt_of_le (by assumption) (by decide)) | with_reducible exact lt_mil (Nat.lt_of_le_of_lt (by assumption) (by decide)) | with_reducible exact Nat.le_trans (Nat.le_of_lt (by assumption)) (by decide) | (first | lia | omega))⟩
    · obtain ⟨x, _, rfl⟩ := List.mem_map.mp ha
      rw [fill_cons h1]
      rw [List.length_cons] at h1
      obtain ⟨d, r, e, hd⟩ := fill_head (fl := fl) (w := w) (c := 48 + (n - 1 - j)) (by first | decide | assumption | with_reducible exact Int.natCast_nonneg _ | with_reducible exact Nat.le_trans (by assumption) (by decide) | with_reducible exact Nat.lt_of_lt_of_le (by assumption) (by decide) | with_reducible exact lt_mil (Nat.lt_of_lt_of_le (by assumption) (by decide)) | with_reducible exact lt_mil (Nat.lt_of_le_of_lt (by assumption) (by decide)) | with_reducible exact Nat.le_trans (Nat.le_of_lt (by assumption)) (by decide) | (first | lia | omega)) (by first | decide | assumption | with_reducible exact Int.natCast_nonneg _ | with_reducible exact Nat.le_trans (by assumption) (by decide) | with_reducible exact Nat.lt_of_lt_of_le (by assumption) (by decide) | with_reducible exact lt_mil (Nat.lt_of_lt_of_le (by assumption) (by decide)) | with_reducible exact lt_mil (Nat.lt_of_le_of_lt (by assumption) (by decide)) | with_reducible exact Nat.le_trans (Nat.le_of_lt (by assumption)) (by decide) | (first | lia | omega)) (by first | decide | assumption | with_reducible exact Int.natCast_nonneg _ | with_reducible exact Nat.le_trans (by assumption) (by decide) | with_reducible exact Nat.lt_of_lt_of_le (by assumption) (by decide) | with_reducible exact lt_mil (Nat.lt_of_lt_of_le (by assumption) (by decide)) | with_reducible exact lt_mil (Nat.lt_of_le_of_lt (by assumption) (by decide)) | with_reducible exact Nat.le_trans (Nat.le_of_lt (by assumption)) (by decide) | (first | lia | omega)) ((gray_mem (by first | decide | assumption | with_reducible exact Int.natCast_nonneg _ | with_reducible exact Nat.le_trans (by assumption) (by decide) | with_reducible exact Nat.lt_of_lt_of_le (by assumption) (by decide) | with_reducible exact lt_mil (Nat.lt_of_lt_of_le (by assumption) (by decide)) | with_reducible exact lt_mil (Nat.lt_of_le_of_lt (by assumption) (by decide)) | with_reducible exact Nat.le_trans (Nat.le_of_lt (by assumption)) (by decide) | (first | lia | omega)) b).mp hb)
      rw [e, List.cons_lt_cons_iff]
      exact .inl hd

/-- by mirrors: of like ones the order turns -/
def rlt : List Nat → List Nat → Prop
  | a :: x, b :: y => a < b ∨ (a = b ∧ rlt y x)
  | _, _ => False
termination_by x y => x.length + y.length
theorem rlt_cons {a b : Nat} {x y : List Nat} : rlt (a :: x) (b :: y) ↔ a < b ∨ (a = b ∧ rlt y x) := by rw [rlt]
theorem rlt_nil {y : List Nat} : ¬ rlt [] y := by rw [rlt.eq_def]; simp
theorem rlt_asymm : ∀ {x y : List Nat}, x.length = y.length → rlt x y → ¬ rlt y x
  | [], _, _, h => (rlt_nil h).elim
  | a :: x, [], e, _ => by cases e
  | a :: x, b :: y, e, h => by
    rw [rlt_cons] at h ⊢
    rintro (q | ⟨q, r⟩)
    · rcases h with h | ⟨h, _⟩ <;> (first | lia | omega)
    · rcases h with h | ⟨_, h⟩
      · (first | lia | omega)
      · exact rlt_asymm (by simpa using e) r h
theorem rlt_total : ∀ {x y : List Nat}, x.length = y.length → ¬ rlt x y → ¬ rlt y x → x = y
  | [], [], _, _, _ => rfl
  | [], _ :: _, e, _, _ => by cases e
  | a :: x, [], e, _, _ => by cases e
  | a :: x, b :: y, e, h1, h2 => by
    rw [rlt_cons] at h1 h2
    have hab : a = b := by (first | lia | omega)
    subst hab
    rw [rlt_total (x := x) (y := y) (by simpa using e) (fun r => h2 (.inr ⟨rfl, r⟩)) fun r => h1 (.inr ⟨rfl, r⟩)]
theorem gray_turned {fl n : Nat} (hf : 48 + n ≤ fl) : ∀ {j : Nat}, j ≤ n → ∀ w, (gray true n j).Pairwise fun a b => a.length ≤ w → b.length ≤ w → rlt (fill fl 60 w a) (fill fl 60 w b)
  | 0, _, w => by rw [gray_zero]; simp
  | j + 1, hj, w => by
    have ih := fun w => gray_turned hf (j := j) (by first | decide | assumption | with_reducible exact Int.natCast_nonneg _ | with_reducible exact Nat.le_trans (by assumption) (by decide) | with_reducible exact Nat.lt_of_lt_of_le (by assumption) (by decide) | with_reducible exact lt_mil (Nat.lt_of_lt_of_le (by assumption) (by decide)) | with_reducible exact lt_mil (Nat.lt_of_le_of_lt (by assumption) (by decide)) | with_reducible exact Nat.le_trans (Nat.le_of_lt (by assumption)) (by decide) | (first | lia | omega)) w
    rw [gray_succ]
    simp only [if_true]
    rw [List.pairwise_append, List.pairwise_map, List.pairwise_reverse]
    refine ⟨(ih (w - 1)).imp fun {a b} h h1 h2 => ?_, ih w, fun a ha b hb h1 h2 => ?_⟩
    · rw [fill_cons h1, fill_cons h2, rlt_cons]
      rw [List.length_cons] at h1 h2
      exact .inr ⟨rfl, h (by first | decide | assumption | with_reducible exact Int.natCast_nonneg _ | with_reducible exact Nat.le_trans (by assumption) (by decide) | with_reducible exact Nat.lt_of_lt_of_le (by assumption) (by decide) | with_reducible exact lt_mil (Nat.lt_of_lt_of_le (by assumption) (by decide)) | with_reducible exact lt_mil (Nat.lt_of_le_of_lt (by assumption) (by decide)) | with_reducible exact Nat.le_trans (Nat.le_of_lt (by assumption)) (by decide) | (first | lia | omega)) (by first | decide | assumption | with_reducible exact Int.natCast_nonneg _ | with_reducible exact Nat.le_trans (by assumption) (by decide) | with_reducible exact Nat.lt_of_lt_of_le (by assumption) (by decide) | with_reducible exact lt_mil (Nat.lt_of_lt_of_le (by assumption) (by decide)) | with_reducible exact lt_mil (Nat.lt_of_le_of_lt (by assumption) (by decide)) | with_reducible exact Nat.le_trans (Nat.le_of_lt (by assumption)) (by decide) | (first | lia | omega))⟩
    · obtain ⟨x, _, rfl⟩ := List.mem_map.mp ha
      rw [fill_cons h1]
      rw [List.length_cons] at h1
      obtain ⟨d, r, e, hd⟩ := fill_head (fl := fl) (w := w) (c := 48 + (n - 1 - j)) (by first | decide | assumption | with_reducible exact Int.natCast_nonneg _ | with_reducible exact Nat.le_trans (by assumption) (by decide) | with_reducible exact Nat.lt_of_lt_of_le (by assumption) (by decide) | with_reducible exact lt_mil (Nat.lt_of_lt_of_le (by assumption) (by decide)) | with_reducible exact lt_mil (Nat.lt_of_le_of_lt (by assumption) (by decide)) | with_reducible exact Nat.le_trans (Nat.le_of_lt (by assumption)) (by decide) | (first | lia | omega)) (by first | decide | assumption | with_reducible exact Int.natCast_nonneg _ | with_reducible exact Nat.le_trans (by assumption) (by decide) | with_reducible exact Nat.lt_of_lt_of_le (by assumption) (by decide) | with_reducible exact lt_mil (Nat.lt_of_lt_of_le (by assumption) (by decide)) | with_reducible exact lt_mil (Nat.lt_of_le_of_lt (by assumption) (by decide)) | with_reducible exact Nat.le_trans (Nat.le_of_lt (by assumption)) (by decide) | (first | lia | omega)) (by first | decide | assumption | with_reducible exact Int.natCast_nonneg _ | with_reducible exact Nat.le_trans (by assumption) (by decide) | with_reducible exact Nat.lt_of_lt_of_le (by assumption) (by decide) | with_reducible exact lt_mil (Nat.lt_of_lt_of_le (by assumption) (by decide)) | with_reducible exact lt_mil (Nat.lt_of_le_of_lt (by assumption) (by decide)) | with_reducible exact Nat.le_trans (Nat.le_of_lt (by assumption)) (by decide) | (first | lia | omega)) ((gray_mem (by first | decide | assumption | with_reducible exact Int.natCast_nonneg _ | with_reducible exact Nat.le_trans (by assumption) (by decide) | with_reducible exact Nat.lt_of_lt_of_le (by assumption) (by decide) | with_reducible exact lt_mil (Nat.lt_of_lt_of_le (by assumption) (by decide)) | with_reducible exact lt_mil (Nat.lt_of_le_of_lt (by assumption) (by decide)) | with_reducible exact Nat.le_trans (Nat.le_of_lt (by assumption)) (by decide) | (first | lia | omega)) b).mp hb)
      rw [e, rlt_cons]
      exact .inl hd

/-- one turn of laying by a key, like ones the other way round -/
theorem layUp_turn {α : Type} {S : α → α → Prop} {key : α → Nat} {xs : List α} (h : xs.Pairwise S) : ∀ k, (layUp (fun x e => decide (key e < key x)) xs k).Pairwise fun a b => key a < key b ∨ (key a = key b ∧ S b a)
  | 0 => List.Pairwise.nil
  | k + 1 => by
    have ih := layUp_turn (key := key) h k
    cases hx : xs[k]? with
    | none => rw [layUp, hx]; exact ih
    | some x =>
      rw [layUp_succ hx]
      refine insAtP_pairwise ih (ih.imp fun {a b} r q => ?_) (fun a _ q => .inl (of_decide_eq_true q)) fun a ha q => ?_
      · have := of_decide_eq_true q
        exact decide_eq_true (by first | decide | assumption | with_reducible exact Int.natCast_nonneg _ | with_reducible exact Nat.le_trans (by assumption) (by decide) | with_reducible exact Nat.lt_of_lt_of_le (by assumption) (by decide) | with_reducible exact lt_mil (Nat.lt_of_lt_of_le (by assumption) (by decide)) | with_reducible exact lt_mil (Nat.lt_of_le_of_lt (by assumption) (by decide)) | with_reducible exact Nat.le_trans (Nat.le_of_lt (by assumption)) (by decide) | (first | lia | omega))
      · have q := of_decide_eq_false q
        have ha : a ∈ xs.take k := (layUp_perm _ xs k).subset ha
        obtain ⟨hk, rfl⟩ := List.getElem?_eq_some_iff.mp hx
        obtain ⟨i, hi, rfl⟩ := List.getElem_of_mem ha
        rw [List.length_take] at hi
        have hS : S xs[i] xs[k] := List.pairwise_iff_getElem.mp h i k (by first | decide | assumption | with_reducible exact Int.natCast_nonneg _ | with_reducible exact Nat.le_trans (by assumption) (by decide) | with_reducible exact Nat.lt_of_lt_of_le (by assumption) (by decide) | with_reducible exact lt_mil (Nat.lt_of_lt_of_le (by assumption) (by decide)) | with_reducible exact lt_mil (Nat.lt_of_le_of_lt (by assumption) (by decide)) | with_reducible exact Nat.le_trans (Nat.le_of_lt (by assumption)) (by decide) | (first | lia | omega)) hk (by first | decide | assumption | with_reducible exact Int.natCast_nonneg _ | with_reducible exact Nat.le_trans (by assumption) (by decide) | with_reducible exact Nat.lt_of_lt_of_le (by assumption) (by decide) | with_reducible exact lt_mil (Nat.lt_of_lt_of_le (by assumption) (by decide)) | with_reducible exact lt_mil (Nat.lt_of_le_of_lt (by assumption) (by decide)) | with_reducible exact Nat.le_trans (Nat.le_of_lt (by assumption)) (by decide) | (first | lia | omega))
        rw [List.getElem_take] at q ⊢
        by_cases e : key xs[k] = key xs[i]
        · exact .inr ⟨e, hS⟩
        · exact .inl (by first | decide | assumption | with_reducible exact Int.natCast_nonneg _ | with_reducible exact Nat.le_trans (by assumption) (by decide) | with_reducible exact Nat.lt_of_lt_of_le (by assumption) (by decide) | with_reducible exact lt_mil (Nat.lt_of_lt_of_le (by assumption) (by decide)) | with_reducible exact lt_mil (Nat.lt_of_le_of_lt (by assumption) (by decide)) | with_reducible exact Nat.le_trans (Nat.le_of_lt (by assumption)) (by decide) | (first | lia | omega))
theorem drop_kc {fl sz p : Nat} {n : List Nat} (hp : p < sz) (hl : n.length ≤ sz) : (fill fl 60 sz n).drop p = kc fl sz p n :: (fill fl 60 sz n).drop (p + 1) := by
  have hlt : p < (fill fl 60 sz n).length := by rw [fill_len' hl]; exact hp
  rw [List.drop_eq_getElem_cons hlt]
  unfold kc
  rw [List.getD_eq_getElem?_getD, List.getElem?_eq_getElem hlt]; rfl
theorem turn_order {fl sz : Nat} {ns : List (List Nat)} (hl : ∀ n ∈ ns, n.length ≤ sz) : ∀ j, j ≤ sz → (turnUp fl sz ns j).Pairwise fun a b => ¬ rlt ((fill fl 60 sz b).drop (sz - j)) ((fill fl 60 sz a).drop (sz - j))
  | 0, _ => by
    have : ∀ a b : List Nat, a ∈ turnUp fl sz ns 0 → b ∈ turnUp fl sz ns 0 → ¬ rlt ((fill fl 60 sz b).drop (sz - 0)) ((fill fl 60 sz a).drop (sz - 0)) := fun a b _ hb => by
      have e : (fill fl 60 sz b).drop (sz - 0) = [] := List.drop_of_length_le (by rw [fill_len' (hl b hb)]; (first | lia | omega))
      rw [e]
      exact rlt_nil
    exact List.Pairwise.imp_of_mem (fun {a b} ha hb _ => this a b ha hb) (List.pairwise_of_forall (R := fun _ _ => True) fun _ _ => trivial)
  | j + 1, hj => by
    have ih := turn_order (fl := fl) hl j (by first | decide | assumption | with_reducible exact Int.natCast_nonneg _ | with_reducible exact Nat.le_trans (by assumption) (by decide) | with_reducible exact Nat.lt_of_lt_of_le (by assumption) (by decide) | with_reducible exact lt_mil (Nat.lt_of_lt_of_le (by assumption) (by decide)) | with_reducible exact lt_mil (Nat.lt_of_le_of_lt (by assumption) (by decide)) | with_reducible exact Nat.le_trans (Nat.le_of_lt (by assumption)) (by decide) | (first | lia | omega))
    have key := layUp_turn (key := kc fl sz (sz - 1 - j)) ih (turnUp fl sz ns j).length
    have hm : ∀ a ∈ layUp (tQ fl sz (sz - 1 - j)) (turnUp fl sz ns j) (turnUp fl sz ns j).length, a.length ≤ sz := fun a ha => hl a ((turnUp_perm fl sz ns j).subset (layUp_mem ha))
    refine List.Pairwise.imp_of_mem (fun {a b} ha hb r => ?_) key
    have e1 : sz - (j + 1) = sz - 1 - j := by (first | lia | omega)
    have e2 : sz - 1 - j + 1 = sz - j := by (first | lia | omega)
    rw [e1, drop_kc (by first | decide | assumption | with_reducible exact Int.natCast_nonneg _ | with_reducible exact Nat.le_trans (by assumption) (by decide) | with_reducible exact Nat.lt_of_lt_of_le (by assumption) (by decide) | with_reducible exact lt_mil (Nat.lt_of_lt_of_le (by assumption) (by decide)) | with_reducible exact lt_mil (Nat.lt_of_le_of_lt (by assumption) (by decide)) | with_reducible exact Nat.le_trans (Nat.le_of_lt (by assumption)) (by decide) | (first | lia | omega)) (hm a ha), drop_kc (by first | decide | assumption | with_reducible exact Int.natCast_nonneg _ | with_reducible exact Nat.le_trans (by assumption) (by decide) | with_reducible exact Nat.lt_of_lt_of_le (by assumption) (by decide) | with_reducible exact lt_mil (Nat.lt_of_lt_of_le (by assumption) (by decide)) | with_reducible exact lt_mil (Nat.lt_of_le_of_lt (by assumption) (by decide)) | with_reducible exact Nat.le_trans (Nat.le_of_lt (by assumption)) (by decide) | (first | lia | omega)) (hm b hb), e2, rlt_cons]
    rcases r with r | ⟨r, q⟩
    · (first | lia | omega)
    · rintro (h | ⟨_, h⟩)
      · (first | lia | omega)
      · exact q h

/-! the baskets -/
def costOf (prs : List Nat) (x : List Nat) : Nat := (x.map fun c => prs.getD (c - 48) 0).sum
theorem costOf_append (prs x y : List Nat) : costOf prs (x ++ y) = costOf prs x + costOf prs y := by simp [costOf]
theorem bUp_mem {room purse : Nat} {prs : List Nat} : ∀ k, k ≤ prs.length → ∀ e, e ∈ bUp room purse prs k ↔ Up 48 (48 + k) e.1 ∧ e.1.length ≤ room ∧ costOf prs e.1 ≤ purse ∧ e.2 = costOf prs e.1
  | 0, _, e => by
    obtain ⟨x, c⟩ := e
    simp only [bUp, List.mem_singleton, Prod.mk.injEq]
    constructor
    · rintro ⟨rfl, rfl⟩
      exact ⟨up_nil, Nat.zero_le _, Nat.zero_le _, rfl⟩
    · rintro ⟨u, _, _, h⟩
      cases x with
      | nil => exact ⟨rfl, h⟩
      | cons d x => have := up_cons.mp u; (first | lia | omega)
  | k + 1, hk, e => by
    have ih := bUp_mem (room := room) (purse := purse) (prs := prs) k (by first | decide | assumption | with_reducible exact Int.natCast_nonneg _ | with_reducible exact Nat.le_trans (by assumption) (by decide) | with_reducible exact Nat.lt_of_lt_of_le (by assumption) (by decide) | with_reducible exact lt_mil (Nat.lt_of_lt_of_le (by assumption) (by decide)) | with_reducible exact lt_mil (Nat.lt_of_le_of_lt (by assumption) (by decide)) | with_reducible exact Nat.le_trans (Nat.le_of_lt (by assumption)) (by decide) | (first | lia | omega))
    have hp : prs[k]? = some prs[k] := List.getElem?_eq_getElem (by first | decide | assumption | with_reducible exact Int.natCast_nonneg _ | with_reducible exact Nat.le_trans (by assumption) (by decide) | with_reducible exact Nat.lt_of_lt_of_le (by assumption) (by decide) | with_reducible exact lt_mil (Nat.lt_of_lt_of_le (by assumption) (by decide)) | with_reducible exact lt_mil (Nat.lt_of_le_of_lt (by assumption) (by decide)) | with_reducible exact Nat.le_trans (Nat.le_of_lt (by assumption)) (by decide) | (first | lia | omega))
    have hgd : prs.getD k 0 = prs[k] := by rw [List.getD_eq_getElem?_getD, hp]; rfl
    rw [bUp_succ hp, bStep, List.mem_append, ih, List.mem_filter, List.mem_map]
    have c1 : ∀ x : List Nat, costOf prs (x ++ [48 + k]) = costOf prs x + prs[k] := fun x => by
      rw [costOf_append]
      have : costOf prs [48 + k] = prs[k] := by simp [costOf, hp]
      rw [this]
    constructor
    · rintro (⟨u, h⟩ | ⟨⟨f, hf, rfl⟩, h⟩)
      · exact ⟨⟨u.1, fun c hc => ⟨(u.2 c hc).1, by have := (u.2 c hc).2; (first | lia | omega)⟩⟩, h⟩
      · rw [ih] at hf
        obtain ⟨u, h1, h2, h3⟩ := hf
        simp only [Bool.and_eq_true, decide_eq_true_eq] at h
        refine ⟨⟨?_, fun c hc => ?_⟩, h.1, ?_, ?_⟩
        · rw [List.pairwise_append]
          refine ⟨u.1, by simp, fun a ha b hb => ?_⟩
          rw [List.mem_singleton] at hb
          have := (u.2 a ha).2
          (first | lia | omega)
        · rcases List.mem_append.mp hc with hc | hc
          · have := u.2 c hc; (first | lia | omega)
          · rw [List.mem_singleton] at hc; (first | lia | omega)
        · rw [c1, ← h3]; exact h.2
        · rw [c1, ← h3]
    · rintro ⟨u, h1, h2, h3⟩
      obtain ⟨x, c⟩ := e
      simp only at u h1 h2 h3
      by_cases hx : 48 + k ∈ x
      · -- the last one
        have hne : x ≠ [] := by rintro rfl; cases hx
        have hlast : x.getLast hne = 48 + k := by
          have e1 := (u.2 _ (List.getLast_mem hne)).2
          have e2 : 48 + k ≤ x.getLast hne := by
            obtain ⟨i, hi, e⟩ := List.getElem_of_mem hx
            rw [List.getLast_eq_getElem]
            by_cases q : i = x.length - 1
            · subst q; (first | lia | omega)
            · have := List.pairwise_iff_getElem.mp u.1 i (x.length - 1) hi (by first | decide | assumption | with_reducible exact Int.natCast_nonneg _ | with_reducible exact Nat.le_trans (by assumption) (by decide) | with_reducible exact Nat.lt_of_lt_of_le (by assumption) (by decide) | with_reducible exact lt_mil (Nat.lt_of_lt_of_le (by assumption) (by decide)) | with_reducible exact lt_mil (Nat.lt_of_le_of_lt (by assumption) (by decide)) | with_reducible exact Nat.le_trans (Nat.le_of_lt (by assumption)) (by decide) | (first | lia | omega)) (by first | decide | assumption | with_reducible exact Int.natCast_nonneg _ | with_reducible exact Nat.le_trans (by assumption) (by decide) | with_reducible exact Nat.lt_of_lt_of_le (by assumption) (by decide) | with_reducible exact lt_mil (Nat.lt_of_lt_of_le (by assumption) (by decide)) | with_reducible exact lt_mil (Nat.lt_of_le_of_lt (by assumption) (by decide)) | with_reducible exact Nat.le_trans (Nat.le_of_lt (by assumption)) (by decide) | (first | lia | omega))
              (first | lia | omega)
          (first | lia | omega)
        have hsp : x.dropLast ++ [48 + k] = x := by rw [← hlast]; exact List.dropLast_concat_getLast hne
        rw [← hsp] at u h1 h2 h3
        rw [c1] at h2 h3
        refine .inr ⟨⟨(x.dropLast, costOf prs x.dropLast), (ih _).mpr ⟨⟨(List.pairwise_append.mp u.1).1, fun d hd => ⟨(u.2 d (List.mem_append_left _ hd)).1, ?_⟩⟩, ?_, ?_, rfl⟩, ?_⟩, ?_⟩
        · exact (List.pairwise_append.mp u.1).2.2 d hd (48 + k) (by simp)
        · rw [List.length_append] at h1; simp only; (first | lia | omega)
        · simp only; (first | lia | omega)
        · simp only [hsp, h3]
        · rw [← hsp]
          simp only [Bool.and_eq_true, decide_eq_true_eq]
          exact ⟨h1, by (first | lia | omega)⟩
      · refine .inl ⟨⟨u.1, fun d hd => ⟨(u.2 d hd).1, ?_⟩⟩, h1, h2, h3⟩
        have := (u.2 d hd).2
        by_cases q : d = 48 + k
        · subst q; exact absurd hd hx
        · (first | lia | omega)
theorem bUp_nodup {room purse : Nat} {prs : List Nat} : ∀ k, k ≤ prs.length → ((bUp room purse prs k).map (·.1)).Nodup
  | 0, _ => by simp [bUp]
  | k + 1, hk => by
    have ih := bUp_nodup (room := room) (purse := purse) (prs := prs) k (by first | decide | assumption | with_reducible exact Int.natCast_nonneg _ | with_reducible exact Nat.le_trans (by assumption) (by decide) | with_reducible exact Nat.lt_of_lt_of_le (by assumption) (by decide) | with_reducible exact lt_mil (Nat.lt_of_lt_of_le (by assumption) (by decide)) | with_reducible exact lt_mil (Nat.lt_of_le_of_lt (by assumption) (by decide)) | with_reducible exact Nat.le_trans (Nat.le_of_lt (by assumption)) (by decide) | (first | lia | omega))
    have hp : prs[k]? = some prs[k] := List.getElem?_eq_getElem (by first | decide | assumption | with_reducible exact Int.natCast_nonneg _ | with_reducible exact Nat.le_trans (by assumption) (by decide) | with_reducible exact Nat.lt_of_lt_of_le (by assumption) (by decide) | with_reducible exact lt_mil (Nat.lt_of_lt_of_le (by assumption) (by decide)) | with_reducible exact lt_mil (Nat.lt_of_le_of_lt (by assumption) (by decide)) | with_reducible exact Nat.le_trans (Nat.le_of_lt (by assumption)) (by decide) | (first | lia | omega))
    rw [bUp_succ hp, bStep, List.map_append, List.nodup_append]
    refine ⟨ih, ?_, fun a ha b hb => ?_⟩
    · have s := List.Sublist.map (·.1) (List.filter_sublist (p := fun e : Bk => decide (e.1.length ≤ room) && decide (e.2 ≤ purse)) (l := (bUp room purse prs k).map fun e => (e.1 ++ [48 + k], e.2 + prs[k])))
      refine List.Pairwise.sublist s ?_
      rw [List.map_map]
      show (((bUp room purse prs k).map fun e => e.1 ++ [48 + k])).Pairwise (· ≠ ·)
      have ih : ((bUp room purse prs k).map (·.1)).Pairwise (· ≠ ·) := ih
      rw [List.pairwise_map] at ih ⊢
      exact ih.imp fun {a b} h q => h (List.append_cancel_right q)
    · rintro rfl
      obtain ⟨e, he, rfl⟩ := List.mem_map.mp ha
      obtain ⟨f, hf, q⟩ := List.mem_map.mp hb
      obtain ⟨g, _, rfl⟩ := List.mem_map.mp (List.mem_filter.mp hf).1
      have := ((bUp_ok k e he).2.2 (48 + k) (by rw [← q]; simp)).2
      (first | lia | omega)
end Mine

namespace Mine
open PySem PySem.W PyProof.Rows PySem.Calls
set_option maxRecDepth 100000

/-! ### from each basket to the next -/
def Ch {α : Type} (R : α → α → Prop) : List α → Prop
  | a :: b :: r => R a b ∧ Ch R (b :: r)
  | _ => True
theorem ch_cons {α : Type} {R : α → α → Prop} {a : α} {l : List α} (h : ∀ b, l.head? = some b → R a b) (c : Ch R l) : Ch R (a :: l) := by
  cases l with
  | nil => trivial
  | cons b r => exact ⟨h b rfl, c⟩
theorem ch_tail {α : Type} {R : α → α → Prop} {a : α} {l : List α} (c : Ch R (a :: l)) : Ch R l ∧ ∀ b, l.head? = some b → R a b := by
  cases l with
  | nil => exact ⟨trivial, fun b h => by cases h⟩
  | cons b r => exact ⟨c.2, fun d h => by cases h; exact c.1⟩
theorem ch_append {α : Type} {R : α → α → Prop} : ∀ {l m : List α}, Ch R l → Ch R m → (∀ x y, l.getLast? = some x → m.head? = some y → R x y) → Ch R (l ++ m)
  | [], m, _, c, _ => c
  | [a], m, _, c, h => ch_cons (fun b hb => h a b rfl hb) c
  | a :: b :: r, m, c1, c2, h => ⟨c1.1, ch_append (l := b :: r) c1.2 c2 fun x y hx hy => h x y (by rw [List.getLast?_cons_cons]; exact hx) hy⟩
theorem ch_map {α β : Type} {R : α → α → Prop} {f : β → α} : ∀ {l : List β}, Ch (fun a b => R (f a) (f b)) l → Ch R (l.map f)
  | [], _ => trivial
  | [a], _ => trivial
  | a :: b :: r, c => ⟨c.1, ch_map (l := b :: r) c.2⟩
theorem ch_imp {α : Type} {R S : α → α → Prop} (h : ∀ a b, R a b → S a b) : ∀ {l : List α}, Ch R l → Ch S l
  | [], _ => trivial
  | [a], _ => trivial
  | a :: b :: r, c => ⟨h _ _ c.1, ch_imp h (l := b :: r) c.2⟩
theorem ch_reverse {α : Type} {R : α → α → Prop} (sy : ∀ a b, R a b → R b a) : ∀ {l : List α}, Ch R l → Ch R l.reverse
  | [], _ => trivial
  | a :: r, c => by
    obtain ⟨c1, c2⟩ := ch_tail c
    rw [List.reverse_cons]
    refine ch_append (ch_reverse sy c1) trivial fun x y hx hy => ?_
    rw [List.getLast?_reverse] at hx
    cases hy
    exact sy _ _ (c2 x hx)
theorem ch_get {α : Type} {R : α → α → Prop} : ∀ {l : List α}, Ch R l → ∀ i, (h : i + 1 < l.length) → R l[i] l[i + 1]
  | [], _, i, h => by cases h
  | [a], _, i, h => by simp at h
  | a :: b :: r, c, 0, h => c.1
  | a :: b :: r, c, i + 1, h => ch_get (l := b :: r) c.2 i (by simpa using h)

def Adj (a b : List Nat) : Prop := (a.filter fun c => decide (c ∉ b)).length ≤ 1 ∧ (b.filter fun c => decide (c ∉ a)).length ≤ 1
theorem Adj.symm {a b : List Nat} (h : Adj a b) : Adj b a := ⟨h.2, h.1⟩
theorem filter_le {a : List Nat} {p q : Nat → Bool} (h : ∀ c ∈ a, p c = true → q c = true) : (a.filter p).length ≤ (a.filter q).length := by
  rw [← List.countP_eq_length_filter, ← List.countP_eq_length_filter]
  exact List.countP_mono_left h
theorem Adj.cons {a b : List Nat} (k : Nat) (h : Adj a b) : Adj (k :: a) (k :: b) := by
  have one : ∀ a b : List Nat, ((k :: a).filter fun c => decide (c ∉ k :: b)).length ≤ (a.filter fun c => decide (c ∉ b)).length := fun a b => by
    rw [List.filter_cons_of_neg (by simp)]
    exact filter_le fun c _ h => by simp at h ⊢; exact h.2
  exact ⟨Nat.le_trans (one a b) h.1, Nat.le_trans (one b a) h.2⟩
theorem adj_short {a b : List Nat} (ha : a.length ≤ 1) (hb : b.length ≤ 1) : Adj a b := ⟨Nat.le_trans (List.length_filter_le _ _) ha, Nat.le_trans (List.length_filter_le _ _) hb⟩
theorem adj_two {a b : Nat} : Adj [a, b] [b] := by
  refine ⟨?_, ?_⟩
  · rw [List.filter_cons]
    have : ([b].filter fun c => decide (c ∉ [b])) = [] := by simp
    split <;> simp [this]
  · simp

/-- a purse's baskets: what is cheaper can be had too -/
structure Cheap (hi : Nat) (L : List Nat → Bool) : Prop where
  less : ∀ x y, y.Sublist x → L x = true → L y = true
  swap : ∀ pre c c' x, c' ≤ c → c < hi → L (pre ++ c :: x) = true → L (pre ++ c' :: x) = true
theorem Cheap.under {hi : Nat} {L : List Nat → Bool} (h : Cheap hi L) (k : Nat) : Cheap hi fun x => L (k :: x) :=
  ⟨fun x y s => h.less (k :: x) (k :: y) (s.cons_cons k), fun pre c c' x a b => h.swap (k :: pre) c c' x a b⟩
theorem gray_chain {n : Nat} : ∀ {j : Nat}, j ≤ n → ∀ (L : List Nat → Bool), Cheap (48 + n) L → L [] = true →
    ((gray true n j).filter L).head? = some (if 0 < j ∧ L [48 + (n - j)] = true then [48 + (n - j)] else []) ∧ ((gray true n j).filter L).getLast? = some [] ∧ Ch Adj ((gray true n j).filter L)
  | 0, _, L, _, h0 => by
    rw [gray_zero, List.filter_cons_of_pos h0]
    exact ⟨rfl, rfl, trivial⟩
  | j + 1, hj, L, hC, h0 => by
    obtain ⟨b1, b2, b3⟩ := gray_chain (j := j) (by first | decide | assumption | with_reducible exact Int.natCast_nonneg _ | with_reducible exact Nat.le_trans (by assumption) (by decide) | with_reducible exact Nat.lt_of_lt_of_le (by assumption) (by decide) | with_reducible exact lt_mil (Nat.lt_of_lt_of_le (by assumption) (by decide)) | with_reducible exact lt_mil (Nat.lt_of_le_of_lt (by assumption) (by decide)) | with_reducible exact Nat.le_trans (Nat.le_of_lt (by assumption)) (by decide) | (first | lia | omega)) L hC h0
    have ek : 48 + (n - (j + 1)) = 48 + (n - 1 - j) := by (first | lia | omega)
    have el : 0 < j → 48 + (n - j) = 48 + (n - 1 - j) + 1 := by (first | lia | omega)
    rw [gray_succ, List.filter_append, List.filter_map, ek]
    simp only [if_true]
    generalize hk : 48 + (n - 1 - j) = k at el
    rw [List.filter_reverse]
    have hcomp : (L ∘ fun x => k :: x) = fun x => L (k :: x) := rfl
    rw [hcomp]
    cases hk1 : L [k] with
    | false =>
      have e : (gray true n j).filter (fun x => L (k :: x)) = [] := by
        rw [List.filter_eq_nil_iff]
        intro x _ q
        have := hC.less (k :: x) [k] (by simp) q
        rw [hk1] at this; cases this
      rw [e]
      refine ⟨?_, b2, b3⟩
      have : ¬ (0 < j ∧ L [48 + (n - j)] = true) := fun ⟨p, q⟩ => by
        rw [el p] at q
        have := hC.swap [] (k + 1) k [] (by first | decide | assumption | with_reducible exact Int.natCast_nonneg _ | with_reducible exact Nat.le_trans (by assumption) (by decide) | with_reducible exact Nat.lt_of_lt_of_le (by assumption) (by decide) | with_reducible exact lt_mil (Nat.lt_of_lt_of_le (by assumption) (by decide)) | with_reducible exact lt_mil (Nat.lt_of_le_of_lt (by assumption) (by decide)) | with_reducible exact Nat.le_trans (Nat.le_of_lt (by assumption)) (by decide) | (first | lia | omega)) (by first | decide | assumption | with_reducible exact Int.natCast_nonneg _ | with_reducible exact Nat.le_trans (by assumption) (by decide) | with_reducible exact Nat.lt_of_lt_of_le (by assumption) (by decide) | with_reducible exact lt_mil (Nat.lt_of_lt_of_le (by assumption) (by decide)) | with_reducible exact lt_mil (Nat.lt_of_le_of_lt (by assumption) (by decide)) | with_reducible exact Nat.le_trans (Nat.le_of_lt (by assumption)) (by decide) | (first | lia | omega)) q
        rw [show ([] : List Nat) ++ [k] = [k] from rfl, hk1] at this; cases this
      rw [if_neg this] at b1
      rw [if_neg (by simp)]
      exact b1
    | true =>
      obtain ⟨a1, a2, a3⟩ := gray_chain (j := j) (by first | decide | assumption | with_reducible exact Int.natCast_nonneg _ | with_reducible exact Nat.le_trans (by assumption) (by decide) | with_reducible exact Nat.lt_of_lt_of_le (by assumption) (by decide) | with_reducible exact lt_mil (Nat.lt_of_lt_of_le (by assumption) (by decide)) | with_reducible exact lt_mil (Nat.lt_of_le_of_lt (by assumption) (by decide)) | with_reducible exact Nat.le_trans (Nat.le_of_lt (by assumption)) (by decide) | (first | lia | omega)) _ (hC.under k) hk1
      generalize (gray true n j).filter (fun x => L (k :: x)) = A at a1 a2 a3
      generalize (gray true n j).filter L = B at b1 b2 b3
      refine ⟨?_, ?_, ch_append (ch_map (ch_imp (fun a b h => Adj.cons k h) (ch_reverse (fun a b h => h.symm) a3))) b3 fun x y hx hy => ?_⟩
      · rw [List.head?_append, List.head?_map, List.head?_reverse, a2, if_pos ⟨by (first | lia | omega), rfl⟩]; rfl
      · rw [List.getLast?_append, b2]; rfl
      · rw [List.getLast?_map, List.getLast?_reverse, a1] at hx
        rw [b1] at hy
        cases hx
        cases hy
        by_cases p1 : 0 < j ∧ L [48 + (n - j)] = true
        · rw [if_pos p1]
          by_cases p2 : 0 < j ∧ L (k :: [48 + (n - j)]) = true
          · rw [if_pos p2]
            exact adj_two
          · rw [if_neg p2]
            exact adj_short (Nat.le_refl _) (Nat.le_refl _)
        · rw [if_neg p1, if_neg fun p2 => p1 ⟨p2.1, hC.less _ _ (by simp) p2.2⟩]
          exact adj_short (Nat.le_refl _) (Nat.zero_le _)

/-! ### what the law asks -/
structure Plain1 (fl sz n : Nat) (names : List (List Nat)) : Prop where
  down : layUp sQ (names.map (fill fl 60 sz)) names.length = ((gray false n n).filter fun x => decide (x ∈ names)).map (fill fl 60 sz)
  turn : turnUp fl sz names sz = (gray true n n).filter fun x => decide (x ∈ names)
  step : ∀ k, k < ((gray true n n).filter fun x => decide (x ∈ names)).length → stepAt ((gray true n n).filter fun x => decide (x ∈ names)) k ≤ 1
  some : ((gray true n n).filter fun x => decide (x ∈ names)) ≠ []
theorem sum_sub {x y : List Nat} (s : y.Sublist x) : y.sum ≤ x.sum := by
  induction s with
  | slnil => exact Nat.le_refl _
  | cons a _ ih => rw [List.sum_cons]; (first | lia | omega)
  | cons_cons a _ ih => rw [List.sum_cons, List.sum_cons]; (first | lia | omega)
theorem plain1_of {fl sz n room purse : Nat} {prs : List Nat} (hn : n ≤ 5) (hpn : prs.length = n) (hs : prs.Pairwise (· ≤ ·)) (hfl : 53 ≤ fl) (hroom : room ≤ sz) : Plain1 fl sz n ((bUp room purse prs n).map (·.1)) := by
  have hf : 48 + n ≤ fl := by (first | lia | omega)
  have hmem : ∀ x, x ∈ (bUp room purse prs n).map (·.1) ↔ Up 48 (48 + n) x ∧ x.length ≤ room ∧ costOf prs x ≤ purse := fun x => by
    rw [List.mem_map]
    constructor
    · rintro ⟨e, he, rfl⟩
      obtain ⟨a, b, c, _⟩ := (bUp_mem n (by first | decide | assumption | with_reducible exact Int.natCast_nonneg _ | with_reducible exact Nat.le_trans (by assumption) (by decide) | with_reducible exact Nat.lt_of_lt_of_le (by assumption) (by decide) | with_reducible exact lt_mil (Nat.lt_of_lt_of_le (by assumption) (by decide)) | with_reducible exact lt_mil (Nat.lt_of_le_of_lt (by assumption) (by decide)) | with_reducible exact Nat.le_trans (Nat.le_of_lt (by assumption)) (by decide) | (first | lia | omega)) e).mp he
      exact ⟨a, b, c⟩
    · rintro ⟨a, b, c⟩
      exact ⟨(x, costOf prs x), (bUp_mem n (by first | decide | assumption | with_reducible exact Int.natCast_nonneg _ | with_reducible exact Nat.le_trans (by assumption) (by decide) | with_reducible exact Nat.lt_of_lt_of_le (by assumption) (by decide) | with_reducible exact lt_mil (Nat.lt_of_lt_of_le (by assumption) (by decide)) | with_reducible exact lt_mil (Nat.lt_of_le_of_lt (by assumption) (by decide)) | with_reducible exact Nat.le_trans (Nat.le_of_lt (by assumption)) (by decide) | (first | lia | omega)) _).mpr ⟨a, b, c, rfl⟩, rfl⟩
  have hnd : ((bUp room purse prs n).map (·.1)).Nodup := bUp_nodup n (by first | decide | assumption | with_reducible exact Int.natCast_nonneg _ | with_reducible exact Nat.le_trans (by assumption) (by decide) | with_reducible exact Nat.lt_of_lt_of_le (by assumption) (by decide) | with_reducible exact lt_mil (Nat.lt_of_lt_of_le (by assumption) (by decide)) | with_reducible exact lt_mil (Nat.lt_of_le_of_lt (by assumption) (by decide)) | with_reducible exact Nat.le_trans (Nat.le_of_lt (by assumption)) (by decide) | (first | lia | omega))
  generalize (bUp room purse prs n).map (·.1) = names at hmem hnd
  have hlen : ∀ x ∈ names, x.length ≤ sz := fun x hx => Nat.le_trans ((hmem x).mp hx).2.1 hroom
  have hgm : ∀ t x, x ∈ gray t n n ↔ Up 48 (48 + n) x := fun t x => by
    have := gray_mem (t := t) (n := n) (j := n) (Nat.le_refl _) x
    rwa [Nat.sub_self] at this
  have hperm : ∀ t, ((gray t n n).filter fun x => decide (x ∈ names)).Perm names := fun t => by
    refine (List.perm_ext_iff_of_nodup (List.Pairwise.filter _ (gray_nodup (Nat.le_refl _))) hnd).mpr fun x => ?_
    rw [List.mem_filter, decide_eq_true_iff, hgm]
    exact ⟨fun h => h.2, fun h => ⟨((hmem x).mp h).1, h⟩⟩
  have hfm : ∀ t, ∀ x ∈ (gray t n n).filter (fun x => decide (x ∈ names)), x ∈ names := fun t x hx => (hperm t).subset hx
  refine ⟨?_, ?_, ?_, ?_⟩
  · -- by texts
    have s1 := layUp_pairwise (R := fun a b : List Nat => ¬ b < a) (q := sQ) (fun x a b h q => decide_eq_true fun r => of_decide_eq_true q (Std.lt_of_lt_of_le r (List.not_lt.mp h))) (fun x a q => of_decide_eq_true q) (fun x a q => List.lt_asymm (Classical.not_not.mp (of_decide_eq_false q))) (names.map (fill fl 60 sz)) names.length
    have p1 := layUp_perm sQ (names.map (fill fl 60 sz)) names.length
    rw [List.take_of_length_le (by simp)] at p1
    refine List.Perm.eq_of_pairwise (le := fun a b : List Nat => ¬ b < a) (fun a b _ _ h1 h2 => List.le_antisymm (List.not_lt.mp h1) (List.not_lt.mp h2)) s1 ?_ (p1.trans ((hperm false).map _).symm)
    rw [List.pairwise_map]
    refine List.Pairwise.imp_of_mem (fun {a b} ha hb h => ?_) (List.Pairwise.filter _ (gray_straight hf (Nat.le_refl _) sz))
    exact List.lt_asymm (h (hlen a (hfm _ a ha)) (hlen b (hfm _ b hb)))
  · -- by mirrors
    have s1 := turn_order (fl := fl) (sz := sz) hlen sz (Nat.le_refl _)
    rw [Nat.sub_self] at s1
    simp only [List.drop_zero] at s1
    have p1 := turnUp_perm fl sz names sz
    have hc : ∀ x ∈ names, ∀ c ∈ x, c < 48 + n := fun x hx c hc => (((hmem x).mp hx).1.2 c hc).2
    refine List.Perm.eq_of_pairwise (le := fun a b : List Nat => ¬ rlt (fill fl 60 sz b) (fill fl 60 sz a)) (fun a b ha hb h1 h2 => ?_) s1 ?_ (p1.trans (hperm true).symm)
    · have ha := p1.subset ha
      have hb := hfm _ b hb
      exact fill_inj hf (hc a ha) (hc b hb) (rlt_total (by rw [fill_len' (hlen a ha), fill_len' (hlen b hb)]) h2 h1)
    · refine List.Pairwise.imp_of_mem (fun {a b} ha hb h => ?_) (List.Pairwise.filter _ (gray_turned hf (Nat.le_refl _) sz))
      have ha := hlen a (hfm _ a ha)
      have hb := hlen b (hfm _ b hb)
      exact rlt_asymm (by rw [fill_len' ha, fill_len' hb]) (h ha hb)
  all_goals
    have hL : (gray true n n).filter (fun x => decide (x ∈ names)) = (gray true n n).filter (fun x => decide (x.length ≤ room) && decide (costOf prs x ≤ purse)) := List.filter_congr fun x hx => by
      have u := (hgm true x).mp hx
      rw [Bool.eq_iff_iff]
      simp only [decide_eq_true_eq, Bool.and_eq_true, hmem]
      exact ⟨fun h => h.2, fun h => ⟨u, h⟩⟩
    have hmono : ∀ c c', c' ≤ c → c < 48 + n → prs.getD (c' - 48) 0 ≤ prs.getD (c - 48) 0 := fun c c' h1 h2 => by
      rw [List.getD_eq_getElem?_getD, List.getD_eq_getElem?_getD]
      by_cases h0 : n = 0
      · have : prs = [] := List.eq_nil_of_length_eq_zero (by first | decide | assumption | with_reducible exact Int.natCast_nonneg _ | with_reducible exact Nat.le_trans (by assumption) (by decide) | with_reducible exact Nat.lt_of_lt_of_le (by assumption) (by decide) | with_reducible exact lt_mil (Nat.lt_of_lt_of_le (by assumption) (by decide)) | with_reducible exact lt_mil (Nat.lt_of_le_of_lt (by assumption) (by decide)) | with_reducible exact Nat.le_trans (Nat.le_of_lt (by assumption)) (by decide) | (first | lia | omega))
        subst this; simp
      · have a1 : c' - 48 < prs.length := by (first | lia | omega)
        have a2 : c - 48 < prs.length := by (first | lia | omega)
        rw [List.getElem?_eq_getElem a1, List.getElem?_eq_getElem a2]
        show prs[c' - 48] ≤ prs[c - 48]
        by_cases q : c' - 48 = c - 48
        · simp [q]
        · exact List.pairwise_iff_getElem.mp hs _ _ a1 a2 (by first | decide | assumption | with_reducible exact Int.natCast_nonneg _ | with_reducible exact Nat.le_trans (by assumption) (by decide) | with_reducible exact Nat.lt_of_lt_of_le (by assumption) (by decide) | with_reducible exact lt_mil (Nat.lt_of_lt_of_le (by assumption) (by decide)) | with_reducible exact lt_mil (Nat.lt_of_le_of_lt (by assumption) (by decide)) | with_reducible exact Nat.le_trans (Nat.le_of_lt (by assumption)) (by decide) | (first | lia | omega))
    have hC : Cheap (48 + n) (fun x => decide (x.length ≤ room) && decide (costOf prs x ≤ purse)) := by
      refine ⟨fun x y s h => ?_, fun pre c c' x h1 h2 h => ?_⟩
      · simp only [Bool.and_eq_true, decide_eq_true_eq] at h ⊢
        refine ⟨Nat.le_trans s.length_le h.1, Nat.le_trans ?_ h.2⟩
        exact sum_sub (s.map _)
      · simp only [Bool.and_eq_true, decide_eq_true_eq] at h ⊢
        refine ⟨by rw [List.length_append, List.length_cons] at h ⊢; exact h.1, ?_⟩
        have := hmono c c' h1 h2
        have e : ∀ d, costOf prs (pre ++ d :: x) = costOf prs pre + (prs.getD (d - 48) 0 + costOf prs x) := fun d => by
          rw [costOf_append]; simp [costOf]
        rw [e] at h ⊢
        (first | lia | omega)
    obtain ⟨g1, g2, g3⟩ := gray_chain (n := n) (j := n) (Nat.le_refl _) _ hC (by simp [costOf])
    rw [hL]
    generalize (gray true n n).filter (fun x => decide (x.length ≤ room) && decide (costOf prs x ≤ purse)) = row at g1 g2 g3
    have hne : row ≠ [] := by rintro rfl; cases g2
  · intro k hk
    have adj : Adj (row.getD (if k = 0 then row.length - 1 else k - 1) []) (row.getD k []) := by
      by_cases h : k = 0
      · subst h
        rw [if_pos rfl]
        have e1 : row.getD (row.length - 1) [] = [] := by
          rw [List.getLast?_eq_getElem?] at g2
          rw [List.getD_eq_getElem?_getD, g2]; rfl
        rw [e1]
        have e2 : (row.getD 0 []).length ≤ 1 := by
          rw [List.head?_eq_getElem?] at g1
          rw [List.getD_eq_getElem?_getD, g1]
          show (if _ then _ else _ : List Nat).length ≤ 1
          split <;> simp
        exact adj_short (Nat.zero_le _) e2
      · rw [if_neg h, List.getD_eq_getElem?_getD, List.getD_eq_getElem?_getD, List.getElem?_eq_getElem (by first | decide | assumption | with_reducible exact Int.natCast_nonneg _ | with_reducible exact Nat.le_trans (by assumption) (by decide) | with_reducible exact Nat.lt_of_lt_of_le (by assumption) (by decide) | with_reducible exact lt_mil (Nat.lt_of_lt_of_le (by assumption) (by decide)) | with_reducible exact lt_mil (Nat.lt_of_le_of_lt (by assumption) (by decide)) | with_reducible exact Nat.le_trans (Nat.le_of_lt (by assumption)) (by decide) | (first | lia | omega)), List.getElem?_eq_getElem hk]
        have := ch_get g3 (k - 1) (by first | decide | assumption | with_reducible exact Int.natCast_nonneg _ | with_reducible exact Nat.le_trans (by assumption) (by decide) | with_reducible exact Nat.lt_of_lt_of_le (by assumption) (by decide) | with_reducible exact lt_mil (Nat.lt_of_lt_of_le (by assumption) (by decide)) | with_reducible exact lt_mil (Nat.lt_of_le_of_lt (by assumption) (by decide)) | with_reducible exact Nat.le_trans (Nat.le_of_lt (by assumption)) (by decide) | (first | lia | omega))
        simp only [show k - 1 + 1 = k by (first | lia | omega)] at this
        exact this
    exact Nat.max_le.mpr ⟨adj.1, adj.2⟩
  · exact hne
end Mine

namespace Mine
open PySem PySem.W PyProof.Rows PySem.Calls
set_option maxRecDepth 100000

abbrev ktabs : List (Addr × Addr) := [(148, 144), (170, 168)]
def strF (g : List Nat → PyData) : PyData → PyData
  | .str x => g x.cps.toList
  | _ => .none
def strP (g : List Nat → Bool) : PyData → Bool
  | .str x => g x.cps.toList
  | _ => false
def modD : PyData → PyData
  | .int x => .int ((x % 12).toNat : Int)
  | _ => .none
def rawOf (ns : List Int) : List Int := ns.take 5 ++ [3, 10, 2].drop ns.length
def pricesOf (ns : List Int) : List Nat := (rawOf ns).map fun x => (x % 12).toNat
theorem rawOf_len (ns : List Int) : (rawOf ns).length ≤ 5 := by simp [rawOf]; (first | lia | omega)
theorem pricesOf_lt (ns : List Int) : ∀ p ∈ pricesOf ns, p < 12 := fun p hp => by
  obtain ⟨x, _, rfl⟩ := List.mem_map.mp hp
  (first | lia | omega)
theorem fdiv_e (a k : Int) (h : 0 < k) : Int.fdiv a k = a / k := Int.fdiv_eq_ediv_of_nonneg _ (by first | decide | assumption | with_reducible exact Int.natCast_nonneg _ | with_reducible exact Nat.le_trans (by assumption) (by decide) | with_reducible exact Nat.lt_of_lt_of_le (by assumption) (by decide) | with_reducible exact lt_mil (Nat.lt_of_lt_of_le (by assumption) (by decide)) | with_reducible exact lt_mil (Nat.lt_of_le_of_lt (by assumption) (by decide)) | with_reducible exact Nat.le_trans (Nat.le_of_lt (by assumption)) (by decide) | (first | lia | omega))
theorem fmod_n (a k : Int) (h : 0 < k) : Int.fmod a k = ((a % k).toNat : Int) := by
  rw [Int.fmod_eq_emod_of_nonneg _ (by first | decide | assumption | with_reducible exact Int.natCast_nonneg _ | with_reducible exact Nat.le_trans (by assumption) (by decide) | with_reducible exact Nat.lt_of_lt_of_le (by assumption) (by decide) | with_reducible exact lt_mil (Nat.lt_of_lt_of_le (by assumption) (by decide)) | with_reducible exact lt_mil (Nat.lt_of_le_of_lt (by assumption) (by decide)) | with_reducible exact Nat.le_trans (Nat.le_of_lt (by assumption)) (by decide) | (first | lia | omega)), Int.toNat_of_nonneg (Int.emod_nonneg _ (by first | decide | assumption | with_reducible exact Int.natCast_nonneg _ | with_reducible exact Nat.le_trans (by assumption) (by decide) | with_reducible exact Nat.lt_of_lt_of_le (by assumption) (by decide) | with_reducible exact lt_mil (Nat.lt_of_lt_of_le (by assumption) (by decide)) | with_reducible exact lt_mil (Nat.lt_of_le_of_lt (by assumption) (by decide)) | with_reducible exact Nat.le_trans (Nat.le_of_lt (by assumption)) (by decide) | (first | lia | omega)))]
theorem pick4 {l : List Nat} {i : Int} (hl : l.length = 4) : ∃ c, l[(i % 4).toNat]? = some c ∧ c ∈ l := by
  have : (i % 4).toNat < l.length := by (first | lia | omega)
  exact ⟨_, List.getElem?_eq_getElem this, List.getElem_mem _⟩
theorem most_of : ∀ (l : List Int), l ≠ [] → ∃ m ∈ l, ∀ x ∈ l, x ≤ m
  | [], h => (h rfl).elim
  | [a], _ => ⟨a, .head _, fun x hx => by rw [List.mem_singleton] at hx; (first | lia | omega)⟩
  | a :: b :: r, _ => by
    obtain ⟨m, hm, hle⟩ := most_of (b :: r) (by simp)
    by_cases h : a ≤ m
    · exact ⟨m, .tail _ hm, fun x hx => by
        rcases List.mem_cons.mp hx with rfl | hx
        · exact h
        · exact hle x hx⟩
    · exact ⟨a, .head _, fun x hx => by
        rcases List.mem_cons.mp hx with rfl | hx
        · exact Int.le_refl _
        · have := hle x hx; (first | lia | omega)⟩
theorem pl_s {k : Nat} {n : List Nat} (h : ∀ c ∈ n, c < 0x110000) : Pl k (sD n) := .str n h
theorem pl_ss {k : Nat} {ns : List (List Nat)} (h : ∀ n ∈ ns, ∀ c ∈ n, c < 0x110000) : Pl (k + 1) (.list (ns.map sD)) := .list _ fun d hd => by
  obtain ⟨n, hn, rfl⟩ := List.mem_map.mp hd
  exact pl_s (h n hn)
theorem fill_signs {c a w : Nat} {l : List Nat} (hc : c < 0x110000) (h : ∀ x ∈ l, x < 0x110000) : ∀ x ∈ fill c a w l, x < 0x110000 := fun x hx => by
  unfold fill at hx
  split at hx <;> rcases List.mem_append.mp hx with hx | hx
  · rw [(List.mem_replicate.mp hx).2]; exact hc
  · exact h x hx
  · exact h x hx
  · rw [(List.mem_replicate.mp hx).2]; exact hc
theorem dec_signs {a c : Nat} (h : c ∈ dec a) : c < 0x110000 := by
  unfold dec at h
  rcases List.mem_append.mp h with h | h
  · split at h
    · rw [List.mem_singleton] at h; (first | lia | omega)
    · cases h
  · rw [List.mem_singleton] at h; (first | lia | omega)
theorem pl_g {sz : Nat} {e : Gd1} : Pl 1 (gD sz e) := .list _ fun d hd => by
  rcases List.mem_cons.mp hd with rfl | hd
  · exact .int _
  · rcases List.mem_cons.mp hd with rfl | hd
    · exact .int _
    · rcases List.mem_cons.mp hd with rfl | hd
      · refine .str _ fun c hc => ?_
        rcases List.mem_append.mp hc with hc | hc
        · rw [(List.mem_replicate.mp hc).2]; decide
        · exact dec_signs hc
      · rw [List.mem_singleton] at hd
        subst hd
        refine .str _ fun c hc => ?_
        rcases List.mem_append.mp hc with hc | hc
        · rw [(List.mem_replicate.mp hc).2]; decide
        · exact dec_signs hc
theorem pl_n {fl sz : Nat} (hf : fl < 0x110000) {n : List Nat} (h : ∀ c ∈ n, c < 0x110000) : Pl 1 (nD fl sz n) := .list _ fun d hd => by
  rcases List.mem_cons.mp hd with rfl | hd
  · exact .str _ (fill_signs hf h)
  · rw [List.mem_singleton] at hd
    subst hd
    exact .str _ h
theorem cmpR_in_names {F : Fm} {names : List (List Nat)} {n : List Nat} (h : ∀ m ∈ names, ∀ c ∈ m, c < 0x110000) (hn : ∀ c ∈ n, c < 0x110000) : CmpR F .In (.dat (sD n)) (.dat (.list (names.map sD))) (decide (n ∈ names)) := by
  have hl : ∀ d ∈ names.map sD, Pl 0 d := fun d hd => by
    obtain ⟨m, hm, rfl⟩ := List.mem_map.mp hd
    exact pl_s (h m hm)
  have e : ((names.map sD).any fun y => PyData.eqv y (sD n)) = decide (n ∈ names) := by
    rw [Bool.eq_iff_iff, List.any_eq_true, decide_eq_true_iff]
    constructor
    · rintro ⟨d, hd, q⟩
      obtain ⟨m, hm, rfl⟩ := List.mem_map.mp hd
      have := ((pl_s (k := 0) (h m hm)).eqv (pl_s (k := 0) hn)).mp q
      have : m = n := by simpa [sD, st] using this
      exact this ▸ hm
    · exact fun hm => ⟨sD n, List.mem_map.mpr ⟨n, hm, rfl⟩, ((pl_s (k := 0) hn).eqv (pl_s (k := 0) hn)).mpr rfl⟩
  rw [← e]
  exact cmpR_in_list (canLayAll0_of fun d hd => (hl d hd).lay.1) (pl_s (k := 0) hn).lay.1 (Nat.le_trans (Nat.min_le_right _ _) (Nat.le_trans (pl_s (k := 0) hn).lay.2 (by decide)))
theorem filter_in (names l : List (List Nat)) (g : List Nat → PyData) : ((l.map sD).filter (strP fun n => decide (n ∈ names))).map (strF g) = (l.filter fun n => decide (n ∈ names)).map g := by
  rw [List.filter_map, List.map_map]
  rfl

end Mine
open PySem PySem.W PyProof.Rows PySem.Calls Mine
set_option maxRecDepth 100000
set_option maxHeartbeats 4000000 in
theorem Mine.ent1 : PySem.Challenge.rw_il0215_01.Holds := hd1 (by
  k_fill
  intro w s₀ s₁ mg mb G Y fa o pm cd doc dV kV ho hd hcd hD hmg hg args vals as hpre hlay hrd hwl hlo
  have KX := km_in_of Y
  have hT8 := km_tabs_of Y
  have hdV := hD.pos_none rfl
  have hkV := hD.kw_none rfl
  subst hdV hkV
  refine Ground.open G ?_
  intro T B D TE TW
  have hT9 : TabsAt ktabs s₁.heap := fun q hq => by
    rcases List.mem_cons.mp hq with rfl | hq
    · exact ⟨codeHd_of_K (c := 148) (P := 144) KX (by kernel_rfl), hT8 144 (by decide)⟩
    · rw [List.mem_singleton] at hq
      subst hq
      exact ⟨codeHd_of_K (c := 170) (P := 168) KX (by kernel_rfl), hT8 168 (by decide)⟩
  wrow_args hpre hlay hrd hwl hlo
  rename_i ns hs0 hlay0 hL1 hr1 hl2 q4 q3 l vs q0 hL ra w1 r0 hI hr hlen hT
  have hlen : ns.length ≤ 63 := by (first | lia | omega)
  have T9 := ghost_top hT9 T
  have K9 : (hd1.heap_39 w.params).In (ghostOf s₁.heap ktabs) := ghost_K hT9 KX (by kernel_rfl)
  let C : Cx := { prog := Challenge.rw_il0215_01.row.prog, w := w, A := callerA, g := fun b => (ghostOf s₁.heap ktabs).get? b, K := hd1.heap_39 w.params, mg := mg, mb := mb, fuel := 12 }
  have ok : C.Ok := ⟨rfl, show 1 + claimMargin + 12 ≤ 600 by decide, show 4 + 8 * 12 ≤ 2000 by decide, K9, fun h x => T9.g.keeps x, fun h x => T9.b.keeps x, fun h x => T9.nolimit.keeps x, T9.builtins⟩
  have I : Is1 w.params C := ⟨rfl, K9, fun n v e => by
    cases v with
    | none => exact mg_none_of KX T.g e
    | some v => exact mg_of KX T.g e⟩
  have Bm0 : Bm C := by
    obtain ⟨bm, ob, b1, b2, b3, b4, b5, b6⟩ := T9.bmain
    refine ⟨bm, ob, b1, b2, fun q => ?_, b3, b4, b5, b6⟩
    obtain ⟨o, es, ep, e, hd, _⟩ := T9.g
    rw [q, e] at b3; cases b3; rw [hd] at b6; cases b6
  have tof : ∀ a, TOf tabs1 a ↔ a ∈ ktabs.map (·.2) := fun a => by
    constructor
    · rintro ⟨q, hq, rfl⟩
      rcases List.mem_cons.mp hq with rfl | hq
      · exact .head _
      · rw [List.mem_singleton] at hq; subst hq; exact .tail _ (.head _)
    · intro h
      rcases List.mem_cons.mp h with rfl | h
      · exact ⟨tabG, .head _, rfl⟩
      · have h : a ∈ [168] := h
        rw [List.mem_singleton] at h; exact ⟨tabT, .tail _ (.head _), h.symm⟩
  have tab0 : ∀ a, TOf tabs1 a → s₁.heap.get? a = some (tabObj #[]) := fun a h => by
    obtain ⟨q, hq, rfl⟩ := List.mem_map.mp ((tof a).mp h)
    exact (hT9 q hq).2
  have S : C.St (TOf tabs1) s₁ := ⟨fun b o e => of_hideAll _ e, fun a h => ⟨_, tab0 a h⟩⟩
  have hTg : ∀ a, TOf tabs1 a → C.g a = none := fun a h => hideAll_none _ ((tof a).mp h)
  have J : TabsJ tabs1 (TOf tabs1) s₁.heap := fun q hq => ⟨#[], tab0 _ ⟨q, hq, rfl⟩, .inl rfl⟩
  show wpAny (model C.prog C.w) C.A (call (.ref fa) [Value.ref l]) _ _ s₁
  have hitems : RepAll (TOf tabs1) s₁.heap vs (ns.map .int) := ints_rep hI
  refine wpAny_call (codeAny_mono (enterJ (b := .dat (.bool true)) ok (show 0 < 12 by decide) S (fun _ h => h) hTg J ho hd hcd (binds := [(Str.ofString "script", .ref l)]) (bs := [.lst (ns.map .int)]) ?_ (.cons ⟨l, vs, rfl, hL, hitems⟩ .nil) (show [Str.ofString "script"].Nodup by decide) rfl fun L => ?_) fun r s' ⟨v, e, k, q⟩ => ?_)
  · exact kp_binds KX (fun _ => rfl)
  · dsimp only [docDef]
    have hf : 8 < C.fuel := show 8 < 12 by decide
    have hfu : 0 < C.fuel - 1 := by (first | lia | omega)
    have hfu3 : 3 < C.fuel - 1 := by (first | lia | omega)
    have hfu6 : 6 < C.fuel - 1 := by (first | lia | omega)
    generalize hps : pricesOf ns = ps
    have hpz : ps.length ≤ 5 := by rw [← hps, pricesOf, List.length_map]; exact rawOf_len ns
    have hp12 : ∀ p ∈ ps, p < 12 := hps ▸ pricesOf_lt ns
    generalize hm : ns.sum + 83 = m
    generalize hsz : (m / 108 % 2).toNat + 3 = sz
    have h3 : sz = 3 ∨ sz = 4 := by (first | lia | omega)
    obtain ⟨fl, hfl, hflm⟩ := pick4 (l := [126, 58, 65, 124]) (i := m / 216) rfl
    have hfl0 : 53 ≤ fl := by simp at hflm; (first | lia | omega)
    have hfl1 : fl < 128 := by simp at hflm; (first | lia | omega)
    generalize hpu : (m % 36).toNat = pu
    generalize hro : (m / 36 % 3).toNat + 1 = ro
    have hro3 : ro ≤ sz := by (first | lia | omega)
    have hRl : (gUp ps ps.length).length = ps.length := gUp_len (Nat.le_refl _)
    have hRs := gUp_sorted ps ps.length
    generalize hR : gUp ps ps.length = R at hRl hRs
    have hR5 : R.length ≤ 5 := by (first | lia | omega)
    have PL := plain1_of (fl := fl) (sz := sz) (n := R.length) (room := ro) (purse := pu) (prs := R.map (·.2)) hR5 (by rw [List.length_map]) (by rw [List.pairwise_map]; exact hRs) hfl0 hro3
    have hNok : ∀ n ∈ (bUp ro pu (R.map (·.2)) R.length).map (·.1), n.length ≤ ro ∧ ∀ c ∈ n, c < 53 := fun n hn => by
      obtain ⟨e, he, rfl⟩ := List.mem_map.mp hn
      obtain ⟨_, a, b⟩ := bUp_ok _ e he
      exact ⟨a, fun c hc => by have := (b c hc).2; (first | lia | omega)⟩
    have hNz : ((bUp ro pu (R.map (·.2)) R.length).map (·.1)).length ≤ 32 := by
      rw [List.length_map]
      exact Nat.le_trans (bUp_len _) (Nat.pow_le_pow_right (n := 2) (by first | decide | assumption | with_reducible exact Int.natCast_nonneg _ | with_reducible exact Nat.le_trans (by assumption) (by decide) | with_reducible exact Nat.lt_of_lt_of_le (by assumption) (by decide) | with_reducible exact lt_mil (Nat.lt_of_lt_of_le (by assumption) (by decide)) | with_reducible exact lt_mil (Nat.lt_of_le_of_lt (by assumption) (by decide)) | with_reducible exact Nat.le_trans (Nat.le_of_lt (by assumption)) (by decide) | (first | lia | omega)) hR5)
    have hbk : ((bUp ro pu (R.map (·.2)) R.length).map fun e => sD e.1) = ((bUp ro pu (R.map (·.2)) R.length).map (·.1)).map sD := by rw [List.map_map]; rfl
    generalize hnms : (bUp ro pu (R.map (·.2)) R.length).map (·.1) = nms at PL hNok hNz hbk
    have hNs : ∀ n ∈ nms, n.length ≤ sz := fun n hn => Nat.le_trans (hNok n hn).1 hro3
    have hNc : ∀ n ∈ nms, ∀ c ∈ n, c < 0x110000 := fun n hn c hc => Nat.lt_trans ((hNok n hn).2 c hc) (by decide)
    have hGl : ∀ t, (gray t R.length R.length).length ≤ 32 := fun t => by rw [gray, List.length_reverse, mUp_len]; exact Nat.pow_le_pow_right (n := 2) (by first | decide | assumption | with_reducible exact Int.natCast_nonneg _ | with_reducible exact Nat.le_trans (by assumption) (by decide) | with_reducible exact Nat.lt_of_lt_of_le (by assumption) (by decide) | with_reducible exact lt_mil (Nat.lt_of_lt_of_le (by assumption) (by decide)) | with_reducible exact lt_mil (Nat.lt_of_le_of_lt (by assumption) (by decide)) | with_reducible exact Nat.le_trans (Nat.le_of_lt (by assumption)) (by decide) | (first | lia | omega)) hR5
    have hGc : ∀ t, ∀ n ∈ gray t R.length R.length, n.length ≤ 5 ∧ ∀ c ∈ n, c < 0x110000 := fun t n hn => by
      obtain ⟨a, b⟩ := mUp_ok R.length (Nat.le_refl _) n (List.mem_reverse.mp hn)
      exact ⟨by (first | lia | omega), fun c hc => by have := (b c hc).2; (first | lia | omega)⟩
    have hGf : ∀ t, (gray t R.length R.length).filter (fun n => decide (n ∈ nms)) ⊆ nms := fun t n hn => of_decide_eq_true (List.mem_filter.mp hn).2
    obtain ⟨PLd, PLt, PLs, PLn⟩ := PL
    generalize hdn : (gray false R.length R.length).filter (fun n => decide (n ∈ nms)) = dn at PLd
    generalize htn : (gray true R.length R.length).filter (fun n => decide (n ∈ nms)) = tn at PLt PLs PLn
    have hDs : dn ⊆ nms := hdn ▸ hGf false
    have hTs : tn ⊆ nms := htn ▸ hGf true
    have hTz : tn.length ≤ 32 := by rw [← htn]; exact Nat.le_trans (List.length_filter_le _ _) (hGl true)
    have hsz4 : sz ≤ 4 := by (first | lia | omega)
    refine exj_make (Γ' := [(Str.ofString "script", .lst (ns.map .int))]) (evm_call (ev_glob rfl ((I.into _).gl rfl)) rfl rfl rfl) (by first | exact Or.inl rfl | exact Or.inr ⟨rfl, rfl, rfl⟩) (Pq.g (by repeat (first | exact Pq.nil | refine Pq.cons (by first | exact mem_at 0 rfl | exact mem_at 1 rfl | exact mem_at 2 rfl | exact mem_at 3 rfl | exact mem_at 4 rfl | exact mem_at 5 rfl | exact mem_at 6 rfl | exact mem_at 7 rfl | exact mem_at 8 rfl | exact mem_at 9 rfl | exact mem_at 10 rfl | exact mem_at 11 rfl | exact mem_at 12 rfl | exact mem_at 13 rfl | exact mem_at 14 rfl | exact mem_at 15 rfl | exact mem_at 16 rfl | exact mem_at 17 rfl | exact mem_at 18 rfl | exact mem_at 19 rfl | exact mem_at 20 rfl | exact mem_at 21 rfl) rfl ?_))) fun g' x dx up hx hdx => ?_
    have X : ∀ {C' : Cx}, C'.g = g' → Wr C' x dx := fun e => ⟨by rw [e]; exact hx, by rw [e]; exact hdx⟩
    refine exj_cons (exj_of (ex_acomp (Γ' := [(Str.ofString "writer", .val (.ref x)), (Str.ofString "script", .lst (ns.map .int)), (Str.ofString "prices", .dat (.list (ps.map pI)))]) [] [] (fun _ => true) modD (ps.map pI) (items := (rawOf ns).map .int) (evi_list (ev_eq (b := .dat (.list ((rawOf ns).map .int))) (ev_bin (ev_lst (ev_slice (ev_var (b := .lst (ns.map .int)) (by first | exact mem_at 0 rfl | exact mem_at 1 rfl | exact mem_at 2 rfl | exact mem_at 3 rfl | exact mem_at 4 rfl | exact mem_at 5 rfl | exact mem_at 6 rfl | exact mem_at 7 rfl | exact mem_at 8 rfl | exact mem_at 9 rfl | exact mem_at 10 rfl | exact mem_at 11 rfl | exact mem_at 12 rfl | exact mem_at 13 rfl | exact mem_at 14 rfl | exact mem_at 15 rfl | exact mem_at 16 rfl | exact mem_at 17 rfl | exact mem_at 18 rfl | exact mem_at 19 rfl | exact mem_at 20 rfl | exact mem_at 21 rfl)) evp_none (evp_some ev_int) evp_none (sliceR_list (by simp; (first | lia | omega))))) (ev_lst (ev_slice (ev_lst (ev_list (ds := [.int 3, .int 10, .int 2]) (evd_cons ev_int (evd_cons ev_int (evd_cons ev_int evd_nil))))) (evp_some (ev_call_bi (ev_builtin rfl (((I.into _).reb up).gl rfl) rfl) (evl_cons (ev_var (b := .lst (ns.map .int)) (by first | exact mem_at 0 rfl | exact mem_at 1 rfl | exact mem_at 2 rfl | exact mem_at 3 rfl | exact mem_at 4 rfl | exact mem_at 5 rfl | exact mem_at 6 rfl | exact mem_at 7 rfl | exact mem_at 8 rfl | exact mem_at 9 rfl | exact mem_at 10 rfl | exact mem_at 11 rfl | exact mem_at 12 rfl | exact mem_at 13 rfl | exact mem_at 14 rfl | exact mem_at 15 rfl | exact mem_at 16 rfl | exact mem_at 17 rfl | exact mem_at 18 rfl | exact mem_at 19 rfl | exact mem_at 20 rfl | exact mem_at 21 rfl)) evl_nil) (callOk_len_list (by simp; (first | lia | omega))))) evp_none evp_none (sliceR_list (by simp)))) (binR_add_list ?_)) ?_)) (by rw [List.length_map]; have := rawOf_len ns; (first | lia | omega)) ?_ ?_ (by intro q hq; repeat (first | (rcases List.mem_cons.mp hq with rfl | hq; exact ⟨(by first | exact mem_at 0 rfl | exact mem_at 1 rfl | exact mem_at 2 rfl | exact mem_at 3 rfl | exact mem_at 4 rfl | exact mem_at 5 rfl | exact mem_at 6 rfl | exact mem_at 7 rfl | exact mem_at 8 rfl | exact mem_at 9 rfl | exact mem_at 10 rfl | exact mem_at 11 rfl | exact mem_at 12 rfl | exact mem_at 13 rfl | exact mem_at 14 rfl | exact mem_at 15 rfl | exact mem_at 16 rfl | exact mem_at 17 rfl | exact mem_at 18 rfl | exact mem_at 19 rfl | exact mem_at 20 rfl | exact mem_at 21 rfl), show (some NameKind.cell : Option NameKind) ≠ some .local by decide, by first | exact Or.inl rfl | exact Or.inr ⟨rfl, rfl⟩, rfl⟩) | cases hq)) rfl (lookup_sub (by intro p hp; repeat (first | (rcases List.mem_cons.mp hp with rfl | hp; exact rfl) | cases hp))) (by rfl) (by first | exact Or.inl rfl | exact Or.inr ⟨rfl, rfl, rfl⟩) (by intro y ds e; first | (cases e; done) | (cases e; decide)) (Pk.g (by repeat (first | exact Pk.nil | refine Pk.here ?_ | refine Pk.cons (by first | exact mem_at 0 rfl | exact mem_at 1 rfl | exact mem_at 2 rfl | exact mem_at 3 rfl | exact mem_at 4 rfl | exact mem_at 5 rfl | exact mem_at 6 rfl | exact mem_at 7 rfl | exact mem_at 8 rfl | exact mem_at 9 rfl | exact mem_at 10 rfl | exact mem_at 11 rfl | exact mem_at 12 rfl | exact mem_at 13 rfl | exact mem_at 14 rfl | exact mem_at 15 rfl | exact mem_at 16 rfl | exact mem_at 17 rfl | exact mem_at 18 rfl | exact mem_at 19 rfl | exact mem_at 20 rfl | exact mem_at 21 rfl) rfl ?_))))) ?_
    · rw [pySl_upto _ (by first | decide | assumption | with_reducible exact Int.natCast_nonneg _ | with_reducible exact Nat.le_trans (by assumption) (by decide) | with_reducible exact Nat.lt_of_lt_of_le (by assumption) (by decide) | with_reducible exact lt_mil (Nat.lt_of_lt_of_le (by assumption) (by decide)) | with_reducible exact lt_mil (Nat.lt_of_le_of_lt (by assumption) (by decide)) | with_reducible exact Nat.le_trans (Nat.le_of_lt (by assumption)) (by decide) | (first | lia | omega)), pySl_from _ (by first | decide | assumption | with_reducible exact Int.natCast_nonneg _ | with_reducible exact Nat.le_trans (by assumption) (by decide) | with_reducible exact Nat.lt_of_lt_of_le (by assumption) (by decide) | with_reducible exact lt_mil (Nat.lt_of_lt_of_le (by assumption) (by decide)) | with_reducible exact lt_mil (Nat.lt_of_le_of_lt (by assumption) (by decide)) | with_reducible exact Nat.le_trans (Nat.le_of_lt (by assumption)) (by decide) | (first | lia | omega))]; simp; (first | lia | omega)
    · rw [pySl_upto _ (by first | decide | assumption | with_reducible exact Int.natCast_nonneg _ | with_reducible exact Nat.le_trans (by assumption) (by decide) | with_reducible exact Nat.lt_of_lt_of_le (by assumption) (by decide) | with_reducible exact lt_mil (Nat.lt_of_lt_of_le (by assumption) (by decide)) | with_reducible exact lt_mil (Nat.lt_of_le_of_lt (by assumption) (by decide)) | with_reducible exact Nat.le_trans (Nat.le_of_lt (by assumption)) (by decide) | (first | lia | omega)), pySl_from _ (by first | decide | assumption | with_reducible exact Int.natCast_nonneg _ | with_reducible exact Nat.le_trans (by assumption) (by decide) | with_reducible exact Nat.lt_of_lt_of_le (by assumption) (by decide) | with_reducible exact lt_mil (Nat.lt_of_lt_of_le (by assumption) (by decide)) | with_reducible exact lt_mil (Nat.lt_of_le_of_lt (by assumption) (by decide)) | with_reducible exact Nat.le_trans (Nat.le_of_lt (by assumption)) (by decide) | (first | lia | omega)), rawOf, List.map_append, List.map_take, List.map_drop, List.length_map]; rfl
    · rw [filter_tt', ← hps, pricesOf, List.map_map, List.map_map]; rfl
    · intro L' d hd
      obtain ⟨y, hy, rfl⟩ := List.mem_map.mp hd
      exact ⟨[(Str.ofString "x", .dat (.int y))], asg_name (by first | exact Or.inl rfl | exact Or.inr ⟨rfl, rfl, rfl⟩) (by intro y ds e; first | (cases e; done) | (cases e; decide)) (Pk.g (by repeat (first | exact Pk.nil | refine Pk.here ?_ | refine Pk.cons (by first | exact mem_at 0 rfl | exact mem_at 1 rfl | exact mem_at 2 rfl | exact mem_at 3 rfl | exact mem_at 4 rfl | exact mem_at 5 rfl | exact mem_at 6 rfl | exact mem_at 7 rfl | exact mem_at 8 rfl | exact mem_at 9 rfl | exact mem_at 10 rfl | exact mem_at 11 rfl | exact mem_at 12 rfl | exact mem_at 13 rfl | exact mem_at 14 rfl | exact mem_at 15 rfl | exact mem_at 16 rfl | exact mem_at 17 rfl | exact mem_at 18 rfl | exact mem_at 19 rfl | exact mem_at 20 rfl | exact mem_at 21 rfl) rfl ?_))), evts_nil, fun _ => ev_eq (ev_bin (ev_var (by first | exact mem_at 0 rfl | exact mem_at 1 rfl | exact mem_at 2 rfl | exact mem_at 3 rfl | exact mem_at 4 rfl | exact mem_at 5 rfl | exact mem_at 6 rfl | exact mem_at 7 rfl | exact mem_at 8 rfl | exact mem_at 9 rfl | exact mem_at 10 rfl | exact mem_at 11 rfl | exact mem_at 12 rfl | exact mem_at 13 rfl | exact mem_at 14 rfl | exact mem_at 15 rfl | exact mem_at 16 rfl | exact mem_at 17 rfl | exact mem_at 18 rfl | exact mem_at 19 rfl | exact mem_at 20 rfl | exact mem_at 21 rfl)) ev_int (binR_md (by first | decide | assumption | with_reducible exact Int.natCast_nonneg _ | with_reducible exact Nat.le_trans (by assumption) (by decide) | with_reducible exact Nat.lt_of_lt_of_le (by assumption) (by decide) | with_reducible exact lt_mil (Nat.lt_of_lt_of_le (by assumption) (by decide)) | with_reducible exact lt_mil (Nat.lt_of_le_of_lt (by assumption) (by decide)) | with_reducible exact Nat.le_trans (Nat.le_of_lt (by assumption)) (by decide) | (first | lia | omega)))) (by rw [fmod_n y 12 (by first | decide | assumption | with_reducible exact Int.natCast_nonneg _ | with_reducible exact Nat.le_trans (by assumption) (by decide) | with_reducible exact Nat.lt_of_lt_of_le (by assumption) (by decide) | with_reducible exact lt_mil (Nat.lt_of_lt_of_le (by assumption) (by decide)) | with_reducible exact lt_mil (Nat.lt_of_le_of_lt (by assumption) (by decide)) | with_reducible exact Nat.le_trans (Nat.le_of_lt (by assumption)) (by decide) | (first | lia | omega))]; rfl)⟩
    refine exj_cons (exj_of (ex_assign (Γ' := [(Str.ofString "writer", .val (.ref x)), (Str.ofString "script", .lst (ns.map .int)), (Str.ofString "prices", .dat (.list (ps.map pI))), (Str.ofString "money", .dat (.int m))]) (ev_eq (b := .dat (.int m)) (ev_bin (ev_call_bi (ev_builtin rfl (((I.into _).reb up).gl rfl) rfl) (evl_cons (ev_var (b := .lst (ns.map .int)) (by first | exact mem_at 0 rfl | exact mem_at 1 rfl | exact mem_at 2 rfl | exact mem_at 3 rfl | exact mem_at 4 rfl | exact mem_at 5 rfl | exact mem_at 6 rfl | exact mem_at 7 rfl | exact mem_at 8 rfl | exact mem_at 9 rfl | exact mem_at 10 rfl | exact mem_at 11 rfl | exact mem_at 12 rfl | exact mem_at 13 rfl | exact mem_at 14 rfl | exact mem_at 15 rfl | exact mem_at 16 rfl | exact mem_at 17 rfl | exact mem_at 18 rfl | exact mem_at 19 rfl | exact mem_at 20 rfl | exact mem_at 21 rfl)) evl_nil) callOk_sum) ev_int binR_add_int) (by rw [← hm])) (by first | exact Or.inl rfl | exact Or.inr ⟨rfl, rfl, rfl⟩) (by intro y ds e; first | (cases e; done) | (cases e; decide)) (Pk.g (by repeat (first | exact Pk.nil | refine Pk.here ?_ | refine Pk.cons (by first | exact mem_at 0 rfl | exact mem_at 1 rfl | exact mem_at 2 rfl | exact mem_at 3 rfl | exact mem_at 4 rfl | exact mem_at 5 rfl | exact mem_at 6 rfl | exact mem_at 7 rfl | exact mem_at 8 rfl | exact mem_at 9 rfl | exact mem_at 10 rfl | exact mem_at 11 rfl | exact mem_at 12 rfl | exact mem_at 13 rfl | exact mem_at 14 rfl | exact mem_at 15 rfl | exact mem_at 16 rfl | exact mem_at 17 rfl | exact mem_at 18 rfl | exact mem_at 19 rfl | exact mem_at 20 rfl | exact mem_at 21 rfl) rfl ?_))))) ?_
    refine exj_cons (exj_of (ex_assign (Γ' := [(Str.ofString "writer", .val (.ref x)), (Str.ofString "script", .lst (ns.map .int)), (Str.ofString "prices", .dat (.list (ps.map pI))), (Str.ofString "money", .dat (.int m)), (Str.ofString "size", .dat (.int (sz : Int)))]) (ev_eq (b := .dat (.int (sz : Int))) (ev_bin (ev_eq (b := .dat (.int ((m / 108 % 2).toNat : Int))) (ev_bin (ev_bin (ev_var (b := .dat (.int m)) (by first | exact mem_at 0 rfl | exact mem_at 1 rfl | exact mem_at 2 rfl | exact mem_at 3 rfl | exact mem_at 4 rfl | exact mem_at 5 rfl | exact mem_at 6 rfl | exact mem_at 7 rfl | exact mem_at 8 rfl | exact mem_at 9 rfl | exact mem_at 10 rfl | exact mem_at 11 rfl | exact mem_at 12 rfl | exact mem_at 13 rfl | exact mem_at 14 rfl | exact mem_at 15 rfl | exact mem_at 16 rfl | exact mem_at 17 rfl | exact mem_at 18 rfl | exact mem_at 19 rfl | exact mem_at 20 rfl | exact mem_at 21 rfl)) ev_int (binR_div (by first | decide | assumption | with_reducible exact Int.natCast_nonneg _ | with_reducible exact Nat.le_trans (by assumption) (by decide) | with_reducible exact Nat.lt_of_lt_of_le (by assumption) (by decide) | with_reducible exact lt_mil (Nat.lt_of_lt_of_le (by assumption) (by decide)) | with_reducible exact lt_mil (Nat.lt_of_le_of_lt (by assumption) (by decide)) | with_reducible exact Nat.le_trans (Nat.le_of_lt (by assumption)) (by decide) | (first | lia | omega)) (by first | decide | assumption | with_reducible exact Int.natCast_nonneg _ | with_reducible exact Nat.le_trans (by assumption) (by decide) | with_reducible exact Nat.lt_of_lt_of_le (by assumption) (by decide) | with_reducible exact lt_mil (Nat.lt_of_lt_of_le (by assumption) (by decide)) | with_reducible exact lt_mil (Nat.lt_of_le_of_lt (by assumption) (by decide)) | with_reducible exact Nat.le_trans (Nat.le_of_lt (by assumption)) (by decide) | (first | lia | omega)))) ev_int (binR_md (by first | decide | assumption | with_reducible exact Int.natCast_nonneg _ | with_reducible exact Nat.le_trans (by assumption) (by decide) | with_reducible exact Nat.lt_of_lt_of_le (by assumption) (by decide) | with_reducible exact lt_mil (Nat.lt_of_lt_of_le (by assumption) (by decide)) | with_reducible exact lt_mil (Nat.lt_of_le_of_lt (by assumption) (by decide)) | with_reducible exact Nat.le_trans (Nat.le_of_lt (by assumption)) (by decide) | (first | lia | omega)))) (by rw [← fmod_n (m / 108) 2 (by first | decide | assumption | with_reducible exact Int.natCast_nonneg _ | with_reducible exact Nat.le_trans (by assumption) (by decide) | with_reducible exact Nat.lt_of_lt_of_le (by assumption) (by decide) | with_reducible exact lt_mil (Nat.lt_of_lt_of_le (by assumption) (by decide)) | with_reducible exact lt_mil (Nat.lt_of_le_of_lt (by assumption) (by decide)) | with_reducible exact Nat.le_trans (Nat.le_of_lt (by assumption)) (by decide) | (first | lia | omega)), ← fdiv_e m 108 (by first | decide | assumption | with_reducible exact Int.natCast_nonneg _ | with_reducible exact Nat.le_trans (by assumption) (by decide) | with_reducible exact Nat.lt_of_lt_of_le (by assumption) (by decide) | with_reducible exact lt_mil (Nat.lt_of_lt_of_le (by assumption) (by decide)) | with_reducible exact lt_mil (Nat.lt_of_le_of_lt (by assumption) (by decide)) | with_reducible exact Nat.le_trans (Nat.le_of_lt (by assumption)) (by decide) | (first | lia | omega))])) ev_int binR_add_int) (by rw [← hsz]; simp)) (by first | exact Or.inl rfl | exact Or.inr ⟨rfl, rfl, rfl⟩) (by intro y ds e; first | (cases e; done) | (cases e; decide)) (Pk.g (by repeat (first | exact Pk.nil | refine Pk.here ?_ | refine Pk.cons (by first | exact mem_at 0 rfl | exact mem_at 1 rfl | exact mem_at 2 rfl | exact mem_at 3 rfl | exact mem_at 4 rfl | exact mem_at 5 rfl | exact mem_at 6 rfl | exact mem_at 7 rfl | exact mem_at 8 rfl | exact mem_at 9 rfl | exact mem_at 10 rfl | exact mem_at 11 rfl | exact mem_at 12 rfl | exact mem_at 13 rfl | exact mem_at 14 rfl | exact mem_at 15 rfl | exact mem_at 16 rfl | exact mem_at 17 rfl | exact mem_at 18 rfl | exact mem_at 19 rfl | exact mem_at 20 rfl | exact mem_at 21 rfl) rfl ?_))))) ?_
    refine exj_cons (exj_of (ex_assign (Γ' := [(Str.ofString "writer", .val (.ref x)), (Str.ofString "script", .lst (ns.map .int)), (Str.ofString "prices", .dat (.list (ps.map pI))), (Str.ofString "money", .dat (.int m)), (Str.ofString "size", .dat (.int (sz : Int))), (Str.ofString "fill", .dat (.str (st [fl])))]) (ev_item (ev_strL (l := [126, 58, 65, 124]) rfl) (ev_eq (b := .dat (.int ((m / 216 % 4).toNat : Int))) (ev_bin (ev_bin (ev_var (b := .dat (.int m)) (by first | exact mem_at 0 rfl | exact mem_at 1 rfl | exact mem_at 2 rfl | exact mem_at 3 rfl | exact mem_at 4 rfl | exact mem_at 5 rfl | exact mem_at 6 rfl | exact mem_at 7 rfl | exact mem_at 8 rfl | exact mem_at 9 rfl | exact mem_at 10 rfl | exact mem_at 11 rfl | exact mem_at 12 rfl | exact mem_at 13 rfl | exact mem_at 14 rfl | exact mem_at 15 rfl | exact mem_at 16 rfl | exact mem_at 17 rfl | exact mem_at 18 rfl | exact mem_at 19 rfl | exact mem_at 20 rfl | exact mem_at 21 rfl)) ev_int (binR_div (by first | decide | assumption | with_reducible exact Int.natCast_nonneg _ | with_reducible exact Nat.le_trans (by assumption) (by decide) | with_reducible exact Nat.lt_of_lt_of_le (by assumption) (by decide) | with_reducible exact lt_mil (Nat.lt_of_lt_of_le (by assumption) (by decide)) | with_reducible exact lt_mil (Nat.lt_of_le_of_lt (by assumption) (by decide)) | with_reducible exact Nat.le_trans (Nat.le_of_lt (by assumption)) (by decide) | (first | lia | omega)) (by first | decide | assumption | with_reducible exact Int.natCast_nonneg _ | with_reducible exact Nat.le_trans (by assumption) (by decide) | with_reducible exact Nat.lt_of_lt_of_le (by assumption) (by decide) | with_reducible exact lt_mil (Nat.lt_of_lt_of_le (by assumption) (by decide)) | with_reducible exact lt_mil (Nat.lt_of_le_of_lt (by assumption) (by decide)) | with_reducible exact Nat.le_trans (Nat.le_of_lt (by assumption)) (by decide) | (first | lia | omega)))) ev_int (binR_md (by first | decide | assumption | with_reducible exact Int.natCast_nonneg _ | with_reducible exact Nat.le_trans (by assumption) (by decide) | with_reducible exact Nat.lt_of_lt_of_le (by assumption) (by decide) | with_reducible exact lt_mil (Nat.lt_of_lt_of_le (by assumption) (by decide)) | with_reducible exact lt_mil (Nat.lt_of_le_of_lt (by assumption) (by decide)) | with_reducible exact Nat.le_trans (Nat.le_of_lt (by assumption)) (by decide) | (first | lia | omega)))) (by rw [← fmod_n (m / 216) 4 (by first | decide | assumption | with_reducible exact Int.natCast_nonneg _ | with_reducible exact Nat.le_trans (by assumption) (by decide) | with_reducible exact Nat.lt_of_lt_of_le (by assumption) (by decide) | with_reducible exact lt_mil (Nat.lt_of_lt_of_le (by assumption) (by decide)) | with_reducible exact lt_mil (Nat.lt_of_le_of_lt (by assumption) (by decide)) | with_reducible exact Nat.le_trans (Nat.le_of_lt (by assumption)) (by decide) | (first | lia | omega)), ← fdiv_e m 216 (by first | decide | assumption | with_reducible exact Int.natCast_nonneg _ | with_reducible exact Nat.le_trans (by assumption) (by decide) | with_reducible exact Nat.lt_of_lt_of_le (by assumption) (by decide) | with_reducible exact lt_mil (Nat.lt_of_lt_of_le (by assumption) (by decide)) | with_reducible exact lt_mil (Nat.lt_of_le_of_lt (by assumption) (by decide)) | with_reducible exact Nat.le_trans (Nat.le_of_lt (by assumption)) (by decide) | (first | lia | omega))])) (getR_str (by first | decide | assumption | with_reducible exact Int.natCast_nonneg _ | with_reducible exact Nat.le_trans (by assumption) (by decide) | with_reducible exact Nat.lt_of_lt_of_le (by assumption) (by decide) | with_reducible exact lt_mil (Nat.lt_of_lt_of_le (by assumption) (by decide)) | with_reducible exact lt_mil (Nat.lt_of_le_of_lt (by assumption) (by decide)) | with_reducible exact Nat.le_trans (Nat.le_of_lt (by assumption)) (by decide) | (first | lia | omega)) (by rw [Int.toNat_natCast]; exact hfl) (by first | decide | assumption | with_reducible exact Int.natCast_nonneg _ | with_reducible exact Nat.le_trans (by assumption) (by decide) | with_reducible exact Nat.lt_of_lt_of_le (by assumption) (by decide) | with_reducible exact lt_mil (Nat.lt_of_lt_of_le (by assumption) (by decide)) | with_reducible exact lt_mil (Nat.lt_of_le_of_lt (by assumption) (by decide)) | with_reducible exact Nat.le_trans (Nat.le_of_lt (by assumption)) (by decide) | (first | lia | omega)))) (by first | exact Or.inl rfl | exact Or.inr ⟨rfl, rfl, rfl⟩) (by intro y ds e; first | (cases e; done) | (cases e; decide)) (Pk.g (by repeat (first | exact Pk.nil | refine Pk.here ?_ | refine Pk.cons (by first | exact mem_at 0 rfl | exact mem_at 1 rfl | exact mem_at 2 rfl | exact mem_at 3 rfl | exact mem_at 4 rfl | exact mem_at 5 rfl | exact mem_at 6 rfl | exact mem_at 7 rfl | exact mem_at 8 rfl | exact mem_at 9 rfl | exact mem_at 10 rfl | exact mem_at 11 rfl | exact mem_at 12 rfl | exact mem_at 13 rfl | exact mem_at 14 rfl | exact mem_at 15 rfl | exact mem_at 16 rfl | exact mem_at 17 rfl | exact mem_at 18 rfl | exact mem_at 19 rfl | exact mem_at 20 rfl | exact mem_at 21 rfl) rfl ?_))))) ?_
    refine exj_cons (exj_call (Γ' := [(Str.ofString "writer", .val (.ref x)), (Str.ofString "script", .lst (ns.map .int)), (Str.ofString "prices", .dat (.list (ps.map pI))), (Str.ofString "money", .dat (.int m)), (Str.ofString "size", .dat (.int (sz : Int))), (Str.ofString "fill", .dat (.str (st [fl]))), (Str.ofString "goods", .dat (.list (R.map (gD sz))))]) (ev_glob rfl (((I.into _).reb up).gl rfl)) (evl_cons (ev_var (b := .val (.ref x)) (by first | exact mem_at 0 rfl | exact mem_at 1 rfl | exact mem_at 2 rfl | exact mem_at 3 rfl | exact mem_at 4 rfl | exact mem_at 5 rfl | exact mem_at 6 rfl | exact mem_at 7 rfl | exact mem_at 8 rfl | exact mem_at 9 rfl | exact mem_at 10 rfl | exact mem_at 11 rfl | exact mem_at 12 rfl | exact mem_at 13 rfl | exact mem_at 14 rfl | exact mem_at 15 rfl | exact mem_at 16 rfl | exact mem_at 17 rfl | exact mem_at 18 rfl | exact mem_at 19 rfl | exact mem_at 20 rfl | exact mem_at 21 rfl)) (evl_cons (ev_var (b := .dat (.list (ps.map pI))) (by first | exact mem_at 0 rfl | exact mem_at 1 rfl | exact mem_at 2 rfl | exact mem_at 3 rfl | exact mem_at 4 rfl | exact mem_at 5 rfl | exact mem_at 6 rfl | exact mem_at 7 rfl | exact mem_at 8 rfl | exact mem_at 9 rfl | exact mem_at 10 rfl | exact mem_at 11 rfl | exact mem_at 12 rfl | exact mem_at 13 rfl | exact mem_at 14 rfl | exact mem_at 15 rfl | exact mem_at 16 rfl | exact mem_at 17 rfl | exact mem_at 18 rfl | exact mem_at 19 rfl | exact mem_at 20 rfl | exact mem_at 21 rfl)) (evl_cons (ev_var (b := .dat (.int (sz : Int))) (by first | exact mem_at 0 rfl | exact mem_at 1 rfl | exact mem_at 2 rfl | exact mem_at 3 rfl | exact mem_at 4 rfl | exact mem_at 5 rfl | exact mem_at 6 rfl | exact mem_at 7 rfl | exact mem_at 8 rfl | exact mem_at 9 rfl | exact mem_at 10 rfl | exact mem_at 11 rfl | exact mem_at 12 rfl | exact mem_at 13 rfl | exact mem_at 14 rfl | exact mem_at 15 rfl | exact mem_at 16 rfl | exact mem_at 17 rfl | exact mem_at 18 rfl | exact mem_at 19 rfl | exact mem_at 20 rfl | exact mem_at 21 rfl)) evl_nil))) (((I.into _).reb up).at (a := 149) rfl) rfl (hR ▸ sp_goods ((I.into _).reb up) (Bm0.mono rfl up) hfu6 (X rfl) hp12 (by first | decide | assumption | with_reducible exact Int.natCast_nonneg _ | with_reducible exact Nat.le_trans (by assumption) (by decide) | with_reducible exact Nat.lt_of_lt_of_le (by assumption) (by decide) | with_reducible exact lt_mil (Nat.lt_of_lt_of_le (by assumption) (by decide)) | with_reducible exact lt_mil (Nat.lt_of_le_of_lt (by assumption) (by decide)) | with_reducible exact Nat.le_trans (Nat.le_of_lt (by assumption)) (by decide) | (first | lia | omega)) h3) (by first | exact Or.inl rfl | exact Or.inr ⟨rfl, rfl, rfl⟩) (Pk.g (by repeat (first | exact Pk.nil | refine Pk.here ?_ | refine Pk.cons (by first | exact mem_at 0 rfl | exact mem_at 1 rfl | exact mem_at 2 rfl | exact mem_at 3 rfl | exact mem_at 4 rfl | exact mem_at 5 rfl | exact mem_at 6 rfl | exact mem_at 7 rfl | exact mem_at 8 rfl | exact mem_at 9 rfl | exact mem_at 10 rfl | exact mem_at 11 rfl | exact mem_at 12 rfl | exact mem_at 13 rfl | exact mem_at 14 rfl | exact mem_at 15 rfl | exact mem_at 16 rfl | exact mem_at 17 rfl | exact mem_at 18 rfl | exact mem_at 19 rfl | exact mem_at 20 rfl | exact mem_at 21 rfl) rfl ?_)))) ?_
    refine exj_cons (exj_of (ex_if_false (et_cmp (ev_var (b := .dat (.list (R.map (gD sz)))) (by first | exact mem_at 0 rfl | exact mem_at 1 rfl | exact mem_at 2 rfl | exact mem_at 3 rfl | exact mem_at 4 rfl | exact mem_at 5 rfl | exact mem_at 6 rfl | exact mem_at 7 rfl | exact mem_at 8 rfl | exact mem_at 9 rfl | exact mem_at 10 rfl | exact mem_at 11 rfl | exact mem_at 12 rfl | exact mem_at 13 rfl | exact mem_at 14 rfl | exact mem_at 15 rfl | exact mem_at 16 rfl | exact mem_at 17 rfl | exact mem_at 18 rfl | exact mem_at 19 rfl | exact mem_at 20 rfl | exact mem_at 21 rfl)) (ev_def (ev_glob rfl (((I.into _).reb up).gl rfl)) (evl_cons (ev_var (b := .dat (.list (ps.map pI))) (by first | exact mem_at 0 rfl | exact mem_at 1 rfl | exact mem_at 2 rfl | exact mem_at 3 rfl | exact mem_at 4 rfl | exact mem_at 5 rfl | exact mem_at 6 rfl | exact mem_at 7 rfl | exact mem_at 8 rfl | exact mem_at 9 rfl | exact mem_at 10 rfl | exact mem_at 11 rfl | exact mem_at 12 rfl | exact mem_at 13 rfl | exact mem_at 14 rfl | exact mem_at 15 rfl | exact mem_at 16 rfl | exact mem_at 17 rfl | exact mem_at 18 rfl | exact mem_at 19 rfl | exact mem_at 20 rfl | exact mem_at 21 rfl)) (evl_cons (ev_var (b := .dat (.int (sz : Int))) (by first | exact mem_at 0 rfl | exact mem_at 1 rfl | exact mem_at 2 rfl | exact mem_at 3 rfl | exact mem_at 4 rfl | exact mem_at 5 rfl | exact mem_at 6 rfl | exact mem_at 7 rfl | exact mem_at 8 rfl | exact mem_at 9 rfl | exact mem_at 10 rfl | exact mem_at 11 rfl | exact mem_at 12 rfl | exact mem_at 13 rfl | exact mem_at 14 rfl | exact mem_at 15 rfl | exact mem_at 16 rfl | exact mem_at 17 rfl | exact mem_at 18 rfl | exact mem_at 19 rfl | exact mem_at 20 rfl | exact mem_at 21 rfl)) evl_nil)) evkw_nil (((I.into _).reb up).at (a := 154) rfl) rfl (hR ▸ sp_counted ((I.into _).reb up) hfu hp12 (by first | decide | assumption | with_reducible exact Int.natCast_nonneg _ | with_reducible exact Nat.le_trans (by assumption) (by decide) | with_reducible exact Nat.lt_of_lt_of_le (by assumption) (by decide) | with_reducible exact lt_mil (Nat.lt_of_lt_of_le (by assumption) (by decide)) | with_reducible exact lt_mil (Nat.lt_of_le_of_lt (by assumption) (by decide)) | with_reducible exact Nat.le_trans (Nat.le_of_lt (by assumption)) (by decide) | (first | lia | omega)) h3)) (cmpR_ne_pl (n := 2) (m := 2) (.list _ fun y hy => ?_) (.list _ fun y hy => ?_) (by simp))) ex_nil)) ?_
    · obtain ⟨e, _, rfl⟩ := List.mem_map.mp hy
      exact pl_g
    · obtain ⟨e, _, rfl⟩ := List.mem_map.mp hy
      exact pl_g
    refine exj_cons (exj_of (ex_assign (Γ' := [(Str.ofString "writer", .val (.ref x)), (Str.ofString "script", .lst (ns.map .int)), (Str.ofString "prices", .dat (.list (ps.map pI))), (Str.ofString "money", .dat (.int m)), (Str.ofString "size", .dat (.int (sz : Int))), (Str.ofString "fill", .dat (.str (st [fl]))), (Str.ofString "goods", .dat (.list (R.map (gD sz)))), (Str.ofString "baskets", .dat (.list (nms.map sD)))]) (ev_eq (ev_def (ev_glob rfl (((I.into _).reb up).gl rfl)) (evl_cons (ev_var (b := .dat (.list (R.map (gD sz)))) (by first | exact mem_at 0 rfl | exact mem_at 1 rfl | exact mem_at 2 rfl | exact mem_at 3 rfl | exact mem_at 4 rfl | exact mem_at 5 rfl | exact mem_at 6 rfl | exact mem_at 7 rfl | exact mem_at 8 rfl | exact mem_at 9 rfl | exact mem_at 10 rfl | exact mem_at 11 rfl | exact mem_at 12 rfl | exact mem_at 13 rfl | exact mem_at 14 rfl | exact mem_at 15 rfl | exact mem_at 16 rfl | exact mem_at 17 rfl | exact mem_at 18 rfl | exact mem_at 19 rfl | exact mem_at 20 rfl | exact mem_at 21 rfl)) (evl_cons (ev_eq (b := .dat (.int (pu : Int))) (ev_bin (ev_var (b := .dat (.int m)) (by first | exact mem_at 0 rfl | exact mem_at 1 rfl | exact mem_at 2 rfl | exact mem_at 3 rfl | exact mem_at 4 rfl | exact mem_at 5 rfl | exact mem_at 6 rfl | exact mem_at 7 rfl | exact mem_at 8 rfl | exact mem_at 9 rfl | exact mem_at 10 rfl | exact mem_at 11 rfl | exact mem_at 12 rfl | exact mem_at 13 rfl | exact mem_at 14 rfl | exact mem_at 15 rfl | exact mem_at 16 rfl | exact mem_at 17 rfl | exact mem_at 18 rfl | exact mem_at 19 rfl | exact mem_at 20 rfl | exact mem_at 21 rfl)) ev_int (binR_md (by first | decide | assumption | with_reducible exact Int.natCast_nonneg _ | with_reducible exact Nat.le_trans (by assumption) (by decide) | with_reducible exact Nat.lt_of_lt_of_le (by assumption) (by decide) | with_reducible exact lt_mil (Nat.lt_of_lt_of_le (by assumption) (by decide)) | with_reducible exact lt_mil (Nat.lt_of_le_of_lt (by assumption) (by decide)) | with_reducible exact Nat.le_trans (Nat.le_of_lt (by assumption)) (by decide) | (first | lia | omega)))) (by rw [← hpu, fmod_n m 36 (by first | decide | assumption | with_reducible exact Int.natCast_nonneg _ | with_reducible exact Nat.le_trans (by assumption) (by decide) | with_reducible exact Nat.lt_of_lt_of_le (by assumption) (by decide) | with_reducible exact lt_mil (Nat.lt_of_lt_of_le (by assumption) (by decide)) | with_reducible exact lt_mil (Nat.lt_of_le_of_lt (by assumption) (by decide)) | with_reducible exact Nat.le_trans (Nat.le_of_lt (by assumption)) (by decide) | (first | lia | omega))])) (evl_cons (ev_eq (b := .dat (.int (ro : Int))) (ev_bin (ev_eq (b := .dat (.int ((m / 36 % 3).toNat : Int))) (ev_bin (ev_bin (ev_var (b := .dat (.int m)) (by first | exact mem_at 0 rfl | exact mem_at 1 rfl | exact mem_at 2 rfl | exact mem_at 3 rfl | exact mem_at 4 rfl | exact mem_at 5 rfl | exact mem_at 6 rfl | exact mem_at 7 rfl | exact mem_at 8 rfl | exact mem_at 9 rfl | exact mem_at 10 rfl | exact mem_at 11 rfl | exact mem_at 12 rfl | exact mem_at 13 rfl | exact mem_at 14 rfl | exact mem_at 15 rfl | exact mem_at 16 rfl | exact mem_at 17 rfl | exact mem_at 18 rfl | exact mem_at 19 rfl | exact mem_at 20 rfl | exact mem_at 21 rfl)) ev_int (binR_div (by first | decide | assumption | with_reducible exact Int.natCast_nonneg _ | with_reducible exact Nat.le_trans (by assumption) (by decide) | with_reducible exact Nat.lt_of_lt_of_le (by assumption) (by decide) | with_reducible exact lt_mil (Nat.lt_of_lt_of_le (by assumption) (by decide)) | with_reducible exact lt_mil (Nat.lt_of_le_of_lt (by assumption) (by decide)) | with_reducible exact Nat.le_trans (Nat.le_of_lt (by assumption)) (by decide) | (first | lia | omega)) (by first | decide | assumption | with_reducible exact Int.natCast_nonneg _ | with_reducible exact Nat.le_trans (by assumption) (by decide) | with_reducible exact Nat.lt_of_lt_of_le (by assumption) (by decide) | with_reducible exact lt_mil (Nat.lt_of_lt_of_le (by assumption) (by decide)) | with_reducible exact lt_mil (Nat.lt_of_le_of_lt (by assumption) (by decide)) | with_reducible exact Nat.le_trans (Nat.le_of_lt (by assumption)) (by decide) | (first | lia | omega)))) ev_int (binR_md (by first | decide | assumption | with_reducible exact Int.natCast_nonneg _ | with_reducible exact Nat.le_trans (by assumption) (by decide) | with_reducible exact Nat.lt_of_lt_of_le (by assumption) (by decide) | with_reducible exact lt_mil (Nat.lt_of_lt_of_le (by assumption) (by decide)) | with_reducible exact lt_mil (Nat.lt_of_le_of_lt (by assumption) (by decide)) | with_reducible exact Nat.le_trans (Nat.le_of_lt (by assumption)) (by decide) | (first | lia | omega)))) (by rw [← fmod_n (m / 36) 3 (by first | decide | assumption | with_reducible exact Int.natCast_nonneg _ | with_reducible exact Nat.le_trans (by assumption) (by decide) | with_reducible exact Nat.lt_of_lt_of_le (by assumption) (by decide) | with_reducible exact lt_mil (Nat.lt_of_lt_of_le (by assumption) (by decide)) | with_reducible exact lt_mil (Nat.lt_of_le_of_lt (by assumption) (by decide)) | with_reducible exact Nat.le_trans (Nat.le_of_lt (by assumption)) (by decide) | (first | lia | omega)), ← fdiv_e m 36 (by first | decide | assumption | with_reducible exact Int.natCast_nonneg _ | with_reducible exact Nat.le_trans (by assumption) (by decide) | with_reducible exact Nat.lt_of_lt_of_le (by assumption) (by decide) | with_reducible exact lt_mil (Nat.lt_of_lt_of_le (by assumption) (by decide)) | with_reducible exact lt_mil (Nat.lt_of_le_of_lt (by assumption) (by decide)) | with_reducible exact Nat.le_trans (Nat.le_of_lt (by assumption)) (by decide) | (first | lia | omega))])) ev_int binR_add_int) (by rw [← hro]; simp)) evl_nil))) evkw_nil (((I.into _).reb up).at (a := 159) rfl) rfl (sp_baskets ((I.into _).reb up) hfu hR5 (sz := sz) (room := ro) (purse := pu))) (by rw [hbk])) (by first | exact Or.inl rfl | exact Or.inr ⟨rfl, rfl, rfl⟩) (by intro y ds e; first | (cases e; done) | (cases e; decide)) (Pk.g (by repeat (first | exact Pk.nil | refine Pk.here ?_ | refine Pk.cons (by first | exact mem_at 0 rfl | exact mem_at 1 rfl | exact mem_at 2 rfl | exact mem_at 3 rfl | exact mem_at 4 rfl | exact mem_at 5 rfl | exact mem_at 6 rfl | exact mem_at 7 rfl | exact mem_at 8 rfl | exact mem_at 9 rfl | exact mem_at 10 rfl | exact mem_at 11 rfl | exact mem_at 12 rfl | exact mem_at 13 rfl | exact mem_at 14 rfl | exact mem_at 15 rfl | exact mem_at 16 rfl | exact mem_at 17 rfl | exact mem_at 18 rfl | exact mem_at 19 rfl | exact mem_at 20 rfl | exact mem_at 21 rfl) rfl ?_))))) ?_
    refine exj_cons (exj_of (ex_acomp (Γ' := [(Str.ofString "writer", .val (.ref x)), (Str.ofString "script", .lst (ns.map .int)), (Str.ofString "prices", .dat (.list (ps.map pI))), (Str.ofString "money", .dat (.int m)), (Str.ofString "size", .dat (.int (sz : Int))), (Str.ofString "fill", .dat (.str (st [fl]))), (Str.ofString "goods", .dat (.list (R.map (gD sz)))), (Str.ofString "baskets", .dat (.list (nms.map sD))), (Str.ofString "named", .dat (.list (nms.map (nD fl sz))))]) [(Str.ofString "writer", L + 1), (Str.ofString "size", L + 2), (Str.ofString "fill", L + 3)] [(Str.ofString "fill", .dat (.str (st [fl]))), (Str.ofString "size", .dat (.int (sz : Int))), (Str.ofString "writer", .val (.ref x))] (fun _ => true) (strF (nD fl sz)) (nms.map (nD fl sz)) (evi_list (ev_var (b := .dat (.list (nms.map sD))) (by first | exact mem_at 0 rfl | exact mem_at 1 rfl | exact mem_at 2 rfl | exact mem_at 3 rfl | exact mem_at 4 rfl | exact mem_at 5 rfl | exact mem_at 6 rfl | exact mem_at 7 rfl | exact mem_at 8 rfl | exact mem_at 9 rfl | exact mem_at 10 rfl | exact mem_at 11 rfl | exact mem_at 12 rfl | exact mem_at 13 rfl | exact mem_at 14 rfl | exact mem_at 15 rfl | exact mem_at 16 rfl | exact mem_at 17 rfl | exact mem_at 18 rfl | exact mem_at 19 rfl | exact mem_at 20 rfl | exact mem_at 21 rfl))) (by rw [List.length_map]; (first | lia | omega)) (by rw [filter_tt', List.map_map]; rfl) ?_ (by intro q hq; repeat (first | (rcases List.mem_cons.mp hq with rfl | hq; exact ⟨(by first | exact mem_at 0 rfl | exact mem_at 1 rfl | exact mem_at 2 rfl | exact mem_at 3 rfl | exact mem_at 4 rfl | exact mem_at 5 rfl | exact mem_at 6 rfl | exact mem_at 7 rfl | exact mem_at 8 rfl | exact mem_at 9 rfl | exact mem_at 10 rfl | exact mem_at 11 rfl | exact mem_at 12 rfl | exact mem_at 13 rfl | exact mem_at 14 rfl | exact mem_at 15 rfl | exact mem_at 16 rfl | exact mem_at 17 rfl | exact mem_at 18 rfl | exact mem_at 19 rfl | exact mem_at 20 rfl | exact mem_at 21 rfl), show (some NameKind.cell : Option NameKind) ≠ some .local by decide, by first | exact Or.inl rfl | exact Or.inr ⟨rfl, rfl⟩, rfl⟩) | cases hq)) rfl (lookup_sub (by intro p hp; repeat (first | (rcases List.mem_cons.mp hp with rfl | hp; exact rfl) | cases hp))) (by rfl) (by first | exact Or.inl rfl | exact Or.inr ⟨rfl, rfl, rfl⟩) (by intro y ds e; first | (cases e; done) | (cases e; decide)) (Pk.g (by repeat (first | exact Pk.nil | refine Pk.here ?_ | refine Pk.cons (by first | exact mem_at 0 rfl | exact mem_at 1 rfl | exact mem_at 2 rfl | exact mem_at 3 rfl | exact mem_at 4 rfl | exact mem_at 5 rfl | exact mem_at 6 rfl | exact mem_at 7 rfl | exact mem_at 8 rfl | exact mem_at 9 rfl | exact mem_at 10 rfl | exact mem_at 11 rfl | exact mem_at 12 rfl | exact mem_at 13 rfl | exact mem_at 14 rfl | exact mem_at 15 rfl | exact mem_at 16 rfl | exact mem_at 17 rfl | exact mem_at 18 rfl | exact mem_at 19 rfl | exact mem_at 20 rfl | exact mem_at 21 rfl) rfl ?_))))) ?_
    · intro L' d hd
      obtain ⟨n, hn, rfl⟩ := List.mem_map.mp hd
      have hn5 := hNs n hn
      exact ⟨[(Str.ofString "name", .dat (sD n)), (Str.ofString "fill", .dat (.str (st [fl]))), (Str.ofString "size", .dat (.int (sz : Int))), (Str.ofString "writer", .val (.ref x))], asg_name (by first | exact Or.inl rfl | exact Or.inr ⟨rfl, rfl, rfl⟩) (by intro y ds e; first | (cases e; done) | (cases e; decide)) (Pk.g (by repeat (first | exact Pk.nil | refine Pk.here ?_ | refine Pk.cons (by first | exact mem_at 0 rfl | exact mem_at 1 rfl | exact mem_at 2 rfl | exact mem_at 3 rfl | exact mem_at 4 rfl | exact mem_at 5 rfl | exact mem_at 6 rfl | exact mem_at 7 rfl | exact mem_at 8 rfl | exact mem_at 9 rfl | exact mem_at 10 rfl | exact mem_at 11 rfl | exact mem_at 12 rfl | exact mem_at 13 rfl | exact mem_at 14 rfl | exact mem_at 15 rfl | exact mem_at 16 rfl | exact mem_at 17 rfl | exact mem_at 18 rfl | exact mem_at 19 rfl | exact mem_at 20 rfl | exact mem_at 21 rfl) rfl ?_))), evts_nil, fun _ => ev_list (ds := [.str (st (fill fl 60 sz n)), .str (st n)]) (evd_cons (ev_write (l := n) (c := fl) (a := 60) (w := sz) (((I.into _).reb up).comp _ _ _) hfu (X rfl) hfl1 (.inl rfl) (by first | decide | assumption | with_reducible exact Int.natCast_nonneg _ | with_reducible exact Nat.le_trans (by assumption) (by decide) | with_reducible exact Nat.lt_of_lt_of_le (by assumption) (by decide) | with_reducible exact lt_mil (Nat.lt_of_lt_of_le (by assumption) (by decide)) | with_reducible exact lt_mil (Nat.lt_of_le_of_lt (by assumption) (by decide)) | with_reducible exact Nat.le_trans (Nat.le_of_lt (by assumption)) (by decide) | (first | lia | omega)) (by first | decide | assumption | with_reducible exact Int.natCast_nonneg _ | with_reducible exact Nat.le_trans (by assumption) (by decide) | with_reducible exact Nat.lt_of_lt_of_le (by assumption) (by decide) | with_reducible exact lt_mil (Nat.lt_of_lt_of_le (by assumption) (by decide)) | with_reducible exact lt_mil (Nat.lt_of_le_of_lt (by assumption) (by decide)) | with_reducible exact Nat.le_trans (Nat.le_of_lt (by assumption)) (by decide) | (first | lia | omega)) (by first | decide | assumption | with_reducible exact Int.natCast_nonneg _ | with_reducible exact Nat.le_trans (by assumption) (by decide) | with_reducible exact Nat.lt_of_lt_of_le (by assumption) (by decide) | with_reducible exact lt_mil (Nat.lt_of_lt_of_le (by assumption) (by decide)) | with_reducible exact lt_mil (Nat.lt_of_le_of_lt (by assumption) (by decide)) | with_reducible exact Nat.le_trans (Nat.le_of_lt (by assumption)) (by decide) | (first | lia | omega)) (ev_var (by first | exact mem_at 0 rfl | exact mem_at 1 rfl | exact mem_at 2 rfl | exact mem_at 3 rfl | exact mem_at 4 rfl | exact mem_at 5 rfl | exact mem_at 6 rfl | exact mem_at 7 rfl | exact mem_at 8 rfl | exact mem_at 9 rfl | exact mem_at 10 rfl | exact mem_at 11 rfl | exact mem_at 12 rfl | exact mem_at 13 rfl | exact mem_at 14 rfl | exact mem_at 15 rfl | exact mem_at 16 rfl | exact mem_at 17 rfl | exact mem_at 18 rfl | exact mem_at 19 rfl | exact mem_at 20 rfl | exact mem_at 21 rfl)) (evl_cons (ev_var (b := .dat (.str (st n))) (by first | exact mem_at 0 rfl | exact mem_at 1 rfl | exact mem_at 2 rfl | exact mem_at 3 rfl | exact mem_at 4 rfl | exact mem_at 5 rfl | exact mem_at 6 rfl | exact mem_at 7 rfl | exact mem_at 8 rfl | exact mem_at 9 rfl | exact mem_at 10 rfl | exact mem_at 11 rfl | exact mem_at 12 rfl | exact mem_at 13 rfl | exact mem_at 14 rfl | exact mem_at 15 rfl | exact mem_at 16 rfl | exact mem_at 17 rfl | exact mem_at 18 rfl | exact mem_at 19 rfl | exact mem_at 20 rfl | exact mem_at 21 rfl)) (evl_cons (ev_eq (b := .dat (.str (st [fl, 60, 48 + sz]))) (ev_bin (ev_bin (ev_var (b := .dat (.str (st [fl]))) (by first | exact mem_at 0 rfl | exact mem_at 1 rfl | exact mem_at 2 rfl | exact mem_at 3 rfl | exact mem_at 4 rfl | exact mem_at 5 rfl | exact mem_at 6 rfl | exact mem_at 7 rfl | exact mem_at 8 rfl | exact mem_at 9 rfl | exact mem_at 10 rfl | exact mem_at 11 rfl | exact mem_at 12 rfl | exact mem_at 13 rfl | exact mem_at 14 rfl | exact mem_at 15 rfl | exact mem_at 16 rfl | exact mem_at 17 rfl | exact mem_at 18 rfl | exact mem_at 19 rfl | exact mem_at 20 rfl | exact mem_at 21 rfl)) (ev_strL (l := [60]) rfl) (binR_add_str (by simp))) (ev_strN (a := sz) (((I.into _).reb up).comp _ _ _) (by first | decide | assumption | with_reducible exact Int.natCast_nonneg _ | with_reducible exact Nat.le_trans (by assumption) (by decide) | with_reducible exact Nat.lt_of_lt_of_le (by assumption) (by decide) | with_reducible exact lt_mil (Nat.lt_of_lt_of_le (by assumption) (by decide)) | with_reducible exact lt_mil (Nat.lt_of_le_of_lt (by assumption) (by decide)) | with_reducible exact Nat.le_trans (Nat.le_of_lt (by assumption)) (by decide) | (first | lia | omega)) (ev_var (by first | exact mem_at 0 rfl | exact mem_at 1 rfl | exact mem_at 2 rfl | exact mem_at 3 rfl | exact mem_at 4 rfl | exact mem_at 5 rfl | exact mem_at 6 rfl | exact mem_at 7 rfl | exact mem_at 8 rfl | exact mem_at 9 rfl | exact mem_at 10 rfl | exact mem_at 11 rfl | exact mem_at 12 rfl | exact mem_at 13 rfl | exact mem_at 14 rfl | exact mem_at 15 rfl | exact mem_at 16 rfl | exact mem_at 17 rfl | exact mem_at 18 rfl | exact mem_at 19 rfl | exact mem_at 20 rfl | exact mem_at 21 rfl)) (by first | decide | assumption | with_reducible exact Int.natCast_nonneg _ | with_reducible exact Nat.le_trans (by assumption) (by decide) | with_reducible exact Nat.lt_of_lt_of_le (by assumption) (by decide) | with_reducible exact lt_mil (Nat.lt_of_lt_of_le (by assumption) (by decide)) | with_reducible exact lt_mil (Nat.lt_of_le_of_lt (by assumption) (by decide)) | with_reducible exact Nat.le_trans (Nat.le_of_lt (by assumption)) (by decide) | (first | lia | omega)) rfl) (binR_add_str (by have := @dec_len (sz); simp; (first | lia | omega)))) (by rw [dec_small (by first | decide | assumption | with_reducible exact Int.natCast_nonneg _ | with_reducible exact Nat.le_trans (by assumption) (by decide) | with_reducible exact Nat.lt_of_lt_of_le (by assumption) (by decide) | with_reducible exact lt_mil (Nat.lt_of_lt_of_le (by assumption) (by decide)) | with_reducible exact lt_mil (Nat.lt_of_le_of_lt (by assumption) (by decide)) | with_reducible exact Nat.le_trans (Nat.le_of_lt (by assumption)) (by decide) | (first | lia | omega))]; rfl)) evl_nil))) (evd_cons (ev_var (by first | exact mem_at 0 rfl | exact mem_at 1 rfl | exact mem_at 2 rfl | exact mem_at 3 rfl | exact mem_at 4 rfl | exact mem_at 5 rfl | exact mem_at 6 rfl | exact mem_at 7 rfl | exact mem_at 8 rfl | exact mem_at 9 rfl | exact mem_at 10 rfl | exact mem_at 11 rfl | exact mem_at 12 rfl | exact mem_at 13 rfl | exact mem_at 14 rfl | exact mem_at 15 rfl | exact mem_at 16 rfl | exact mem_at 17 rfl | exact mem_at 18 rfl | exact mem_at 19 rfl | exact mem_at 20 rfl | exact mem_at 21 rfl)) evd_nil))⟩
    refine exj_cons (exj_of (ex_if_false (et_cmp (ev_var (b := .dat (.list (nms.map (nD fl sz)))) (by first | exact mem_at 0 rfl | exact mem_at 1 rfl | exact mem_at 2 rfl | exact mem_at 3 rfl | exact mem_at 4 rfl | exact mem_at 5 rfl | exact mem_at 6 rfl | exact mem_at 7 rfl | exact mem_at 8 rfl | exact mem_at 9 rfl | exact mem_at 10 rfl | exact mem_at 11 rfl | exact mem_at 12 rfl | exact mem_at 13 rfl | exact mem_at 14 rfl | exact mem_at 15 rfl | exact mem_at 16 rfl | exact mem_at 17 rfl | exact mem_at 18 rfl | exact mem_at 19 rfl | exact mem_at 20 rfl | exact mem_at 21 rfl)) (ev_acomp [(Str.ofString "size", L + 2), (Str.ofString "fill", L + 3)] [(Str.ofString "fill", .dat (.str (st [fl]))), (Str.ofString "size", .dat (.int (sz : Int)))] (fun _ => true) (strF (nD fl sz)) (nms.map (nD fl sz)) (evi_list (ev_var (b := .dat (.list (nms.map sD))) (by first | exact mem_at 0 rfl | exact mem_at 1 rfl | exact mem_at 2 rfl | exact mem_at 3 rfl | exact mem_at 4 rfl | exact mem_at 5 rfl | exact mem_at 6 rfl | exact mem_at 7 rfl | exact mem_at 8 rfl | exact mem_at 9 rfl | exact mem_at 10 rfl | exact mem_at 11 rfl | exact mem_at 12 rfl | exact mem_at 13 rfl | exact mem_at 14 rfl | exact mem_at 15 rfl | exact mem_at 16 rfl | exact mem_at 17 rfl | exact mem_at 18 rfl | exact mem_at 19 rfl | exact mem_at 20 rfl | exact mem_at 21 rfl))) (by rw [List.length_map]; (first | lia | omega)) (by rw [filter_tt', List.map_map]; rfl) ?_ (by intro q hq; repeat (first | (rcases List.mem_cons.mp hq with rfl | hq; exact ⟨(by first | exact mem_at 0 rfl | exact mem_at 1 rfl | exact mem_at 2 rfl | exact mem_at 3 rfl | exact mem_at 4 rfl | exact mem_at 5 rfl | exact mem_at 6 rfl | exact mem_at 7 rfl | exact mem_at 8 rfl | exact mem_at 9 rfl | exact mem_at 10 rfl | exact mem_at 11 rfl | exact mem_at 12 rfl | exact mem_at 13 rfl | exact mem_at 14 rfl | exact mem_at 15 rfl | exact mem_at 16 rfl | exact mem_at 17 rfl | exact mem_at 18 rfl | exact mem_at 19 rfl | exact mem_at 20 rfl | exact mem_at 21 rfl), show (some NameKind.cell : Option NameKind) ≠ some .local by decide, by first | exact Or.inl rfl | exact Or.inr ⟨rfl, rfl⟩, rfl⟩) | cases hq)) rfl (lookup_sub (by intro p hp; repeat (first | (rcases List.mem_cons.mp hp with rfl | hp; exact rfl) | cases hp)))) (cmpR_ne_pl (n := 2) (m := 2) (.list _ fun y hy => ?_) (.list _ fun y hy => ?_) (by simp))) ex_nil)) ?_
    · intro L' d hd
      obtain ⟨n, hn, rfl⟩ := List.mem_map.mp hd
      have hn5 := hNs n hn
      exact ⟨[(Str.ofString "name", .dat (sD n)), (Str.ofString "fill", .dat (.str (st [fl]))), (Str.ofString "size", .dat (.int (sz : Int)))], asg_name (by first | exact Or.inl rfl | exact Or.inr ⟨rfl, rfl, rfl⟩) (by intro y ds e; first | (cases e; done) | (cases e; decide)) (Pk.g (by repeat (first | exact Pk.nil | refine Pk.here ?_ | refine Pk.cons (by first | exact mem_at 0 rfl | exact mem_at 1 rfl | exact mem_at 2 rfl | exact mem_at 3 rfl | exact mem_at 4 rfl | exact mem_at 5 rfl | exact mem_at 6 rfl | exact mem_at 7 rfl | exact mem_at 8 rfl | exact mem_at 9 rfl | exact mem_at 10 rfl | exact mem_at 11 rfl | exact mem_at 12 rfl | exact mem_at 13 rfl | exact mem_at 14 rfl | exact mem_at 15 rfl | exact mem_at 16 rfl | exact mem_at 17 rfl | exact mem_at 18 rfl | exact mem_at 19 rfl | exact mem_at 20 rfl | exact mem_at 21 rfl) rfl ?_))), evts_nil, fun _ => ev_list (ds := [.str (st (fill fl 60 sz n)), .str (st n)]) (evd_cons (ev_eq (ev_bin (ev_var (b := .dat (.str (st n))) (by first | exact mem_at 0 rfl | exact mem_at 1 rfl | exact mem_at 2 rfl | exact mem_at 3 rfl | exact mem_at 4 rfl | exact mem_at 5 rfl | exact mem_at 6 rfl | exact mem_at 7 rfl | exact mem_at 8 rfl | exact mem_at 9 rfl | exact mem_at 10 rfl | exact mem_at 11 rfl | exact mem_at 12 rfl | exact mem_at 13 rfl | exact mem_at 14 rfl | exact mem_at 15 rfl | exact mem_at 16 rfl | exact mem_at 17 rfl | exact mem_at 18 rfl | exact mem_at 19 rfl | exact mem_at 20 rfl | exact mem_at 21 rfl)) (ev_bin (ev_var (b := .dat (.str (st [fl]))) (by first | exact mem_at 0 rfl | exact mem_at 1 rfl | exact mem_at 2 rfl | exact mem_at 3 rfl | exact mem_at 4 rfl | exact mem_at 5 rfl | exact mem_at 6 rfl | exact mem_at 7 rfl | exact mem_at 8 rfl | exact mem_at 9 rfl | exact mem_at 10 rfl | exact mem_at 11 rfl | exact mem_at 12 rfl | exact mem_at 13 rfl | exact mem_at 14 rfl | exact mem_at 15 rfl | exact mem_at 16 rfl | exact mem_at 17 rfl | exact mem_at 18 rfl | exact mem_at 19 rfl | exact mem_at 20 rfl | exact mem_at 21 rfl)) (ev_bin (ev_var (by first | exact mem_at 0 rfl | exact mem_at 1 rfl | exact mem_at 2 rfl | exact mem_at 3 rfl | exact mem_at 4 rfl | exact mem_at 5 rfl | exact mem_at 6 rfl | exact mem_at 7 rfl | exact mem_at 8 rfl | exact mem_at 9 rfl | exact mem_at 10 rfl | exact mem_at 11 rfl | exact mem_at 12 rfl | exact mem_at 13 rfl | exact mem_at 14 rfl | exact mem_at 15 rfl | exact mem_at 16 rfl | exact mem_at 17 rfl | exact mem_at 18 rfl | exact mem_at 19 rfl | exact mem_at 20 rfl | exact mem_at 21 rfl)) (ev_call_bi (ev_builtin rfl ((((I.into _).reb up).comp _ _ _).gl rfl) rfl) (evl_cons (ev_var (b := .dat (.str (st n))) (by first | exact mem_at 0 rfl | exact mem_at 1 rfl | exact mem_at 2 rfl | exact mem_at 3 rfl | exact mem_at 4 rfl | exact mem_at 5 rfl | exact mem_at 6 rfl | exact mem_at 7 rfl | exact mem_at 8 rfl | exact mem_at 9 rfl | exact mem_at 10 rfl | exact mem_at 11 rfl | exact mem_at 12 rfl | exact mem_at 13 rfl | exact mem_at 14 rfl | exact mem_at 15 rfl | exact mem_at 16 rfl | exact mem_at 17 rfl | exact mem_at 18 rfl | exact mem_at 19 rfl | exact mem_at 20 rfl | exact mem_at 21 rfl)) evl_nil) (callOk_len_str (by first | decide | assumption | with_reducible exact Int.natCast_nonneg _ | with_reducible exact Nat.le_trans (by assumption) (by decide) | with_reducible exact Nat.lt_of_lt_of_le (by assumption) (by decide) | with_reducible exact lt_mil (Nat.lt_of_lt_of_le (by assumption) (by decide)) | with_reducible exact lt_mil (Nat.lt_of_le_of_lt (by assumption) (by decide)) | with_reducible exact Nat.le_trans (Nat.le_of_lt (by assumption)) (by decide) | (first | lia | omega)))) binR_sub_int) (binR_mul_str (by first | decide | assumption | with_reducible exact Int.natCast_nonneg _ | with_reducible exact Nat.le_trans (by assumption) (by decide) | with_reducible exact Nat.lt_of_lt_of_le (by assumption) (by decide) | with_reducible exact lt_mil (Nat.lt_of_lt_of_le (by assumption) (by decide)) | with_reducible exact lt_mil (Nat.lt_of_le_of_lt (by assumption) (by decide)) | with_reducible exact Nat.le_trans (Nat.le_of_lt (by assumption)) (by decide) | (first | lia | omega)) (by first | decide | assumption | with_reducible exact Int.natCast_nonneg _ | with_reducible exact Nat.le_trans (by assumption) (by decide) | with_reducible exact Nat.lt_of_lt_of_le (by assumption) (by decide) | with_reducible exact lt_mil (Nat.lt_of_lt_of_le (by assumption) (by decide)) | with_reducible exact lt_mil (Nat.lt_of_le_of_lt (by assumption) (by decide)) | with_reducible exact Nat.le_trans (Nat.le_of_lt (by assumption)) (by decide) | (first | lia | omega)) (by simp))) (binR_add_str (by rw [flatten_rep, List.length_replicate]; (first | lia | omega)))) (by rw [flatten_rep, show ((sz : Int) - (n.length : Int)).toNat = sz - n.length by (first | lia | omega)]; rfl)) (evd_cons (ev_var (by first | exact mem_at 0 rfl | exact mem_at 1 rfl | exact mem_at 2 rfl | exact mem_at 3 rfl | exact mem_at 4 rfl | exact mem_at 5 rfl | exact mem_at 6 rfl | exact mem_at 7 rfl | exact mem_at 8 rfl | exact mem_at 9 rfl | exact mem_at 10 rfl | exact mem_at 11 rfl | exact mem_at 12 rfl | exact mem_at 13 rfl | exact mem_at 14 rfl | exact mem_at 15 rfl | exact mem_at 16 rfl | exact mem_at 17 rfl | exact mem_at 18 rfl | exact mem_at 19 rfl | exact mem_at 20 rfl | exact mem_at 21 rfl)) evd_nil))⟩
    · obtain ⟨n, hn, rfl⟩ := List.mem_map.mp hy
      exact pl_n (Nat.lt_trans hfl1 (by decide)) (hNc n hn)
    · obtain ⟨n, hn, rfl⟩ := List.mem_map.mp hy
      exact pl_n (Nat.lt_trans hfl1 (by decide)) (hNc n hn)
    refine exj_cons (exj_of (ex_acomp (Γ' := [(Str.ofString "writer", .val (.ref x)), (Str.ofString "script", .lst (ns.map .int)), (Str.ofString "prices", .dat (.list (ps.map pI))), (Str.ofString "money", .dat (.int m)), (Str.ofString "size", .dat (.int (sz : Int))), (Str.ofString "fill", .dat (.str (st [fl]))), (Str.ofString "goods", .dat (.list (R.map (gD sz)))), (Str.ofString "baskets", .dat (.list (nms.map sD))), (Str.ofString "named", .dat (.list (nms.map (nD fl sz)))), (Str.ofString "short", .dat (.list (nms.map fun n => sD (fill fl 62 (sz - 2) n))))]) [(Str.ofString "writer", L + 1), (Str.ofString "size", L + 2), (Str.ofString "fill", L + 3)] [(Str.ofString "fill", .dat (.str (st [fl]))), (Str.ofString "size", .dat (.int (sz : Int))), (Str.ofString "writer", .val (.ref x))] (fun _ => true) (strF fun n => sD (fill fl 62 (sz - 2) n)) (nms.map fun n => sD (fill fl 62 (sz - 2) n)) (evi_list (ev_var (b := .dat (.list (nms.map sD))) (by first | exact mem_at 0 rfl | exact mem_at 1 rfl | exact mem_at 2 rfl | exact mem_at 3 rfl | exact mem_at 4 rfl | exact mem_at 5 rfl | exact mem_at 6 rfl | exact mem_at 7 rfl | exact mem_at 8 rfl | exact mem_at 9 rfl | exact mem_at 10 rfl | exact mem_at 11 rfl | exact mem_at 12 rfl | exact mem_at 13 rfl | exact mem_at 14 rfl | exact mem_at 15 rfl | exact mem_at 16 rfl | exact mem_at 17 rfl | exact mem_at 18 rfl | exact mem_at 19 rfl | exact mem_at 20 rfl | exact mem_at 21 rfl))) (by rw [List.length_map]; (first | lia | omega)) (by rw [filter_tt', List.map_map]; rfl) ?_ (by intro q hq; repeat (first | (rcases List.mem_cons.mp hq with rfl | hq; exact ⟨(by first | exact mem_at 0 rfl | exact mem_at 1 rfl | exact mem_at 2 rfl | exact mem_at 3 rfl | exact mem_at 4 rfl | exact mem_at 5 rfl | exact mem_at 6 rfl | exact mem_at 7 rfl | exact mem_at 8 rfl | exact mem_at 9 rfl | exact mem_at 10 rfl | exact mem_at 11 rfl | exact mem_at 12 rfl | exact mem_at 13 rfl | exact mem_at 14 rfl | exact mem_at 15 rfl | exact mem_at 16 rfl | exact mem_at 17 rfl | exact mem_at 18 rfl | exact mem_at 19 rfl | exact mem_at 20 rfl | exact mem_at 21 rfl), show (some NameKind.cell : Option NameKind) ≠ some .local by decide, by first | exact Or.inl rfl | exact Or.inr ⟨rfl, rfl⟩, rfl⟩) | cases hq)) rfl (lookup_sub (by intro p hp; repeat (first | (rcases List.mem_cons.mp hp with rfl | hp; exact rfl) | cases hp))) (by rfl) (by first | exact Or.inl rfl | exact Or.inr ⟨rfl, rfl, rfl⟩) (by intro y ds e; first | (cases e; done) | (cases e; decide)) (Pk.g (by repeat (first | exact Pk.nil | refine Pk.here ?_ | refine Pk.cons (by first | exact mem_at 0 rfl | exact mem_at 1 rfl | exact mem_at 2 rfl | exact mem_at 3 rfl | exact mem_at 4 rfl | exact mem_at 5 rfl | exact mem_at 6 rfl | exact mem_at 7 rfl | exact mem_at 8 rfl | exact mem_at 9 rfl | exact mem_at 10 rfl | exact mem_at 11 rfl | exact mem_at 12 rfl | exact mem_at 13 rfl | exact mem_at 14 rfl | exact mem_at 15 rfl | exact mem_at 16 rfl | exact mem_at 17 rfl | exact mem_at 18 rfl | exact mem_at 19 rfl | exact mem_at 20 rfl | exact mem_at 21 rfl) rfl ?_))))) ?_
    · intro L' d hd
      obtain ⟨n, hn, rfl⟩ := List.mem_map.mp hd
      have hn5 := hNs n hn
      exact ⟨[(Str.ofString "name", .dat (sD n)), (Str.ofString "fill", .dat (.str (st [fl]))), (Str.ofString "size", .dat (.int (sz : Int))), (Str.ofString "writer", .val (.ref x))], asg_name (by first | exact Or.inl rfl | exact Or.inr ⟨rfl, rfl, rfl⟩) (by intro y ds e; first | (cases e; done) | (cases e; decide)) (Pk.g (by repeat (first | exact Pk.nil | refine Pk.here ?_ | refine Pk.cons (by first | exact mem_at 0 rfl | exact mem_at 1 rfl | exact mem_at 2 rfl | exact mem_at 3 rfl | exact mem_at 4 rfl | exact mem_at 5 rfl | exact mem_at 6 rfl | exact mem_at 7 rfl | exact mem_at 8 rfl | exact mem_at 9 rfl | exact mem_at 10 rfl | exact mem_at 11 rfl | exact mem_at 12 rfl | exact mem_at 13 rfl | exact mem_at 14 rfl | exact mem_at 15 rfl | exact mem_at 16 rfl | exact mem_at 17 rfl | exact mem_at 18 rfl | exact mem_at 19 rfl | exact mem_at 20 rfl | exact mem_at 21 rfl) rfl ?_))), evts_nil, fun _ => (ev_write (l := n) (c := fl) (a := 62) (w := (sz - 2)) (((I.into _).reb up).comp _ _ _) hfu (X rfl) hfl1 (.inr rfl) (by first | decide | assumption | with_reducible exact Int.natCast_nonneg _ | with_reducible exact Nat.le_trans (by assumption) (by decide) | with_reducible exact Nat.lt_of_lt_of_le (by assumption) (by decide) | with_reducible exact lt_mil (Nat.lt_of_lt_of_le (by assumption) (by decide)) | with_reducible exact lt_mil (Nat.lt_of_le_of_lt (by assumption) (by decide)) | with_reducible exact Nat.le_trans (Nat.le_of_lt (by assumption)) (by decide) | (first | lia | omega)) (by first | decide | assumption | with_reducible exact Int.natCast_nonneg _ | with_reducible exact Nat.le_trans (by assumption) (by decide) | with_reducible exact Nat.lt_of_lt_of_le (by assumption) (by decide) | with_reducible exact lt_mil (Nat.lt_of_lt_of_le (by assumption) (by decide)) | with_reducible exact lt_mil (Nat.lt_of_le_of_lt (by assumption) (by decide)) | with_reducible exact Nat.le_trans (Nat.le_of_lt (by assumption)) (by decide) | (first | lia | omega)) (by first | decide | assumption | with_reducible exact Int.natCast_nonneg _ | with_reducible exact Nat.le_trans (by assumption) (by decide) | with_reducible exact Nat.lt_of_lt_of_le (by assumption) (by decide) | with_reducible exact lt_mil (Nat.lt_of_lt_of_le (by assumption) (by decide)) | with_reducible exact lt_mil (Nat.lt_of_le_of_lt (by assumption) (by decide)) | with_reducible exact Nat.le_trans (Nat.le_of_lt (by assumption)) (by decide) | (first | lia | omega)) (ev_var (by first | exact mem_at 0 rfl | exact mem_at 1 rfl | exact mem_at 2 rfl | exact mem_at 3 rfl | exact mem_at 4 rfl | exact mem_at 5 rfl | exact mem_at 6 rfl | exact mem_at 7 rfl | exact mem_at 8 rfl | exact mem_at 9 rfl | exact mem_at 10 rfl | exact mem_at 11 rfl | exact mem_at 12 rfl | exact mem_at 13 rfl | exact mem_at 14 rfl | exact mem_at 15 rfl | exact mem_at 16 rfl | exact mem_at 17 rfl | exact mem_at 18 rfl | exact mem_at 19 rfl | exact mem_at 20 rfl | exact mem_at 21 rfl)) (evl_cons (ev_var (b := .dat (.str (st n))) (by first | exact mem_at 0 rfl | exact mem_at 1 rfl | exact mem_at 2 rfl | exact mem_at 3 rfl | exact mem_at 4 rfl | exact mem_at 5 rfl | exact mem_at 6 rfl | exact mem_at 7 rfl | exact mem_at 8 rfl | exact mem_at 9 rfl | exact mem_at 10 rfl | exact mem_at 11 rfl | exact mem_at 12 rfl | exact mem_at 13 rfl | exact mem_at 14 rfl | exact mem_at 15 rfl | exact mem_at 16 rfl | exact mem_at 17 rfl | exact mem_at 18 rfl | exact mem_at 19 rfl | exact mem_at 20 rfl | exact mem_at 21 rfl)) (evl_cons (ev_eq (b := .dat (.str (st [fl, 62, 48 + (sz - 2)]))) (ev_bin (ev_bin (ev_var (b := .dat (.str (st [fl]))) (by first | exact mem_at 0 rfl | exact mem_at 1 rfl | exact mem_at 2 rfl | exact mem_at 3 rfl | exact mem_at 4 rfl | exact mem_at 5 rfl | exact mem_at 6 rfl | exact mem_at 7 rfl | exact mem_at 8 rfl | exact mem_at 9 rfl | exact mem_at 10 rfl | exact mem_at 11 rfl | exact mem_at 12 rfl | exact mem_at 13 rfl | exact mem_at 14 rfl | exact mem_at 15 rfl | exact mem_at 16 rfl | exact mem_at 17 rfl | exact mem_at 18 rfl | exact mem_at 19 rfl | exact mem_at 20 rfl | exact mem_at 21 rfl)) (ev_strL (l := [62]) rfl) (binR_add_str (by simp))) (ev_strN (a := (sz - 2)) (((I.into _).reb up).comp _ _ _) (by first | decide | assumption | with_reducible exact Int.natCast_nonneg _ | with_reducible exact Nat.le_trans (by assumption) (by decide) | with_reducible exact Nat.lt_of_lt_of_le (by assumption) (by decide) | with_reducible exact lt_mil (Nat.lt_of_lt_of_le (by assumption) (by decide)) | with_reducible exact lt_mil (Nat.lt_of_le_of_lt (by assumption) (by decide)) | with_reducible exact Nat.le_trans (Nat.le_of_lt (by assumption)) (by decide) | (first | lia | omega)) (ev_bin (ev_var (by first | exact mem_at 0 rfl | exact mem_at 1 rfl | exact mem_at 2 rfl | exact mem_at 3 rfl | exact mem_at 4 rfl | exact mem_at 5 rfl | exact mem_at 6 rfl | exact mem_at 7 rfl | exact mem_at 8 rfl | exact mem_at 9 rfl | exact mem_at 10 rfl | exact mem_at 11 rfl | exact mem_at 12 rfl | exact mem_at 13 rfl | exact mem_at 14 rfl | exact mem_at 15 rfl | exact mem_at 16 rfl | exact mem_at 17 rfl | exact mem_at 18 rfl | exact mem_at 19 rfl | exact mem_at 20 rfl | exact mem_at 21 rfl)) ev_int binR_sub_int) (by first | decide | assumption | with_reducible exact Int.natCast_nonneg _ | with_reducible exact Nat.le_trans (by assumption) (by decide) | with_reducible exact Nat.lt_of_lt_of_le (by assumption) (by decide) | with_reducible exact lt_mil (Nat.lt_of_lt_of_le (by assumption) (by decide)) | with_reducible exact lt_mil (Nat.lt_of_le_of_lt (by assumption) (by decide)) | with_reducible exact Nat.le_trans (Nat.le_of_lt (by assumption)) (by decide) | (first | lia | omega)) rfl) (binR_add_str (by have := @dec_len ((sz - 2)); simp; (first | lia | omega)))) (by rw [dec_small (by first | decide | assumption | with_reducible exact Int.natCast_nonneg _ | with_reducible exact Nat.le_trans (by assumption) (by decide) | with_reducible exact Nat.lt_of_lt_of_le (by assumption) (by decide) | with_reducible exact lt_mil (Nat.lt_of_lt_of_le (by assumption) (by decide)) | with_reducible exact lt_mil (Nat.lt_of_le_of_lt (by assumption) (by decide)) | with_reducible exact Nat.le_trans (Nat.le_of_lt (by assumption)) (by decide) | (first | lia | omega))]; rfl)) evl_nil)))⟩
    refine exj_cons (exj_of (ex_if_false (et_cmp (ev_var (b := .dat (.list (nms.map fun n => sD (fill fl 62 (sz - 2) n)))) (by first | exact mem_at 0 rfl | exact mem_at 1 rfl | exact mem_at 2 rfl | exact mem_at 3 rfl | exact mem_at 4 rfl | exact mem_at 5 rfl | exact mem_at 6 rfl | exact mem_at 7 rfl | exact mem_at 8 rfl | exact mem_at 9 rfl | exact mem_at 10 rfl | exact mem_at 11 rfl | exact mem_at 12 rfl | exact mem_at 13 rfl | exact mem_at 14 rfl | exact mem_at 15 rfl | exact mem_at 16 rfl | exact mem_at 17 rfl | exact mem_at 18 rfl | exact mem_at 19 rfl | exact mem_at 20 rfl | exact mem_at 21 rfl)) (ev_acomp [(Str.ofString "size", L + 2), (Str.ofString "fill", L + 3)] [(Str.ofString "fill", .dat (.str (st [fl]))), (Str.ofString "size", .dat (.int (sz : Int)))] (fun _ => true) (strF fun n => sD (fill fl 62 (sz - 2) n)) (nms.map fun n => sD (fill fl 62 (sz - 2) n)) (evi_list (ev_var (b := .dat (.list (nms.map sD))) (by first | exact mem_at 0 rfl | exact mem_at 1 rfl | exact mem_at 2 rfl | exact mem_at 3 rfl | exact mem_at 4 rfl | exact mem_at 5 rfl | exact mem_at 6 rfl | exact mem_at 7 rfl | exact mem_at 8 rfl | exact mem_at 9 rfl | exact mem_at 10 rfl | exact mem_at 11 rfl | exact mem_at 12 rfl | exact mem_at 13 rfl | exact mem_at 14 rfl | exact mem_at 15 rfl | exact mem_at 16 rfl | exact mem_at 17 rfl | exact mem_at 18 rfl | exact mem_at 19 rfl | exact mem_at 20 rfl | exact mem_at 21 rfl))) (by rw [List.length_map]; (first | lia | omega)) (by rw [filter_tt', List.map_map]; rfl) ?_ (by intro q hq; repeat (first | (rcases List.mem_cons.mp hq with rfl | hq; exact ⟨(by first | exact mem_at 0 rfl | exact mem_at 1 rfl | exact mem_at 2 rfl | exact mem_at 3 rfl | exact mem_at 4 rfl | exact mem_at 5 rfl | exact mem_at 6 rfl | exact mem_at 7 rfl | exact mem_at 8 rfl | exact mem_at 9 rfl | exact mem_at 10 rfl | exact mem_at 11 rfl | exact mem_at 12 rfl | exact mem_at 13 rfl | exact mem_at 14 rfl | exact mem_at 15 rfl | exact mem_at 16 rfl | exact mem_at 17 rfl | exact mem_at 18 rfl | exact mem_at 19 rfl | exact mem_at 20 rfl | exact mem_at 21 rfl), show (some NameKind.cell : Option NameKind) ≠ some .local by decide, by first | exact Or.inl rfl | exact Or.inr ⟨rfl, rfl⟩, rfl⟩) | cases hq)) rfl (lookup_sub (by intro p hp; repeat (first | (rcases List.mem_cons.mp hp with rfl | hp; exact rfl) | cases hp)))) (cmpR_ne_pl (n := 1) (m := 1) (.list _ fun y hy => ?_) (.list _ fun y hy => ?_) (by simp))) ex_nil)) ?_
    · intro L' d hd
      obtain ⟨n, hn, rfl⟩ := List.mem_map.mp hd
      have hn5 := hNs n hn
      exact ⟨[(Str.ofString "name", .dat (sD n)), (Str.ofString "fill", .dat (.str (st [fl]))), (Str.ofString "size", .dat (.int (sz : Int)))], asg_name (by first | exact Or.inl rfl | exact Or.inr ⟨rfl, rfl, rfl⟩) (by intro y ds e; first | (cases e; done) | (cases e; decide)) (Pk.g (by repeat (first | exact Pk.nil | refine Pk.here ?_ | refine Pk.cons (by first | exact mem_at 0 rfl | exact mem_at 1 rfl | exact mem_at 2 rfl | exact mem_at 3 rfl | exact mem_at 4 rfl | exact mem_at 5 rfl | exact mem_at 6 rfl | exact mem_at 7 rfl | exact mem_at 8 rfl | exact mem_at 9 rfl | exact mem_at 10 rfl | exact mem_at 11 rfl | exact mem_at 12 rfl | exact mem_at 13 rfl | exact mem_at 14 rfl | exact mem_at 15 rfl | exact mem_at 16 rfl | exact mem_at 17 rfl | exact mem_at 18 rfl | exact mem_at 19 rfl | exact mem_at 20 rfl | exact mem_at 21 rfl) rfl ?_))), evts_nil, fun _ => ev_eq (ev_bin (ev_bin (ev_var (b := .dat (.str (st [fl]))) (by first | exact mem_at 0 rfl | exact mem_at 1 rfl | exact mem_at 2 rfl | exact mem_at 3 rfl | exact mem_at 4 rfl | exact mem_at 5 rfl | exact mem_at 6 rfl | exact mem_at 7 rfl | exact mem_at 8 rfl | exact mem_at 9 rfl | exact mem_at 10 rfl | exact mem_at 11 rfl | exact mem_at 12 rfl | exact mem_at 13 rfl | exact mem_at 14 rfl | exact mem_at 15 rfl | exact mem_at 16 rfl | exact mem_at 17 rfl | exact mem_at 18 rfl | exact mem_at 19 rfl | exact mem_at 20 rfl | exact mem_at 21 rfl)) (ev_bin (ev_bin (ev_var (by first | exact mem_at 0 rfl | exact mem_at 1 rfl | exact mem_at 2 rfl | exact mem_at 3 rfl | exact mem_at 4 rfl | exact mem_at 5 rfl | exact mem_at 6 rfl | exact mem_at 7 rfl | exact mem_at 8 rfl | exact mem_at 9 rfl | exact mem_at 10 rfl | exact mem_at 11 rfl | exact mem_at 12 rfl | exact mem_at 13 rfl | exact mem_at 14 rfl | exact mem_at 15 rfl | exact mem_at 16 rfl | exact mem_at 17 rfl | exact mem_at 18 rfl | exact mem_at 19 rfl | exact mem_at 20 rfl | exact mem_at 21 rfl)) ev_int binR_sub_int) (ev_call_bi (ev_builtin rfl ((((I.into _).reb up).comp _ _ _).gl rfl) rfl) (evl_cons (ev_var (b := .dat (.str (st n))) (by first | exact mem_at 0 rfl | exact mem_at 1 rfl | exact mem_at 2 rfl | exact mem_at 3 rfl | exact mem_at 4 rfl | exact mem_at 5 rfl | exact mem_at 6 rfl | exact mem_at 7 rfl | exact mem_at 8 rfl | exact mem_at 9 rfl | exact mem_at 10 rfl | exact mem_at 11 rfl | exact mem_at 12 rfl | exact mem_at 13 rfl | exact mem_at 14 rfl | exact mem_at 15 rfl | exact mem_at 16 rfl | exact mem_at 17 rfl | exact mem_at 18 rfl | exact mem_at 19 rfl | exact mem_at 20 rfl | exact mem_at 21 rfl)) evl_nil) (callOk_len_str (by first | decide | assumption | with_reducible exact Int.natCast_nonneg _ | with_reducible exact Nat.le_trans (by assumption) (by decide) | with_reducible exact Nat.lt_of_lt_of_le (by assumption) (by decide) | with_reducible exact lt_mil (Nat.lt_of_lt_of_le (by assumption) (by decide)) | with_reducible exact lt_mil (Nat.lt_of_le_of_lt (by assumption) (by decide)) | with_reducible exact Nat.le_trans (Nat.le_of_lt (by assumption)) (by decide) | (first | lia | omega)))) binR_sub_int) (binR_mul_str (by first | decide | assumption | with_reducible exact Int.natCast_nonneg _ | with_reducible exact Nat.le_trans (by assumption) (by decide) | with_reducible exact Nat.lt_of_lt_of_le (by assumption) (by decide) | with_reducible exact lt_mil (Nat.lt_of_lt_of_le (by assumption) (by decide)) | with_reducible exact lt_mil (Nat.lt_of_le_of_lt (by assumption) (by decide)) | with_reducible exact Nat.le_trans (Nat.le_of_lt (by assumption)) (by decide) | (first | lia | omega)) (by first | decide | assumption | with_reducible exact Int.natCast_nonneg _ | with_reducible exact Nat.le_trans (by assumption) (by decide) | with_reducible exact Nat.lt_of_lt_of_le (by assumption) (by decide) | with_reducible exact lt_mil (Nat.lt_of_lt_of_le (by assumption) (by decide)) | with_reducible exact lt_mil (Nat.lt_of_le_of_lt (by assumption) (by decide)) | with_reducible exact Nat.le_trans (Nat.le_of_lt (by assumption)) (by decide) | (first | lia | omega)) (by simp))) (ev_var (b := .dat (.str (st n))) (by first | exact mem_at 0 rfl | exact mem_at 1 rfl | exact mem_at 2 rfl | exact mem_at 3 rfl | exact mem_at 4 rfl | exact mem_at 5 rfl | exact mem_at 6 rfl | exact mem_at 7 rfl | exact mem_at 8 rfl | exact mem_at 9 rfl | exact mem_at 10 rfl | exact mem_at 11 rfl | exact mem_at 12 rfl | exact mem_at 13 rfl | exact mem_at 14 rfl | exact mem_at 15 rfl | exact mem_at 16 rfl | exact mem_at 17 rfl | exact mem_at 18 rfl | exact mem_at 19 rfl | exact mem_at 20 rfl | exact mem_at 21 rfl)) (binR_add_str (by rw [flatten_rep, List.length_replicate]; (first | lia | omega)))) (by rw [flatten_rep, show ((sz : Int) - 2 - (n.length : Int)).toNat = sz - 2 - n.length by (first | lia | omega)]; rfl)⟩
    · obtain ⟨n, hn, rfl⟩ := List.mem_map.mp hy
      exact pl_s (fill_signs (Nat.lt_trans hfl1 (by decide)) (hNc n hn))
    · obtain ⟨n, hn, rfl⟩ := List.mem_map.mp hy
      exact pl_s (fill_signs (Nat.lt_trans hfl1 (by decide)) (hNc n hn))
    refine exj_cons (exj_of (ex_acomp (Γ' := [(Str.ofString "writer", .val (.ref x)), (Str.ofString "script", .lst (ns.map .int)), (Str.ofString "prices", .dat (.list (ps.map pI))), (Str.ofString "money", .dat (.int m)), (Str.ofString "size", .dat (.int (sz : Int))), (Str.ofString "fill", .dat (.str (st [fl]))), (Str.ofString "goods", .dat (.list (R.map (gD sz)))), (Str.ofString "baskets", .dat (.list (nms.map sD))), (Str.ofString "named", .dat (.list (nms.map (nD fl sz)))), (Str.ofString "short", .dat (.list (nms.map fun n => sD (fill fl 62 (sz - 2) n)))), (Str.ofString "down", .dat (.list ((dn.map (fill fl 60 sz)).map sD)))]) [(Str.ofString "size", L + 2), (Str.ofString "fill", L + 3), (Str.ofString "baskets", L + 4)] [(Str.ofString "baskets", .dat (.list (nms.map sD))), (Str.ofString "fill", .dat (.str (st [fl]))), (Str.ofString "size", .dat (.int (sz : Int)))] (strP fun n => decide (n ∈ nms)) (strF fun n => sD (fill fl 60 sz n)) ((dn.map (fill fl 60 sz)).map sD) (items := (gray false R.length R.length).map sD) (evi_list (ev_def (ev_glob rfl (((I.into _).reb up).gl rfl)) (evl_cons (ev_eq (ev_call_bi (ev_builtin rfl (((I.into _).reb up).gl rfl) rfl) (evl_cons (ev_lst (ev_var (b := .dat (.list (R.map (gD sz)))) (by first | exact mem_at 0 rfl | exact mem_at 1 rfl | exact mem_at 2 rfl | exact mem_at 3 rfl | exact mem_at 4 rfl | exact mem_at 5 rfl | exact mem_at 6 rfl | exact mem_at 7 rfl | exact mem_at 8 rfl | exact mem_at 9 rfl | exact mem_at 10 rfl | exact mem_at 11 rfl | exact mem_at 12 rfl | exact mem_at 13 rfl | exact mem_at 14 rfl | exact mem_at 15 rfl | exact mem_at 16 rfl | exact mem_at 17 rfl | exact mem_at 18 rfl | exact mem_at 19 rfl | exact mem_at 20 rfl | exact mem_at 21 rfl))) evl_nil) (callOk_len_list (by rw [List.length_map]; (first | lia | omega)))) (by rw [List.length_map])) (evl_cons ev_bool evl_nil)) evkw_nil (((I.into _).reb up).at (a := 176) rfl) rfl (sp_mirror ((I.into _).reb up) hfu (b := false) hR5))) (by rw [List.length_map]; have := hGl false; (first | lia | omega)) (by rw [filter_in, hdn, List.map_map]; rfl) ?_ (by intro q hq; repeat (first | (rcases List.mem_cons.mp hq with rfl | hq; exact ⟨(by first | exact mem_at 0 rfl | exact mem_at 1 rfl | exact mem_at 2 rfl | exact mem_at 3 rfl | exact mem_at 4 rfl | exact mem_at 5 rfl | exact mem_at 6 rfl | exact mem_at 7 rfl | exact mem_at 8 rfl | exact mem_at 9 rfl | exact mem_at 10 rfl | exact mem_at 11 rfl | exact mem_at 12 rfl | exact mem_at 13 rfl | exact mem_at 14 rfl | exact mem_at 15 rfl | exact mem_at 16 rfl | exact mem_at 17 rfl | exact mem_at 18 rfl | exact mem_at 19 rfl | exact mem_at 20 rfl | exact mem_at 21 rfl), show (some NameKind.cell : Option NameKind) ≠ some .local by decide, by first | exact Or.inl rfl | exact Or.inr ⟨rfl, rfl⟩, rfl⟩) | cases hq)) rfl (lookup_sub (by intro p hp; repeat (first | (rcases List.mem_cons.mp hp with rfl | hp; exact rfl) | cases hp))) (by rfl) (by first | exact Or.inl rfl | exact Or.inr ⟨rfl, rfl, rfl⟩) (by intro y ds e; first | (cases e; done) | (cases e; decide)) (Pk.g (by repeat (first | exact Pk.nil | refine Pk.here ?_ | refine Pk.cons (by first | exact mem_at 0 rfl | exact mem_at 1 rfl | exact mem_at 2 rfl | exact mem_at 3 rfl | exact mem_at 4 rfl | exact mem_at 5 rfl | exact mem_at 6 rfl | exact mem_at 7 rfl | exact mem_at 8 rfl | exact mem_at 9 rfl | exact mem_at 10 rfl | exact mem_at 11 rfl | exact mem_at 12 rfl | exact mem_at 13 rfl | exact mem_at 14 rfl | exact mem_at 15 rfl | exact mem_at 16 rfl | exact mem_at 17 rfl | exact mem_at 18 rfl | exact mem_at 19 rfl | exact mem_at 20 rfl | exact mem_at 21 rfl) rfl ?_))))) ?_
    · intro L' d hd
      obtain ⟨n, hn, rfl⟩ := List.mem_map.mp hd
      obtain ⟨hn5, hnc⟩ := hGc false n hn
      refine ⟨[(Str.ofString "name", .dat (sD n)), (Str.ofString "baskets", .dat (.list (nms.map sD))), (Str.ofString "fill", .dat (.str (st [fl]))), (Str.ofString "size", .dat (.int (sz : Int)))], asg_name (by first | exact Or.inl rfl | exact Or.inr ⟨rfl, rfl, rfl⟩) (by intro y ds e; first | (cases e; done) | (cases e; decide)) (Pk.g (by repeat (first | exact Pk.nil | refine Pk.here ?_ | refine Pk.cons (by first | exact mem_at 0 rfl | exact mem_at 1 rfl | exact mem_at 2 rfl | exact mem_at 3 rfl | exact mem_at 4 rfl | exact mem_at 5 rfl | exact mem_at 6 rfl | exact mem_at 7 rfl | exact mem_at 8 rfl | exact mem_at 9 rfl | exact mem_at 10 rfl | exact mem_at 11 rfl | exact mem_at 12 rfl | exact mem_at 13 rfl | exact mem_at 14 rfl | exact mem_at 15 rfl | exact mem_at 16 rfl | exact mem_at 17 rfl | exact mem_at 18 rfl | exact mem_at 19 rfl | exact mem_at 20 rfl | exact mem_at 21 rfl) rfl ?_))), evts_one (et_eq (et_cmp (ev_var (b := .dat (sD n)) (by first | exact mem_at 0 rfl | exact mem_at 1 rfl | exact mem_at 2 rfl | exact mem_at 3 rfl | exact mem_at 4 rfl | exact mem_at 5 rfl | exact mem_at 6 rfl | exact mem_at 7 rfl | exact mem_at 8 rfl | exact mem_at 9 rfl | exact mem_at 10 rfl | exact mem_at 11 rfl | exact mem_at 12 rfl | exact mem_at 13 rfl | exact mem_at 14 rfl | exact mem_at 15 rfl | exact mem_at 16 rfl | exact mem_at 17 rfl | exact mem_at 18 rfl | exact mem_at 19 rfl | exact mem_at 20 rfl | exact mem_at 21 rfl)) (ev_var (b := .dat (.list (nms.map sD))) (by first | exact mem_at 0 rfl | exact mem_at 1 rfl | exact mem_at 2 rfl | exact mem_at 3 rfl | exact mem_at 4 rfl | exact mem_at 5 rfl | exact mem_at 6 rfl | exact mem_at 7 rfl | exact mem_at 8 rfl | exact mem_at 9 rfl | exact mem_at 10 rfl | exact mem_at 11 rfl | exact mem_at 12 rfl | exact mem_at 13 rfl | exact mem_at 14 rfl | exact mem_at 15 rfl | exact mem_at 16 rfl | exact mem_at 17 rfl | exact mem_at 18 rfl | exact mem_at 19 rfl | exact mem_at 20 rfl | exact mem_at 21 rfl)) (cmpR_in_names hNc hnc)) rfl), fun hin => ?_⟩
      have hin : n ∈ nms := of_decide_eq_true hin
      have hn4 := hNs n hin
      exact (ev_eq (ev_bin (ev_var (b := .dat (.str (st n))) (by first | exact mem_at 0 rfl | exact mem_at 1 rfl | exact mem_at 2 rfl | exact mem_at 3 rfl | exact mem_at 4 rfl | exact mem_at 5 rfl | exact mem_at 6 rfl | exact mem_at 7 rfl | exact mem_at 8 rfl | exact mem_at 9 rfl | exact mem_at 10 rfl | exact mem_at 11 rfl | exact mem_at 12 rfl | exact mem_at 13 rfl | exact mem_at 14 rfl | exact mem_at 15 rfl | exact mem_at 16 rfl | exact mem_at 17 rfl | exact mem_at 18 rfl | exact mem_at 19 rfl | exact mem_at 20 rfl | exact mem_at 21 rfl)) (ev_bin (ev_var (b := .dat (.str (st [fl]))) (by first | exact mem_at 0 rfl | exact mem_at 1 rfl | exact mem_at 2 rfl | exact mem_at 3 rfl | exact mem_at 4 rfl | exact mem_at 5 rfl | exact mem_at 6 rfl | exact mem_at 7 rfl | exact mem_at 8 rfl | exact mem_at 9 rfl | exact mem_at 10 rfl | exact mem_at 11 rfl | exact mem_at 12 rfl | exact mem_at 13 rfl | exact mem_at 14 rfl | exact mem_at 15 rfl | exact mem_at 16 rfl | exact mem_at 17 rfl | exact mem_at 18 rfl | exact mem_at 19 rfl | exact mem_at 20 rfl | exact mem_at 21 rfl)) (ev_bin (ev_var (by first | exact mem_at 0 rfl | exact mem_at 1 rfl | exact mem_at 2 rfl | exact mem_at 3 rfl | exact mem_at 4 rfl | exact mem_at 5 rfl | exact mem_at 6 rfl | exact mem_at 7 rfl | exact mem_at 8 rfl | exact mem_at 9 rfl | exact mem_at 10 rfl | exact mem_at 11 rfl | exact mem_at 12 rfl | exact mem_at 13 rfl | exact mem_at 14 rfl | exact mem_at 15 rfl | exact mem_at 16 rfl | exact mem_at 17 rfl | exact mem_at 18 rfl | exact mem_at 19 rfl | exact mem_at 20 rfl | exact mem_at 21 rfl)) (ev_call_bi (ev_builtin rfl ((((I.into _).reb up).comp _ _ _).gl rfl) rfl) (evl_cons (ev_var (b := .dat (.str (st n))) (by first | exact mem_at 0 rfl | exact mem_at 1 rfl | exact mem_at 2 rfl | exact mem_at 3 rfl | exact mem_at 4 rfl | exact mem_at 5 rfl | exact mem_at 6 rfl | exact mem_at 7 rfl | exact mem_at 8 rfl | exact mem_at 9 rfl | exact mem_at 10 rfl | exact mem_at 11 rfl | exact mem_at 12 rfl | exact mem_at 13 rfl | exact mem_at 14 rfl | exact mem_at 15 rfl | exact mem_at 16 rfl | exact mem_at 17 rfl | exact mem_at 18 rfl | exact mem_at 19 rfl | exact mem_at 20 rfl | exact mem_at 21 rfl)) evl_nil) (callOk_len_str (by first | decide | assumption | with_reducible exact Int.natCast_nonneg _ | with_reducible exact Nat.le_trans (by assumption) (by decide) | with_reducible exact Nat.lt_of_lt_of_le (by assumption) (by decide) | with_reducible exact lt_mil (Nat.lt_of_lt_of_le (by assumption) (by decide)) | with_reducible exact lt_mil (Nat.lt_of_le_of_lt (by assumption) (by decide)) | with_reducible exact Nat.le_trans (Nat.le_of_lt (by assumption)) (by decide) | (first | lia | omega)))) binR_sub_int) (binR_mul_str (by first | decide | assumption | with_reducible exact Int.natCast_nonneg _ | with_reducible exact Nat.le_trans (by assumption) (by decide) | with_reducible exact Nat.lt_of_lt_of_le (by assumption) (by decide) | with_reducible exact lt_mil (Nat.lt_of_lt_of_le (by assumption) (by decide)) | with_reducible exact lt_mil (Nat.lt_of_le_of_lt (by assumption) (by decide)) | with_reducible exact Nat.le_trans (Nat.le_of_lt (by assumption)) (by decide) | (first | lia | omega)) (by first | decide | assumption | with_reducible exact Int.natCast_nonneg _ | with_reducible exact Nat.le_trans (by assumption) (by decide) | with_reducible exact Nat.lt_of_lt_of_le (by assumption) (by decide) | with_reducible exact lt_mil (Nat.lt_of_lt_of_le (by assumption) (by decide)) | with_reducible exact lt_mil (Nat.lt_of_le_of_lt (by assumption) (by decide)) | with_reducible exact Nat.le_trans (Nat.le_of_lt (by assumption)) (by decide) | (first | lia | omega)) (by simp))) (binR_add_str (by rw [flatten_rep, List.length_replicate]; (first | lia | omega)))) (by rw [flatten_rep, show ((sz : Int) - (n.length : Int)).toNat = sz - n.length by (first | lia | omega)]; rfl))
    refine exj_cons (exj_of (ex_if_false (et_cmp (ev_eq (b := .dat (.list ((dn.map (fill fl 60 sz)).map sD))) (ev_def (ev_glob rfl (((I.into _).reb up).gl rfl)) (evl_cons (ev_var (b := .dat (.list (nms.map (nD fl sz)))) (by first | exact mem_at 0 rfl | exact mem_at 1 rfl | exact mem_at 2 rfl | exact mem_at 3 rfl | exact mem_at 4 rfl | exact mem_at 5 rfl | exact mem_at 6 rfl | exact mem_at 7 rfl | exact mem_at 8 rfl | exact mem_at 9 rfl | exact mem_at 10 rfl | exact mem_at 11 rfl | exact mem_at 12 rfl | exact mem_at 13 rfl | exact mem_at 14 rfl | exact mem_at 15 rfl | exact mem_at 16 rfl | exact mem_at 17 rfl | exact mem_at 18 rfl | exact mem_at 19 rfl | exact mem_at 20 rfl | exact mem_at 21 rfl)) evl_nil) evkw_nil (((I.into _).reb up).at (a := 166) rfl) rfl (sp_straight ((I.into _).reb up) hfu3 (ns := nms) (fl := fl) (sz := sz) (by first | decide | assumption | with_reducible exact Int.natCast_nonneg _ | with_reducible exact Nat.le_trans (by assumption) (by decide) | with_reducible exact Nat.lt_of_lt_of_le (by assumption) (by decide) | with_reducible exact lt_mil (Nat.lt_of_lt_of_le (by assumption) (by decide)) | with_reducible exact lt_mil (Nat.lt_of_le_of_lt (by assumption) (by decide)) | with_reducible exact Nat.le_trans (Nat.le_of_lt (by assumption)) (by decide) | (first | lia | omega)))) (by rw [PLd])) (ev_var (b := .dat (.list ((dn.map (fill fl 60 sz)).map sD))) (by first | exact mem_at 0 rfl | exact mem_at 1 rfl | exact mem_at 2 rfl | exact mem_at 3 rfl | exact mem_at 4 rfl | exact mem_at 5 rfl | exact mem_at 6 rfl | exact mem_at 7 rfl | exact mem_at 8 rfl | exact mem_at 9 rfl | exact mem_at 10 rfl | exact mem_at 11 rfl | exact mem_at 12 rfl | exact mem_at 13 rfl | exact mem_at 14 rfl | exact mem_at 15 rfl | exact mem_at 16 rfl | exact mem_at 17 rfl | exact mem_at 18 rfl | exact mem_at 19 rfl | exact mem_at 20 rfl | exact mem_at 21 rfl)) (cmpR_ne_pl (n := 1) (m := 1) (pl_ss ?_) (pl_ss ?_) (by simp))) ex_nil)) ?_
    · intro n hn
      obtain ⟨y, hy, rfl⟩ := List.mem_map.mp hn
      exact fill_signs (Nat.lt_trans hfl1 (by decide)) (hNc y (hDs hy))
    · intro n hn
      obtain ⟨y, hy, rfl⟩ := List.mem_map.mp hn
      exact fill_signs (Nat.lt_trans hfl1 (by decide)) (hNc y (hDs hy))
    refine exj_cons (exj_call (Γ' := [(Str.ofString "writer", .val (.ref x)), (Str.ofString "script", .lst (ns.map .int)), (Str.ofString "prices", .dat (.list (ps.map pI))), (Str.ofString "money", .dat (.int m)), (Str.ofString "size", .dat (.int (sz : Int))), (Str.ofString "fill", .dat (.str (st [fl]))), (Str.ofString "goods", .dat (.list (R.map (gD sz)))), (Str.ofString "baskets", .dat (.list (nms.map sD))), (Str.ofString "turned", .dat (.list (tn.map sD)))]) (c := .dat (.list (tn.map sD))) (ev_glob rfl (((I.into _).reb up).gl rfl)) (evl_cons (ev_var (b := .dat (.list (nms.map (nD fl sz)))) (by first | exact mem_at 0 rfl | exact mem_at 1 rfl | exact mem_at 2 rfl | exact mem_at 3 rfl | exact mem_at 4 rfl | exact mem_at 5 rfl | exact mem_at 6 rfl | exact mem_at 7 rfl | exact mem_at 8 rfl | exact mem_at 9 rfl | exact mem_at 10 rfl | exact mem_at 11 rfl | exact mem_at 12 rfl | exact mem_at 13 rfl | exact mem_at 14 rfl | exact mem_at 15 rfl | exact mem_at 16 rfl | exact mem_at 17 rfl | exact mem_at 18 rfl | exact mem_at 19 rfl | exact mem_at 20 rfl | exact mem_at 21 rfl)) (evl_cons (ev_var (b := .dat (.int (sz : Int))) (by first | exact mem_at 0 rfl | exact mem_at 1 rfl | exact mem_at 2 rfl | exact mem_at 3 rfl | exact mem_at 4 rfl | exact mem_at 5 rfl | exact mem_at 6 rfl | exact mem_at 7 rfl | exact mem_at 8 rfl | exact mem_at 9 rfl | exact mem_at 10 rfl | exact mem_at 11 rfl | exact mem_at 12 rfl | exact mem_at 13 rfl | exact mem_at 14 rfl | exact mem_at 15 rfl | exact mem_at 16 rfl | exact mem_at 17 rfl | exact mem_at 18 rfl | exact mem_at 19 rfl | exact mem_at 20 rfl | exact mem_at 21 rfl)) evl_nil)) (((I.into _).reb up).at (a := 171) rfl) rfl (PLt ▸ sp_turned ((I.into _).reb up) (Bm0.mono rfl up) hfu6 (ns := nms) (fl := fl) (by first | decide | assumption | with_reducible exact Int.natCast_nonneg _ | with_reducible exact Nat.le_trans (by assumption) (by decide) | with_reducible exact Nat.lt_of_lt_of_le (by assumption) (by decide) | with_reducible exact lt_mil (Nat.lt_of_lt_of_le (by assumption) (by decide)) | with_reducible exact lt_mil (Nat.lt_of_le_of_lt (by assumption) (by decide)) | with_reducible exact Nat.le_trans (Nat.le_of_lt (by assumption)) (by decide) | (first | lia | omega)) hNs hsz4) (by first | exact Or.inl rfl | exact Or.inr ⟨rfl, rfl, rfl⟩) (Pk.g (by repeat (first | exact Pk.nil | refine Pk.here ?_ | refine Pk.cons (by first | exact mem_at 0 rfl | exact mem_at 1 rfl | exact mem_at 2 rfl | exact mem_at 3 rfl | exact mem_at 4 rfl | exact mem_at 5 rfl | exact mem_at 6 rfl | exact mem_at 7 rfl | exact mem_at 8 rfl | exact mem_at 9 rfl | exact mem_at 10 rfl | exact mem_at 11 rfl | exact mem_at 12 rfl | exact mem_at 13 rfl | exact mem_at 14 rfl | exact mem_at 15 rfl | exact mem_at 16 rfl | exact mem_at 17 rfl | exact mem_at 18 rfl | exact mem_at 19 rfl | exact mem_at 20 rfl | exact mem_at 21 rfl) rfl ?_)))) ?_
    obtain ⟨mx, hmx, hle⟩ := most_of ((List.range tn.length).map fun k => ((stepAt tn k : Nat) : Int)) (fun q => by
      have := congrArg List.length q
      rw [List.length_map, List.length_range] at this
      exact PLn (List.eq_nil_of_length_eq_zero this))
    have hmx1 : mx ≤ 1 := by
      obtain ⟨k, hk, rfl⟩ := List.mem_map.mp hmx
      have := PLs k (List.mem_range.mp hk)
      (first | lia | omega)
    refine exj_cons (exj_of (ex_if_false (et_eq (et_cmp (ev_call_bi (ev_builtin rfl (((I.into _).reb up).gl rfl) rfl) (evl_cons (ev_lst (ev_def (ev_glob rfl (((I.into _).reb up).gl rfl)) (evl_cons (ev_var (b := .dat (.list (tn.map sD))) (by first | exact mem_at 0 rfl | exact mem_at 1 rfl | exact mem_at 2 rfl | exact mem_at 3 rfl | exact mem_at 4 rfl | exact mem_at 5 rfl | exact mem_at 6 rfl | exact mem_at 7 rfl | exact mem_at 8 rfl | exact mem_at 9 rfl | exact mem_at 10 rfl | exact mem_at 11 rfl | exact mem_at 12 rfl | exact mem_at 13 rfl | exact mem_at 14 rfl | exact mem_at 15 rfl | exact mem_at 16 rfl | exact mem_at 17 rfl | exact mem_at 18 rfl | exact mem_at 19 rfl | exact mem_at 20 rfl | exact mem_at 21 rfl)) evl_nil) evkw_nil (((I.into _).reb up).at (a := 181) rfl) rfl (sp_steps ((I.into _).reb up) hfu (by first | decide | assumption | with_reducible exact Int.natCast_nonneg _ | with_reducible exact Nat.le_trans (by assumption) (by decide) | with_reducible exact Nat.lt_of_lt_of_le (by assumption) (by decide) | with_reducible exact lt_mil (Nat.lt_of_lt_of_le (by assumption) (by decide)) | with_reducible exact lt_mil (Nat.lt_of_le_of_lt (by assumption) (by decide)) | with_reducible exact Nat.le_trans (Nat.le_of_lt (by assumption)) (by decide) | (first | lia | omega)) (fun n hn => by have := hNs n (hTs hn); (first | lia | omega))))) evl_nil) (callOk_max hmx hle)) ev_int cmpR_gt_int) (decide_eq_false (by first | decide | assumption | with_reducible exact Int.natCast_nonneg _ | with_reducible exact Nat.le_trans (by assumption) (by decide) | with_reducible exact Nat.lt_of_lt_of_le (by assumption) (by decide) | with_reducible exact lt_mil (Nat.lt_of_lt_of_le (by assumption) (by decide)) | with_reducible exact lt_mil (Nat.lt_of_le_of_lt (by assumption) (by decide)) | with_reducible exact Nat.le_trans (Nat.le_of_lt (by assumption)) (by decide) | (first | lia | omega)))) ex_nil)) ?_
    refine exj_of (ex_one (ex_return (ev_cmp (ev_var (b := .dat (.list (tn.map sD))) (by first | exact mem_at 0 rfl | exact mem_at 1 rfl | exact mem_at 2 rfl | exact mem_at 3 rfl | exact mem_at 4 rfl | exact mem_at 5 rfl | exact mem_at 6 rfl | exact mem_at 7 rfl | exact mem_at 8 rfl | exact mem_at 9 rfl | exact mem_at 10 rfl | exact mem_at 11 rfl | exact mem_at 12 rfl | exact mem_at 13 rfl | exact mem_at 14 rfl | exact mem_at 15 rfl | exact mem_at 16 rfl | exact mem_at 17 rfl | exact mem_at 18 rfl | exact mem_at 19 rfl | exact mem_at 20 rfl | exact mem_at 21 rfl)) (ev_acomp [(Str.ofString "baskets", L + 4)] [(Str.ofString "baskets", .dat (.list (nms.map sD)))] (strP fun n => decide (n ∈ nms)) (strF sD) (tn.map sD) (items := (gray true R.length R.length).map sD) (evi_list (ev_def (ev_glob rfl (((I.into _).reb up).gl rfl)) (evl_cons (ev_eq (ev_call_bi (ev_builtin rfl (((I.into _).reb up).gl rfl) rfl) (evl_cons (ev_lst (ev_var (b := .dat (.list (R.map (gD sz)))) (by first | exact mem_at 0 rfl | exact mem_at 1 rfl | exact mem_at 2 rfl | exact mem_at 3 rfl | exact mem_at 4 rfl | exact mem_at 5 rfl | exact mem_at 6 rfl | exact mem_at 7 rfl | exact mem_at 8 rfl | exact mem_at 9 rfl | exact mem_at 10 rfl | exact mem_at 11 rfl | exact mem_at 12 rfl | exact mem_at 13 rfl | exact mem_at 14 rfl | exact mem_at 15 rfl | exact mem_at 16 rfl | exact mem_at 17 rfl | exact mem_at 18 rfl | exact mem_at 19 rfl | exact mem_at 20 rfl | exact mem_at 21 rfl))) evl_nil) (callOk_len_list (by rw [List.length_map]; (first | lia | omega)))) (by rw [List.length_map])) (evl_cons ev_bool evl_nil)) evkw_nil (((I.into _).reb up).at (a := 176) rfl) rfl (sp_mirror ((I.into _).reb up) hfu (b := true) hR5))) (by rw [List.length_map]; have := hGl true; (first | lia | omega)) (by rw [filter_in, htn]) ?_ (by intro q hq; repeat (first | (rcases List.mem_cons.mp hq with rfl | hq; exact ⟨(by first | exact mem_at 0 rfl | exact mem_at 1 rfl | exact mem_at 2 rfl | exact mem_at 3 rfl | exact mem_at 4 rfl | exact mem_at 5 rfl | exact mem_at 6 rfl | exact mem_at 7 rfl | exact mem_at 8 rfl | exact mem_at 9 rfl | exact mem_at 10 rfl | exact mem_at 11 rfl | exact mem_at 12 rfl | exact mem_at 13 rfl | exact mem_at 14 rfl | exact mem_at 15 rfl | exact mem_at 16 rfl | exact mem_at 17 rfl | exact mem_at 18 rfl | exact mem_at 19 rfl | exact mem_at 20 rfl | exact mem_at 21 rfl), show (some NameKind.cell : Option NameKind) ≠ some .local by decide, by first | exact Or.inl rfl | exact Or.inr ⟨rfl, rfl⟩, rfl⟩) | cases hq)) rfl (lookup_sub (by intro p hp; repeat (first | (rcases List.mem_cons.mp hp with rfl | hp; exact rfl) | cases hp)))) (cmpR_eq_pl (n := 1) (m := 1) (pl_ss fun n hn => hNc n (hTs hn)) (pl_ss fun n hn => hNc n (hTs hn)) (by simp)))))
    intro L' d hd
    obtain ⟨n, hn, rfl⟩ := List.mem_map.mp hd
    obtain ⟨hn5, hnc⟩ := hGc true n hn
    exact ⟨[(Str.ofString "name", .dat (sD n)), (Str.ofString "baskets", .dat (.list (nms.map sD)))], asg_name (by first | exact Or.inl rfl | exact Or.inr ⟨rfl, rfl, rfl⟩) (by intro y ds e; first | (cases e; done) | (cases e; decide)) (Pk.g (by repeat (first | exact Pk.nil | refine Pk.here ?_ | refine Pk.cons (by first | exact mem_at 0 rfl | exact mem_at 1 rfl | exact mem_at 2 rfl | exact mem_at 3 rfl | exact mem_at 4 rfl | exact mem_at 5 rfl | exact mem_at 6 rfl | exact mem_at 7 rfl | exact mem_at 8 rfl | exact mem_at 9 rfl | exact mem_at 10 rfl | exact mem_at 11 rfl | exact mem_at 12 rfl | exact mem_at 13 rfl | exact mem_at 14 rfl | exact mem_at 15 rfl | exact mem_at 16 rfl | exact mem_at 17 rfl | exact mem_at 18 rfl | exact mem_at 19 rfl | exact mem_at 20 rfl | exact mem_at 21 rfl) rfl ?_))), evts_one (et_eq (et_cmp (ev_var (b := .dat (sD n)) (by first | exact mem_at 0 rfl | exact mem_at 1 rfl | exact mem_at 2 rfl | exact mem_at 3 rfl | exact mem_at 4 rfl | exact mem_at 5 rfl | exact mem_at 6 rfl | exact mem_at 7 rfl | exact mem_at 8 rfl | exact mem_at 9 rfl | exact mem_at 10 rfl | exact mem_at 11 rfl | exact mem_at 12 rfl | exact mem_at 13 rfl | exact mem_at 14 rfl | exact mem_at 15 rfl | exact mem_at 16 rfl | exact mem_at 17 rfl | exact mem_at 18 rfl | exact mem_at 19 rfl | exact mem_at 20 rfl | exact mem_at 21 rfl)) (ev_var (b := .dat (.list (nms.map sD))) (by first | exact mem_at 0 rfl | exact mem_at 1 rfl | exact mem_at 2 rfl | exact mem_at 3 rfl | exact mem_at 4 rfl | exact mem_at 5 rfl | exact mem_at 6 rfl | exact mem_at 7 rfl | exact mem_at 8 rfl | exact mem_at 9 rfl | exact mem_at 10 rfl | exact mem_at 11 rfl | exact mem_at 12 rfl | exact mem_at 13 rfl | exact mem_at 14 rfl | exact mem_at 15 rfl | exact mem_at 16 rfl | exact mem_at 17 rfl | exact mem_at 18 rfl | exact mem_at 19 rfl | exact mem_at 20 rfl | exact mem_at 21 rfl)) (cmpR_in_names hNc hnc)) rfl), fun hin => ev_var (by first | exact mem_at 0 rfl | exact mem_at 1 rfl | exact mem_at 2 rfl | exact mem_at 3 rfl | exact mem_at 4 rfl | exact mem_at 5 rfl | exact mem_at 6 rfl | exact mem_at 7 rfl | exact mem_at 8 rfl | exact mem_at 9 rfl | exact mem_at 10 rfl | exact mem_at 11 rfl | exact mem_at 12 rfl | exact mem_at 13 rfl | exact mem_at 14 rfl | exact mem_at 15 rfl | exact mem_at 16 rfl | exact mem_at 17 rfl | exact mem_at 18 rfl | exact mem_at 19 rfl | exact mem_at 20 rfl | exact mem_at 21 rfl)⟩
  · subst e
    obtain ⟨⟨h', tk, rfl⟩, kp, J'⟩ := k
    cases q
    refine ⟨.inl ⟨_, .bool true, [], rfl, raisesW_false ?_, .bool true, ?_, unshared_nil⟩, ⟨fun b o e => ?_, fun b o e => ?_⟩, rfl, .of_eq hg⟩
    · wrow_none_raised
    · wrow_post
    · by_cases hb : TOf tabs1 b
      · have e0 := tab0 b hb
        rw [e] at e0
        have e0 := Option.some.inj e0
        subst e0
        obtain ⟨ps, hP⟩ := J'.at hb
        obtain ⟨q, hq, rfl⟩ := List.mem_map.mp ((tof b).mp hb)
        exact .inr (.inl ⟨((hT9 q hq).1.tab (hT9 q hq).2).isCodeTable, rfl, #[], ps, rfl, by rw [Array.empty_append]; exact hP⟩)
      · exact .inl (kp b o hb e)
    · by_cases hb : TOf tabs1 b
      · obtain ⟨ps, hP⟩ := J'.at hb
        exact ⟨_, hP⟩
      · exact ⟨o, kp b o hb e⟩)

theorem PySem.Challenge.cw_il0215_01_holds : PySem.Challenge.rw_il0215_01.Holds := by
  exact Mine.ent1
