import PyProof.Rows.All
import Wide.All
import OpenK.AllK
import Wide.FinOn
import PySem.Challenge.RW_ph0010_01
set_option Elab.async false

/-! F1 -/
section
open PySem PySem.W PyProof.Rows
set_option Elab.async false
namespace Mine

def PTup (h : Heap) (a : Addr) (items : Array Value) : Prop := ∃ n, h.get? a = some { cls := .type "tuple", data := .seq items n }
theorem PTup.isTuple {h : Heap} {a : Addr} {items : Array Value} (x : PTup h a items) : h.IsTuple a items := let ⟨n, e⟩ := x; ⟨_, e, rfl, n, rfl⟩

mutual
inductive Rep (pr : Addr → Prop) (h : Heap) : Value → PyData → Prop
  | none : Rep pr h .none .none
  | bool (b : Bool) : Rep pr h (.bool b) (.bool b)
  | int (i : Int) (t : Tok) : Rep pr h (.int i t) (.int i)
  | str (x : Str) (t : Tok) : Rep pr h (.str x t) (.str x)
  | list {a : Addr} {vs : List Value} {ds : List PyData} : ¬ pr a → h.PlainList a vs.toArray → RepAll pr h vs ds → Rep pr h (.ref a) (.list ds)
  | tuple {a : Addr} {vs : List Value} {ds : List PyData} : PTup h a vs.toArray → RepAll pr h vs ds → Rep pr h (.ref a) (.tuple ds)
inductive RepAll (pr : Addr → Prop) (h : Heap) : List Value → List PyData → Prop
  | nil : RepAll pr h [] []
  | cons {v : Value} {vs : List Value} {d : PyData} {ds : List PyData} : Rep pr h v d → RepAll pr h vs ds → RepAll pr h (v :: vs) (d :: ds)
end

/-- what keeps a reading: lists that are not protected, tuples -/
structure Pres (pr pr' : Addr → Prop) (h h' : Heap) : Prop where
  list : ∀ a vs, ¬ pr a → h.PlainList a vs → h'.PlainList a vs
  tup : ∀ a vs, PTup h a vs → PTup h' a vs
  pr : ∀ a vs, ¬ pr a → h.PlainList a vs → ¬ pr' a

mutual
theorem Rep.mono {pr pr' : Addr → Prop} {h h' : Heap} (k : Pres pr pr' h h') : ∀ {v : Value} {d : PyData}, Rep pr h v d → Rep pr' h' v d
  | _, _, .none => .none
  | _, _, .bool b => .bool b
  | _, _, .int i t => .int i t
  | _, _, .str x t => .str x t
  | _, _, .list hp hl r => .list (k.pr _ _ hp hl) (k.list _ _ hp hl) (RepAll.mono k r)
  | _, _, .tuple hl r => .tuple (k.tup _ _ hl) (RepAll.mono k r)
theorem RepAll.mono {pr pr' : Addr → Prop} {h h' : Heap} (k : Pres pr pr' h h') : ∀ {vs : List Value} {ds : List PyData}, RepAll pr h vs ds → RepAll pr' h' vs ds
  | _, _, .nil => .nil
  | _, _, .cons a r => .cons (Rep.mono k a) (RepAll.mono k r)
end

theorem Pres.keeps {pr : Addr → Prop} {h h' : Heap} (k : ∀ b o, h.get? b = some o → h'.get? b = some o) : Pres pr pr h h' :=
  ⟨fun _ _ _ ⟨n, e⟩ => ⟨n, k _ _ e⟩, fun _ _ ⟨n, e⟩ => ⟨n, k _ _ e⟩, fun _ _ hp _ => hp⟩
theorem Rep.keeps {pr : Addr → Prop} {h h' : Heap} {v : Value} {d : PyData} (r : Rep pr h v d) (k : ∀ b o, h.get? b = some o → h'.get? b = some o) : Rep pr h' v d := r.mono (.keeps k)
theorem RepAll.keeps {pr : Addr → Prop} {h h' : Heap} {v : List Value} {d : List PyData} (r : RepAll pr h v d) (k : ∀ b o, h.get? b = some o → h'.get? b = some o) : RepAll pr h' v d := r.mono (.keeps k)

theorem RepAll.length {pr : Addr → Prop} {h : Heap} : ∀ {vs : List Value} {ds : List PyData}, RepAll pr h vs ds → vs.length = ds.length
  | _, _, .nil => rfl
  | _, _, .cons _ r => by simp [RepAll.length r]
theorem RepAll.get {pr : Addr → Prop} {h : Heap} : ∀ {vs : List Value} {ds : List PyData} {i : Nat} {d : PyData}, RepAll pr h vs ds → ds[i]? = some d → ∃ v, vs[i]? = some v ∧ Rep pr h v d
  | _, _, _, _, .nil, e => by simp at e
  | _, _, 0, _, .cons a _, e => by simp at e; subst e; exact ⟨_, rfl, a⟩
  | _, _, i + 1, _, .cons _ r, e => by
    obtain ⟨v, h1, h2⟩ := RepAll.get (i := i) r (by simpa using e)
    exact ⟨v, by simpa using h1, h2⟩
theorem RepAll.get' {pr : Addr → Prop} {h : Heap} : ∀ {vs : List Value} {ds : List PyData} {i : Nat} {v : Value}, RepAll pr h vs ds → vs[i]? = some v → ∃ d, ds[i]? = some d ∧ Rep pr h v d
  | _, _, _, _, .nil, e => by simp at e
  | _, _, 0, _, .cons a _, e => by simp at e; subst e; exact ⟨_, rfl, a⟩
  | _, _, i + 1, _, .cons _ r, e => by
    obtain ⟨v, h1, h2⟩ := RepAll.get' (i := i) r (by simpa using e)
    exact ⟨v, by simpa using h1, h2⟩
theorem RepAll.append {pr : Addr → Prop} {h : Heap} : ∀ {vs us : List Value} {ds es : List PyData}, RepAll pr h vs ds → RepAll pr h us es → RepAll pr h (vs ++ us) (ds ++ es)
  | _, _, _, _, .nil, b => b
  | _, _, _, _, .cons a r, b => .cons a (RepAll.append r b)
theorem RepAll.drop {pr : Addr → Prop} {h : Heap} : ∀ (n : Nat) {vs : List Value} {ds : List PyData}, RepAll pr h vs ds → RepAll pr h (vs.drop n) (ds.drop n)
  | 0, _, _, r => r
  | _ + 1, _, _, .nil => .nil
  | n + 1, _, _, .cons _ r => RepAll.drop n r
theorem RepAll.take {pr : Addr → Prop} {h : Heap} : ∀ (n : Nat) {vs : List Value} {ds : List PyData}, RepAll pr h vs ds → RepAll pr h (vs.take n) (ds.take n)
  | 0, _, _, _ => .nil
  | _ + 1, _, _, .nil => .nil
  | n + 1, _, _, .cons a r => .cons a (RepAll.take n r)
theorem RepAll.snoc {pr : Addr → Prop} {h : Heap} {vs : List Value} {ds : List PyData} {v : Value} {d : PyData} (r : RepAll pr h vs ds) (a : Rep pr h v d) : RepAll pr h (vs ++ [v]) (ds ++ [d]) := r.append (.cons a .nil)

theorem Rep.int_inv {pr : Addr → Prop} {h : Heap} {v : Value} {i : Int} (r : Rep pr h v (.int i)) : ∃ t, v = .int i t := by cases r; exact ⟨_, rfl⟩
theorem Rep.str_inv {pr : Addr → Prop} {h : Heap} {v : Value} {x : Str} (r : Rep pr h v (.str x)) : ∃ t, v = .str x t := by cases r; exact ⟨_, rfl⟩
theorem Rep.bool_inv {pr : Addr → Prop} {h : Heap} {v : Value} {b : Bool} (r : Rep pr h v (.bool b)) : v = .bool b := by cases r; rfl
theorem Rep.list_inv {pr : Addr → Prop} {h : Heap} {v : Value} {ds : List PyData} (r : Rep pr h v (.list ds)) : ∃ a vs, v = .ref a ∧ ¬ pr a ∧ h.PlainList a vs.toArray ∧ RepAll pr h vs ds := by
  cases r with | list h1 h2 h3 => exact ⟨_, _, rfl, h1, h2, h3⟩
theorem Rep.tuple_inv {pr : Addr → Prop} {h : Heap} {v : Value} {ds : List PyData} (r : Rep pr h v (.tuple ds)) : ∃ a vs, v = .ref a ∧ PTup h a vs.toArray ∧ RepAll pr h vs ds := by
  cases r with | tuple h2 h3 => exact ⟨_, _, rfl, h2, h3⟩

theorem keeps_refl (s : Shared) : Keeps s s := ⟨s.heap, s.toks, rfl, fun _ _ e => e⟩
theorem keeps_trans {a b c : Shared} (x : Keeps a b) (y : Keeps b c) : Keeps a c := by
  obtain ⟨h1, t1, rfl, k1⟩ := x
  obtain ⟨h2, t2, rfl, k2⟩ := y
  exact ⟨h2, t2, rfl, fun b o e => k2 b o (k1 b o e)⟩
theorem keeps_heap {a b : Shared} (x : Keeps a b) : ∀ c o, a.heap.get? c = some o → b.heap.get? c = some o := by
  obtain ⟨h1, t1, rfl, k1⟩ := x
  exact k1
theorem keeps_of {s : Shared} {h' : Heap} {tk : Nat} (k : ∀ b o, s.heap.get? b = some o → h'.get? b = some o) : Keeps s { s with heap := h', toks := tk } := ⟨h', tk, rfl, k⟩
theorem keeps_tok {s : Shared} {tk : Nat} : Keeps s { s with toks := tk } := ⟨s.heap, tk, rfl, fun _ _ e => e⟩
theorem keeps_push {s : Shared} {o : Obj} : Keeps s { s with heap := s.heap.push o } := ⟨_, s.toks, rfl, fun _ _ e => Heap.get?_push_of_some _ e⟩

/-- the room around -/
structure Room (n : Nat) (A : Around) : Prop where
  handled : A.handled = none
  depth : A.depth + n < recursionLimit
  units : A.units + 4 * n + 100 < cLine
theorem Room.le {n m : Nat} {A : Around} (r : Room n A) (h : m ≤ n) : Room m A := ⟨r.handled, by have := r.depth; omega, by have := r.units; omega⟩

/-- the state: the base's objects stand; the protected addresses are live -/
structure Ok (sT : Shared) (pr : Addr → Prop) (s : Shared) : Prop where
  base : Keeps sT s
  live : ∀ a, pr a → ∃ o, s.heap.get? a = some o
theorem Ok.keeps {sT : Shared} {pr : Addr → Prop} {s s' : Shared} (x : Ok sT pr s) (k : Keeps s s') : Ok sT pr s' :=
  ⟨keeps_trans x.base k, fun a ha => let ⟨o, e⟩ := x.live a ha; ⟨o, keeps_heap k _ _ e⟩⟩
theorem Ok.new {sT : Shared} {pr : Addr → Prop} {s : Shared} (x : Ok sT pr s) : ¬ pr s.heap.objs.size := fun h => by
  obtain ⟨o, e⟩ := x.live _ h
  exact Nat.lt_irrefl _ (Heap.lt_size e)

variable {prog : Program} {w : World} {sT : Shared}

/-- e evaluates to d, from every state that keeps s -/
structure Ev (prog : Program) (w : World) (sT : Shared) (n : Nat) (pr : Addr → Prop) (s : Shared) (env : Env) (e : Expr) (d : PyData) : Prop where
  run : ∀ s₁, Keeps s s₁ → ∀ (A : Around) (Q : Value → Shared → Prop) (E : Value → Shared → Prop), Room n A → Ok sT pr s₁ →
    (∀ v s', Keeps s₁ s' → Rep pr s'.heap v d → Q v s') → wpAny (model prog w) A (eval e env) Q E s₁

/-- a test -/
structure Ts (prog : Program) (w : World) (sT : Shared) (n : Nat) (pr : Addr → Prop) (s : Shared) (env : Env) (e : Expr) (b : Bool) : Prop where
  run : ∀ s₁, Keeps s s₁ → ∀ (A : Around) (Q : Bool → Shared → Prop) (E : Value → Shared → Prop), Room n A → Ok sT pr s₁ →
    (∀ s', Keeps s₁ s' → Q b s') → wpAny (model prog w) A (isTrue e env (eval e env)) Q E s₁

/-- a name of the frame's bound to v -/
inductive Binds (h : Heap) (env : Env) (x : Str) (v : Value) : Prop
  | loc (m : Str → Option Value) : env.scope.kind = .function → env.kindOf x = some .local → h.Ns env.locals m → m x = some v → Binds h env x v
  | cel (c : Addr) : env.scope.kind = .function → (env.kindOf x = some .cell ∨ env.kindOf x = some .free) → (x == ("__classdict__" : Str)) = false → env.cells.lookup x = some c → h.IsCell c (some v) → Binds h env x v
theorem Binds.keeps {h h' : Heap} {env : Env} {x : Str} {v : Value} (b : Binds h env x v) (k : ∀ b o, h.get? b = some o → h'.get? b = some o) : Binds h' env x v := by
  cases b with
  | loc m a b c d => exact .loc m a b (c.keeps k) d
  | cel c a b hh d e => exact .cel c a b hh d (e.keeps k)
theorem Binds.load {env : Env} {x : Str} {v : Value} {s : Shared} {M : Model} {A : Around} {Q : Value → Shared → Prop} {E : Value → Shared → Prop} (b : Binds s.heap env x v) (h : Q v s) : wpAny M A (loadName env x) Q E s := by
  cases b with
  | loc m a b c d => exact wpAny_loadName_local a b c d h
  | cel c a b hh d e =>
    rcases b with b | b
    · exact wpAny_loadName_cell a b d e h
    · exact wpAny_loadName_free a b d e h hh

def Var (pr : Addr → Prop) (s : Shared) (env : Env) (x : Str) (d : PyData) : Prop := ∃ v, Binds s.heap env x v ∧ Rep pr s.heap v d
theorem Var.keeps {pr : Addr → Prop} {s s' : Shared} {env : Env} {x : Str} {d : PyData} (b : Var pr s env x d) (k : Keeps s s') : Var pr s' env x d :=
  let ⟨v, h1, h2⟩ := b; ⟨v, h1.keeps (keeps_heap k), h2.keeps (keeps_heap k)⟩

variable {n : Nat} {pr : Addr → Prop} {s : Shared} {env : Env}

theorem Ev.keeps {e : Expr} {d : PyData} {s' : Shared} (h : Ev prog w sT n pr s env e d) (k : Keeps s s') : Ev prog w sT n pr s' env e d :=
  ⟨fun s₁ k₁ => h.run s₁ (keeps_trans k k₁)⟩
theorem Ev.cast {e : Expr} {d d' : PyData} (h : Ev prog w sT n pr s env e d) (x : d = d') : Ev prog w sT n pr s env e d' := x ▸ h
theorem Ts.cast {e : Expr} {d d' : Bool} (h : Ts prog w sT n pr s env e d) (x : d = d') : Ts prog w sT n pr s env e d' := x ▸ h
theorem Ev.le {e : Expr} {d : PyData} {m : Nat} (h : Ev prog w sT n pr s env e d) (k : n ≤ m) : Ev prog w sT m pr s env e d :=
  ⟨fun s₁ k₁ A Q E r => h.run s₁ k₁ A Q E (r.le k)⟩

theorem ev_name {x : Str} {pos : Pos} {d : PyData} (h : Var pr s env x d) (hd : (x == ("__debug__" : Str)) = false := by decide) : Ev prog w sT n pr s env (.Name x pos) d := by
  refine ⟨fun s₁ k A Q E _ _ hq => ?_⟩
  obtain ⟨v, h1, h2⟩ := h.keeps k
  exact wpAny_Name (h1.load (hq v s₁ (keeps_refl _) h2)) hd
theorem ev_int {i : Int} {k : Nat} {pos : Pos} : Ev prog w sT n pr s env (.Constant (.int i) k pos) (.int i) := by
  refine ⟨fun s₁ _ A Q E _ _ hq => ?_⟩
  exact wpAny_Constant_int (hq _ _ keeps_tok (.int ..))
theorem ev_str {x : Str} {k : Nat} {pos : Pos} : Ev prog w sT n pr s env (.Constant (.str x) k pos) (.str x) := by
  refine ⟨fun s₁ _ A Q E _ _ hq => ?_⟩
  exact wpAny_Constant_str (hq _ _ keeps_tok (.str ..))
theorem ev_bool {b : Bool} {k : Nat} {pos : Pos} : Ev prog w sT n pr s env (.Constant (.bool b) k pos) (.bool b) := by
  refine ⟨fun s₁ _ A Q E _ _ hq => ?_⟩
  exact wpAny_Constant_bool (hq _ _ (keeps_refl _) (.bool ..))

/-- a binary operation on data -/
structure Op2 (prog : Program) (w : World) (sT : Shared) (n : Nat) (pr : Addr → Prop) (op : Value → Value → Sem Value) (a b d : PyData) : Prop where
  run : ∀ (s₁ : Shared) (A : Around) (Q : Value → Shared → Prop) (E : Value → Shared → Prop) (v u : Value), Room n A → Ok sT pr s₁ → Rep pr s₁.heap v a → Rep pr s₁.heap u b →
    (∀ r s', Keeps s₁ s' → Rep pr s'.heap r d → Q r s') → wpAny (model prog w) A (op v u) Q E s₁

theorem ev_bin {l r : Expr} {op : Operator} {pos : Pos} {a b d : PyData} (hl : Ev prog w sT n pr s env l a) (hr : Ev prog w sT n pr s env r b) (ho : Op2 prog w sT n pr (binaryOp op) a b d) :
    Ev prog w sT n pr s env (.BinOp l op r pos) d := by
  refine ⟨fun s₁ k₁ A Q E rm ok hq => ?_⟩
  refine wpAny_BinOp (hl.run s₁ k₁ A _ E rm ok fun v s₂ k₂ r₂ => hr.run s₂ (keeps_trans k₁ k₂) A _ E rm (ok.keeps k₂) fun u s₃ k₃ r₃ => ?_)
  exact ho.run s₃ A Q E v u rm (ok.keeps (keeps_trans k₂ k₃)) (r₂.keeps (keeps_heap k₃)) r₃ fun x s₄ k₄ r₄ => hq x s₄ (keeps_trans k₂ (keeps_trans k₃ k₄)) r₄
theorem ev_cmp {l r : Expr} {op : CmpOp} {pos : Pos} {a b d : PyData} (hl : Ev prog w sT n pr s env l a) (hr : Ev prog w sT n pr s env r b) (ho : Op2 prog w sT n pr (compareOp op) a b d) (hm : behindInMarks op r = false := by with_unfolding_all rfl) :
    Ev prog w sT n pr s env (.Compare l [op] [r] pos) d := by
  refine ⟨fun s₁ k₁ A Q E rm ok hq => ?_⟩
  refine wpAny_Compare1 (hl.run s₁ k₁ A _ E rm ok fun v s₂ k₂ r₂ => hr.run s₂ (keeps_trans k₁ k₂) A _ E rm (ok.keeps k₂) fun u s₃ k₃ r₃ => ?_) hm
  exact ho.run s₃ A Q E v u rm (ok.keeps (keeps_trans k₂ k₃)) (r₂.keeps (keeps_heap k₃)) r₃ fun x s₄ k₄ r₄ => hq x s₄ (keeps_trans k₂ (keeps_trans k₃ k₄)) r₄
theorem ts_cmp {l r : Expr} {op : CmpOp} {pos : Pos} {a b : PyData} {d : Bool} (hl : Ev prog w sT n pr s env l a) (hr : Ev prog w sT n pr s env r b) (ho : Op2 prog w sT n pr (compareOp op) a b (.bool d)) (hm : behindInMarks op r = false := by with_unfolding_all rfl) :
    Ts prog w sT n pr s env (.Compare l [op] [r] pos) d := by
  refine ⟨fun s₁ k₁ A Q E rm ok hq => ?_⟩
  refine wpAny_isTrue_Compare1 (hl.run s₁ k₁ A _ E rm ok fun v s₂ k₂ r₂ => hr.run s₂ (keeps_trans k₁ k₂) A _ E rm (ok.keeps k₂) fun u s₃ k₃ r₃ => ?_) hm
  refine ho.run s₃ A _ E v u rm (ok.keeps (keeps_trans k₂ k₃)) (r₂.keeps (keeps_heap k₃)) r₃ fun x s₄ k₄ r₄ => ?_
  obtain rfl := r₄.bool_inv
  exact wpAny_truthy_bool (hq s₄ (keeps_trans k₂ (keeps_trans k₃ k₄)))

theorem op_add_int {a b : Int} : Op2 prog w sT n pr (binaryOp .Add) (.int a) (.int b) (.int (a + b)) := by
  refine ⟨fun s A Q E v u rm ok rv ru hq => ?_⟩
  obtain ⟨t, rfl⟩ := rv.int_inv
  obtain ⟨t', rfl⟩ := ru.int_inv
  exact PyProof.Rows.add_int (hq _ _ keeps_tok (.int ..))
theorem op_sub_int {a b : Int} : Op2 prog w sT n pr (binaryOp .Sub) (.int a) (.int b) (.int (a - b)) := by
  refine ⟨fun s A Q E v u rm ok rv ru hq => ?_⟩
  obtain ⟨t, rfl⟩ := rv.int_inv
  obtain ⟨t', rfl⟩ := ru.int_inv
  exact PyProof.Rows.sub_int (hq _ _ keeps_tok (.int ..))
theorem op_mod_int {a b : Int} (hb : b ≠ 0) : Op2 prog w sT n pr (binaryOp .Mod) (.int a) (.int b) (.int (a.fmod b)) := by
  refine ⟨fun s A Q E v u rm ok rv ru hq => ?_⟩
  obtain ⟨t, rfl⟩ := rv.int_inv
  obtain ⟨t', rfl⟩ := ru.int_inv
  exact PyProof.Rows.mod_int hb (hq _ _ keeps_tok (.int ..))
theorem op_pow_int {a b : Int} (hn : 0 ≤ b) (hn2 : b ≤ 1000000) (ha : a.natAbs < 2 ^ 64) : Op2 prog w sT n pr (binaryOp .Pow) (.int a) (.int b) (.int (a ^ b.toNat)) := by
  refine ⟨fun s A Q E v u rm ok rv ru hq => ?_⟩
  obtain ⟨t, rfl⟩ := rv.int_inv
  obtain ⟨t', rfl⟩ := ru.int_inv
  exact pow_int_small hn hn2 ha (hq _ _ keeps_tok (.int ..))
theorem op_lsh_int {a b : Int} (hn : 0 ≤ b) (hn2 : b ≤ 1000000) (ha : a.natAbs < 2 ^ 64) : Op2 prog w sT n pr (binaryOp .LShift) (.int a) (.int b) (.int (a * 2 ^ b.toNat)) := by
  refine ⟨fun s A Q E v u rm ok rv ru hq => ?_⟩
  obtain ⟨t, rfl⟩ := rv.int_inv
  obtain ⟨t', rfl⟩ := ru.int_inv
  exact lshift_int_small hn hn2 ha (hq _ _ keeps_tok (.int ..))
theorem op_and_int {a b : Int} : Op2 prog w sT n pr (binaryOp .BitAnd) (.int a) (.int b) (.int (Builtin.bitAnd a b)) := by
  refine ⟨fun s A Q E v u rm ok rv ru hq => ?_⟩
  obtain ⟨t, rfl⟩ := rv.int_inv
  obtain ⟨t', rfl⟩ := ru.int_inv
  exact and_int (hq _ _ keeps_tok (.int ..))
theorem op_ixor_int {a b : Int} : Op2 prog w sT n pr (inplaceOp .BitXor) (.int a) (.int b) (.int (Builtin.bitXor a b)) := by
  refine ⟨fun s A Q E v u rm ok rv ru hq => ?_⟩
  obtain ⟨t, rfl⟩ := rv.int_inv
  obtain ⟨t', rfl⟩ := ru.int_inv
  exact ixor_int (hq _ _ keeps_tok (.int ..))
theorem op_div_int {a b : Int} (hb : b ≠ 0) (hp : b.natAbs.log2 < 8000) : Op2 prog w sT n pr (binaryOp .FloorDiv) (.int a) (.int b) (.int (a.fdiv b)) := by
  refine ⟨fun s A Q E v u rm ok rv ru hq => ?_⟩
  obtain ⟨t, rfl⟩ := rv.int_inv
  obtain ⟨t', rfl⟩ := ru.int_inv
  exact floordiv_int hb (hq _ _ keeps_tok (.int ..)) (Or.inl (PyProof.noPylong_of_log2 (by omega)))
theorem op_add_str {a b : Str} (hz : a.length + b.length ≤ sizeLine) : Op2 prog w sT n pr (binaryOp .Add) (.str a) (.str b) (.str (a ++ b)) := by
  refine ⟨fun s A Q E v u rm ok rv ru hq => ?_⟩
  obtain ⟨t, rfl⟩ := rv.str_inv
  obtain ⟨t', rfl⟩ := ru.str_inv
  exact PyProof.Rows.add_str (fun _ _ => hq _ _ keeps_tok (.str ..)) hz
theorem op_eq_int {a b : Int} : Op2 prog w sT n pr (compareOp .Eq) (.int a) (.int b) (.bool (a == b)) := by
  refine ⟨fun s A Q E v u rm ok rv ru hq => ?_⟩
  obtain ⟨t, rfl⟩ := rv.int_inv
  obtain ⟨t', rfl⟩ := ru.int_inv
  exact PyProof.Rows.eq_int (hq _ _ (keeps_refl _) (.bool ..))
theorem op_ne_int {a b : Int} : Op2 prog w sT n pr (compareOp .NotEq) (.int a) (.int b) (.bool (a != b)) := by
  refine ⟨fun s A Q E v u rm ok rv ru hq => ?_⟩
  obtain ⟨t, rfl⟩ := rv.int_inv
  obtain ⟨t', rfl⟩ := ru.int_inv
  exact PyProof.Rows.ne_int (hq _ _ (keeps_refl _) (.bool ..))
theorem op_lt_int {a b : Int} : Op2 prog w sT n pr (compareOp .Lt) (.int a) (.int b) (.bool (decide (a < b))) := by
  refine ⟨fun s A Q E v u rm ok rv ru hq => ?_⟩
  obtain ⟨t, rfl⟩ := rv.int_inv
  obtain ⟨t', rfl⟩ := ru.int_inv
  exact PySem.wpAny_lt_int (hq _ _ (keeps_refl _) (.bool ..))
theorem op_gt_int {a b : Int} : Op2 prog w sT n pr (compareOp .Gt) (.int a) (.int b) (.bool (decide (b < a))) := by
  refine ⟨fun s A Q E v u rm ok rv ru hq => ?_⟩
  obtain ⟨t, rfl⟩ := rv.int_inv
  obtain ⟨t', rfl⟩ := ru.int_inv
  exact PyProof.Rows.gt_int (hq _ _ (keeps_refl _) (.bool ..))
theorem op_ne_str {a b : Str} : Op2 prog w sT n pr (compareOp .NotEq) (.str a) (.str b) (.bool (a != b)) := by
  refine ⟨fun s A Q E v u rm ok rv ru hq => ?_⟩
  obtain ⟨t, rfl⟩ := rv.str_inv
  obtain ⟨t', rfl⟩ := ru.str_inv
  exact PyProof.Rows.ne_str (hq _ _ (keeps_refl _) (.bool ..))
theorem op_eq_str {a b : Str} : Op2 prog w sT n pr (compareOp .Eq) (.str a) (.str b) (.bool (a == b)) := by
  refine ⟨fun s A Q E v u rm ok rv ru hq => ?_⟩
  obtain ⟨t, rfl⟩ := rv.str_inv
  obtain ⟨t', rfl⟩ := ru.str_inv
  exact PyProof.Rows.eq_str (hq _ _ (keeps_refl _) (.bool ..))
end Mine
end

/-! F2 -/
section
open PySem PySem.W PyProof.Rows
set_option Elab.async false
namespace Mine
variable {prog : Program} {w : World} {sT : Shared} {n : Nat} {pr : Addr → Prop} {s : Shared} {env : Env}

/-- arguments, one by one -/
structure EvL (prog : Program) (w : World) (sT : Shared) (n : Nat) (pr : Addr → Prop) (s : Shared) (env : Env) (pos : Pos) (es : List Expr) (ds : List PyData) : Prop where
  run : ∀ s₁, Keeps s s₁ → ∀ (A : Around) (Q : List Value → Shared → Prop) (E : Value → Shared → Prop), Room n A → Ok sT pr s₁ →
    (∀ vs s', Keeps s₁ s' → RepAll pr s'.heap vs ds → Q vs s') → wpAny (model prog w) A (spliced (backTo pos (starEach es env))) Q E s₁
theorem evl_nil {pos : Pos} : EvL prog w sT n pr s env pos [] [] := by
  refine ⟨fun s₁ _ A Q E _ _ hq => ?_⟩
  exact args_nil (hq _ _ (keeps_refl _) .nil)
theorem evl_cons {pos : Pos} {e : Expr} {es : List Expr} {d : PyData} {ds : List PyData} (he : Ev prog w sT n pr s env e d) (hs : EvL prog w sT n pr s env pos es ds)
    (hst : starEach (e :: es) env = (false, eval e env) :: starEach es env := by rfl) : EvL prog w sT n pr s env pos (e :: es) (d :: ds) := by
  refine ⟨fun s₁ k A Q E rm ok hq => ?_⟩
  refine args_cons (he.run s₁ k A _ E rm ok fun v s₂ k₂ r₂ => hs.run s₂ (keeps_trans k k₂) A _ E rm (ok.keeps k₂) fun vs s₃ k₃ r₃ => ?_) hst
  exact hq _ _ (keeps_trans k₂ k₃) (.cons (r₂.keeps (keeps_heap k₃)) r₃)

theorem star_list {prog : Program} {w : World} {pr : Addr → Prop} {s : Shared} {A : Around} {Q : List Value → Shared → Prop} {E : Value → Shared → Prop} {v : Value} {ds : List PyData}
    (r : Rep pr s.heap v (.list ds)) (hz : ds.length ≤ sizeLine) (hq : ∀ vs s', Keeps s s' → RepAll pr s'.heap vs ds → Q vs s') : StarOf (model prog w) A E v Q s := by
  obtain ⟨a, vs, rfl, _, hl, hr⟩ := r.list_inv
  obtain ⟨m, e⟩ := id hl
  unfold StarOf notIterableAtAll
  refine wpAny_bind (wpAny_specialOf hl.isList.typeIs PySem.F.slot_list_iter.lookup (wpAny_pure ⟨rfl, ?_⟩))
  refine wpAny_collect_seq a (.inl rfl) e rfl rfl (fun h' hk => ?_) (by rw [List.size_toArray, hr.length]; exact hz)
  exact hq _ _ ⟨h', s.toks, rfl, hk⟩ (hr.keeps hk)
theorem evl_star {pos p : Pos} {e : Expr} {ds : List PyData} (he : Ev prog w sT n pr s env e (.list ds)) (hz : ds.length ≤ sizeLine)
    (hst : starEach [.Starred e p] env = [(true, eval e env)] := by rfl) : EvL prog w sT n pr s env pos [.Starred e p] ds := by
  refine ⟨fun s₁ k A Q E rm ok hq => ?_⟩
  refine items_star (he.run s₁ k A _ E rm ok fun v s₂ k₂ r₂ => star_list r₂ hz fun vs s₃ k₃ r₃ => ?_) hst
  refine args_nil ?_
  rw [List.append_nil]
  exact hq _ _ (keeps_trans k₂ k₃) r₃

/-- what a callable makes of data -/
structure Fn (prog : Program) (w : World) (sT : Shared) (n : Nat) (f : Value) (ds : List PyData) (d : PyData) : Prop where
  run : ∀ (pr : Addr → Prop) (s : Shared) (A : Around) (Q : Value → Shared → Prop) (E : Value → Shared → Prop) (vs : List Value), Room n A → Ok sT pr s → RepAll pr s.heap vs ds →
    (∀ v s', Keeps s s' → Rep pr s'.heap v d → Q v s') → wpAny (model prog w) A (call f vs) Q E s

/-- the globals -/
structure Gl (mg mb : Str → Option Value) (sT : Shared) : Prop where
  g : sT.heap.Ns mainGlobals mg
  b : sT.heap.Ns builtinsNs mb
  nolimit : sT.heap.NoLimit

/-- an environment of the text -/
structure En (env : Env) : Prop where
  fn : env.scope.kind = .function
  glob : env.globals = mainGlobals
  bui : env.builtins = builtinsNs

theorem load_global {mg mb : Str → Option Value} {x : Str} {pos : Pos} {v : Value} {A : Around} {Q : Value → Shared → Prop} {E : Value → Shared → Prop} (G : Gl mg mb sT) (hE : En env) (hx : env.kindOf x = some .globalImplicit)
    (hv : mg x = some v) (ok : Keeps sT s) (hq : Q v s) (hd : (x == ("__debug__" : Str)) = false := by decide) : wpAny (model prog w) A (eval (.Name x pos) env) Q E s :=
  Calls.Name_function_global hE.fn hx (Calls.loadGlobal_global (env := env) (by rw [hE.glob]; exact G.g.keeps (keeps_heap ok)) hv hq) hd
theorem load_builtin {mg mb : Str → Option Value} {x : Str} {pos : Pos} {v : Value} {A : Around} {Q : Value → Shared → Prop} {E : Value → Shared → Prop} (G : Gl mg mb sT) (hE : En env) (hx : env.kindOf x = some .globalImplicit)
    (hm : mg x = none) (hv : mb x = some v) (ok : Keeps sT s) (hq : Q v s) (hd : (x == ("__debug__" : Str)) = false := by decide) : wpAny (model prog w) A (eval (.Name x pos) env) Q E s :=
  Calls.Name_function_global hE.fn hx (Calls.loadGlobal_builtin (env := env) (by rw [hE.glob]; exact G.g.keeps (keeps_heap ok)) hm (by rw [hE.bui]; exact G.b.keeps (keeps_heap ok)) hv hq) hd

/-- a def of the text, called by name -/
theorem ev_call {mg mb : Str → Option Value} {f : Str} {p pos : Pos} {e : Expr} {es : List Expr} {a : Addr} {o : Obj} {fd : FuncData} {ds : List PyData} {d : PyData}
    (G : Gl mg mb sT) (hE : En env) (hx : env.kindOf f = some .globalImplicit) (hf : mg f = some (.ref a)) (ho : sT.heap.get? a = some o) (hd : o.data = .func fd)
    (hl : EvL prog w sT n pr s env pos (e :: es) ds) (hc : Fn prog w sT n (.ref a) ds d)
    (hdb : (f == ("__debug__" : Str)) = false := by decide)
    (hst : starEach (e :: es) env = (false, eval e env) :: starEach es env := by rfl) : Ev prog w sT n pr s env (.Call (.Name f p) (e :: es) [] pos) d := by
  refine ⟨fun s₁ k A Q E rm ok hq => ?_⟩
  refine Call_ (load_global G hE hx hf ok.base ?_ hdb)
  refine callWith_def (o := o) (fd := fd) hd ?_ hst
  refine hl.run s₁ k A _ E rm ok fun vs s₂ k₂ r₂ => ⟨keeps_heap (keeps_trans ok.base k₂) _ _ ho, ?_⟩
  exact hc.run pr s₂ A Q E vs rm (ok.keeps k₂) r₂ fun v s₃ k₃ r₃ => hq v s₃ (keeps_trans k₂ k₃) r₃

/-- the same, the last argument starred -/
theorem ev_call_star {mg mb : Str → Option Value} {f : Str} {p pos : Pos} {e : Expr} {es : List Expr} {a : Addr} {o : Obj} {fd : FuncData} {ds : List PyData} {d : PyData}
    (G : Gl mg mb sT) (hE : En env) (hx : env.kindOf f = some .globalImplicit) (hf : mg f = some (.ref a)) (ho : sT.heap.get? a = some o) (hd : o.data = .func fd)
    (hl : EvL prog w sT n pr s env pos (e :: es) ds) (hc : Fn prog w sT n (.ref a) ds d)
    (hdb : (f == ("__debug__" : Str)) = false := by decide)
    (hst : starEach (e :: es) env = (false, eval e env) :: starEach es env := by rfl) : Ev prog w sT n pr s env (.Call (.Name f p) (e :: es) [] pos) d := by
  refine ⟨fun s₁ k A Q E rm ok hq => ?_⟩
  refine Call_ (load_global G hE hx hf ok.base ?_ hdb)
  rw [hst]
  refine Calls.callWith_function (o := o) (fd := fd) (Calls.evalArgs_plain ?_)
  have hl' := hl.run s₁ k A (fun vs s' => (s'.heap.get? a = some o ∧ o.data = .func fd) ∧ wpAny (model prog w) A (call (.ref a) ([] ++ vs) []) Q E s') E rm ok fun vs s₂ k₂ r₂ =>
    ⟨⟨keeps_heap (keeps_trans ok.base k₂) _ _ ho, hd⟩, hc.run pr s₂ A Q E vs rm (ok.keeps k₂) r₂ fun v s₃ k₃ r₃ => hq v s₃ (keeps_trans k₂ k₃) r₃⟩
  rw [hst] at hl'
  exact hl'

/-- a built-in function called by name -/
theorem ev_bcall {mg mb : Str → Option Value} {f : Str} {p pos : Pos} {e : Expr} {es : List Expr} {id : String} {ds : List PyData} {d : PyData}
    (G : Gl mg mb sT) (hE : En env) (hx : env.kindOf f = some .globalImplicit) (hm : mg f = none) (hf : mb f = some (.builtin id))
    (hl : EvL prog w sT n pr s env pos (e :: es) ds) (hc : Fn prog w sT n (.builtin id) ds d)
    (hdb : (f == ("__debug__" : Str)) = false := by decide)
    (hst : starEach (e :: es) env = (false, eval e env) :: starEach es env := by rfl) (hp : (backTo pos (starEach es env)).any (·.1) = false := by rfl) : Ev prog w sT n pr s env (.Call (.Name f p) (e :: es) [] pos) d := by
  refine ⟨fun s₁ k A Q E rm ok hq => ?_⟩
  refine Call_ (load_builtin G hE hx hm hf ok.base ?_ hdb)
  refine callWith_builtin1 ?_ hst hp
  refine hl.run s₁ k A _ E rm ok fun vs s₂ k₂ r₂ => ?_
  exact hc.run pr s₂ A Q E vs rm (ok.keeps k₂) r₂ fun v s₃ k₃ r₃ => hq v s₃ (keeps_trans k₂ k₃) r₃

/-- displays -/
theorem ev_tuple {es : List Expr} {k : Nat} {pos : Pos} {ds : List PyData} (hl : EvL prog w sT n pr s env pos es ds) (hz : ds.length ≤ sizeLine) : Ev prog w sT n pr s env (.Tuple es k pos) (.tuple ds) := by
  refine ⟨fun s₁ k A Q E rm ok hq => ?_⟩
  refine wpAny_Tuple (hl.run s₁ k A _ E rm ok fun vs s₂ k₂ r₂ => ⟨by rw [r₂.length]; exact hz, hq _ _ (keeps_trans k₂ keeps_push) (.tuple ⟨0, Heap.get?_push_size _ rfl⟩ (r₂.keeps fun _ _ e => Heap.get?_push_of_some _ e))⟩)
theorem ev_list {es : List Expr} {pos : Pos} {ds : List PyData} (hl : EvL prog w sT n pr s env pos es ds) (hz : ds.length ≤ sizeLine) : Ev prog w sT n pr s env (.List es pos) (.list ds) := by
  refine ⟨fun s₁ k A Q E rm ok hq => ?_⟩
  refine wpAny_List (hl.run s₁ k A _ E rm ok fun vs s₂ k₂ r₂ => ⟨by rw [r₂.length]; exact hz, hq _ _ (keeps_trans k₂ keeps_push) (.list (ok.keeps k₂).new ⟨0, Heap.get?_push_size _ rfl⟩ (r₂.keeps fun _ _ e => Heap.get?_push_of_some _ e))⟩)

/-- the two ways of a conditional -/
theorem ev_if_t {t b o : Expr} {pos : Pos} {d : PyData} (ht : Ts prog w sT n pr s env t true) (hb : Ev prog w sT n pr s env b d) : Ev prog w sT n pr s env (.IfExp t b o pos) d := by
  refine ⟨fun s₁ k A Q E rm ok hq => ?_⟩
  refine wpAny_IfExp (ht.run s₁ k A _ E rm ok fun s₂ k₂ => ?_)
  exact hb.run s₂ (keeps_trans k k₂) A Q E rm (ok.keeps k₂) fun v s₃ k₃ r₃ => hq v s₃ (keeps_trans k₂ k₃) r₃
theorem ev_if_f {t b o : Expr} {pos : Pos} {d : PyData} (ht : Ts prog w sT n pr s env t false) (hb : Ev prog w sT n pr s env o d) : Ev prog w sT n pr s env (.IfExp t b o pos) d := by
  refine ⟨fun s₁ k A Q E rm ok hq => ?_⟩
  refine wpAny_IfExp (ht.run s₁ k A _ E rm ok fun s₂ k₂ => ?_)
  exact hb.run s₂ (keeps_trans k k₂) A Q E rm (ok.keeps k₂) fun v s₃ k₃ r₃ => hq v s₃ (keeps_trans k₂ k₃) r₃
theorem ev_ite {t b o : Expr} {pos : Pos} {c : Bool} {d e : PyData} (ht : Ts prog w sT n pr s env t c) (hb : c = true → Ev prog w sT n pr s env b d) (ho : c = false → Ev prog w sT n pr s env o e) : Ev prog w sT n pr s env (.IfExp t b o pos) (if c = true then d else e) := by
  cases c
  · exact ev_if_f ht (ho rfl)
  · exact ev_if_t ht (hb rfl)

/-- truth -/
structure Tr (prog : Program) (w : World) (sT : Shared) (n : Nat) (d : PyData) (b : Bool) : Prop where
  run : ∀ (pr : Addr → Prop) (s : Shared) (A : Around) (Q : Bool → Shared → Prop) (E : Value → Shared → Prop) (v : Value), Room n A → Ok sT pr s → Rep pr s.heap v d →
    (∀ s', Keeps s s' → Q b s') → wpAny (model prog w) A (truthy v) Q E s
theorem tr_str {x : Str} (hz : x.length ≤ sizeLine) : Tr prog w sT n (.str x) (x.length != 0) := by
  refine ⟨fun pr s A Q E v rm ok r hq => ?_⟩
  obtain ⟨t, rfl⟩ := r.str_inv
  refine P.truthy_str (by rw [sizeLine_eq] at hz; omega) ?_
  have e : ((x.length : Int) != 0) = (x.length != 0) := by
    cases x.length <;> simp <;> omega
  rw [e]
  exact hq _ keeps_tok
theorem tr_int {i : Int} : Tr prog w sT n (.int i) (i != 0) := by
  refine ⟨fun pr s A Q E v rm ok r hq => ?_⟩
  obtain ⟨t, rfl⟩ := r.int_inv
  exact P.truthy_int (hq _ (keeps_refl _))
theorem ts_val {e : Expr} {d : PyData} {b : Bool} (he : Ev prog w sT n pr s env e d) (ht : Tr prog w sT n d b)
    (hi : isTrue e env (eval e env) = (do let v ← eval e env; standAt e.pos; holding [v] (truthy v)) := by rfl) : Ts prog w sT n pr s env e b := by
  refine ⟨fun s₁ k A Q E rm ok hq => ?_⟩
  refine wpAny_isTrue_value (he.run s₁ k A _ E rm ok fun v s₂ k₂ r₂ => ?_) hi
  exact ht.run pr s₂ A Q E v rm (ok.keeps k₂) r₂ fun s₃ k₃ => hq s₃ (keeps_trans k₂ k₃)
theorem ts_not {x : Expr} {pos : Pos} {b : Bool} (h : Ts prog w sT n pr s env x b) : Ts prog w sT n pr s env (.UnaryOp .Not x pos) (!b) := by
  refine ⟨fun s₁ k A Q E rm ok hq => ?_⟩
  exact wpAny_isTrue_Not (h.run s₁ k A _ E rm ok fun s₂ k₂ => hq s₂ k₂)
theorem ts_or3_f {x y z : Expr} {pos : Pos} (hx : Ts prog w sT n pr s env x false) (hy : Ts prog w sT n pr s env y false) (hz : Ts prog w sT n pr s env z false) : Ts prog w sT n pr s env (.BoolOp .Or [x, y, z] pos) false := by
  refine ⟨fun s₁ k A Q E rm ok hq => ?_⟩
  refine wpAny_isTrue_BoolOp (wpAny_allTrue_Or_cons (hx.run s₁ k A _ E rm ok fun s₂ k₂ => ?_))
  refine wpAny_allTrue_Or_cons (hy.run s₂ (keeps_trans k k₂) A _ E rm (ok.keeps k₂) fun s₃ k₃ => ?_)
  have k₄ := keeps_trans k₂ k₃
  refine wpAny_allTrue_Or_cons (hz.run s₃ (keeps_trans k k₄) A _ E rm (ok.keeps k₄) fun s₄ k₅ => ?_)
  exact wpAny_allTrue_Or_nil (hq _ (keeps_trans k₄ k₅))
theorem ev_or {x y : Expr} {pos : Pos} {d e : PyData} {b : Bool} (hx : Ev prog w sT n pr s env x d) (ht : Tr prog w sT n d b) (hy : Ev prog w sT n pr s env y e) : Ev prog w sT n pr s env (.BoolOp .Or [x, y] pos) (if b = true then d else e) := by
  refine ⟨fun s₁ k A Q E rm ok hq => ?_⟩
  refine wpAny_Or2 (hx.run s₁ k A _ E rm ok fun v s₂ k₂ r₂ => ht.run pr s₂ A _ E v rm (ok.keeps k₂) r₂ fun s₃ k₃ => ?_)
  have k₄ := keeps_trans k₂ k₃
  cases b
  · simp only [Bool.false_eq_true, if_false]
    exact hy.run s₃ (keeps_trans k k₄) A Q E rm (ok.keeps k₄) fun v s₄ k₅ r₅ => hq v s₄ (keeps_trans k₄ k₅) r₅
  · simp only [if_true]
    exact hq v s₃ k₄ (r₂.keeps (keeps_heap k₃))

/-- items -/
theorem seqIdx {k : Int} {m : Nat} (h0 : 0 ≤ k) (h1 : k < m) : seqIndex? k m = some k.toNat := by
  unfold seqIndex?
  have h2 : ¬ k < 0 := by omega
  simp only [h2, if_false]
  rw [if_pos (by simp; omega)]
theorem ev_item_tuple {v i : Expr} {pos : Pos} {ds : List PyData} {k : Int} {d : PyData} (hv : Ev prog w sT n pr s env v (.tuple ds)) (hi : Ev prog w sT n pr s env i (.int k)) (h0 : 0 ≤ k) (hx : ds[k.toNat]? = some d)
    (hs : ∀ o t, subscripted i false o (.int k t) = operate [o, .int k t] (getItem o (.int k t)) := by intro _ _; with_unfolding_all rfl) (hz : ds.length < 2 ^ 63 := by decide) : Ev prog w sT n pr s env (.Subscript v i pos) d := by
  refine ⟨fun s₁ k₁ A Q E rm ok hq => ?_⟩
  refine Subscript_ (hv.run s₁ k₁ A _ E rm ok fun v s₂ k₂ r₂ => hi.run s₂ (keeps_trans k₁ k₂) A _ E rm (ok.keeps k₂) fun u s₃ k₃ r₃ => ?_)
  obtain ⟨a, vs, rfl, ht, hr⟩ := (r₂.keeps (keeps_heap k₃)).tuple_inv
  obtain ⟨t, rfl⟩ := r₃.int_inv
  obtain ⟨x, hx1, hx2⟩ := hr.get hx
  have hlt : k.toNat < vs.length := (List.getElem?_eq_some_iff.mp hx1).1
  have hlen := hr.length
  refine tail_any ht.isTuple.typeIs slot_tuple_getitem.lookup (getItem_tuple ht.isTuple (by omega) (by omega) (j := k.toNat) ?_ (x := x) (by simpa using hx1) (hq x s₃ (keeps_trans k₂ k₃) hx2)) (hs _ _)
  exact seqIdx h0 (by rw [List.size_toArray]; omega)
theorem ev_item_list {v i : Expr} {pos : Pos} {ds : List PyData} {k : Int} {d : PyData} (hv : Ev prog w sT n pr s env v (.list ds)) (hi : Ev prog w sT n pr s env i (.int k)) (h0 : 0 ≤ k) (hf : k < 2 ^ 63) (hx : ds[k.toNat]? = some d)
    (hs : ∀ o t, subscripted i false o (.int k t) = operate [o, .int k t] (getItem o (.int k t)) := by intro _ _; with_unfolding_all rfl) : Ev prog w sT n pr s env (.Subscript v i pos) d := by
  refine ⟨fun s₁ k₁ A Q E rm ok hq => ?_⟩
  refine Subscript_ (hv.run s₁ k₁ A _ E rm ok fun v s₂ k₂ r₂ => hi.run s₂ (keeps_trans k₁ k₂) A _ E rm (ok.keeps k₂) fun u s₃ k₃ r₃ => ?_)
  obtain ⟨a, vs, rfl, _, ht, hr⟩ := (r₂.keeps (keeps_heap k₃)).list_inv
  obtain ⟨t, rfl⟩ := r₃.int_inv
  obtain ⟨x, hx1, hx2⟩ := hr.get hx
  exact tail_any ht.isList.typeIs slot_list_getitem.lookup (wpAny_getItem_list ht.isList h0 hf (by simpa using hx1) (hq x s₃ (keeps_trans k₂ k₃) hx2)) (hs _ _)
theorem ev_item_str {v i : Expr} {pos : Pos} {x : Str} {k : Int} {c : Nat} (hv : Ev prog w sT n pr s env v (.str x)) (hi : Ev prog w sT n pr s env i (.int k)) (h0 : 0 ≤ k) (hf : k < 2 ^ 63) (hx : x.cps[k.toNat]? = some c)
    (hs : ∀ o t, subscripted i false o (.int k t) = operate [o, .int k t] (getItem o (.int k t)) := by intro _ _; with_unfolding_all rfl) : Ev prog w sT n pr s env (.Subscript v i pos) (.str ⟨#[c]⟩) := by
  refine ⟨fun s₁ k₁ A Q E rm ok hq => ?_⟩
  refine Subscript_ (hv.run s₁ k₁ A _ E rm ok fun v s₂ k₂ r₂ => hi.run s₂ (keeps_trans k₁ k₂) A _ E rm (ok.keeps k₂) fun u s₃ k₃ r₃ => ?_)
  obtain ⟨t', rfl⟩ := r₂.str_inv
  obtain ⟨t, rfl⟩ := r₃.int_inv
  have hlt : k.toNat < x.cps.size := (Array.getElem?_eq_some_iff.mp hx).1
  refine tail_any (typeIs_str _ _ _) PySem.F.slot_str_getitem.lookup (PyProof.Rows.getItem_str (c := c) ?_ ?_ (hq _ _ (keeps_trans k₂ (keeps_trans k₃ keeps_tok)) (.str ..))) (hs _ _)
  · have h1 : ¬ k < -(2 ^ 63) := by omega
    have h2 : ¬ k ≥ 2 ^ 63 := by omega
    rw [decide_eq_false h1, decide_eq_false h2]; rfl
  · rw [seqIdx h0 (by unfold Str.length; omega)]
    exact hx
end Mine
end

/-! F3 -/
section
open PySem PySem.W PyProof.Rows
set_option Elab.async false
namespace Mine
variable {prog : Program} {w : World} {sT : Shared} {n : Nat} {pr : Addr → Prop} {s : Shared} {env : Env}

theorem op_add_list {xs ys : List PyData} (hz : xs.length + ys.length ≤ sizeLine) : Op2 prog w sT n pr (binaryOp .Add) (.list xs) (.list ys) (.list (xs ++ ys)) := by
  refine ⟨fun s A Q E v u rm ok rv ru hq => ?_⟩
  obtain ⟨a, vs, rfl, _, ⟨m, ha⟩, hr⟩ := rv.list_inv
  obtain ⟨b, us, rfl, _, ⟨k, hb⟩, hr'⟩ := ru.list_inv
  refine concat_meets ⟨_, ha, rfl⟩ ⟨_, hb, rfl⟩ noFill_list_add seq_list_add PySem.F.slot_list_add PySem.F.entry_list_add (PySem.F.args_list_add_2 _ _)
    (list_addW a b vs.toArray us.toArray m k none none #[] #[] (by rw [List.size_toArray, List.size_toArray, hr.length, hr'.length]; exact hz)) ⟨ha, hb, ?_⟩
  refine hq _ _ (keeps_push (s := s)) (.list (vs := vs ++ us) ok.new ⟨0, ?_⟩ ((hr.append hr').keeps fun _ _ e => Heap.get?_push_of_some _ e))
  simpa using Heap.get?_push_size s.heap rfl

theorem op_mul_list1 {d : PyData} : Op2 prog w sT n pr (binaryOp .Mult) (.list [d]) (.int 4) (.list [d, d, d, d]) := by
  refine ⟨fun s A Q E v u rm ok rv ru hq => ?_⟩
  obtain ⟨a, vs, rfl, _, ⟨m, ha⟩, hr⟩ := rv.list_inv
  obtain ⟨t, rfl⟩ := ru.int_inv
  cases hr with
  | cons r1 r2 =>
  cases r2
  rename_i x
  refine wpAny_binaryOp_repeat_ref (T := "list") (U := "int") (by decide) ⟨_, ha, rfl⟩ (fun s' => typeIs_int s' 4 t) noFill_list_mul F.fills_int_mul F.slot_int_rmul repeat_list F.slot_int_index.lookup
    (call_meets F.slot_int_rmul (typeIs_int s 4 t) F.entry_int_rmul (F.args_int_rmul_2 _ _) (int___rmul___int_list 4 t a _ m)
      ⟨ha, rfl, ⟨_, ha, rfl⟩, call_meets F.slot_list_mul ⟨_, ha, rfl⟩ F.entry_list_mul (F.args_list_mul_2 _ _)
        (AutoListH.list___mul___list_int_3 a _ m 4 t (by decide) (by simp) (by simp [Builtin.List.listTooLong, sizeLine]))
        ⟨ha, ?_⟩⟩)
  have r' : Rep pr (s.heap.push { cls := .type "list", data := .seq [x, x, x, x].toArray }) x d := r1.keeps fun _ _ e => Heap.get?_push_of_some _ e
  have e : List.foldl (fun x1 x2 => x1 ++ x2) #[] (List.replicate (if ([x].toArray).isEmpty = true then 0 else (4 : Int).toNat) [x].toArray) = [x, x, x, x].toArray := by rfl
  rw [e]
  exact hq _ _ (keeps_push (s := s)) (.list (vs := [x, x, x, x]) ok.new ⟨0, Heap.get?_push_size s.heap rfl⟩ (.cons r' (.cons r' (.cons r' (.cons r' .nil)))))

def strMul (x : Str) (k : Nat) : Str := ⟨(List.replicate k x.cps).foldl (· ++ ·) #[]⟩
theorem op_mul_str {x : Str} {k : Int} (h0 : 0 ≤ k) (h1 : k ≤ 1000) (hz : x.length ≤ 1000) : Op2 prog w sT n pr (binaryOp .Mult) (.str x) (.int k) (.str (strMul x k.toNat)) := by
  refine ⟨fun s A Q E v u rm ok rv ru hq => ?_⟩
  obtain ⟨t, rfl⟩ := rv.str_inv
  obtain ⟨t', rfl⟩ := ru.int_inv
  have hb : x.length * k.toNat ≤ 1000 * 1000 := Nat.mul_le_mul hz (by omega)
  have hfl : ∀ (j : Nat) (acc : Array Nat), ((List.replicate j x.cps).foldl (· ++ ·) acc).size = acc.size + j * x.cps.size := by
    intro j
    induction j with
    | zero => intro acc; simp
    | succ j ih => intro acc; rw [List.replicate_succ, List.foldl_cons, ih, Array.size_append, Nat.succ_mul]; omega
  refine P.mul_str ?_ ?_ ?_ ?_
  · have h1 : ¬ k < -(2 ^ 63) := by omega
    have h2 : ¬ k ≥ 2 ^ 63 := by omega
    rw [decide_eq_false h1, decide_eq_false h2]; rfl
  · intro hk _
    have h3 : (1000 : Int) ≤ (2 ^ 63 - 1) / k := by
      apply Int.le_ediv_of_mul_le (by omega)
      omega
    omega
  · intro _ _
    simp only [Builtin.Str.tooLong, sizeLine_eq, gt_iff_lt, decide_eq_false_iff_not]
    omega
  · split
    · have : k.toNat = 0 := by omega
      rw [this] at hq
      exact ⟨by decide, hq _ _ keeps_tok (.str ..)⟩
    · split
      · rename_i hk hc
        have e : strMul x k.toNat = x := by
          rw [Bool.or_eq_true, beq_iff_eq, beq_iff_eq] at hc
          rcases hc with hc | hc
          · subst hc
            show Str.mk _ = x
            simp
          · have : x.cps = #[] := Array.eq_empty_of_size_eq_zero hc
            obtain ⟨c⟩ := x
            simp only at this
            subst this
            show Str.mk _ = _
            congr 1
            apply Array.eq_empty_of_size_eq_zero
            rw [hfl]; simp
        rw [e] at hq
        exact hq _ _ (keeps_refl _) (.str ..)
      · refine ⟨?_, hq _ _ keeps_tok (.str ..)⟩
        show (((List.replicate k.toNat x.cps).foldl (· ++ ·) #[]) : Array Nat).size ≤ sizeLine
        rw [hfl, sizeLine_eq]
        have : k.toNat * x.cps.size = x.length * k.toNat := by unfold Str.length; rw [Nat.mul_comm]
        simp only [List.size_toArray, List.length_nil]
        omega

/-- readings of lists of texts, of ints -/
theorem strs_of : ∀ {vs : List Value} {ys : List Str} {h : Heap}, RepAll pr h vs (ys.map .str) → ∃ l : List (Str × Tok), vs = strValues l ∧ l.map (·.1) = ys
  | _, [], _, .nil => ⟨[], rfl, rfl⟩
  | _, y :: ys, _, .cons a r => by
    obtain ⟨t, rfl⟩ := a.str_inv
    obtain ⟨l, rfl, rfl⟩ := strs_of r
    exact ⟨(y, t) :: l, rfl, rfl⟩
theorem strs_to : ∀ (l : List (Str × Tok)) {h : Heap}, RepAll pr h (strValues l) ((l.map (·.1)).map .str)
  | [], _ => .nil
  | (_, _) :: l, _ => .cons (.str ..) (strs_to l)
theorem ints_of : ∀ {vs : List Value} {ns : List Int} {h : Heap}, RepAll pr h vs (ns.map .int) → IntsAre vs ns
  | _, [], _, .nil => .nil
  | _, y :: ys, _, .cons a r => by
    obtain ⟨t, rfl⟩ := a.int_inv
    exact .cons y t (ints_of r)
theorem ints_to : ∀ {vs : List Value} {ns : List Int} {h : Heap}, IntsAre vs ns → RepAll pr h vs (ns.map .int)
  | _, _, _, .nil => .nil
  | _, _, _, .cons _ _ r => .cons (.int ..) (ints_to r)

/-- methods of a text -/
theorem ev_join {o e : Expr} {apos pos : Pos} {x : Str} {ys : List Str} (ho : Ev prog w sT n pr s env o (.str x)) (he : Ev prog w sT n pr s env e (.list (ys.map .str))) (hj : JoinOk x ys = true)
    (hbase : attributeBase o "join" env (eval o env) = eval o env := by rfl)
    (hline : (apos.endLine == pos.line) = true := by rfl) (hst : starEach [e] env = [(false, eval e env)] := by rfl) :
    Ev prog w sT n pr s env (.Call (.Attribute o "join" apos) [e] [] pos) (.str (Str.join x ys)) := by
  refine ⟨fun s₁ k A Q E rm ok hq => ?_⟩
  refine wpAny_Call_method hbase (by rw [hst]; rfl) hline F.plainAttrs_str F.slot_str_join F.type_str_join (ho.run s₁ k A _ E rm ok fun v s₂ k₂ r₂ => ?_)
  obtain ⟨t, rfl⟩ := r₂.str_inv
  refine ⟨typeIs_str _ _ _, (fun a e => nomatch e), callWith_method1 ?_ hst rfl⟩
  refine args_cons (he.run s₂ (keeps_trans k k₂) A _ E rm (ok.keeps k₂) fun u s₃ k₃ r₃ => args_nil ?_) hst
  obtain ⟨a, vs, rfl, _, hl, hr⟩ := r₃.list_inv
  obtain ⟨l, rfl, hl2⟩ := strs_of hr
  refine SC.join hl.isList hl2 hj fun t' k' => ?_
  unfold Txt.join
  rw [StrLaws.glued_eq_join]
  exact hq _ _ (keeps_trans k₂ (keeps_trans k₃ keeps_tok)) (.str ..)
theorem ev_split {o e : Expr} {apos pos : Pos} {x y : Str} (ho : Ev prog w sT n pr s env o (.str x)) (he : Ev prog w sT n pr s env e (.str y)) (hy : (y.length == 0) = false) (hz : x.length + 2 ≤ sizeLine)
    (hbase : attributeBase o "split" env (eval o env) = eval o env := by rfl)
    (hline : (apos.endLine == pos.line) = true := by rfl) (hst : starEach [e] env = [(false, eval e env)] := by rfl) :
    Ev prog w sT n pr s env (.Call (.Attribute o "split" apos) [e] [] pos) (.list ((Txt.split x y).map .str)) := by
  refine ⟨fun s₁ k A Q E rm ok hq => ?_⟩
  refine wpAny_Call_method hbase (by rw [hst]; rfl) hline F.plainAttrs_str F.slot_str_split F.type_str_split (ho.run s₁ k A _ E rm ok fun v s₂ k₂ r₂ => ?_)
  obtain ⟨t, rfl⟩ := r₂.str_inv
  refine ⟨typeIs_str _ _ _, (fun a e => nomatch e), callWith_method1 ?_ hst rfl⟩
  refine args_cons (he.run s₂ (keeps_trans k k₂) A _ E rm (ok.keeps k₂) fun u s₃ k₃ r₃ => args_nil ?_) hst
  obtain ⟨t', rfl⟩ := r₃.str_inv
  have ok₃ := ok.keeps (keeps_trans k₂ k₃)
  have hle := split_le x y
  have fin : ∀ (l : List (Str × Tok)) (tk : Nat), l.map (·.1) = Txt.split x y → Q (.ref s₃.heap.objs.size) { s₃ with toks := tk, heap := s₃.heap.push { cls := .type "list", data := .seq (strValues l).toArray } } := fun l tk el => by
    refine hq _ _ (keeps_trans k₂ (keeps_trans k₃ ⟨_, tk, rfl, fun _ _ e => Heap.get?_push_of_some _ e⟩)) (.list ok₃.new ⟨0, Heap.get?_push_size s₃.heap rfl⟩ ?_)
    rw [← el]
    exact strs_to l
  cases h1 : (decide (x.length < y.length) || decide (Builtin.Str.strKind x < Builtin.Str.strKind y))
  · cases hf : (Builtin.Str.occurrences x y 0 x.length (x.length + 1)).isEmpty
    · have hsp : Txt.split x y = Builtin.Str.partsBetween x (Builtin.Str.occurrences x y 0 x.length (x.length + 1)) y.length := by
        unfold Txt.split
        rw [if_neg (by rw [h1]; exact Bool.false_ne_true), if_neg (by rw [hf]; exact Bool.false_ne_true)]
      refine call_meets F.slot_str_split (typeIs_str _ _ _) F.entry_str_split (F.args_str_split_2 _ _) (meets_str_split_sep x y t t' h1 hy hf (by omega) (by rw [← hsp]; omega)) ?_
      rw [← hsp, strsFrom_eq]
      exact fin (numbered s₃.toks _) _ (numbered_texts _ _)
    · have hsp : Txt.split x y = [x] := by
        unfold Txt.split
        rw [if_neg (by rw [h1]; exact Bool.false_ne_true), if_pos hf]
      exact call_meets F.slot_str_split (typeIs_str _ _ _) F.entry_str_split (F.args_str_split_2 _ _) (meets_str_split_not_found x y t t' h1 hy hf) (fin [(x, t)] s₃.toks hsp.symm)
  · have hsp : Txt.split x y = [x] := by
      unfold Txt.split
      rw [if_pos h1]
    exact call_meets F.slot_str_split (typeIs_str _ _ _) F.entry_str_split (F.args_str_split_2 _ _) (meets_str_split_cannot_occur x y t t' h1) (fin [(x, t)] s₃.toks hsp.symm)

/-- list.index -/
theorem ev_index {o e : Expr} {apos pos : Pos} {ns : List Int} {k : Int} (ho : Ev prog w sT n pr s env o (.list (ns.map .int))) (he : Ev prog w sT n pr s env e (.int k)) (hk : k ∈ ns) (hlay : PyData.layable0 (.list (ns.map .int)) = true)
    (hbase : attributeBase o "index" env (eval o env) = eval o env := by rfl)
    (hline : (apos.endLine == pos.line) = true := by rfl) (hst : starEach [e] env = [(false, eval e env)] := by rfl) :
    Ev prog w sT n pr s env (.Call (.Attribute o "index" apos) [e] [] pos) (.int (ns.idxOf k : Nat)) := by
  refine ⟨fun s₁ k₁ A Q E rm ok hq => ?_⟩
  refine wpAny_Call_method hbase (by rw [hst]; rfl) hline F.plainAttrs_list F.slot_list_index F.type_list_index (ho.run s₁ k₁ A _ E rm ok fun v s₂ k₂ r₂ => ?_)
  obtain ⟨a, vs, rfl, _, ⟨m, hl⟩, hr⟩ := r₂.list_inv
  refine ⟨⟨_, hl, rfl⟩, (fun a e => by cases e; exact ⟨_, hl, rfl⟩), callWith_method1 ?_ hst rfl⟩
  refine args_cons (he.run s₂ (keeps_trans k₁ k₂) A _ E rm (ok.keeps k₂) fun u s₃ k₃ r₃ => args_nil ?_) hst
  obtain ⟨t, rfl⟩ := r₃.int_inv
  exact index_list_ints ⟨_, keeps_heap k₃ _ _ hl, rfl, m, rfl⟩ (ints_of (hr.keeps (keeps_heap k₃))) hlay hk (hq _ _ (keeps_trans k₂ (keeps_trans k₃ keeps_tok)) (.int ..))

/-- sum, hex -/
theorem preSum_list : ∀ (ns : List Int) (k : Nat), k ≤ ns.length → preSum (fun i => ns.getD i 0) k = (ns.take k).sum
  | ns, 0, _ => by simp [preSum]
  | ns, k + 1, h => by
    rw [preSum, preSum_list ns k (by omega), List.take_add_one]
    have : ns[k]? = some (ns.getD k 0) := by rw [List.getD_eq_getElem?_getD, List.getElem?_eq_getElem (by omega)]; rfl
    rw [this]; simp
theorem fn_sum {ns : List Int} : Fn prog w sT n (.builtin "sum") [.list (ns.map .int)] (.int ns.sum) := by
  refine ⟨fun pr s A Q E vs rm ok r hq => ?_⟩
  cases r with
  | cons r1 r2 =>
  cases r2
  obtain ⟨a, vs, rfl, _, hl, hr⟩ := r1.list_inv
  have hi := ints_of hr
  have hlt : a < s.heap.objs.size := let ⟨_, e⟩ := hl; Heap.lt_size e
  refine call_sum_walkG (wpAny_pyIter_list hl.isList ⟨s.heap.objs.size, _, _, vs.toArray.size, _, _, fun i => ns.getD i 0, rfl,
    Walks.list (A := A.in1) rm.handled s.heap.objs.size a (Nat.ne_of_lt hlt) vs.toArray, And.intro ⟨_, Heap.get?_push_size _ rfl, rfl, rfl⟩ (hl.isList.push _), ?_, ?_, ?_⟩)
  · intro b hb
    simp only [List.mem_cons, List.not_mem_nil, or_false] at hb
    rw [Heap.size_push]
    rcases hb with rfl | rfl
    · exact Nat.lt_succ_self _
    · exact Nat.lt_succ_of_lt hlt
  · intro i v hv
    have hv' : vs[i]? = some v := by simpa using hv
    obtain ⟨d, hd, hrep⟩ := hr.get' hv'
    have hlt := (List.getElem?_eq_some_iff.mp hd).1
    rw [List.length_map] at hlt
    have : d = .int (ns.getD i 0) := by
      rw [List.getElem?_map, List.getElem?_eq_getElem hlt] at hd
      simp only [Option.map_some, Option.some.injEq] at hd
      rw [← hd, List.getD_eq_getElem?_getD, List.getElem?_eq_getElem hlt]; rfl
    subst this
    exact hrep.int_inv
  · intro h' tk t' hk
    have e : preSum (fun i => ns.getD i 0) vs.toArray.size = ns.sum := by
      rw [List.size_toArray, hi.length, preSum_list ns _ (Nat.le_refl _), List.take_length]
    rw [e]
    refine hq _ _ ⟨h', tk, rfl, fun b o e => hk b o ?_ (Heap.get?_push_of_some _ e)⟩ (.int ..)
    intro hb
    rw [List.mem_singleton] at hb
    exact absurd (Heap.lt_size e) (by rw [hb]; exact Nat.lt_irrefl _)
theorem fn_hex {i : Int} (hz : (baseText "0x" 16 i).length ≤ sizeLine) : Fn prog w sT n (.builtin "hex") [.int i] (.str (baseText "0x" 16 i)) := by
  refine ⟨fun pr s A Q E vs rm ok r hq => ?_⟩
  cases r with
  | cons r1 r2 =>
  cases r2
  obtain ⟨t, rfl⟩ := r1.int_inv
  exact P.hex_of_int (hq _ _ keeps_tok (.str ..)) hz

/-- equality of lists of texts -/
theorem reads_strs : ∀ {vs : List Value} {ys : List Str} {h : Heap}, RepAll pr h vs (ys.map .str) → ReadsAll h vs (ys.map .str) []
  | _, [], _, .nil => .nil
  | _, y :: ys, _, .cons a r => by
    obtain ⟨t, rfl⟩ := a.str_inv
    have := ReadsAll.cons (Reads.str y t) (reads_strs r)
    simpa using this
theorem canLayAll0_strs : ∀ ns : List Str, (∀ x ∈ ns, PyData.strOk x = true) → PyData.canLayAll0 (ns.map PyData.str) = true
  | [], _ => by simp [PyData.canLayAll0]
  | n :: r, h => by simp [PyData.canLayAll0, PyData.canLay0, h n (.head _), canLayAll0_strs r fun x hx => h x (.tail _ hx)]
theorem depthAll_strs : ∀ ns : List Str, PyData.depthAll (ns.map PyData.str) ≤ 1
  | [] => by simp [PyData.depthAll]
  | n :: r => by
    have := depthAll_strs r
    simp only [List.map_cons, PyData.depthAll, PyData.depth]
    omega
theorem shaped_strs {ns : List Str} (h : ∀ x ∈ ns, PyData.strOk x = true) : SeqAt.shaped (.list (ns.map PyData.str)) = true := by
  have h1 := depthAll_strs ns
  have h2 : PyData.depth (.list (ns.map PyData.str)) ≤ 64 := by simp only [PyData.depth]; omega
  show (PyData.canLay0 (.list (ns.map PyData.str)) && decide (PyData.depth (.list (ns.map PyData.str)) ≤ 64)) = true
  rw [Bool.and_eq_true]
  exact ⟨by simp only [PyData.canLay0]; exact canLayAll0_strs ns h, decide_eq_true h2⟩
theorem noMix_strs : ∀ ns ms : List Str, PySem.SeqAt.noMixAll (ns.map PyData.str) (ms.map PyData.str) = true
  | [], [] => by simp [PySem.SeqAt.noMixAll]
  | [], _ :: _ => by simp [PySem.SeqAt.noMixAll]
  | _ :: _, [] => by simp [PySem.SeqAt.noMixAll]
  | _ :: r, _ :: q => by simp [PySem.SeqAt.noMixAll, PySem.SeqAt.noMix, noMix_strs r q]
theorem same_strs : ∀ ns : List Str, PySem.Spec.sameAll (ns.map PyData.str) (ns.map PyData.str) = true
  | [] => by simp [PySem.Spec.sameAll]
  | n :: r => by simp [PySem.Spec.sameAll, PySem.Spec.same, same_strs r]
theorem op_eq_strs {xs : List Str} (h : ∀ x ∈ xs, PyData.strOk x = true) : Op2 prog w sT n pr (compareOp .Eq) (.list (xs.map .str)) (.list (xs.map .str)) (.bool true) := by
  refine ⟨fun s A Q E v u rm ok rv ru hq => ?_⟩
  obtain ⟨a, vs, rfl, _, ⟨m, ha⟩, hr⟩ := rv.list_inv
  obtain ⟨b, us, rfl, _, ⟨k, hb⟩, hr'⟩ := ru.list_inv
  refine eq_dataH_same (Reads.list ha rfl rfl (by simpa using reads_strs hr)) (Reads.list hb rfl rfl (by simpa using reads_strs hr')) (shaped_strs h) (shaped_strs h) (by have := rm.units; omega)
    (by simp only [PySem.SeqAt.noMix]; exact noMix_strs _ _) ?_
  have e : PySem.Spec.same (.list (xs.map PyData.str)) (.list (xs.map PyData.str)) = true := by
    simp only [PySem.Spec.same]; exact same_strs xs
  rw [e]
  exact hq _ _ (keeps_refl _) (.bool ..)

/-- slices -/
theorem RepAll.pick {h : Heap} {vs : List Value} {ds : List PyData} (r : RepAll pr h vs ds) : ∀ l : List Nat, RepAll pr h (l.filterMap (vs[·]?)) (l.filterMap (ds[·]?))
  | [] => .nil
  | i :: l => by
    have ih := RepAll.pick r l
    cases hv : vs[i]? with
    | none =>
      have hd : ds[i]? = none := by
        rw [List.getElem?_eq_none_iff] at hv ⊢
        rw [← r.length]; exact hv
      rw [List.filterMap_cons, List.filterMap_cons, hv, hd]; exact ih
    | some v =>
      obtain ⟨d, hd, hrep⟩ := r.get' hv
      rw [List.filterMap_cons, List.filterMap_cons, hv, hd]
      exact .cons hrep ih
def pickD (ds : List PyData) (lo hi st : Option Int) : List PyData :=
  (sliceRange (sliceBounds lo hi st ds.length).1 (sliceBounds lo hi st ds.length).2.1 (sliceBounds lo hi st ds.length).2.2).filterMap (ds[·]?)
theorem pick_rep {h : Heap} {vs : List Value} {ds : List PyData} {lo hi st : Option Int} (r : RepAll pr h vs ds) : RepAll pr h (slicePick vs.toArray lo hi st).toList (pickD ds lo hi st) := by
  unfold slicePick pickD
  rw [List.size_toArray, r.length]
  simpa using r.pick _
theorem getSlice {l sl : Addr} {vs : List Value} {ds : List PyData} {vl vu vk : Value} {lo hi st : Option Int} {s₃ s₀ : Shared} {A : Around} {Q : Value → Shared → Prop} {E : Value → Shared → Prop}
    (k₀ : Keeps s₀ s₃) (ok : Ok sT pr s₃) (hl : s₃.heap.PlainList l vs.toArray) (hr : RepAll pr s₃.heap vs ds) (hs : s₃.heap.IsSliceOf sl vl vu vk) (pl : IsPart vl lo) (pu : IsPart vu hi) (ps : IsPart vk st) (h0 : st ≠ some 0)
    (hz : ds.length ≤ sizeLine) (hq : ∀ v s', Keeps s₀ s' → Rep pr s'.heap v (.list (pickD ds lo hi st)) → Q v s') : wpAny (model prog w) A (getItem (.ref l) (.ref sl)) Q E s₃ := by
  refine wpAny_getItem_list_slice hl.isList hs pl pu ps h0 ?_ (by rw [List.size_toArray, hr.length]; exact hz)
  refine hq _ _ (keeps_trans k₀ keeps_push) (.list (vs := (slicePick vs.toArray lo hi st).toList) ok.new ⟨0, ?_⟩ ((pick_rep hr).keeps fun _ _ e => Heap.get?_push_of_some _ e))
  simpa using Heap.get?_push_size s₃.heap rfl
theorem ev_upto {v e : Expr} {p pos : Pos} {ds : List PyData} {k : Int} (hv : Ev prog w sT n pr s env v (.list ds)) (he : Ev prog w sT n pr s env e (.int k)) (hz : ds.length ≤ sizeLine)
    (ht : ∀ o r, letTemporaryGo v o r = pure () := by intro _ _; rfl) : Ev prog w sT n pr s env (.Subscript v (.Slice none (some e) none p) pos) (.list (pickD ds none (some k) none)) := by
  refine ⟨fun s₁ k₁ A Q E rm ok hq => ?_⟩
  refine wpAny_Subscript_Slice (T := "list") list_getitem_lookup (hv.run s₁ k₁ A _ E rm ok fun v s₂ k₂ r₂ => wpAny_Slice ?_) ht
  rw [evalPart_none, evalPart_some]
  refine wpAny_pure (he.run s₂ (keeps_trans k₁ k₂) A _ E rm (ok.keeps k₂) fun u s₃ k₃ r₃ => ?_)
  obtain ⟨t, rfl⟩ := r₃.int_inv
  refine wpAny_pure ?_
  obtain ⟨a, vs, rfl, _, hl, hr⟩ := ((r₂.keeps (keeps_heap k₃)).keeps (keeps_heap (keeps_push (s := s₃) (o := { cls := .type "slice", data := .fields #[.none, .int k t, .none] })))).list_inv
  exact ⟨hl.isList.typeIs, getSlice (keeps_trans k₂ (keeps_trans k₃ keeps_push)) (ok.keeps (keeps_trans k₂ (keeps_trans k₃ keeps_push))) hl hr (Heap.IsSliceOf.new ..) .none (.int ..) .none (by simp) hz hq⟩
theorem ev_step {v e f : Expr} {p pos : Pos} {ds : List PyData} {k j : Int} (hv : Ev prog w sT n pr s env v (.list ds)) (he : Ev prog w sT n pr s env e (.int k)) (hf : Ev prog w sT n pr s env f (.int j)) (hj : j ≠ 0) (hz : ds.length ≤ sizeLine)
    (ht : ∀ o r, letTemporaryGo v o r = pure () := by intro _ _; rfl) : Ev prog w sT n pr s env (.Subscript v (.Slice (some e) none (some f) p) pos) (.list (pickD ds (some k) none (some j))) := by
  refine ⟨fun s₁ k₁ A Q E rm ok hq => ?_⟩
  refine wpAny_Subscript_Slice_step (T := "list") list_getitem_lookup (hv.run s₁ k₁ A _ E rm ok fun v s₂ k₂ r₂ => wpAny_Slice ?_) ht
  rw [evalPart_some]
  refine he.run s₂ (keeps_trans k₁ k₂) A _ E rm (ok.keeps k₂) fun u s₃ k₃ r₃ => ?_
  obtain ⟨t, rfl⟩ := r₃.int_inv
  rw [evalPart_none]
  refine wpAny_pure ?_
  rw [evalPart_some]
  have k₂₃ := keeps_trans k₂ k₃
  refine hf.run s₃ (keeps_trans k₁ k₂₃) A _ E rm (ok.keeps k₂₃) fun u s₄ k₄ r₄ => ?_
  obtain ⟨t', rfl⟩ := r₄.int_inv
  have k₅ := keeps_trans k₂₃ (keeps_trans k₄ (keeps_push (s := s₄) (o := { cls := .type "slice", data := .fields #[.int k t, .none, .int j t'] })))
  obtain ⟨a, vs, rfl, _, hl, hr⟩ := ((r₂.keeps (keeps_heap (keeps_trans k₃ k₄))).keeps (keeps_heap (keeps_push (s := s₄) (o := { cls := .type "slice", data := .fields #[.int k t, .none, .int j t'] })))).list_inv
  exact ⟨hl.isList.typeIs, getSlice k₅ (ok.keeps k₅) hl hr (Heap.IsSliceOf.new ..) (.int ..) .none (.int ..) (by simpa using hj) hz hq⟩
theorem ev_from_tuple {v e : Expr} {p pos : Pos} {ds : List PyData} {k : Nat} (hv : Ev prog w sT n pr s env v (.tuple ds)) (he : Ev prog w sT n pr s env e (.int k)) (h1 : 1 ≤ k) (hk : k ≤ ds.length) (hz : ds.length ≤ sizeLine)
    (ht : ∀ o r, letTemporaryGo v o r = pure () := by intro _ _; rfl) : Ev prog w sT n pr s env (.Subscript v (.Slice (some e) none none p) pos) (.tuple (ds.drop k)) := by
  refine ⟨fun s₁ k₁ A Q E rm ok hq => ?_⟩
  refine wpAny_Subscript_Slice (T := "tuple") slot_tuple_getitem.lookup (hv.run s₁ k₁ A _ E rm ok fun v s₂ k₂ r₂ => wpAny_Slice ?_) ht
  rw [evalPart_none, evalPart_some]
  refine he.run s₂ (keeps_trans k₁ k₂) A _ E rm (ok.keeps k₂) fun u s₃ k₃ r₃ => ?_
  obtain ⟨t, rfl⟩ := r₃.int_inv
  refine wpAny_pure (wpAny_pure ?_)
  have k₅ := keeps_trans k₂ (keeps_trans k₃ (keeps_push (s := s₃) (o := { cls := .type "slice", data := .fields #[.int k t, .none, .none] })))
  obtain ⟨a, vs, rfl, hl, hr⟩ := ((r₂.keeps (keeps_heap k₃)).keeps (keeps_heap (keeps_push (s := s₃) (o := { cls := .type "slice", data := .fields #[.int k t, .none, .none] })))).tuple_inv
  refine ⟨hl.isTuple.typeIs, getItem_tuple_from hl.isTuple (Heap.IsSliceOf.new ..) h1 (by rw [List.size_toArray, hr.length]; exact hk) ?_ (by rw [List.size_toArray, hr.length]; exact hz)⟩
  exact hq _ _ (keeps_trans k₅ keeps_push) (.tuple (vs := vs.drop k) ⟨0, Heap.get?_push_size _ rfl⟩ ((hr.drop k).keeps fun _ _ e => Heap.get?_push_of_some _ e))

theorem tr_tuple {ds : List PyData} (hz : ds.length ≤ sizeLine) : Tr prog w sT n (.tuple ds) (!ds.isEmpty) := by
  refine ⟨fun pr s A Q E v rm ok r hq => ?_⟩
  obtain ⟨a, vs, rfl, hl, hr⟩ := r.tuple_inv
  refine truthy_tuple hl.isTuple (by rw [List.size_toArray, hr.length]; rw [sizeLine_eq] at hz; omega) ?_
  have e : (!vs.toArray.isEmpty) = (!ds.isEmpty) := by
    cases hr <;> simp
  rw [e]
  exact hq _ keeps_tok
end Mine
end

/-! F4 -/
section
open PySem PySem.W PyProof.Rows
set_option Elab.async false
namespace Mine
variable {prog : Program} {w : World} {sT : Shared} {n : Nat} {pr : Addr → Prop} {s : Shared} {env : Env}

/-- an iterator over data -/
structure Itr (prog : Program) (w : World) (A : Around) (I : Addr) (fp wr : List Addr) (ds : List PyData) (St : (Addr → Prop) → Nat → Heap → Prop) : Prop where
  sub : ∀ b ∈ wr, b ∈ fp
  prm : ∀ pr pr' i h, St pr i h → (∀ a o, h.get? a = some o → pr' a → pr a) → St pr' i h
  frame : ∀ pr i h h', St pr i h → (∀ b ∈ fp, ∀ o, h.get? b = some o → h'.get? b = some o) → Pres pr pr h h' → St pr i h'
  item : ∀ (pr : Addr → Prop) i d (s : Shared) (Q : Option Value → Shared → Prop) (E : Value → Shared → Prop), ds[i]? = some d → St pr i s.heap →
    (∀ v h' tk, Rep pr h' v d → St pr (i + 1) h' → (∀ b o, b ∉ wr → s.heap.get? b = some o → h'.get? b = some o) → Pres pr pr s.heap h' → Q (some v) { s with heap := h', toks := tk }) → wpAny (model prog w) A (pyNext (.ref I)) Q E s
  own : ∀ (pr : Addr → Prop) i target v (s : Shared) (Q : Unit → Shared → Prop) (E : Value → Shared → Prop), St pr (i + 1) s.heap →
    (∀ h', St pr (i + 1) h' → (∀ b o, b ∉ wr → s.heap.get? b = some o → h'.get? b = some o) → Pres pr pr s.heap h' → Q () { s with heap := h' }) → wpAny (model prog w) A (letOwnedTupleGo target (.ref I) v) Q E s
  done : ∀ (pr : Addr → Prop) (s : Shared) (Q : Option Value → Shared → Prop) (E : Value → Shared → Prop), St pr ds.length s.heap →
    (∀ h' tk, (∀ b o, b ∉ wr → s.heap.get? b = some o → h'.get? b = some o) → Pres pr pr s.heap h' → Q none { s with heap := h', toks := tk }) → wpAny (model prog w) A (pyNext (.ref I)) Q E s
  self : ∀ (pr : Addr → Prop) i (s : Shared) (Q : Value → Shared → Prop) (E : Value → Shared → Prop), St pr i s.heap → Q (.ref I) s → wpAny (model prog w) A (pyIter (.ref I)) Q E s

theorem RepAll.prm {pr pr' : Addr → Prop} {h : Heap} {vs : List Value} {ds : List PyData} (r : RepAll pr h vs ds) (hp : ∀ a o, h.get? a = some o → pr' a → pr a) : RepAll pr' h vs ds :=
  r.mono ⟨fun _ _ _ e => e, fun _ _ e => e, fun _ _ h1 ⟨_, e⟩ h2 => h1 (hp _ _ e h2)⟩
theorem Rep.prm {pr pr' : Addr → Prop} {h : Heap} {v : Value} {d : PyData} (r : Rep pr h v d) (hp : ∀ a o, h.get? a = some o → pr' a → pr a) : Rep pr' h v d :=
  r.mono ⟨fun _ _ _ e => e, fun _ _ e => e, fun _ _ h1 ⟨_, e⟩ h2 => h1 (hp _ _ e h2)⟩

/-- a change of objects that are no sequences keeps readings -/
theorem pres_of {pr : Addr → Prop} {h h' : Heap} {wr : List Addr} (hk : ∀ b o, b ∉ wr → h.get? b = some o → h'.get? b = some o) (hw : ∀ b ∈ wr, ∀ o, h.get? b = some o → ∀ vs n, o.data ≠ .seq vs n) : Pres pr pr h h' :=
  ⟨fun a vs _ ⟨n, e⟩ => ⟨n, hk a _ (fun hm => hw a hm _ e vs n rfl) e⟩, fun a vs ⟨n, e⟩ => ⟨n, hk a _ (fun hm => hw a hm _ e vs n rfl) e⟩, fun _ _ h _ => h⟩

theorem letOwned_not {M : Model} {A : Around} {target : Expr} {I : Addr} {v : Value} {s : Shared} {o : Obj} {T : String} {Q : Unit → Shared → Prop} {E : Value → Shared → Prop} (ho : s.heap.get? I = some o) (hc : o.cls = .type T)
    (hT : ["enumerate", "zip", "dict_itemiterator", "dict_reverseitemiterator", "odict_iterator", "itertools.zip_longest", "itertools.pairwise"].contains T = false) (hq : Q () s) : wpAny M A (letOwnedTupleGo target (.ref I) v) Q E s := by
  unfold letOwnedTupleGo
  cases target with
  | Tuple | List =>
    cases v with
    | ref a =>
      refine wpAny_bind (wpAny_load ho ?_)
      rw [hc]
      cases o.data with
      | fields vs =>
        dsimp only
        rw [hT, Bool.false_and, if_neg Bool.false_ne_true]
        exact wpAny_pure hq
      | _ => exact wpAny_pure hq
    | _ => exact wpAny_pure hq
  | _ => exact wpAny_pure hq

theorem itr_list {A : Around} {I ax : Addr} {vs : List Value} {ds : List PyData} (hh : A.handled = none) (hne : ax ≠ I) (hlen : vs.length = ds.length) :
    Itr prog w A I [I, ax] [I] ds (fun pr i h => (h.IsListIter I ax i ∧ h.IsList ax vs.toArray) ∧ RepAll pr h vs ds) := by
  have W := Walks.list (prog := prog) (w := w) hh I ax hne vs.toArray
  have nw : ∀ {i : Nat} {h : Heap}, h.IsListIter I ax i → ∀ b ∈ [I], ∀ o, h.get? b = some o → ∀ vs n, o.data ≠ .seq vs n := by
    intro i h hi b hb o ho vs n hd
    rw [List.mem_singleton] at hb
    subst hb
    obtain ⟨o', e, _, hd'⟩ := hi
    rw [e] at ho
    cases ho
    rw [hd'] at hd
    cases hd
  refine ⟨W.sub, fun pr pr' i h st hp => ⟨st.1, st.2.prm hp⟩, fun pr i h h' st hk hp => ⟨W.frame i h h' st.1 hk, st.2.mono hp⟩, ?_, ?_, ?_, fun pr i s Q E st hq => W.self i s Q E st.1 hq⟩
  · intro pr i d s Q E hd st hq
    obtain ⟨v, hv, _⟩ := st.2.get hd
    have hlt := (List.getElem?_eq_some_iff.mp hv).1
    refine W.item i s Q E (by simpa using hlt) st.1 fun v' h' tk hP hst hk => ?_
    have hp := pres_of (pr := pr) hk (nw st.1.1)
    have hv' : vs[i]? = some v' := by simpa using hP
    have r' := st.2.mono hp
    obtain ⟨v₂, hv₂, hrep⟩ := r'.get hd
    rw [hv'] at hv₂
    cases hv₂
    exact hq v' h' tk hrep ⟨hst, r'⟩ hk hp
  · intro pr i target v s Q E st hq
    obtain ⟨o, ho, hc, _⟩ := st.1.1
    exact letOwned_not ho hc (by decide) (hq s.heap st (fun _ _ _ e => e) ⟨fun _ _ _ e => e, fun _ _ e => e, fun _ _ h _ => h⟩)
  · intro pr s Q E st hq
    refine W.done s Q E (by rw [List.size_toArray, hlen]; exact st.1) fun h' tk hk => hq h' tk hk (pres_of hk (nw st.1.1))

theorem itr_tuple {A : Around} {I ax : Addr} {vs : List Value} {ds : List PyData} (hh : A.handled = none) (hne : ax ≠ I) (hlen : vs.length = ds.length) :
    Itr prog w A I [I, ax] [I] ds (fun pr i h => (h.IsTupleIter I ax i ∧ h.IsTuple ax vs.toArray) ∧ RepAll pr h vs ds) := by
  have W := Walks.tuple (prog := prog) (w := w) hh I ax hne vs.toArray
  have nw : ∀ {i : Nat} {h : Heap}, h.IsTupleIter I ax i → ∀ b ∈ [I], ∀ o, h.get? b = some o → ∀ vs n, o.data ≠ .seq vs n := by
    intro i h hi b hb o ho vs n hd
    rw [List.mem_singleton] at hb
    subst hb
    obtain ⟨o', e, _, hd'⟩ := hi
    rw [e] at ho
    cases ho
    rw [hd'] at hd
    cases hd
  refine ⟨W.sub, fun pr pr' i h st hp => ⟨st.1, st.2.prm hp⟩, fun pr i h h' st hk hp => ⟨W.frame i h h' st.1 hk, st.2.mono hp⟩, ?_, ?_, ?_, fun pr i s Q E st hq => W.self i s Q E st.1 hq⟩
  · intro pr i d s Q E hd st hq
    obtain ⟨v, hv, _⟩ := st.2.get hd
    have hlt := (List.getElem?_eq_some_iff.mp hv).1
    refine W.item i s Q E (by simpa using hlt) st.1 fun v' h' tk hP hst hk => ?_
    have hp := pres_of (pr := pr) hk (nw st.1.1)
    have hv' : vs[i]? = some v' := by simpa using hP
    have r' := st.2.mono hp
    obtain ⟨v₂, hv₂, hrep⟩ := r'.get hd
    rw [hv'] at hv₂
    cases hv₂
    exact hq v' h' tk hrep ⟨hst, r'⟩ hk hp
  · intro pr i target v s Q E st hq
    obtain ⟨o, ho, hc, _⟩ := st.1.1
    exact letOwned_not ho hc (by decide) (hq s.heap st (fun _ _ _ e => e) ⟨fun _ _ _ e => e, fun _ _ e => e, fun _ _ h _ => h⟩)
  · intro pr s Q E st hq
    refine W.done s Q E (by rw [List.size_toArray, hlen]; exact st.1) fun h' tk hk => hq h' tk hk (pres_of hk (nw st.1.1))

theorem itr_range {A : Around} {I : Addr} {k : Nat} (hh : A.handled = none) :
    Itr prog w A I [I] [I] ((List.range k).map fun i => .int (i : Nat)) (fun _ i h => IsRangeIter h I (0 + (i : Nat) * 1) ((k : Int) - (i : Nat)) 1) := by
  have W := Walks.range (prog := prog) (w := w) hh I 0 1 k
  have nw : ∀ {i : Nat} {h : Heap}, IsRangeIter h I (0 + (i : Nat) * 1) ((k : Int) - (i : Nat)) 1 → ∀ b ∈ [I], ∀ o, h.get? b = some o → ∀ vs n, o.data ≠ .seq vs n := by
    intro i h hi b hb o ho vs n hd
    rw [List.mem_singleton] at hb
    subst hb
    rw [hi] at ho
    cases ho
    cases hd
  refine ⟨W.sub, fun pr pr' i h st hp => st, fun pr i h h' st hk hp => W.frame i h h' st hk, ?_, ?_, ?_, fun pr i s Q E st hq => W.self i s Q E st hq⟩
  · intro pr i d s Q E hd st hq
    have hlt := (List.getElem?_eq_some_iff.mp hd).1
    simp only [List.length_map, List.length_range] at hlt
    refine W.item i s Q E hlt st fun v' h' tk hP hst hk => ?_
    obtain ⟨t, rfl⟩ := hP
    have : d = .int (i : Nat) := by
      rw [List.getElem?_map, List.getElem?_range hlt] at hd
      simpa using hd.symm
    subst this
    have e : (0 : Int) + (i : Nat) * 1 = (i : Nat) := by omega
    exact hq _ h' tk (by rw [e]; exact .int ..) hst hk (pres_of hk (nw st))
  · intro pr i target v s Q E st hq
    exact letOwned_not st rfl (by decide) (hq s.heap st (fun _ _ _ e => e) ⟨fun _ _ _ e => e, fun _ _ e => e, fun _ _ h _ => h⟩)
  · intro pr s Q E st hq
    refine W.done s Q E (by simpa using st) fun h' tk hk => hq h' tk hk (pres_of hk (nw (i := k) (by simpa using st)))

/-- what an expression gives to go over -/
structure It (prog : Program) (w : World) (sT : Shared) (n : Nat) (pr : Addr → Prop) (s : Shared) (env : Env) (e : Expr) (ds : List PyData) : Prop where
  run : ∀ s₁, Keeps s s₁ → ∀ (A : Around) (Q : Value → Shared → Prop) (E : Value → Shared → Prop), Room n A → Ok sT pr s₁ →
    (∀ I s' fp wr St, Keeps s₁ s' → Itr prog w A I fp wr ds St → St pr 0 s'.heap → (∀ b ∈ fp, ∃ o, s'.heap.get? b = some o ∧ (∀ es ep, o.data ≠ .dict es ep) ∧ ∀ v, o.data ≠ .cell v) → (∀ b ∈ wr, s₁.heap.get? b = none) → Q (.ref I) s') →
      wpAny (model prog w) A (eval e env) (fun x s₂ => wpAny (model prog w) A (pyIter x) Q E s₂) E s₁

/-- an iterator as a comprehension with this target sees it -/
structure ItrC (prog : Program) (w : World) (A : Around) (target : Expr) (I : Addr) (fp wr : List Addr) (ds : List PyData) (St : (Addr → Prop) → Nat → Heap → Prop) : Prop where
  sub : ∀ b ∈ wr, b ∈ fp
  prm : ∀ pr pr' i h, St pr i h → (∀ a o, h.get? a = some o → pr' a → pr a) → St pr' i h
  frame : ∀ pr i h h', St pr i h → (∀ b ∈ fp, ∀ o, h.get? b = some o → h'.get? b = some o) → Pres pr pr h h' → St pr i h'
  item : ∀ (pr : Addr → Prop) i d (s : Shared) (Q : Option Value → Shared → Prop) (E : Value → Shared → Prop), ds[i]? = some d → St pr i s.heap →
    (∀ v h' tk, Rep pr h' v d → (∀ b o, b ∉ wr → s.heap.get? b = some o → h'.get? b = some o) → Pres pr pr s.heap h' →
      (∀ (Q' : Unit → Shared → Prop) (E' : Value → Shared → Prop), (∀ h₂, St pr (i + 1) h₂ → (∀ b o, b ∉ wr → h'.get? b = some o → h₂.get? b = some o) → Pres pr pr h' h₂ → Q' () { s with heap := h₂, toks := tk }) → wpAny (model prog w) A (letOwnedTupleGo target (.ref I) v) Q' E' { s with heap := h', toks := tk }) →
      Q (some v) { s with heap := h', toks := tk }) → wpAny (model prog w) A (pyNext (.ref I)) Q E s
  done : ∀ (pr : Addr → Prop) (s : Shared) (Q : Option Value → Shared → Prop) (E : Value → Shared → Prop), St pr ds.length s.heap →
    (∀ h' tk, (∀ b o, b ∉ wr → s.heap.get? b = some o → h'.get? b = some o) → Pres pr pr s.heap h' → Q none { s with heap := h', toks := tk }) → wpAny (model prog w) A (pyNext (.ref I)) Q E s
  self : ∀ (pr : Addr → Prop) i (s : Shared) (Q : Value → Shared → Prop) (E : Value → Shared → Prop), St pr i s.heap → Q (.ref I) s → wpAny (model prog w) A (pyIter (.ref I)) Q E s
theorem Itr.toC {A : Around} {target : Expr} {I : Addr} {fp wr : List Addr} {ds : List PyData} {St : (Addr → Prop) → Nat → Heap → Prop} (W : Itr prog w A I fp wr ds St) : ItrC prog w A target I fp wr ds St where
  sub := W.sub
  prm := W.prm
  frame := W.frame
  item := fun pr i d s Q E hd st hq => W.item pr i d s Q E hd st fun v h' tk hv st' hk hp => hq v h' tk hv hk hp fun Q' E' hq' => W.own pr i target v { s with heap := h', toks := tk } Q' E' st' fun h₂ st₂ hk₂ hp₂ => hq' h₂ st₂ hk₂ hp₂
  done := W.done
  self := W.self
structure ItC (prog : Program) (w : World) (sT : Shared) (n : Nat) (pr : Addr → Prop) (s : Shared) (env : Env) (target e : Expr) (ds : List PyData) : Prop where
  run : ∀ s₁, Keeps s s₁ → ∀ (A : Around) (Q : Value → Shared → Prop) (E : Value → Shared → Prop), Room n A → Ok sT pr s₁ →
    (∀ I s' fp wr St, Keeps s₁ s' → ItrC prog w A target I fp wr ds St → St pr 0 s'.heap → (∀ b ∈ fp, ∃ o, s'.heap.get? b = some o ∧ (∀ es ep, o.data ≠ .dict es ep) ∧ ∀ v, o.data ≠ .cell v) → (∀ b ∈ wr, s₁.heap.get? b = none) → Q (.ref I) s') →
      wpAny (model prog w) A (eval e env) (fun x s₂ => wpAny (model prog w) A (pyIter x) Q E s₂) E s₁
theorem It.toC {target e : Expr} {ds : List PyData} (h : It prog w sT n pr s env e ds) : ItC prog w sT n pr s env target e ds :=
  ⟨fun s₁ k A Q E rm ok hq => h.run s₁ k A Q E rm ok fun I s' fp wr St k' W st hfp hwr => hq I s' fp wr St k' W.toC st hfp hwr⟩

theorem none_of_size {h : Heap} {a : Addr} (hs : h.objs.size ≤ a) : h.get? a = none := by
  cases e : h.get? a with
  | none => rfl
  | some o => exact absurd (Heap.lt_size e) (Nat.not_lt.mpr hs)
theorem none_of_keeps {s s' : Shared} {a : Addr} (k : Keeps s s') (h : s'.heap.get? a = none) : s.heap.get? a = none := by
  cases e : s.heap.get? a with
  | none => rfl
  | some o => rw [keeps_heap k _ _ e] at h; cases h

theorem it_list {e : Expr} {ds : List PyData} (he : Ev prog w sT n pr s env e (.list ds)) : It prog w sT n pr s env e ds := by
  refine ⟨fun s₁ k A Q E rm ok hq => ?_⟩
  refine he.run s₁ k A _ E rm ok fun v s₂ k₂ r₂ => ?_
  obtain ⟨a, vs, rfl, _, hl, hr⟩ := r₂.list_inv
  obtain ⟨m, ha⟩ := id hl
  have hlt := Heap.lt_size ha
  refine wpAny_pyIter_list hl.isList (hq _ _ _ _ _ (keeps_trans k₂ keeps_push) (itr_list rm.handled (Nat.ne_of_lt hlt) hr.length) ⟨⟨⟨_, Heap.get?_push_size _ rfl, rfl, rfl⟩, hl.isList.push _⟩, hr.keeps fun _ _ e => Heap.get?_push_of_some _ e⟩ ?_ ?_)
  · intro b hb
    simp only [List.mem_cons, List.not_mem_nil, or_false] at hb
    rcases hb with rfl | rfl
    · exact ⟨_, Heap.get?_push_size _ rfl, (fun _ _ e => nomatch e), (fun _ e => nomatch e)⟩
    · exact ⟨_, Heap.get?_push_of_some _ ha, (fun _ _ e => nomatch e), (fun _ e => nomatch e)⟩
  · intro b hb
    rw [List.mem_singleton] at hb
    subst hb
    exact none_of_keeps k₂ (none_of_size (Nat.le_refl _))
theorem it_tuple {e : Expr} {ds : List PyData} (he : Ev prog w sT n pr s env e (.tuple ds)) : It prog w sT n pr s env e ds := by
  refine ⟨fun s₁ k A Q E rm ok hq => ?_⟩
  refine he.run s₁ k A _ E rm ok fun v s₂ k₂ r₂ => ?_
  obtain ⟨a, vs, rfl, hl, hr⟩ := r₂.tuple_inv
  obtain ⟨m, ha⟩ := id hl
  have hlt := Heap.lt_size ha
  refine wpAny_pyIter_tuple hl.isTuple (hq _ _ _ _ _ (keeps_trans k₂ keeps_push) (itr_tuple rm.handled (Nat.ne_of_lt hlt) hr.length) ⟨⟨⟨_, Heap.get?_push_size _ rfl, rfl, rfl⟩, hl.isTuple.push _⟩, hr.keeps fun _ _ e => Heap.get?_push_of_some _ e⟩ ?_ ?_)
  · intro b hb
    simp only [List.mem_cons, List.not_mem_nil, or_false] at hb
    rcases hb with rfl | rfl
    · exact ⟨_, Heap.get?_push_size _ rfl, (fun _ _ e => nomatch e), (fun _ e => nomatch e)⟩
    · exact ⟨_, Heap.get?_push_of_some _ ha, (fun _ _ e => nomatch e), (fun _ e => nomatch e)⟩
  · intro b hb
    rw [List.mem_singleton] at hb
    subst hb
    exact none_of_keeps k₂ (none_of_size (Nat.le_refl _))
theorem it_range {mg mb : Str → Option Value} {p pos : Pos} {e : Expr} {k : Nat} (G : Gl mg mb sT) (hE : En env) (hx : env.kindOf "range" = some .globalImplicit) (hm : mg "range" = none) (hf : mb "range" = some (.type "range"))
    (he : Ev prog w sT n pr s env e (.int k)) (hk : k < 2 ^ 60)
    (hst : starEach [e] env = [(false, eval e env)] := by rfl) : It prog w sT n pr s env (.Call (.Name "range" p) [e] [] pos) ((List.range k).map fun i => .int (i : Nat)) := by
  refine ⟨fun s₁ k₁ A Q E rm ok hq => ?_⟩
  refine Call_ (load_builtin G hE hx hm hf ok.base ?_)
  refine PyProof.Rows.callWith_type1 ?_ hst
  refine args_cons (he.run s₁ k₁ A _ E rm ok fun v s₂ k₂ r₂ => args_nil ?_) hst
  obtain ⟨t, rfl⟩ := r₂.int_inv
  refine call_range_1 ?_
  have hsz : Builtin.Range.rangeSize 0 k 1 = (k : Int) := by rw [rangeSize_nat]; omega
  refine wpAny_pyIter_range (IsRange.new ..) (small_one (by omega) (by omega) (by omega) (by omega)) (hq _ _ _ _ _ (keeps_trans k₂ ⟨_, _, rfl, fun _ _ e => Heap.get?_push_of_some _ (Heap.get?_push_of_some _ e)⟩) (itr_range rm.handled) ?_ ?_ ?_)
  · rw [hsz]
    have := Heap.get?_push_size (s₂.heap.push { cls := .type "range", data := .fields #[.int 0 s₂.toks, .int k t, .int 1 (s₂.toks + 1)] }) (o := { cls := .type "range_iterator", data := .fields #[rawInt 0, rawInt k, rawInt 1] }) rfl
    simpa using this
  · intro b hb
    rw [List.mem_singleton] at hb
    subst hb
    exact ⟨_, Heap.get?_push_size _ rfl, (fun _ _ e => nomatch e), (fun _ e => nomatch e)⟩
  · intro b hb
    rw [List.mem_singleton] at hb
    subst hb
    refine none_of_keeps k₂ (none_of_size ?_)
    rw [Heap.size_push]
    exact Nat.le_succ _
end Mine
end

/-! F5 -/
section
open PySem PySem.W PyProof.Rows
set_option Elab.async false
namespace Mine
variable {prog : Program} {w : World} {sT : Shared} {n : Nat} {pr : Addr → Prop} {s : Shared} {env : Env}

/-- a step that may change the objects at own -/
def Moves (own : List Addr) (s s' : Shared) : Prop := ∃ h' tk, s' = { s with heap := h', toks := tk } ∧ ∀ b o, b ∉ own → s.heap.get? b = some o → h'.get? b = some o
theorem Moves.of_keeps {own : List Addr} {s s' : Shared} (k : Keeps s s') : Moves own s s' := let ⟨h, t, e, k⟩ := k; ⟨h, t, e, fun b o _ => k b o⟩
theorem Moves.trans {own : List Addr} {a b c : Shared} (x : Moves own a b) (y : Moves own b c) : Moves own a c := by
  obtain ⟨h1, t1, rfl, k1⟩ := x
  obtain ⟨h2, t2, rfl, k2⟩ := y
  exact ⟨h2, t2, rfl, fun b o hb e => k2 b o hb (k1 b o hb e)⟩
theorem Moves.heap {own : List Addr} {s s' : Shared} (x : Moves own s s') : ∀ b o, b ∉ own → s.heap.get? b = some o → s'.heap.get? b = some o := by
  obtain ⟨h1, t1, rfl, k1⟩ := x
  exact k1
/-- what stood before the own objects were made is kept -/
theorem Moves.keeps {own : List Addr} {s₀ s s' : Shared} (k : Keeps s₀ s) (m : Moves own s s') (hn : ∀ b ∈ own, s₀.heap.get? b = none) : Keeps s₀ s' := by
  obtain ⟨h1, t1, rfl, k1⟩ := k
  obtain ⟨h2, t2, rfl, k2⟩ := m
  refine ⟨h2, t2, rfl, fun b o e => k2 b o (fun hb => ?_) (k1 b o e)⟩
  rw [hn b hb] at e; cases e

/-- the frame's own objects: its names, its cells -/
structure MF (env : Env) (cs : List Addr) (h : Heap) : Prop where
  ns : ∃ m, h.Ns env.locals m
  cell : ∀ c ∈ cs, ∃ v, h.IsCell c v
  apart : env.locals ∉ cs
abbrev ownOf (env : Env) (cs : List Addr) : List Addr := env.locals :: cs

theorem MF.noSeq {cs : List Addr} {h : Heap} (f : MF env cs h) : ∀ b ∈ ownOf env cs, ∀ o, h.get? b = some o → ∀ vs n, o.data ≠ .seq vs n := by
  intro b hb o ho vs n hd
  rcases List.mem_cons.mp hb with rfl | hb
  · obtain ⟨m, o', es, ep, e, hd', _⟩ := f.ns
    rw [e] at ho; cases ho; rw [hd'] at hd; cases hd
  · obtain ⟨v, o', e, hd'⟩ := f.cell b hb
    rw [e] at ho; cases ho; rw [hd'] at hd; cases hd
theorem MF.pres {cs : List Addr} {s s' : Shared} (f : MF env cs s.heap) (m : Moves (ownOf env cs) s s') : Pres pr pr s.heap s'.heap := pres_of m.heap f.noSeq
theorem MF.keeps {cs : List Addr} {h h' : Heap} (f : MF env cs h) (k : ∀ b o, h.get? b = some o → h'.get? b = some o) : MF env cs h' :=
  ⟨let ⟨m, e⟩ := f.ns; ⟨m, e.keeps k⟩, fun c hc => let ⟨v, e⟩ := f.cell c hc; ⟨v, e.keeps k⟩, f.apart⟩
theorem MF.off {cs wr : List Addr} {h h' : Heap} (f : MF env cs h) (k : ∀ b o, b ∉ wr → h.get? b = some o → h'.get? b = some o) (hw : ∀ b ∈ ownOf env cs, b ∉ wr) : MF env cs h' := by
  refine ⟨?_, fun c hc => ?_, f.apart⟩
  · obtain ⟨m, o, es, ep, e, r⟩ := f.ns
    exact ⟨m, o, es, ep, k _ _ (hw _ List.mem_cons_self) e, r⟩
  · obtain ⟨v, o, e, r⟩ := f.cell c hc
    exact ⟨v, o, k _ _ (hw _ (List.mem_cons_of_mem _ hc)) e, r⟩

/-- an assignment to a target -/
structure Asg (prog : Program) (w : World) (n : Nat) (pr : Addr → Prop) (env : Env) (cs : List Addr) (target : Expr) (d : PyData) (V : Shared → Prop) : Prop where
  run : ∀ (s : Shared) (A : Around) (Q : Unit → Shared → Prop) (E : Value → Shared → Prop) (v : Value), Room n A → MF env cs s.heap → Rep pr s.heap v d →
    (∀ s', Moves (ownOf env cs) s s' → MF env cs s'.heap → V s' → Q () s') → wpAny (model prog w) A (assign target env v) Q E s

theorem fn_kind {env : Env} (hE : env.scope.kind = .function) : (env.scope.kind == .class || (env.scope.kind == .module && env.locals != env.globals)) = false := by rw [hE]; rfl

theorem moves_sameBut {own : List Addr} {s : Shared} {h' : Heap} {a : Addr} {tk : Nat} (ha : a ∈ own) (hs : Heap.SameBut a s.heap h') : Moves own s { s with heap := h', toks := tk } :=
  ⟨h', tk, rfl, fun b o hb e => hs.extBut b o (fun q => hb (q ▸ ha)) e⟩

theorem asg_loc {cs : List Addr} {x : Str} {pos : Pos} {d : PyData} (hE : env.scope.kind = .function) (hx : env.kindOf x = some .local) : Asg prog w n pr env cs (.Name x pos) d (fun s' => Var pr s' env x d) := by
  refine ⟨fun s A Q E v rm mf r hq => ?_⟩
  obtain ⟨m, hn⟩ := mf.ns
  refine wpAny_assign_Name (wpAny_storeName_local hx hn (fun h' hn' hs' => ?_) (fn_kind hE))
  have mv : Moves (ownOf env cs) s { s with heap := h', toks := s.toks + 1 } := moves_sameBut List.mem_cons_self hs'
  refine hq _ mv ⟨⟨_, hn'⟩, fun c hc => ?_, mf.apart⟩ ⟨v, .loc _ hE hx hn' (by simp), r.mono (mf.pres mv)⟩
  obtain ⟨u, e⟩ := mf.cell c hc
  exact ⟨u, e.sameBut hs' fun q => mf.apart (q ▸ hc)⟩

theorem asg_cell {cs : List Addr} {x : Str} {pos : Pos} {c : Addr} {d : PyData} (hE : env.scope.kind = .function) (hx : env.kindOf x = some .cell) (hc : env.cells.lookup x = some c) (hcs : c ∈ cs)
    (hd : (x == ("__classdict__" : Str)) = false := by decide) : Asg prog w n pr env cs (.Name x pos) d (fun s' => Var pr s' env x d) := by
  refine ⟨fun s A Q E v rm mf r hq => ?_⟩
  obtain ⟨u, hu⟩ := mf.cell c hcs
  refine wpAny_assign_Name (wpAny_storeName_cell hE hx hc hu fun h' hv hs' => ?_)
  have mv : Moves (ownOf env cs) s { s with heap := h' } := ⟨h', s.toks, rfl, fun b o hb e => hs'.extBut b o (fun q => hb (q ▸ List.mem_cons_of_mem _ hcs)) e⟩
  refine hq _ mv ⟨?_, fun c' hc' => ?_, mf.apart⟩ ⟨v, .cel c hE (.inl hx) hd hc hv, r.mono (mf.pres mv)⟩
  · obtain ⟨m, hn⟩ := mf.ns
    exact ⟨m, hn.sameBut hs' fun q => mf.apart (q ▸ hcs)⟩
  · by_cases q : c' = c
    · exact q ▸ ⟨_, hv⟩
    · obtain ⟨u', e'⟩ := mf.cell c' hc'
      exact ⟨u', e'.sameBut hs' q⟩

theorem asg_tup2 {cs : List Addr} {x y : Str} {px py pos : Pos} {k : Nat} {d₁ d₂ : PyData} (hE : env.scope.kind = .function) (hx : env.kindOf x = some .local) (hy : env.kindOf y = some .local) (hxy : x ≠ y) :
    Asg prog w n pr env cs (.Tuple [.Name x px, .Name y py] k pos) (.tuple [d₁, d₂]) (fun s' => Var pr s' env x d₁ ∧ Var pr s' env y d₂) := by
  refine ⟨fun s A Q E v rm mf r hq => ?_⟩
  obtain ⟨a, vs, rfl, ht, hr⟩ := r.tuple_inv
  cases hr with
  | cons r₁ hr =>
  cases hr with
  | cons r₂ hr =>
  cases hr
  rename_i v₁ v₂
  refine wpAny_assign_Tuple rm.handled ht.isTuple rfl rfl fun h₀ he₀ => ?_
  have k₀ : ∀ b o, s.heap.get? b = some o → h₀.get? b = some o := fun b o e => he₀ b o (Nat.ne_of_lt (Heap.lt_size e)) e
  obtain ⟨m, hn⟩ := (mf.keeps k₀).ns
  show wpAny _ _ (do holding [v₂] (assign (.Name x px) env v₁); assignInOrder [assign (.Name y py) env] [v₂]) _ _ _
  refine wpAny_bind (wpAny_holding (wpAny_assign_Name (wpAny_storeName_local hx hn (fun h₁ hn₁ hs₁ => ?_) (fn_kind hE))))
  show wpAny _ _ (do holding [] (assign (.Name y py) env v₂); assignInOrder [] []) _ _ _
  refine wpAny_bind (wpAny_holding (wpAny_assign_Name (wpAny_storeName_local hy hn₁ (fun h₂ hn₂ hs₂ => wpAny_pure ?_) (fn_kind hE))))
  have mv : Moves (ownOf env cs) s { s with heap := h₂, toks := s.toks + 1 + 1 } :=
    ⟨h₂, _, rfl, fun b o hb e => hs₂.extBut b o (fun q => hb (q ▸ List.mem_cons_self)) (hs₁.extBut b o (fun q => hb (q ▸ List.mem_cons_self)) (k₀ b o e))⟩
  refine hq _ mv ⟨⟨_, hn₂⟩, fun c hc => ?_, mf.apart⟩ ⟨⟨v₁, .loc _ hE hx hn₂ (by simp [hxy]), r₁.mono (mf.pres mv)⟩, ⟨v₂, .loc _ hE hy hn₂ (by simp), r₂.mono (mf.pres mv)⟩⟩
  obtain ⟨u, e⟩ := mf.cell c hc
  exact ⟨u, ((e.keeps k₀).sameBut hs₁ fun q => mf.apart (q ▸ hc)).sameBut hs₂ fun q => mf.apart (q ▸ hc)⟩

theorem asg_tup3 {cs : List Addr} {x y z : Str} {px py pz pos : Pos} {k : Nat} {d₁ d₂ d₃ : PyData} (hE : env.scope.kind = .function) (hx : env.kindOf x = some .local) (hy : env.kindOf y = some .local) (hz : env.kindOf z = some .local)
    (hxy : x ≠ y) (hxz : x ≠ z) (hyz : y ≠ z) :
    Asg prog w n pr env cs (.Tuple [.Name x px, .Name y py, .Name z pz] k pos) (.tuple [d₁, d₂, d₃]) (fun s' => Var pr s' env x d₁ ∧ Var pr s' env y d₂ ∧ Var pr s' env z d₃) := by
  refine ⟨fun s A Q E v rm mf r hq => ?_⟩
  obtain ⟨a, vs, rfl, ht, hr⟩ := r.tuple_inv
  cases hr with
  | cons r₁ hr =>
  cases hr with
  | cons r₂ hr =>
  cases hr with
  | cons r₃ hr =>
  cases hr
  rename_i v₁ v₂ v₃
  refine wpAny_assign_Tuple rm.handled ht.isTuple rfl rfl fun h₀ he₀ => ?_
  have k₀ : ∀ b o, s.heap.get? b = some o → h₀.get? b = some o := fun b o e => he₀ b o (Nat.ne_of_lt (Heap.lt_size e)) e
  obtain ⟨m, hn⟩ := (mf.keeps k₀).ns
  show wpAny _ _ (do holding [v₂, v₃] (assign (.Name x px) env v₁); assignInOrder [assign (.Name y py) env, assign (.Name z pz) env] [v₂, v₃]) _ _ _
  refine wpAny_bind (wpAny_holding (wpAny_assign_Name (wpAny_storeName_local hx hn (fun h₁ hn₁ hs₁ => ?_) (fn_kind hE))))
  show wpAny _ _ (do holding [v₃] (assign (.Name y py) env v₂); assignInOrder [assign (.Name z pz) env] [v₃]) _ _ _
  refine wpAny_bind (wpAny_holding (wpAny_assign_Name (wpAny_storeName_local hy hn₁ (fun h₂ hn₂ hs₂ => ?_) (fn_kind hE))))
  show wpAny _ _ (do holding [] (assign (.Name z pz) env v₃); assignInOrder [] []) _ _ _
  refine wpAny_bind (wpAny_holding (wpAny_assign_Name (wpAny_storeName_local hz hn₂ (fun h₃ hn₃ hs₃ => wpAny_pure ?_) (fn_kind hE))))
  have mv : Moves (ownOf env cs) s { s with heap := h₃, toks := s.toks + 1 + 1 + 1 } :=
    ⟨h₃, _, rfl, fun b o hb e => hs₃.extBut b o (fun q => hb (q ▸ List.mem_cons_self)) (hs₂.extBut b o (fun q => hb (q ▸ List.mem_cons_self)) (hs₁.extBut b o (fun q => hb (q ▸ List.mem_cons_self)) (k₀ b o e)))⟩
  refine hq _ mv ⟨⟨_, hn₃⟩, fun c hc => ?_, mf.apart⟩ ⟨⟨v₁, .loc _ hE hx hn₃ (by simp [hxy, hxz]), r₁.mono (mf.pres mv)⟩, ⟨v₂, .loc _ hE hy hn₃ (by simp [hyz]), r₂.mono (mf.pres mv)⟩, ⟨v₃, .loc _ hE hz hn₃ (by simp), r₃.mono (mf.pres mv)⟩⟩
  obtain ⟨u, e⟩ := mf.cell c hc
  exact ⟨u, (((e.keeps k₀).sameBut hs₁ fun q => mf.apart (q ▸ hc)).sameBut hs₂ fun q => mf.apart (q ▸ hc)).sameBut hs₃ fun q => mf.apart (q ▸ hc)⟩

/-- the closure of a comprehension's block -/
theorem closure_ok {scope : Scope} (h : ∀ x ∈ scope.names, x.2 = .free → ∃ c, env.cells.lookup x.1 = some c) :
    ∃ cl, closureFor scope env = pure cl ∧ ∀ x ∈ scope.names, x.2 = .free → cl.lookup x.1 = env.cells.lookup x.1 := by
  have key : ∀ (names : List (Str × NameKind)) (acc : List (Str × Addr)), (∀ x ∈ names, x.2 = .free → ∃ c, env.cells.lookup x.1 = some c) → (∀ y c, acc.lookup y = some c → env.cells.lookup y = some c) →
      ∃ cl, (forIn names acc fun (x : Str × NameKind) cs => match x with | (name, kind) => if kind == .free then (do let __do_lift ← cellOf env name; pure (ForInStep.yield ((name, __do_lift) :: cs))) else pure (ForInStep.yield cs) : Sem (List (Str × Addr))) = pure cl ∧
        (∀ y c, cl.lookup y = some c → env.cells.lookup y = some c) ∧ (∀ y, (acc.lookup y).isSome → (cl.lookup y).isSome) ∧ ∀ x ∈ names, x.2 = .free → (cl.lookup x.1).isSome := by
    intro names
    induction names with
    | nil => intro acc _ ha; exact ⟨acc, by rw [List.forIn_nil], ha, fun _ h => h, fun _ h => nomatch h⟩
    | cons x r ih =>
      intro acc hx ha
      obtain ⟨name, kind⟩ := x
      by_cases hk : kind = .free
      · subst hk
        obtain ⟨c, hc⟩ := hx (name, .free) List.mem_cons_self rfl
        obtain ⟨cl, e, h1, h2, h3⟩ := ih ((name, c) :: acc) (fun x hx' => hx x (List.mem_cons_of_mem _ hx')) (fun y c' hy => by
          rw [List.lookup_cons] at hy
          cases hb : y == name with
          | true => rw [hb] at hy; cases hy; rw [beq_iff_eq.mp hb]; exact hc
          | false => rw [hb] at hy; exact ha y c' hy)
        refine ⟨cl, ?_, h1, fun y hy => h2 y ?_, fun x hx' hf => ?_⟩
        · have hcell : cellOf env name = pure c := by
            unfold cellOf
            rw [show env.cells.lookup name = some c from hc]
          rw [List.forIn_cons, ← e]
          dsimp only
          rw [if_pos (by rfl), hcell]
          rfl
        · rw [List.lookup_cons]; split <;> simp_all
        · rcases List.mem_cons.mp hx' with rfl | hx'
          · exact h2 _ (by simp)
          · exact h3 x hx' hf
      · obtain ⟨cl, e, h1, h2, h3⟩ := ih acc (fun x hx' => hx x (List.mem_cons_of_mem _ hx')) ha
        have hb : (kind == NameKind.free) = false := by simpa using hk
        refine ⟨cl, ?_, h1, h2, fun x hx' hf => ?_⟩
        · rw [List.forIn_cons]
          dsimp only
          rw [hb, if_neg Bool.false_ne_true]
          exact e
        · rcases List.mem_cons.mp hx' with rfl | hx'
          · exact absurd hf hk
          · exact h3 x hx' hf
  obtain ⟨cl, e, h1, _, h3⟩ := key scope.names [] h (fun _ _ h => by simp at h)
  refine ⟨cl, ?_, fun x hx hf => ?_⟩
  · unfold closureFor
    show (forIn scope.names [] _ >>= fun cs => pure cs) = _
    rw [← e]
    first
      | rfl
      | (rw [e]; rfl)
  · obtain ⟨c, hc⟩ := Option.isSome_iff_exists.mp (h3 x hx hf)
    rw [hc, h1 _ _ hc]
end Mine
end

/-! F6 -/
section
open PySem PySem.W PyProof.Rows
set_option Elab.async false
namespace Mine
variable {prog : Program} {w : World} {sT : Shared} {n : Nat} {pr : Addr → Prop} {s : Shared} {env : Env}

/-- a name bound through a cell -/
def VarC (pr : Addr → Prop) (s : Shared) (env : Env) (x : Str) (d : PyData) : Prop :=
  ∃ c v, env.scope.kind = .function ∧ (env.kindOf x = some .cell ∨ env.kindOf x = some .free) ∧ (x == ("__classdict__" : Str)) = false ∧ env.cells.lookup x = some c ∧ s.heap.IsCell c (some v) ∧ Rep pr s.heap v d
theorem VarC.var {x : Str} {d : PyData} (h : VarC pr s env x d) : Var pr s env x d :=
  let ⟨c, v, h1, h2, h3, h4, h5, h6⟩ := h; ⟨v, .cel c h1 h2 h3 h4 h5, h6⟩
theorem VarC.keeps {s' : Shared} {x : Str} {d : PyData} (h : VarC pr s env x d) (k : Keeps s s') : VarC pr s' env x d :=
  let ⟨c, v, h1, h2, h3, h4, h5, h6⟩ := h; ⟨c, v, h1, h2, h3, h4, h5.keeps (keeps_heap k), h6.keeps (keeps_heap k)⟩

def cEnv (scope : Scope) (env : Env) (cl : List (Str × Addr)) (C : Addr) : Env :=
  { newEnv scope C env.globals (cellsFrom (C + 1) scope.names cl) env.qual none .none (some env) builtinsNs with scope := relabel scope env }
def csOf : Nat → List (Str × NameKind) → List Addr
  | _, [] => []
  | k, (_, kind) :: r => if kind == .cell then k :: csOf (k + 1) r else csOf k r

structure CEn (scope : Scope) (env cenv : Env) (cs : List Addr) : Prop where
  ex : ∃ cl C, cenv = cEnv scope env cl C ∧ cs = csOf (C + 1) scope.names
  free : ∀ x ∈ scope.names, x.2 = .free → cenv.cells.lookup x.1 = env.cells.lookup x.1

theorem relabel_lookup {scope : Scope} {env : Env} {x : Str} {k : NameKind} (h : scope.names.lookup x = some k) :
    (relabel scope env).names.lookup x = some k ∨ (k = .free ∧ (relabel scope env).names.lookup x = some .cell) := by
  unfold relabel
  dsimp only
  generalize scope.names = names at h
  induction names with
  | nil => simp at h
  | cons p r ih =>
    obtain ⟨nm, kd⟩ := p
    rw [List.map_cons]
    rw [List.lookup_cons] at h
    by_cases hc : (kd == NameKind.free && env.scope.kind == .function && env.kindOf nm == some .cell) = true
    · rw [if_pos hc, List.lookup_cons]
      cases hx : x == nm with
      | true =>
        rw [hx] at h
        cases h
        simp only [Bool.and_eq_true, beq_iff_eq] at hc
        exact .inr ⟨hc.1.1, rfl⟩
      | false => rw [hx] at h; exact ih h
    · rw [if_neg hc, List.lookup_cons]
      cases hx : x == nm with
      | true => rw [hx] at h; cases h; exact .inl rfl
      | false => rw [hx] at h; exact ih h

namespace CEn
variable {scope : Scope} {cenv : Env} {cs : List Addr}
theorem scope_eq (h : CEn scope env cenv cs) : cenv.scope = relabel scope env := by obtain ⟨⟨cl, C, rfl, _⟩, _⟩ := h; rfl
theorem en (h : CEn scope env cenv cs) (hE : En env) (hk : scope.kind = .function) : En cenv := by
  obtain ⟨⟨cl, C, rfl, _⟩, _⟩ := h
  exact ⟨hk, hE.glob, hE.bui⟩
theorem loc (h : CEn scope env cenv cs) {x : Str} (hx : scope.names.lookup x = some .local) : cenv.kindOf x = some .local := by
  unfold Env.kindOf
  rw [h.scope_eq]
  rcases relabel_lookup (env := env) hx with e | ⟨e, _⟩
  · exact e
  · cases e
theorem glob (h : CEn scope env cenv cs) {x : Str} (hx : scope.names.lookup x = some .globalImplicit) : cenv.kindOf x = some .globalImplicit := by
  unfold Env.kindOf
  rw [h.scope_eq]
  rcases relabel_lookup (env := env) hx with e | ⟨e, _⟩
  · exact e
  · cases e
theorem cell (h : CEn scope env cenv cs) {x : Str} (hx : scope.names.lookup x = some .cell) : cenv.kindOf x = some .cell := by
  unfold Env.kindOf
  rw [h.scope_eq]
  rcases relabel_lookup (env := env) hx with e | ⟨e, _⟩
  · exact e
  · cases e
theorem inherit (h : CEn scope env cenv cs) {pr' : Addr → Prop} {s' : Shared} {x : Str} {d : PyData} (hk : scope.kind = .function) (hx : scope.names.lookup x = some .free) (hv : VarC pr s env x d) (k : Keeps s s') (hp : Pres pr pr' s.heap s'.heap) : VarC pr' s' cenv x d := by
  obtain ⟨c, v, _, _, h3, h4, h5, h6⟩ := hv
  refine ⟨c, v, ?_, ?_, h3, ?_, h5.keeps (keeps_heap k), h6.mono hp⟩
  · rw [h.scope_eq]; exact hk
  · unfold Env.kindOf
    rw [h.scope_eq]
    rcases relabel_lookup (env := env) hx with e | ⟨_, e⟩
    · exact .inr e
    · exact .inl e
  · rw [← h4]; exact h.free (x, .free) (mem_of_lookup hx) rfl
end CEn

/-- making the block's environment -/
theorem newCompEnv {M : Model} {A : Around} {E : Value → Shared → Prop} {scope : Scope} {cl : List (Str × Addr)} {Q : Env → Shared → Prop}
    (h : Q (newEnv scope s.heap.objs.size env.globals (cellsFrom (s.heap.objs.size + 1) scope.names cl) env.qual none .none (some env) builtinsNs) { s with heap := pushCells (s.heap.push { cls := .type "dict", data := .dict #[] }) scope.names }) :
    wpAny M A (newFunctionEnv scope env.globals cl [] env.qual none .none (some env)) Q E s := by
  simp only [newFunctionEnv, Option.isSome_some, if_true]
  refine wpAny_bind (wpAny_alloc ?_)
  refine wpAny_bind (wpAny_layCells _ (fun name kind cells => by cases hkc : kind == NameKind.cell <;> simp) _ _ _ _ ?_)
  rw [show ({ s with heap := s.heap.push { cls := .type "dict", data := .dict #[] } } : Shared).heap.objs.size = s.heap.objs.size + 1 from Heap.size_push ..]
  refine wpAny_bind ?_
  rw [List.forIn_nil]
  exact wpAny_pure (wpAny_pure h)

theorem csOf_cells : ∀ (names : List (Str × NameKind)) (h : Heap), (∀ c ∈ csOf h.objs.size names, (pushCells h names).IsCell c none) ∧ ∀ c ∈ csOf h.objs.size names, h.objs.size ≤ c
  | [], _ => ⟨(fun _ h => nomatch h), (fun _ h => nomatch h)⟩
  | (nm, kd) :: r, h => by
    unfold csOf pushCells
    split
    · have ih := csOf_cells r (h.push { cls := .type "cell", data := .cell none })
      rw [Heap.size_push] at ih
      refine ⟨fun c hc => ?_, fun c hc => ?_⟩
      · rcases List.mem_cons.mp hc with rfl | hc
        · exact ⟨_, pushCells_keeps r _ _ _ (Heap.get?_push_size _ rfl), rfl⟩
        · exact ih.1 c hc
      · rcases List.mem_cons.mp hc with rfl | hc
        · exact Nat.le_refl _
        · exact Nat.le_of_succ_le (ih.2 c hc)
    · exact csOf_cells r h

theorem cellsFrom_lookup : ∀ (names : List (Str × NameKind)) (k : Nat) (acc : List (Str × Addr)) (x : Str), (∀ p ∈ names, p.2 = .cell → p.1 ≠ x) → (cellsFrom k names acc).lookup x = acc.lookup x
  | [], _, _, _, _ => rfl
  | (nm, kd) :: r, k, acc, x, h => by
    unfold cellsFrom
    have hr : ∀ p ∈ r, p.2 = .cell → p.1 ≠ x := fun p hp => h p (List.mem_cons_of_mem _ hp)
    split
    · rename_i hk
      rw [cellsFrom_lookup r _ _ x hr, List.lookup_cons]
      have : x ≠ nm := fun e => h (nm, kd) List.mem_cons_self (by simpa using hk) e.symm
      rw [show (x == nm) = false from beq_eq_false_iff_ne.mpr this]
    · exact cellsFrom_lookup r _ _ x hr

theorem newC {scope : Scope} {cl : List (Str × Addr)} (hcl : ∀ x ∈ scope.names, x.2 = .free → cl.lookup x.1 = env.cells.lookup x.1) (hd : ∀ p ∈ scope.names, ∀ q ∈ scope.names, p.2 = .free → q.2 = .cell → q.1 ≠ p.1) :
    ∀ h : Heap, CEn scope env (cEnv scope env cl h.objs.size) (csOf (h.objs.size + 1) scope.names) ∧ MF (cEnv scope env cl h.objs.size) (csOf (h.objs.size + 1) scope.names) (pushCells (h.push { cls := .type "dict", data := .dict #[] }) scope.names) ∧
      (∀ b o, h.get? b = some o → (pushCells (h.push { cls := .type "dict", data := .dict #[] }) scope.names).get? b = some o) ∧ (∀ b ∈ ownOf (cEnv scope env cl h.objs.size) (csOf (h.objs.size + 1) scope.names), h.objs.size ≤ b) := by
  intro h
  have hc := csOf_cells scope.names (h.push { cls := .type "dict", data := .dict #[] })
  rw [Heap.size_push] at hc
  refine ⟨⟨⟨cl, _, rfl, rfl⟩, fun x hx hf => ?_⟩, ⟨⟨_, (Heap.Ns.new h (.type "dict")).keeps (pushCells_keeps _ _)⟩, fun c hm => ⟨_, hc.1 c hm⟩, fun hm => ?_⟩, fun b o e => pushCells_keeps _ _ b o (Heap.get?_push_of_some _ e), fun b hb => ?_⟩
  · show (cellsFrom (h.objs.size + 1) scope.names cl).lookup x.1 = _
    rw [cellsFrom_lookup _ _ _ _ fun p hp hk => hd x hx p hp hf hk, hcl x hx hf]
  · exact Nat.not_succ_le_self _ (hc.2 _ hm)
  · rcases List.mem_cons.mp hb with rfl | hb
    · exact Nat.le_refl _
    · exact Nat.le_of_succ_le (hc.2 b hb)

/-- the tests of a clause -/
structure TsL (prog : Program) (w : World) (sT : Shared) (n : Nat) (pr : Addr → Prop) (s : Shared) (env : Env) (ifs : List Expr) (b : Bool) : Prop where
  run : ∀ s₁, Keeps s s₁ → ∀ (A : Around) (Q : Bool → Shared → Prop) (E : Value → Shared → Prop), Room n A → Ok sT pr s₁ → (∀ s', Keeps s₁ s' → Q b s') →
    wpAny (model prog w) A (forIn ifs true fun c r => if r = true then do let ok ← isTrue c env (eval c env); pure (ForInStep.yield ok) else pure (ForInStep.yield r)) Q E s₁
theorem tsl_nil : TsL prog w sT n pr s env [] true := ⟨fun s₁ _ _ _ _ _ _ hq => wpAny_tests_nil (hq s₁ (keeps_refl _))⟩
theorem tsl_one {c : Expr} {b : Bool} (h : Ts prog w sT n pr s env c b) : TsL prog w sT n pr s env [c] b := ⟨fun s₁ k A Q E rm ok hq => wpAny_tests_one (h.run s₁ k A Q E rm ok hq)⟩

/-- a turn of a comprehension, its owned tuple let go by a step -/
theorem compLoop_tests {A : Around} {R : Result → Shared → Prop} {elt target iter : Expr} {ifs : List Expr} {scope : Scope} {pos : Pos} {it acc : Value} (I : Nat → Shared → Prop)
    (turn : ∀ n s, I n s → wpAny (model prog w) A (pyNext it) (fun r s₁ => match r with
      | none => R (.ok .next) s₁
      | some v => wpAny (model prog w) A (letOwnedTupleGo target it v) (fun _ s₁ => wpAny (model prog w) A (assign target env v) (fun _ s₂ =>
          wpAny (model prog w) A (forIn ifs true fun c r => if r = true then do let ok ← isTrue c env (eval c env); pure (ForInStep.yield ok) else pure (ForInStep.yield r)) (fun ok s₃ =>
            if ok = true then wpAny (model prog w) A (eval elt env) (fun x s₄ =>
              wpAny (model prog w) A (call (.builtin "list.append") [acc, x]) (fun _ s₅ => ∃ m, m < n ∧ I m s₅) (notedBy (model prog w) A env fun e s' => R (.error e) s') s₄) (notedBy (model prog w) A env fun e s' => R (.error e) s') s₃
            else ∃ m, m < n ∧ I m s₃) (notedBy (model prog w) A env fun e s' => R (.error e) s') s₂) (notedBy (model prog w) A env fun e s' => R (.error e) s') s₁) (notedBy (model prog w) A env fun e s' => R (.error e) s') s₁) (notedBy (model prog w) A env fun e s' => R (.error e) s') s)
    (n : Nat) (h : I n s) :
    codeAny (model prog w) A (.compLoop (.ListComp elt [⟨target, iter, ifs, 0⟩] scope pos) 0 it acc env) R s := by
  refine codeAny_loop rfl I (fun n s hI => ?_) n h
  show wpAny _ A ((compTurn (.ListComp elt [⟨target, iter, ifs, 0⟩] scope pos) 0 it acc env).onRaise (fun x => do noteFrame x env; theTreesLotGoes x)) _ _ s
  refine wpAny_noted ?_
  rw [compTurn_list]
  refine wpAny_bind (wpAny_standAt (wpAny_bind (wpAny_mono (turn n s hI) (fun r s₁ h₁ => ?_) fun _ _ h' => h')))
  cases r with
  | none => exact wpAny_pure h₁
  | some v =>
    refine wpAny_bind (wpAny_mono h₁ (fun _ s₁ h₁ => ?_) fun _ _ h' => h')
    refine wpAny_bind (wpAny_mono h₁ (fun _ s₂ h₂ => wpAny_bind (wpAny_mono h₂ (fun ok s₃ h₃ => ?_) fun _ _ h' => h')) fun _ _ h' => h')
    cases ok with
    | false => exact wpAny_pure ⟨rfl, h₃⟩
    | true =>
      exact wpAny_bind (wpAny_bind (wpAny_mono h₃ (fun x s₄ h₄ => wpAny_bind (wpAny_mono h₄ (fun _ s₅ h₅ => wpAny_pure (wpAny_pure ⟨rfl, h₅⟩)) fun _ _ h' => h')) fun _ _ h' => h'))

/-- the loop over an iterator: what it leaves -/
theorem comp_loop {α : Type} {A : Around} {R : Result → Shared → Prop} {elt target iter : Expr} {ifs : List Expr} {scope : Scope} {pos : Pos} {cenv : Env} {cs : List Addr} {I D : Addr} {fp wr : List Addr} {St : (Addr → Prop) → Nat → Heap → Prop}
    {pr' : Addr → Prop} {s₀ s : Shared} (xs : List α) (inj : α → PyData) (g : α → Option PyData) (V : α → Shared → Prop)
    (W : ItrC prog w A target I fp wr (xs.map inj) St) (rm : Room n A) (k₀ : Keeps s₀ s) (hbase : Keeps sT s₀) (hprD : ∀ a, pr' a → pr a ∨ a = D) (hlive : ∀ a, pr a → ∃ o, s₀.heap.get? a = some o) (hD' : pr' D)
    (mf : MF cenv cs s.heap) (hst : St pr' 0 s.heap) (hacc : s.heap.PlainList D #[])
    (hDf : D ∉ fp) (hDo : D ∉ ownOf cenv cs) (hof : ∀ b ∈ ownOf cenv cs, b ∉ fp) (hnew : ∀ b ∈ D :: (ownOf cenv cs ++ wr), s₀.heap.get? b = none)
    (hasg : ∀ x ∈ xs, Asg prog w n pr' cenv cs target (inj x) (V x))
    (hturn : ∀ x ∈ xs, ∀ s', Keeps s₀ s' → Ok sT pr' s' → V x s' → TsL prog w sT n pr' s' cenv ifs (g x).isSome ∧ ∀ d, g x = some d → Ev prog w sT n pr' s' cenv elt d)
    (hsz : xs.length ≤ sizeLine)
    (hR : ∀ s' ys, Keeps s₀ s' → MF cenv cs s'.heap → s'.heap.PlainList D ys → RepAll pr' s'.heap ys.toList (xs.filterMap g) → R (.ok .next) s') :
    codeAny (model prog w) A (.compLoop (.ListComp elt [⟨target, iter, ifs, 0⟩] scope pos) 0 (.ref I) (.ref D) cenv) R s := by
  have okD : ∀ {s' : Shared} {ys : Array Value}, Keeps s₀ s' → s'.heap.PlainList D ys → Ok sT pr' s' := fun {s' ys} k hd =>
    ⟨keeps_trans hbase k, fun a ha => by
      rcases hprD a ha with h | rfl
      · obtain ⟨o, e⟩ := hlive a h; exact ⟨o, keeps_heap k _ _ e⟩
      · obtain ⟨m, e⟩ := hd; exact ⟨_, e⟩⟩
  refine compLoop_tests
    (fun k s' => ∃ i ys, Keeps s₀ s' ∧ MF cenv cs s'.heap ∧ St pr' i s'.heap ∧ s'.heap.PlainList D ys ∧ RepAll pr' s'.heap ys.toList ((xs.take i).filterMap g) ∧ i ≤ xs.length ∧ k = xs.length + 1 - i) ?_ (xs.length + 1)
    ⟨0, #[], k₀, mf, hst, hacc, .nil, Nat.zero_le _, rfl⟩
  rintro k s' ⟨i, ys, k', mf', hst', hacc', hrep, hi, rfl⟩
  have newD : s₀.heap.get? D = none := hnew D List.mem_cons_self
  have newO : ∀ b ∈ ownOf cenv cs, s₀.heap.get? b = none := fun b hb => hnew b (List.mem_cons_of_mem _ (List.mem_append_left _ hb))
  have newW : ∀ b ∈ wr, s₀.heap.get? b = none := fun b hb => hnew b (List.mem_cons_of_mem _ (List.mem_append_right _ hb))
  have hDw : D ∉ wr := fun h => hDf (W.sub _ h)
  have how : ∀ b ∈ ownOf cenv cs, b ∉ wr := fun b hb h => hof b hb (W.sub _ h)
  by_cases hlt : i < xs.length
  · obtain ⟨x, hx⟩ : ∃ x, xs[i]? = some x := ⟨_, List.getElem?_eq_getElem hlt⟩
    have hxm : x ∈ xs := List.mem_of_getElem? hx
    have hd : (xs.map inj)[i]? = some (inj x) := by rw [List.getElem?_map, hx]; rfl
    refine W.item pr' i _ s' _ _ hd hst' fun v h₁ tk₁ hv hk₁ hp₁ hown₁ => ?_
    have mf₁ : MF cenv cs h₁ := mf'.off hk₁ how
    have k₁ : Keeps s₀ { s' with heap := h₁, toks := tk₁ } := Moves.keeps k' ⟨h₁, tk₁, rfl, hk₁⟩ newW
    have acc₁ : h₁.PlainList D ys := let ⟨m, e⟩ := hacc'; ⟨m, hk₁ _ _ hDw e⟩
    refine hown₁ _ _ fun h₂ hst₂ hk₂ hp₂ => ?_
    have mf₂ : MF cenv cs h₂ := mf₁.off hk₂ how
    have k₂ : Keeps s₀ { s' with heap := h₂, toks := tk₁ } := Moves.keeps k₁ ⟨h₂, tk₁, rfl, hk₂⟩ newW
    have acc₂ : h₂.PlainList D ys := let ⟨m, e⟩ := acc₁; ⟨m, hk₂ _ _ hDw e⟩
    refine (hasg x hxm).run { s' with heap := h₂, toks := tk₁ } A _ _ v rm mf₂ (hv.mono hp₂) fun s₃ mv₃ mf₃ hV => ?_
    have k₃ : Keeps s₀ s₃ := Moves.keeps k₂ mv₃ newO
    have hp₃ : Pres pr' pr' h₂ s₃.heap := mf₂.pres mv₃
    have acc₃ : s₃.heap.PlainList D ys := let ⟨m, e⟩ := acc₂; ⟨m, mv₃.heap _ _ hDo e⟩
    have hst₃ : St pr' (i + 1) s₃.heap := W.frame pr' (i + 1) h₂ _ hst₂ (fun b hb o e => mv₃.heap b o (fun hm => hof b hm hb) e) hp₃
    have ok₃ := okD k₃ acc₃
    have rep₃ : RepAll pr' s₃.heap ys.toList ((xs.take i).filterMap g) := ((hrep.mono hp₁).mono hp₂).mono hp₃
    obtain ⟨ht, he⟩ := hturn x hxm s₃ k₃ ok₃ hV
    refine ht.run s₃ (keeps_refl _) A _ _ rm ok₃ fun s₄ k₄ => ?_
    have htake : xs.take (i + 1) = xs.take i ++ [x] := by rw [List.take_add_one, hx]; rfl
    cases hg : g x with
    | none =>
      simp only [Option.isSome_none, Bool.false_eq_true, if_false]
      refine ⟨xs.length + 1 - (i + 1), by omega, i + 1, ys, keeps_trans k₃ k₄, mf₃.keeps (keeps_heap k₄), W.frame pr' _ _ _ hst₃ (fun b _ o e => keeps_heap k₄ b o e) (.keeps (keeps_heap k₄)), let ⟨m, e⟩ := acc₃; ⟨m, keeps_heap k₄ _ _ e⟩, ?_, hlt, rfl⟩
      rw [htake, List.filterMap_append]
      simpa [hg] using rep₃.keeps (keeps_heap k₄)
    | some d =>
      simp only [Option.isSome_some, if_true]
      refine (he d hg).run s₄ k₄ A _ _ rm (ok₃.keeps k₄) fun y s₅ k₅ hy => ?_
      have k₄₅ := keeps_trans k₄ k₅
      have acc₅ : s₅.heap.PlainList D ys := let ⟨m, e⟩ := acc₃; ⟨m, keeps_heap k₄₅ _ _ e⟩
      have rep₅ := rep₃.keeps (keeps_heap k₄₅)
      refine wpAny_list_append_plain acc₅ (fun h₆ acc₆ hs₆ => ?_) ?_
      · have hp₆ : Pres pr' pr' s₅.heap h₆ := ⟨fun a vs ha ⟨m, e⟩ => ⟨m, hs₆.extBut a _ (fun q => ha (q ▸ hD')) e⟩, fun a vs ⟨m, e⟩ => ⟨m, hs₆.extBut a _ (fun q => by
            obtain ⟨m', e'⟩ := acc₅
            rw [q, e'] at e; simp at e) e⟩, fun _ _ h _ => h⟩
        refine ⟨xs.length + 1 - (i + 1), by omega, i + 1, ys.push y, Moves.keeps (keeps_trans k₃ k₄₅) ⟨h₆, s₅.toks, rfl, fun b o hb e => hs₆.extBut b o (fun q => hb (by rw [q]; exact List.mem_singleton.mpr rfl)) e⟩ (own := [D]) (fun b hb => by rw [List.mem_singleton.mp hb]; exact newD),
          (mf₃.keeps (keeps_heap k₄₅)).off (wr := [D]) (fun b o hb e => hs₆.extBut b o (fun q => hb (by rw [q]; exact List.mem_singleton.mpr rfl)) e) (fun b hb h => hDo (by rw [List.mem_singleton] at h; exact h ▸ hb)),
          W.frame pr' _ s₃.heap _ hst₃ (fun b hb o e => hs₆.extBut b o (fun q => hDf (q ▸ hb)) (keeps_heap k₄₅ b o e)) ⟨fun a vs ha e => hp₆.list a vs ha ((Pres.keeps (keeps_heap k₄₅)).list a vs ha e), fun a vs e => hp₆.tup a vs ((Pres.keeps (pr := pr') (keeps_heap k₄₅)).tup a vs e), fun _ _ h _ => h⟩,
          acc₆, ?_, hlt, rfl⟩
        rw [htake, List.filterMap_append]
        have := (rep₅.mono hp₆).snoc (hy.mono hp₆)
        simpa [hg] using this
      · have e1 := rep₅.length
        have e2 : ((xs.take i).filterMap g).length ≤ i := Nat.le_trans (List.length_filterMap_le _ _) (by rw [List.length_take]; omega)
        rw [Array.length_toList] at e1
        omega
  · have hin : i = xs.length := by omega
    subst hin
    refine W.done pr' s' _ _ (by rw [List.length_map]; exact hst') fun h₁ tk₁ hk₁ hp₁ => ?_
    rw [List.take_length] at hrep
    exact hR _ ys (Moves.keeps k' ⟨h₁, tk₁, rfl, hk₁⟩ newW) (mf'.off hk₁ how) (let ⟨m, e⟩ := hacc'; ⟨m, hk₁ _ _ hDw e⟩) (hrep.mono hp₁)
end Mine
end

/-! F7 -/
section
open PySem PySem.W PyProof.Rows
set_option Elab.async false
namespace Mine
variable {prog : Program} {w : World} {sT : Shared} {n : Nat} {pr : Addr → Prop} {s : Shared} {env : Env}

theorem comp_core {α : Type} {use : Option (Value → Sem Unit)} {elt target iter : Expr} {ifs : List Expr} {scope : Scope} {pos pos' : Pos} (xs : List α) (inj : α → PyData) (g : α → Option PyData) (V : α → Env → (Addr → Prop) → Shared → Prop)
    (hcl : ∀ x ∈ scope.names, x.2 = .free → ∃ c, env.cells.lookup x.1 = some c) (hd : ∀ p ∈ scope.names, ∀ q ∈ scope.names, p.2 = .free → q.2 = .cell → q.1 ≠ p.1)
    (hkind : scope.kind = .function) (hnames : ∀ x ∈ scope.names, x.2 = .local → scope.names.lookup x.1 = some .local)
    (hit : ItC prog w sT n pr s env target iter (xs.map inj))
    (hasg : ∀ x ∈ xs, ∀ cenv cs pr', CEn scope env cenv cs → Asg prog w n pr' cenv cs target (inj x) (V x cenv pr'))
    (hturn : ∀ x ∈ xs, ∀ cenv cs pr' s', CEn scope env cenv cs → Keeps s s' → Ok sT pr' s' → Pres pr pr' s.heap s'.heap → V x cenv pr' s' →
      TsL prog w sT n pr' s' cenv ifs (g x).isSome ∧ ∀ d, g x = some d → Ev prog w sT n pr' s' cenv elt d)
    (hsz : xs.length ≤ sizeLine)
    {s₁ : Shared} (k₁ : Keeps s s₁) {A : Around} {Q : Value → Shared → Prop} {E : Value → Shared → Prop} (rm : Room n A) (ok : Ok sT pr s₁)
    (hpost : ∀ D C s', Keeps s₁ s' → (∃ m, s'.heap.Ns C m) → s₁.heap.get? C = none → Rep pr s'.heap (.ref D) (.list (xs.filterMap g)) → compPost (model prog w) A E use Q (.ref D) C (.ok .next) s')
    (hs : ∀ x, foldedSetIterable iter env x = pure x := by intro _; rfl) :
    wpAny (model prog w) A (comprehension (.ListComp elt [⟨target, iter, ifs, 0⟩] scope pos) scope env pos' (newList []) false (eval iter env) use) Q E s₁ := by
  obtain ⟨cl, hclos, hcl'⟩ := closure_ok hcl
  refine wpAny_comprehension_free rfl hs hclos hkind hnames (hit.run s₁ k₁ A _ E rm ok fun I s₂ fp wr St k₂ W st hfp hwr => ?_)
  refine wpAny_newObj_type (newCompEnv ?_)
  dsimp only
  generalize hH : s₂.heap.push { cls := .type "list", dict := none, data := .seq ([] : List Value).toArray } = H
  have hHs : H.objs.size = s₂.heap.objs.size + 1 := by rw [← hH, Heap.size_push]
  have kH : ∀ b o, s₂.heap.get? b = some o → H.get? b = some o := fun b o e => hH ▸ Heap.get?_push_of_some _ e
  have hDget : H.get? s₂.heap.objs.size = some { cls := .type "list", data := .seq #[] } := by rw [← hH]; exact Heap.get?_push_size _ rfl
  obtain ⟨cen, mf, kn, hown⟩ := newC (env := env) hcl' hd H
  show codeAny _ A (.compStart _ 0 (.ref I) (.ref s₂.heap.objs.size) (cEnv scope env cl H.objs.size)) (compPost (model prog w) A E use Q (.ref s₂.heap.objs.size) H.objs.size) _
  generalize hH4 : pushCells (H.push { cls := .type "dict", data := .dict #[] }) scope.names = H4 at kn mf ⊢
  generalize hcs : csOf (H.objs.size + 1) scope.names = cs at cen mf hown
  have hDnone : s₂.heap.get? s₂.heap.objs.size = none := none_of_size (Nat.le_refl _)
  have ok₂ := ok.keeps k₂
  have k₄ : ∀ b o, s₂.heap.get? b = some o → H4.get? b = some o := fun b o e => kn b o (kH b o e)
  let pr' : Addr → Prop := fun a => pr a ∨ a = s₂.heap.objs.size
  have st' : St pr' 0 H4 := W.frame pr' 0 s₂.heap H4 (W.prm pr pr' 0 s₂.heap st fun a o e ha => by
      rcases ha with h | rfl
      · exact h
      · rw [hDnone] at e; cases e) (fun b _ o e => k₄ b o e) (.keeps k₄)
  have kk : Keeps s₁ { s₂ with heap := H4 } := keeps_trans k₂ ⟨H4, s₂.toks, rfl, k₄⟩
  have lt_of : ∀ b ∈ fp, b < s₂.heap.objs.size := fun b hb => let ⟨_, e, _⟩ := hfp b hb; Heap.lt_size e
  have loop : codeAny (model prog w) A (.compLoop (.ListComp elt [⟨target, iter, ifs, 0⟩] scope pos) 0 (.ref I) (.ref s₂.heap.objs.size) (cEnv scope env cl H.objs.size))
      (compPost (model prog w) A E use Q (.ref s₂.heap.objs.size) H.objs.size) { s₂ with heap := H4 } := by
    refine comp_loop (pr := pr) (pr' := pr') (s₀ := s₁) (cs := cs) xs inj g (fun x s' => V x (cEnv scope env cl H.objs.size) pr' s') W rm kk ok.base (fun a ha => ha) ok.live (.inr rfl) mf st' ⟨0, kn _ _ hDget⟩ ?_ ?_ ?_ ?_ ?_ ?_ hsz ?_
    · exact fun h => Nat.lt_irrefl _ (lt_of _ h)
    · exact fun h => by have := hown _ h; rw [hHs] at this; exact Nat.not_succ_le_self _ this
    · exact fun b hb h => by have := hown _ hb; rw [hHs] at this; exact absurd (lt_of b h) (Nat.not_lt.mpr (Nat.le_of_succ_le this))
    · intro b hb
      rcases List.mem_cons.mp hb with rfl | hb
      · exact none_of_keeps k₂ hDnone
      · rcases List.mem_append.mp hb with hb | hb
        · have := hown _ hb
          rw [hHs] at this
          exact none_of_keeps k₂ (none_of_size (Nat.le_of_succ_le this))
        · exact hwr b hb
    · exact fun x hx => hasg x hx _ _ _ cen
    · refine fun x hx s' ks' ok' hV => hturn x hx _ _ pr' s' cen (keeps_trans k₁ ks') ok' ⟨fun a vs ha e => (Pres.keeps (keeps_heap (keeps_trans k₁ ks'))).list a vs ha e, fun a vs e => (Pres.keeps (pr := pr) (keeps_heap (keeps_trans k₁ ks'))).tup a vs e, fun a vs ha ⟨m, e⟩ hp => ?_⟩ hV
      rcases hp with hp | rfl
      · exact ha hp
      · rw [none_of_keeps (keeps_trans k₁ k₂) hDnone] at e; cases e
    · intro s' ys ks' mf' hl hr
      refine hpost _ _ s' ks' mf'.ns (none_of_keeps k₂ (none_of_size (by rw [hHs]; exact Nat.le_succ _))) (.list (vs := ys.toList) ok₂.new (by simpa using hl) (hr.prm fun a o _ h => .inl h))
  exact codeAny_compStart_list loop (W.self pr' 0 _ _ _ st' loop)

/-- a comprehension as an expression -/
theorem ev_comp {α : Type} {elt target iter : Expr} {ifs : List Expr} {scope : Scope} {pos : Pos} (xs : List α) (inj : α → PyData) (g : α → Option PyData) (V : α → Env → (Addr → Prop) → Shared → Prop)
    (hit : It prog w sT n pr s env iter (xs.map inj))
    (hcl : ∀ x ∈ scope.names, x.2 = .free → ∃ c, env.cells.lookup x.1 = some c)
    (hasg : ∀ x ∈ xs, ∀ cenv cs pr', CEn scope env cenv cs → Asg prog w n pr' cenv cs target (inj x) (V x cenv pr'))
    (hturn : ∀ x ∈ xs, ∀ cenv cs pr' s', CEn scope env cenv cs → Keeps s s' → Ok sT pr' s' → Pres pr pr' s.heap s'.heap → V x cenv pr' s' →
      TsL prog w sT n pr' s' cenv ifs (g x).isSome ∧ ∀ d, g x = some d → Ev prog w sT n pr' s' cenv elt d)
    (hsz : xs.length ≤ sizeLine)
    (hd : ∀ p ∈ scope.names, ∀ q ∈ scope.names, p.2 = .free → q.2 = .cell → q.1 ≠ p.1 := by decide)
    (hkind : scope.kind = .function := by rfl) (hnames : ∀ x ∈ scope.names, x.2 = .local → scope.names.lookup x.1 = some .local := by decide)
    (hs : ∀ x, foldedSetIterable iter env x = pure x := by intro _; rfl) :
    Ev prog w sT n pr s env (.ListComp elt [⟨target, iter, ifs, 0⟩] scope pos) (.list (xs.filterMap g)) := by
  refine ⟨fun s₁ k₁ A Q E rm ok hq => ?_⟩
  rw [eval_ListComp]
  refine comp_core (use := none) xs inj g V hcl hd hkind hnames hit.toC hasg hturn hsz k₁ rm ok (fun D C s' k' hn hC hr => ?_) hs
  obtain ⟨m, hn⟩ := hn
  refine ⟨m, hn, fun h' hs' => hq _ _ (keeps_trans (Moves.keeps (own := [C]) k' ⟨h', s'.toks, rfl, fun b o hb e => hs'.extBut b o (fun q => hb (by rw [q]; exact List.mem_singleton.mpr rfl)) e⟩ fun b hb => by rw [List.mem_singleton.mp hb]; exact hC) (keeps_refl _)) (hr.mono ?_)⟩
  refine pres_of (wr := [C]) (fun b o hb e => hs'.extBut b o (fun q => hb (by rw [q]; exact List.mem_singleton.mpr rfl)) e) fun b hb o ho vs m' hdat => ?_
  rw [List.mem_singleton] at hb
  subst hb
  obtain ⟨o', es, ep, e, hd', _⟩ := hn
  rw [e] at ho; cases ho; rw [hd'] at hdat; cases hdat
end Mine
end

/-! F8 -/
section
open PySem PySem.W PyProof.Rows
set_option Elab.async false
namespace Mine
variable {prog : Program} {w : World} {sT : Shared} {n : Nat} {pr : Addr → Prop} {s : Shared} {env : Env}

abbrev Cx := List (Str × PyData)
abbrev own (env : Env) : List Addr := env.locals :: env.cells.filterMap fun p => env.cells.lookup p.1

/-- a def's frame: its names and cells hold data -/
structure FrmD (s₀ : Shared) (env : Env) (pr : Addr → Prop) (Γ : Cx) (m cm : Str → Option Value) (s : Shared) : Prop where
  keep : Keeps s₀ s
  ns : s.heap.Ns env.locals m
  cell : ∀ x c, env.cells.lookup x = some c → s.heap.IsCell c (cm x)
  inj : ∀ x y c, env.cells.lookup x = some c → env.cells.lookup y = some c → x = y
  newL : s₀.heap.get? env.locals = none
  newC : ∀ x c, env.cells.lookup x = some c → s₀.heap.get? c = none ∧ c ≠ env.locals
  vars : ∀ y d, Γ.lookup y = some d → ∃ v, Rep pr s.heap v d ∧ ((env.kindOf y = some .local ∧ m y = some v) ∨ (env.kindOf y = some .cell ∧ (∃ c, env.cells.lookup y = some c) ∧ cm y = some v))
def Frm (s₀ : Shared) (env : Env) (pr : Addr → Prop) (Γ : Cx) (s : Shared) : Prop := ∃ m cm, FrmD s₀ env pr Γ m cm s

theorem Frm.keep {s₀ : Shared} {Γ : Cx} (F : Frm s₀ env pr Γ s) : Keeps s₀ s := let ⟨_, _, f⟩ := F; f.keep
theorem Frm.weaken {s₀ : Shared} {Γ Γ' : Cx} (F : Frm s₀ env pr Γ s) (h : ∀ y d, Γ'.lookup y = some d → Γ.lookup y = some d) : Frm s₀ env pr Γ' s :=
  let ⟨m, cm, f⟩ := F; ⟨m, cm, f.keep, f.ns, f.cell, f.inj, f.newL, f.newC, fun y d e => f.vars y d (h y d e)⟩
theorem Frm.ok {s₀ : Shared} {Γ : Cx} (F : Frm s₀ env pr Γ s) (ok : Ok sT pr s₀) : Ok sT pr s := ok.keeps F.keep
theorem Frm.var {s₀ : Shared} {Γ : Cx} (F : Frm s₀ env pr Γ s) (hE : En env) {y : Str} {d : PyData} (h : Γ.lookup y = some d) (hd : (y == ("__classdict__" : Str)) = false := by decide) : Var pr s env y d := by
  obtain ⟨m, cm, f⟩ := F
  obtain ⟨v, r, hv⟩ := f.vars y d h
  rcases hv with ⟨hk, hm⟩ | ⟨hk, ⟨c, hc⟩, hm⟩
  · exact ⟨v, .loc m hE.fn hk f.ns hm, r⟩
  · exact ⟨v, .cel c hE.fn (.inl hk) hd hc (hm ▸ f.cell y c hc), r⟩
theorem Frm.varc {s₀ : Shared} {Γ : Cx} (F : Frm s₀ env pr Γ s) (hE : En env) {y : Str} {d : PyData} (h : Γ.lookup y = some d) (hy : env.kindOf y = some .cell) (hd : (y == ("__classdict__" : Str)) = false := by decide) : VarC pr s env y d := by
  obtain ⟨m, cm, f⟩ := F
  obtain ⟨v, r, hv⟩ := f.vars y d h
  rcases hv with ⟨hk, hm⟩ | ⟨hk, ⟨c, hc⟩, hm⟩
  · rw [hy] at hk; cases hk
  · exact ⟨c, v, hE.fn, .inl hk, hd, hc, hm ▸ f.cell y c hc, r⟩
theorem Frm.noSeq {s₀ : Shared} {Γ : Cx} (F : Frm s₀ env pr Γ s) : ∀ b ∈ own env, ∃ o, s.heap.get? b = some o ∧ ((∃ es ep, o.data = .dict es ep) ∨ ∃ v, o.data = .cell v) := by
  obtain ⟨m, cm, f⟩ := F
  intro b hb
  rcases List.mem_cons.mp hb with rfl | hb
  · obtain ⟨o', es, ep, e, hd', _⟩ := f.ns
    exact ⟨o', e, .inl ⟨es, ep, hd'⟩⟩
  · obtain ⟨⟨x, c⟩, _, hx⟩ := List.mem_filterMap.mp hb
    obtain ⟨o', e, hd'⟩ := f.cell x b hx
    exact ⟨o', e, .inr ⟨_, hd'⟩⟩
theorem Frm.pres {s₀ s' : Shared} {Γ : Cx} (F : Frm s₀ env pr Γ s) (m : Moves (own env) s s') {pr₁ : Addr → Prop} : Pres pr₁ pr₁ s.heap s'.heap :=
  pres_of m.heap fun b hb o ho vs k hd => by
    obtain ⟨o', e, h⟩ := F.noSeq b hb
    rw [e] at ho; cases ho
    rcases h with ⟨_, _, h⟩ | ⟨_, h⟩ <;> (rw [h] at hd; cases hd)
/-- the frame over a step that leaves its own objects alone -/
theorem Frm.keeps {s₀ s' : Shared} {Γ : Cx} (F : Frm s₀ env pr Γ s) (k : Keeps s s') : Frm s₀ env pr Γ s' := by
  obtain ⟨m, cm, f⟩ := F
  refine ⟨m, cm, keeps_trans f.keep k, f.ns.keeps (keeps_heap k), fun x c h => (f.cell x c h).keeps (keeps_heap k), f.inj, f.newL, f.newC, fun y d h => ?_⟩
  obtain ⟨v, r, hv⟩ := f.vars y d h
  exact ⟨v, r.keeps (keeps_heap k), hv⟩
theorem Frm.off {s₀ s' : Shared} {Γ : Cx} {wr : List Addr} (F : Frm s₀ env pr Γ s) (mv : Moves wr s s') (hw : ∀ b ∈ own env, b ∉ wr) (hn : ∀ b ∈ wr, s₀.heap.get? b = none) (hp : Pres pr pr s.heap s'.heap) : Frm s₀ env pr Γ s' := by
  obtain ⟨m, cm, f⟩ := F
  refine ⟨m, cm, Moves.keeps f.keep mv hn, ?_, fun x c h => ?_, f.inj, f.newL, f.newC, fun y d h => ?_⟩
  · obtain ⟨o, es, ep, e, r⟩ := f.ns
    exact ⟨o, es, ep, mv.heap _ _ (hw _ List.mem_cons_self) e, r⟩
  · obtain ⟨o, e, r⟩ := f.cell x c h
    exact ⟨o, mv.heap _ _ (hw _ (List.mem_cons_of_mem _ (List.mem_filterMap.mpr ⟨(x, c), mem_of_lookup h, h⟩))) e, r⟩
  · obtain ⟨v, r, hv⟩ := f.vars y d h
    exact ⟨v, r.mono hp, hv⟩

/-- a name of the frame that may be stored -/
def Sto (env : Env) (x : Str) : Prop := env.kindOf x = some .local ∨ (env.kindOf x = some .cell ∧ ∃ c, env.cells.lookup x = some c)

theorem frm_store {M : Model} {A : Around} {Q : Unit → Shared → Prop} {E : Value → Shared → Prop} {s₀ : Shared} {Γ : Cx} {x : Str} {v : Value} {d : PyData} (F : Frm s₀ env pr Γ s) (hE : En env) (hx : Sto env x) (r : Rep pr s.heap v d)
    (hq : ∀ s', Moves (own env) s s' → Frm s₀ env pr ((x, d) :: Γ) s' → Q () s') : wpAny M A (storeName env x v) Q E s := by
  have F' := F
  obtain ⟨m, cm, f⟩ := F
  rcases hx with hx | ⟨hx, c, hc⟩
  · refine wpAny_storeName_local hx f.ns (fun h' hn' hs' => ?_) (fn_kind hE.fn)
    have mv : Moves (own env) s { s with heap := h', toks := s.toks + 1 } := moves_sameBut List.mem_cons_self hs'
    have hp := F'.pres (pr₁ := pr) mv
    refine hq _ mv ⟨_, cm, Moves.keeps f.keep mv fun b hb => ?_, hn', fun y c h => (f.cell y c h).sameBut hs' (f.newC y c h).2, f.inj, f.newL, f.newC, fun y d' h => ?_⟩
    · rcases List.mem_cons.mp hb with rfl | hb
      · exact f.newL
      · obtain ⟨⟨y, c⟩, _, hy⟩ := List.mem_filterMap.mp hb
        exact (f.newC y b hy).1
    · rw [List.lookup_cons] at h
      cases hb : y == x with
      | true =>
        rw [hb] at h
        cases h
        rw [beq_iff_eq.mp hb]
        exact ⟨v, r.mono hp, .inl ⟨hx, by simp⟩⟩
      | false =>
        rw [hb] at h
        obtain ⟨u, ru, hu⟩ := f.vars y d' h
        have hne : y ≠ x := beq_eq_false_iff_ne.mp hb
        exact ⟨u, ru.mono hp, hu.imp (fun h => ⟨h.1, by simpa [hne] using h.2⟩) id⟩
  · refine wpAny_storeName_cell hE.fn hx hc (f.cell x c hc) fun h' hv hs' => ?_
    have hown : c ∈ own env := List.mem_cons_of_mem _ (List.mem_filterMap.mpr ⟨(x, c), mem_of_lookup hc, hc⟩)
    have mv : Moves (own env) s { s with heap := h' } := ⟨h', s.toks, rfl, fun b o hb e => hs'.extBut b o (fun q => hb (q ▸ hown)) e⟩
    have hp := F'.pres (pr₁ := pr) mv
    refine hq _ mv ⟨m, fun y => if y = x then some v else cm y, Moves.keeps f.keep mv fun b hb => ?_, f.ns.sameBut hs' (Ne.symm (f.newC x c hc).2), fun y c' h => ?_, f.inj, f.newL, f.newC, fun y d' h => ?_⟩
    · rcases List.mem_cons.mp hb with rfl | hb
      · exact f.newL
      · obtain ⟨⟨y, c⟩, _, hy⟩ := List.mem_filterMap.mp hb
        exact (f.newC y b hy).1
    · by_cases hyx : y = x
      · subst hyx
        rw [hc] at h
        cases h
        simpa using hv
      · have hcc : c' ≠ c := fun q => hyx (f.inj y x c (q ▸ h) hc)
        simpa [hyx] using (f.cell y c' h).sameBut hs' hcc
    · rw [List.lookup_cons] at h
      cases hb : y == x with
      | true =>
        rw [hb] at h
        cases h
        rw [beq_iff_eq.mp hb]
        exact ⟨v, r.mono hp, .inr ⟨hx, ⟨c, hc⟩, by simp⟩⟩
      | false =>
        rw [hb] at h
        obtain ⟨u, ru, hu⟩ := f.vars y d' h
        have hne : y ≠ x := beq_eq_false_iff_ne.mp hb
        exact ⟨u, ru.mono hp, hu.imp id fun h => ⟨h.1, h.2.1, by simpa [hne] using h.2.2⟩⟩
end Mine
end

/-! F9 -/
section
open PySem PySem.W PyProof.Rows
set_option Elab.async false
set_option linter.unusedVariables false
namespace Mine
variable {prog : Program} {w : World} {sT : Shared} {n : Nat} {pr : Addr → Prop} {s s₀ : Shared} {env : Env} {Γ : Cx}

/-- how statements end -/
inductive Out where
  | next (Γ : Cx)
  | ret (d : PyData)
def Out.to (o : Out) (s₀ : Shared) (env : Env) (pr : Addr → Prop) (s : Shared) (Q : Flow → Shared → Prop) : Prop :=
  match o with
  | .next Γ => ∀ s', Moves (own env) s s' → Frm s₀ env pr Γ s' → Q .next s'
  | .ret d => ∀ v s', Keeps s₀ s' → Rep pr s'.heap v d → Q (.ret v) s'

structure Ex1 (prog : Program) (w : World) (sT : Shared) (n : Nat) (s₀ : Shared) (env : Env) (pr : Addr → Prop) (Γ : Cx) (st : Stmt) (o : Out) : Prop where
  run : ∀ (s : Shared) (A : Around) (Q : Flow → Shared → Prop) (E : Value → Shared → Prop), Room n A → Frm s₀ env pr Γ s → o.to s₀ env pr s Q → wpAny (model prog w) A (exec st env) Q E s
structure Ex (prog : Program) (w : World) (sT : Shared) (n : Nat) (s₀ : Shared) (env : Env) (pr : Addr → Prop) (Γ : Cx) (sts : List Stmt) (o : Out) : Prop where
  run : ∀ (s : Shared) (A : Around) (Q : Flow → Shared → Prop) (E : Value → Shared → Prop), Room n A → Frm s₀ env pr Γ s → o.to s₀ env pr s Q → wpAny (model prog w) A (execs sts env) Q E s

theorem Out.moves {o : Out} {s s' : Shared} {Q : Flow → Shared → Prop} (h : o.to s₀ env pr s Q) (mv : Moves (own env) s s') : o.to s₀ env pr s' Q := by
  cases o with
  | next Γ => exact fun s'' mv' F => h s'' (mv.trans mv') F
  | ret d => exact h

theorem ex_nil : Ex prog w sT n s₀ env pr Γ [] (.next Γ) := ⟨fun s _ _ _ _ F h => wpAny_execs_nil (h s (.of_keeps (keeps_refl s)) F)⟩
theorem ex_cons {st : Stmt} {rest : List Stmt} {Γ' : Cx} {o : Out} (h1 : Ex1 prog w sT n s₀ env pr Γ st (.next Γ')) (h2 : Ex prog w sT n s₀ env pr Γ' rest o) : Ex prog w sT n s₀ env pr Γ (st :: rest) o := by
  refine ⟨fun s A Q E rm F ho => ?_⟩
  exact wpAny_execs_cons (h1.run s A _ E rm F fun s' mv F' => h2.run s' A Q E rm F' (Out.moves ho mv))
theorem ex_ret {st : Stmt} {rest : List Stmt} {d : PyData} (h1 : Ex1 prog w sT n s₀ env pr Γ st (.ret d)) : Ex prog w sT n s₀ env pr Γ (st :: rest) (.ret d) := by
  refine ⟨fun s A Q E rm F ho => ?_⟩
  exact wpAny_execs_cons (h1.run s A _ E rm F fun v s' k r => ho v s' k r)
theorem Ex.weaken {sts : List Stmt} {Γ₁ Γ₂ : Cx} (h : Ex prog w sT n s₀ env pr Γ sts (.next Γ₁)) (hw : ∀ y d, Γ₂.lookup y = some d → Γ₁.lookup y = some d) : Ex prog w sT n s₀ env pr Γ sts (.next Γ₂) :=
  ⟨fun s A Q E rm F ho => h.run s A Q E rm F fun s' mv F' => ho s' mv (F'.weaken hw)⟩

/-- the expression's value in the frame -/
abbrev EvF (prog : Program) (w : World) (sT : Shared) (n : Nat) (s₀ : Shared) (env : Env) (pr : Addr → Prop) (Γ : Cx) (e : Expr) (d : PyData) : Prop := ∀ s, Frm s₀ env pr Γ s → Ev prog w sT n pr s env e d
abbrev TsF (prog : Program) (w : World) (sT : Shared) (n : Nat) (s₀ : Shared) (env : Env) (pr : Addr → Prop) (Γ : Cx) (e : Expr) (b : Bool) : Prop := ∀ s, Frm s₀ env pr Γ s → Ts prog w sT n pr s env e b

theorem x_assign {x : Str} {p pos : Pos} {e : Expr} {d : PyData} (ok : Ok sT pr s₀) (hE : En env) (hx : Sto env x) (he : EvF prog w sT n s₀ env pr Γ e d)
    (hs : swapsWith e (some (.Name x p)) pos.line env = pure false := by rfl) : Ex1 prog w sT n s₀ env pr Γ (.Assign [.Name x p] e pos) (.next ((x, d) :: Γ)) := by
  refine ⟨fun s A Q E rm F ho => ?_⟩
  refine wpAny_Assign_Name ((he s F).run s (keeps_refl _) A _ E rm (F.ok ok) fun v s₁ k₁ r₁ => ?_) hs
  exact frm_store (F.keeps k₁) hE hx r₁ fun s₂ mv F₂ => ho s₂ ((Moves.of_keeps k₁).trans mv) F₂

theorem x_assign2 {x y : Str} {px py tp pos : Pos} {k : Nat} {e : Expr} {d₁ d₂ : PyData} (ok : Ok sT pr s₀) (hE : En env) (hx : Sto env x) (hy : Sto env y) (he : EvF prog w sT n s₀ env pr Γ e (.tuple [d₁, d₂]))
    (hs : swapsWithSole [.Tuple [.Name x px, .Name y py] k tp] e pos.line env = pure false := by rfl)
    (hw : swappedStores [.Tuple [.Name x px, .Name y py] k tp] e env = pure none := by rfl) : Ex1 prog w sT n s₀ env pr Γ (.Assign [.Tuple [.Name x px, .Name y py] k tp] e pos) (.next ((y, d₂) :: (x, d₁) :: Γ)) := by
  refine ⟨fun s A Q E rm F ho => ?_⟩
  refine Assign_Tuple ((he s F).run s (keeps_refl _) A _ E rm (F.ok ok) fun v s₁ k₁ r₁ => ?_) hs hw
  obtain ⟨a, vs, rfl, ht, hr⟩ := r₁.tuple_inv
  cases hr with
  | cons r₁ hr =>
  cases hr with
  | cons r₂ hr =>
  cases hr
  rename_i v₁ v₂
  refine wpAny_assign_Tuple rm.handled ht.isTuple rfl rfl fun h₀ he₀ => ?_
  have k₀ : Keeps s₁ { s₁ with heap := h₀ } := ⟨h₀, s₁.toks, rfl, fun b o e => he₀ b o (Nat.ne_of_lt (Heap.lt_size e)) e⟩
  show wpAny _ _ (do holding [v₂] (assign (.Name x px) env v₁); assignInOrder [assign (.Name y py) env] [v₂]) _ _ _
  refine wpAny_bind (wpAny_holding (wpAny_assign_Name (frm_store ((F.keeps k₁).keeps k₀) hE hx (r₁.keeps (keeps_heap k₀)) fun s₂ mv₂ F₂ => ?_)))
  show wpAny _ _ (do holding [] (assign (.Name y py) env v₂); assignInOrder [] []) _ _ _
  refine wpAny_bind (wpAny_holding (wpAny_assign_Name (frm_store F₂ hE hy ((r₂.keeps (keeps_heap k₀)).mono (((F.keeps k₁).keeps k₀).pres mv₂)) fun s₃ mv₃ F₃ => wpAny_pure ?_)))
  exact ho s₃ (((Moves.of_keeps (keeps_trans k₁ k₀)).trans mv₂).trans mv₃) F₃

theorem x_return {e : Expr} {pos : Pos} {d : PyData} (ok : Ok sT pr s₀) (he : EvF prog w sT n s₀ env pr Γ e d) : Ex1 prog w sT n s₀ env pr Γ (.Return (some e) pos) (.ret d) := by
  refine ⟨fun s A Q E rm F ho => ?_⟩
  exact wpAny_Return_some ((he s F).run s (keeps_refl _) A _ E rm (F.ok ok) fun v s₁ k₁ r₁ => ho v s₁ (keeps_trans F.keep k₁) r₁)
theorem x_if_t {t : Expr} {b e : List Stmt} {pos : Pos} {o : Out} (ok : Ok sT pr s₀) (ht : TsF prog w sT n s₀ env pr Γ t true) (hb : Ex prog w sT n s₀ env pr Γ b o) : Ex1 prog w sT n s₀ env pr Γ (.If t b e pos) o := by
  refine ⟨fun s A Q E rm F ho => ?_⟩
  refine wpAny_If ((ht s F).run s (keeps_refl _) A _ E rm (F.ok ok) fun s₁ k₁ => ?_)
  exact hb.run s₁ A Q E rm (F.keeps k₁) (Out.moves ho (.of_keeps k₁))
theorem x_if_f {t : Expr} {b e : List Stmt} {pos : Pos} {o : Out} (ok : Ok sT pr s₀) (ht : TsF prog w sT n s₀ env pr Γ t false) (hb : Ex prog w sT n s₀ env pr Γ e o) : Ex1 prog w sT n s₀ env pr Γ (.If t b e pos) o := by
  refine ⟨fun s A Q E rm F ho => ?_⟩
  refine wpAny_If ((ht s F).run s (keeps_refl _) A _ E rm (F.ok ok) fun s₁ k₁ => ?_)
  exact hb.run s₁ A Q E rm (F.keeps k₁) (Out.moves ho (.of_keeps k₁))

/-- a for over data, its body going on -/
theorem x_for {x : Str} {p pos : Pos} {iter : Expr} {body : List Stmt} {ds : List PyData} (Γs : Nat → Cx) (ok : Ok sT pr s₀) (hE : En env) (hx : Sto env x)
    (hit : ∀ s, Frm s₀ env pr (Γs 0) s → It prog w sT n pr s env iter ds)
    (hb : ∀ i d, ds[i]? = some d → Ex prog w sT n s₀ env pr ((x, d) :: Γs i) body (.next (Γs (i + 1))))
    (hs : ∀ x, foldedSetIterable iter env x = pure x := by intro _; rfl) : Ex1 prog w sT n s₀ env pr (Γs 0) (.For (.Name x p) iter body [] pos) (.next (Γs ds.length)) := by
  refine ⟨fun s A Q E rm F ho => ?_⟩
  refine wpAny_For ((hit s F).run s (keeps_refl _) A _ E rm (F.ok ok) fun I s₁ fp wr St k₁ W st hfp hwr => ?_) hs
  have F₁ := F.keeps k₁
  have hof : ∀ b ∈ own env, b ∉ fp := fun b hb hm => by
    obtain ⟨o, e, h⟩ := F₁.noSeq b hb
    obtain ⟨o', e', h1, h2⟩ := hfp b hm
    rw [e] at e'; cases e'
    rcases h with ⟨es, ep, h⟩ | ⟨v, h⟩
    · exact h1 es ep h
    · exact h2 v h
  have how : ∀ b ∈ own env, b ∉ wr := fun b hb h => hof b hb (W.sub _ h)
  have hwn : ∀ b ∈ wr, s₀.heap.get? b = none := fun b hb => none_of_keeps F.keep (hwr b hb)
  -- moves of the iterator too
  have back : ∀ {s' : Shared}, Moves (own env ++ wr) s s' → Moves (own env) s s' := fun {s'} ⟨h', tk, e, hk⟩ => ⟨h', tk, e, fun b o hb e' => hk b o (fun hm => by
    rcases List.mem_append.mp hm with h | h
    · exact hb h
    · rw [hwr b h] at e'; cases e') e'⟩
  have upL : ∀ {a b : Shared}, Moves (own env) a b → Moves (own env ++ wr) a b := fun {a b} ⟨h', tk, e, hk⟩ => ⟨h', tk, e, fun c o hc => hk c o fun h => hc (List.mem_append_left _ h)⟩
  have upW : ∀ {a b : Shared}, Moves wr a b → Moves (own env ++ wr) a b := fun {a b} ⟨h', tk, e, hk⟩ => ⟨h', tk, e, fun c o hc => hk c o fun h => hc (List.mem_append_right _ h)⟩
  refine codeAny_forLoop (fun k s' => ∃ i, Frm s₀ env pr (Γs i) s' ∧ St pr i s'.heap ∧ Moves (own env ++ wr) s s' ∧ i ≤ ds.length ∧ k = ds.length + 1 - i) ?_ (ds.length + 1) ⟨0, F₁, st, .of_keeps k₁, Nat.zero_le _, rfl⟩
  rintro k s' ⟨i, F', st', mv', hi, rfl⟩
  by_cases hlt : i < ds.length
  · obtain ⟨d, hd⟩ : ∃ d, ds[i]? = some d := ⟨_, List.getElem?_eq_getElem hlt⟩
    refine W.item pr i d s' _ _ hd st' fun v h₂ tk₂ hv st₂ hk₂ hp₂ => ?_
    have mv₂ : Moves wr s' { s' with heap := h₂, toks := tk₂ } := ⟨h₂, tk₂, rfl, hk₂⟩
    have F₂ : Frm s₀ env pr (Γs i) { s' with heap := h₂, toks := tk₂ } := F'.off mv₂ how hwn hp₂
    refine wpAny_assign_Name (frm_store F₂ hE hx hv fun s₃ mv₃ F₃ => ?_)
    refine (hb i d hd).run s₃ A _ _ rm F₃ fun s₄ mv₄ F₄ => ?_
    have mv₃₄ := mv₃.trans mv₄
    refine ⟨ds.length + 1 - (i + 1), by omega, i + 1, F₄, ?_, ((mv'.trans (upW mv₂)).trans (upL mv₃₄)), hlt, rfl⟩
    exact W.frame pr (i + 1) h₂ _ st₂ (fun b hb' o e => mv₃₄.heap b o (fun hm => hof b hm hb') e) (F₂.pres mv₃₄)
  · have hin : i = ds.length := by omega
    subst hin
    refine W.done pr s' _ _ st' fun h₂ tk₂ hk₂ hp₂ => ?_
    have mv₂ : Moves wr s' { s' with heap := h₂, toks := tk₂ } := ⟨h₂, tk₂, rfl, hk₂⟩
    exact wpAny_execs_nil (ho _ (back (mv'.trans (upW mv₂))) (F'.off mv₂ how hwn hp₂))

/-- a comprehension stored in a local name -/
theorem x_assign_comp {α : Type} {y : Str} {py spos : Pos} {elt target iter : Expr} {ifs : List Expr} {scope : Scope} {pos : Pos} (xs : List α) (inj : α → PyData) (g : α → Option PyData) (V : α → Env → (Addr → Prop) → Shared → Prop)
    (ok : Ok sT pr s₀) (hE : En env) (hy : Sto env y)
    (hit : ∀ s, Frm s₀ env pr Γ s → ItC prog w sT n pr s env target iter (xs.map inj))
    (hcl : ∀ x ∈ scope.names, x.2 = .free → ∃ c, env.cells.lookup x.1 = some c)
    (hasg : ∀ x ∈ xs, ∀ cenv cs pr', CEn scope env cenv cs → Asg prog w n pr' cenv cs target (inj x) (V x cenv pr'))
    (hturn : ∀ s, Frm s₀ env pr Γ s → ∀ x ∈ xs, ∀ cenv cs pr' s', CEn scope env cenv cs → Keeps s s' → Ok sT pr' s' → Pres pr pr' s.heap s'.heap → V x cenv pr' s' →
      TsL prog w sT n pr' s' cenv ifs (g x).isSome ∧ ∀ d, g x = some d → Ev prog w sT n pr' s' cenv elt d)
    (hsz : xs.length ≤ sizeLine)
    (hsw : swapsWith (.ListComp elt [⟨target, iter, ifs, 0⟩] scope pos) (some (.Name y py)) spos.line env = pure true)
    (hd : ∀ p ∈ scope.names, ∀ q ∈ scope.names, p.2 = .free → q.2 = .cell → q.1 ≠ p.1 := by decide)
    (hkind : scope.kind = .function := by rfl) (hnames : ∀ x ∈ scope.names, x.2 = .local → scope.names.lookup x.1 = some .local := by decide)
    (hs : ∀ x, foldedSetIterable iter env x = pure x := by intro _; rfl) :
    Ex1 prog w sT n s₀ env pr Γ (.Assign [.Name y py] (.ListComp elt [⟨target, iter, ifs, 0⟩] scope pos) spos) (.next ((y, .list (xs.filterMap g)) :: Γ)) := by
  refine ⟨fun s A Q E rm F ho => ?_⟩
  rw [exec_Assign_Name_used _ _ _ _ hsw]
  refine wpAny_bind (wpAny_standAt (wpAny_bind ?_))
  show wpAny _ A (do let _ ← comprehension (.ListComp elt [⟨target, iter, ifs, 0⟩] scope pos) scope env _ (newList []) false (eval iter env) (some (assign (.Name y py) env))) _ _ s
  refine wpAny_bind (wpAny_mono (comp_core (use := some (assign (.Name y py) env)) (Q := fun _ s' => Q .next s') xs inj g V hcl hd hkind hnames (hit s F) hasg (hturn s F) hsz (keeps_refl s) rm (F.ok ok) (fun D C s' k' hn hC hr => ?_) hs)
    (fun _ s' hq => wpAny_pure (wpAny_pure hq)) fun _ _ e => e)
  obtain ⟨m, hn⟩ := hn
  have F' := F.keeps k'
  have hCo : ∀ b ∈ own env, b ∉ [C] := fun b hb h => by
    rw [List.mem_singleton] at h
    subst h
    obtain ⟨o, e, _⟩ := F.noSeq b hb
    rw [hC] at e; cases e
  refine wpAny_assign_Name (frm_store F' hE hy hr fun s'' mv F'' => ?_)
  have hn'' : s''.heap.Ns C m := by
    obtain ⟨o, es, ep, e, r⟩ := hn
    exact ⟨o, es, ep, mv.heap _ _ (fun h => hCo C h (List.mem_singleton.mpr rfl)) e, r⟩
  refine ⟨m, hn'', fun h' hs' => ?_⟩
  have mvC : Moves [C] s'' { s'' with heap := h' } := ⟨h', s''.toks, rfl, fun b o hb e => hs'.extBut b o (fun q => hb (by rw [q]; exact List.mem_singleton.mpr rfl)) e⟩
  refine ho _ ?_ (F''.off mvC hCo (fun b hb => by rw [List.mem_singleton.mp hb]; exact none_of_keeps F.keep hC) ?_)
  · obtain ⟨h₂, tk₂, rfl, hk₂⟩ := (Moves.of_keeps k').trans mv
    exact ⟨h', tk₂, rfl, fun b o hb e => hs'.extBut b o (fun q => by rw [q, hC] at e; cases e) (hk₂ b o hb e)⟩
  · refine pres_of mvC.heap fun b hb o ho vs m' hdat => ?_
    rw [List.mem_singleton] at hb
    subst hb
    obtain ⟨o', es, ep, e, hd', _⟩ := hn''
    rw [e] at ho; cases ho; rw [hd'] at hdat; cases hdat

/-- a def of the text: its call -/
structure FnAt (mg : Str → Option Value) (sT : Shared) (f : Str) (a : Addr) (params : Arguments) (body : List Stmt) (scope : Scope) : Prop where
  g : mg f = some (.ref a)
  ex : ∃ o pm cd doc, sT.heap.get? a = some o ∧ o.data = .func (Calls.docDef f params body scope pm cd doc) ∧ sT.heap.CodeRec cd f

theorem bindL_other {kd : Str → Option NameKind} : ∀ (binds : List (Str × Value)) (m : Str → Option Value) (y : Str), y ∉ binds.map (·.1) → bindL kd binds m y = m y
  | [], _, _, _ => rfl
  | (x, v) :: r, m, y, h => by
    simp only [List.map_cons, List.mem_cons, not_or] at h
    unfold bindL
    rw [bindL_other r _ y h.2]
    split
    · simp [h.1]
    · rfl
theorem bindL_get {kd : Str → Option NameKind} : ∀ (binds : List (Str × Value)) (m : Str → Option Value) (y : Str) (v : Value), (binds.map (·.1)).Nodup → (y, v) ∈ binds → kd y = some .local → bindL kd binds m y = some v
  | (x, u) :: r, m, y, v, hn, hm, hk => by
    simp only [List.map_cons, List.nodup_cons] at hn
    unfold bindL
    rcases List.mem_cons.mp hm with e | hm
    · cases e
      rw [bindL_other r _ _ hn.1, if_pos hk]; simp
    · exact bindL_get r _ y v hn.2 hm hk
theorem bindC_other {kd : Str → Option NameKind} : ∀ (binds : List (Str × Value)) (m : Str → Option Value) (y : Str), y ∉ binds.map (·.1) → bindC kd binds m y = m y
  | [], _, _, _ => rfl
  | (x, v) :: r, m, y, h => by
    simp only [List.map_cons, List.mem_cons, not_or] at h
    unfold bindC
    rw [bindC_other r _ y h.2]
    split
    · rfl
    · simp [h.1]
theorem bindC_get {kd : Str → Option NameKind} : ∀ (binds : List (Str × Value)) (m : Str → Option Value) (y : Str) (v : Value), (binds.map (·.1)).Nodup → (y, v) ∈ binds → kd y ≠ some .local → bindC kd binds m y = some v
  | (x, u) :: r, m, y, v, hn, hm, hk => by
    simp only [List.map_cons, List.nodup_cons] at hn
    unfold bindC
    rcases List.mem_cons.mp hm with e | hm
    · cases e
      rw [bindC_other r _ _ hn.1, if_neg hk]; simp
    · exact bindC_get r _ y v hn.2 hm hk

theorem Room.deeper {A : Around} {e : Env} (r : Room (n + 1) A) : Room n (A.deeper e) :=
  ⟨r.handled, by have := r.depth; show A.depth + 1 + n < _; omega, by have := r.units; show A.units + 3 + 4 * n + 100 < _; omega⟩

theorem zip_get {pr : Addr → Prop} {h : Heap} : ∀ {xs : List Str} {vs : List Value} {ds : List PyData} {y : Str} {d : PyData}, RepAll pr h vs ds → (xs.zip ds).lookup y = some d → ∃ v, (y, v) ∈ xs.zip vs ∧ Rep pr h v d
  | [], _, _, _, _, _, e => by simp at e
  | _ :: _, _, _, _, _, .nil, e => by simp at e
  | x :: xs, _, _, y, d, .cons a r, e => by
    rw [List.zip_cons_cons, List.lookup_cons] at e
    cases hb : y == x with
    | true =>
      rw [hb] at e; cases e
      rw [beq_iff_eq.mp hb]
      exact ⟨_, List.mem_cons_self, a⟩
    | false =>
      rw [hb] at e
      obtain ⟨v, h1, h2⟩ := zip_get r e
      exact ⟨v, List.mem_cons_of_mem _ h1, h2⟩

theorem fn_def {mg mb : Str → Option Value} {f : Str} {a : Addr} {params : Arguments} {body : List Stmt} {scope : Scope} {xs : List Str} {ds : List PyData} {d : PyData} (G : Gl mg mb sT) (hf : FnAt mg sT f a params body scope)
    (hlen : xs.length = ds.length) (hnd : xs.Nodup)
    (hbind : ∀ (vs : List Value) pm cd doc, vs.length = ds.length → bindArgs (Calls.docDef f params body scope pm cd doc) ⟨vs, []⟩ = pure (xs.zip vs))
    (hkinds : ∀ x ∈ xs, scope.names.lookup x = some .local ∨ (scope.names.lookup x = some .cell ∧ ∀ L, ((cellsFrom L scope.names []).lookup x).isSome = true))
    (hbody : ∀ (pr : Addr → Prop) (s₀ : Shared) (L : Addr) (cd : Value), Ok sT pr s₀ → Ex prog w sT n s₀ (envOfC f scope L a cd) pr (xs.zip ds) body (.ret d))
    (hco : scope.isCoroutine = false := by rfl) (hgen : scope.isGenerator = false := by rfl) (hk : scope.kind = .function := by rfl) : Fn prog w sT (n + 1) (.ref a) ds d := by
  refine ⟨fun pr s A Q E vs rm ok r hq => ?_⟩
  obtain ⟨o, pm, cd, doc, ho, hdat, hcd⟩ := hf.ex
  have kT := keeps_heap ok.base
  refine wpAny_call (call_cells (by have := rm.depth; omega) (kT _ _ ho) hdat (G.nolimit.keeps kT) (hcd.keeps kT) (hbind vs pm cd doc r.length) ?_ (fun h₁ tk F X => ?_) hco hgen hk)
  · intro x hx
    have hx1 : x.1 ∈ xs := (List.of_mem_zip (show (x.1, x.2) ∈ xs.zip vs from hx)).1
    exact (hkinds x.1 hx1).imp id fun h => ⟨h.1, h.2 _⟩
  · have hbn : ((xs.zip vs).map (·.1)).Nodup := by
      rw [List.map_fst_zip (by rw [r.length]; omega)]; exact hnd
    refine (hbody pr s s.heap.objs.size cd ok).run _ _ _ _ rm.deeper ⟨_, _, ⟨h₁, tk, rfl, F.keep⟩, F.ns, X.cell, fun x y c hx hy => name_of_addr X.apart (mem_of_lookup hx) (mem_of_lookup hy), none_of_size (Nat.le_refl _), fun x c h => ⟨none_of_size (Nat.le_of_lt (X.above x c (mem_of_lookup h))), Nat.ne_of_gt (X.above x c (mem_of_lookup h))⟩, fun y d' h => ?_⟩ fun v s' k rv => hq v s' k rv
    obtain ⟨v, hv, rv⟩ := zip_get r h
    have hy : y ∈ xs := (List.of_mem_zip hv).1
    refine ⟨v, rv.keeps F.keep, ?_⟩
    rcases hkinds y hy with hl | ⟨hc, hL⟩
    · exact .inl ⟨hl, bindL_get _ _ _ _ hbn hv hl⟩
    · refine .inr ⟨hc, Option.isSome_iff_exists.mp (hL _), bindC_get _ _ _ _ hbn hv ?_⟩
      show scope.names.lookup y ≠ _
      rw [hc]; simp
end Mine
end

/-! G0 -/
section
open PySem PySem.W PyProof.Rows
set_option Elab.async false
set_option linter.unusedVariables false
set_option maxRecDepth 100000
namespace Mine
variable {prog : Program} {w : World} {sT : Shared} {n : Nat} {pr : Addr → Prop} {s : Shared}

def tupD (t : Nat × Nat) : PyData := .tuple [.int (t.1 : Nat), .int (t.2 : Nat)]
def ltT (a b : Nat × Nat) : Bool := decide (a.1 < b.1) || (decide (a.1 = b.1) && decide (a.2 < b.2))
def minT : List (Nat × Nat) → Nat × Nat
  | [] => (0, 0)
  | x :: xs => xs.foldl (fun b y => if ltT y b = true then y else b) x

theorem rep_tupD {h : Heap} {v : Value} {t : Nat × Nat} (r : Rep pr h v (tupD t)) : ∃ a t₁ t₂, v = .ref a ∧ PTup h a #[.int (t.1 : Nat) t₁, .int (t.2 : Nat) t₂] := by
  obtain ⟨a, vs, rfl, ht, hr⟩ := r.tuple_inv
  cases hr with
  | cons r₁ hr =>
  cases hr with
  | cons r₂ hr =>
  cases hr
  obtain ⟨t₁, rfl⟩ := r₁.int_inv
  obtain ⟨t₂, rfl⟩ := r₂.int_inv
  exact ⟨a, t₁, t₂, rfl, ht⟩
theorem tupD_rep {h : Heap} {a : Addr} {t : Nat × Nat} {t₁ t₂ : Tok} (ht : PTup h a #[.int (t.1 : Nat) t₁, .int (t.2 : Nat) t₂]) : Rep pr h (.ref a) (tupD t) :=
  .tuple (vs := [.int (t.1 : Nat) t₁, .int (t.2 : Nat) t₂]) ht (.cons (.int ..) (.cons (.int ..) .nil))

theorem lt_tup {A : Around} {Q : Value → Shared → Prop} {E : Value → Shared → Prop} {v u : Value} {a b : Nat × Nat} (hu : A.units + 10 < cLine) (rv : Rep pr s.heap v (tupD a)) (ru : Rep pr s.heap u (tupD b)) (hq : Q (.bool (ltT a b)) s) :
    wpAny (model prog w) A (richCompare .Lt v u) Q E s := by
  obtain ⟨x, t₁, t₂, rfl, hx⟩ := rep_tupD rv
  obtain ⟨y, t₃, t₄, rfl, hy⟩ := rep_tupD ru
  refine wpAny_richCompare_same_room (T := "tuple") (op := .Lt) hx.isTuple.typeIs hy.isTuple.typeIs F.slot_tuple_lt ?_ (by omega)
  refine wpAny_call_entry F.slot_tuple_lt hx.isTuple.typeIs F.entry_tuple_lt ?_ (F.args_tuple_lt_2 _ _)
  show wpAny _ _ (isInstance (.ref y) (.type "tuple") >>= _) _ _ s
  refine wpAny_bind (wpAny_isInstance (T := "tuple") (b := true) hy.isTuple.typeIs ?_ ?_)
  · exact AutoSeq1.sub_tuple_tuple
  show wpAny _ _ (Builtin.Tuple.tupleItemsOf (.ref x) >>= _) _ _ s
  refine wpAny_bind (tupleItemsOf_ hx.isTuple ?_)
  refine wpAny_bind (tupleItemsOf_ hy.isTuple ?_)
  dsimp only [List.zip_cons_cons, List.zip_nil_right]
  have fin : ∀ {p q : Int} {tp tq : Tok}, p ≠ q → decide (p < q) = ltT a b → wpAny (model prog w) A.in1 (do
      rule "tuple.compare.by-the-first-pair-that-differs"
      let r ← richCompare CmpOp.Lt (.int p tp) (.int q tq)
      let r ← ret r
      pure (ForInStep.done (some r, ()))) (fun st s' => st = ForInStep.done (some (.done (.ret (.bool (ltT a b)))), ()) ∧ s' = s) E s := by
    intro p q tp tq _ he
    refine wpAny_bind (wpAny_rule (wpAny_bind ?_))
    refine PySem.wpAny_lt_int (prog := prog) (w := w) ?_
    rw [he]
    exact wpAny_bind (wpAny_pure (wpAny_pure ⟨rfl, rfl⟩))
  refine wpAny_bind ?_
  rw [List.forIn_cons]
  refine wpAny_bind (wpAny_bind (wpAny_eqBool_int ?_))
  by_cases h1 : ((a.1 : Nat) : Int) = (b.1 : Nat)
  · have e1 : (((a.1 : Nat) : Int) == ((b.1 : Nat) : Int)) = true := beq_iff_eq.mpr h1
    rw [e1]
    simp only [Bool.not_true, Bool.false_eq_true, if_false]
    refine wpAny_pure ?_
    dsimp only
    rw [List.forIn_cons]
    refine wpAny_bind (wpAny_bind (wpAny_eqBool_int ?_))
    by_cases h2 : ((a.2 : Nat) : Int) = (b.2 : Nat)
    · have e2 : (((a.2 : Nat) : Int) == ((b.2 : Nat) : Int)) = true := beq_iff_eq.mpr h2
      rw [e2]
      simp only [Bool.not_true, Bool.false_eq_true, if_false]
      refine wpAny_pure ?_
      dsimp only
      show wpAny _ _ (forIn [] _ _) _ _ _
      rw [List.forIn_nil]
      refine wpAny_pure ?_
      dsimp only
      have e : ltT a b = false := by
        unfold ltT
        have : a.1 = b.1 := by omega
        have : a.2 = b.2 := by omega
        simp [*]
      rw [e] at hq
      exact wpAny_pure ⟨_, rfl, by simp [Builtin.Tuple.tupleCompareSizes], hq⟩
    · have e2 : (((a.2 : Nat) : Int) == ((b.2 : Nat) : Int)) = false := beq_eq_false_iff_ne.mpr h2
      rw [e2]
      simp only [Bool.not_false, if_true]
      refine wpAny_mono (fin h2 ?_) (fun st s' h => ?_) fun _ _ x => x
      · unfold ltT
        have h3 : a.1 = b.1 := by omega
        simp [h3]
      · obtain ⟨rfl, rfl⟩ := h
        exact wpAny_pure (wpAny_pure ⟨_, rfl, by simp, hq⟩)
  · have e1 : (((a.1 : Nat) : Int) == ((b.1 : Nat) : Int)) = false := beq_eq_false_iff_ne.mpr h1
    rw [e1]
    simp only [Bool.not_false, if_true]
    refine wpAny_mono (fin h1 ?_) (fun st s' h => ?_) fun _ _ x => x
    · unfold ltT
      have h3 : ¬ a.1 = b.1 := by omega
      simp [h3]
    · obtain ⟨rfl, rfl⟩ := h
      exact wpAny_pure (wpAny_pure ⟨_, rfl, by simp, hq⟩)

theorem ptup_of {h h' : Heap} {I S : Addr} {i : Nat} {ax : Addr} (hi : h.IsListIter I ax i) {c : Nat} {xs : Array Value} (hS : h.get? S = some { cls := .type "list", data := .seq xs c }) (hk : ∀ b o, b ≠ I → b ≠ S → h.get? b = some o → h'.get? b = some o)
    {a : Addr} {vs : Array Value} (ht : PTup h a vs) : PTup h' a vs := by
  obtain ⟨m, e⟩ := ht
  refine ⟨m, hk _ _ ?_ ?_ e⟩
  · rintro rfl
    obtain ⟨o, eo, hc, _⟩ := hi
    rw [e] at eo; cases eo; simp at hc
  · rintro rfl
    rw [e] at hS; simp at hS
theorem rep_move {h h' : Heap} (hk : ∀ {a : Addr} {vs : Array Value}, PTup h a vs → PTup h' a vs) {pr' : Addr → Prop} {v : Value} {t : Nat × Nat} (r : Rep pr h v (tupD t)) : Rep pr' h' v (tupD t) := by
  obtain ⟨a, t₁, t₂, rfl, ht⟩ := rep_tupD r
  exact tupD_rep (hk ht)
theorem repAll_move {h h' : Heap} (hk : ∀ {a : Addr} {vs : Array Value}, PTup h a vs → PTup h' a vs) {pr' : Addr → Prop} : ∀ {vs : List Value} {ts : List (Nat × Nat)}, RepAll pr h vs (ts.map tupD) → RepAll pr' h' vs (ts.map tupD)
  | _, [], .nil => .nil
  | _, _ :: _, .cons a r => .cons (rep_move hk a) (repAll_move hk r)

theorem min_loop {A : Around} {R : Result → Shared → Prop} {I ax S : Addr} {vs : List Value} {ts : List (Nat × Nat)} (hh : A.handled = none) (hu : A.units + 20 < cLine) (hne : ax ≠ I) (hSI : S ≠ I) (hSa : S ≠ ax) (hlen : vs.length = ts.length) :
    ∀ (k j : Nat) (s : Shared) (vb : Value) (best : Nat × Nat) (c : Nat), ts.length - j = k → j ≤ ts.length → s.heap.IsListIter I ax j → s.heap.IsList ax vs.toArray → RepAll pr s.heap vs (ts.map tupD) → Rep pr s.heap vb (tupD best) →
    s.heap.get? S = some { cls := .type "list", dict := none, data := .seq #[vb, vb] c, slots := #[] } →
    (∀ v h' tk, Rep pr h' v (tupD ((ts.drop j).foldl (fun b y => if ltT y b = true then y else b) best)) → (∀ b o, b ≠ I → b ≠ S → s.heap.get? b = some o → h'.get? b = some o) → R (.ok (.ret v)) { s with heap := h', toks := tk }) →
    codeAny (model prog w) A (.builtin "min.loop" ⟨[.ref I, .none, .ref S], []⟩) R s := by
  have W := Walks.list (prog := prog) (w := w) (A := A.in1) hh I ax hne vs.toArray
  have hname : (toString "min" ++ toString ".loop" : String) = "min.loop" := by decide
  intro k
  induction k with
  | zero =>
    intro j s vb best c hk hj hit hl hr hb hS hR
    have hin : j = ts.length := by omega
    refine codeAny_builtin F.entry_min_loop ?_
    rw [Around.under_plainId F.plain_min_loop _]
    show wpAny _ A.in1 (seqItems? (.ref S) >>= _) _ _ s
    refine wpAny_bind (wpAny_seqItems hS rfl ?_)
    show wpAny _ A.in1 (tryCatch (pyNext (.ref I)) _ >>= _) _ _ s
    refine wpAny_bind (wpAny_tryCatch (W.done s _ _ (by rw [List.size_toArray, hlen, ← hin]; exact ⟨hit, hl⟩) fun h' tk hk' => ?_))
    have hS' := hk' S _ (by simp [hSI]) hS
    show wpAny _ A.in1 (updateSeq S (fun _ => #[]) >>= _) _ _ _
    refine wpAny_bind ?_
    refine wpAny_updateSeq hS' rfl (wpAny_bind (wpAny_letGo (wpAny_pure ?_)))
    have kk : ∀ b o, b ≠ I → b ≠ S → s.heap.get? b = some o → (h'.update S (Obj.mapSeq fun _ => #[])).get? b = some o := fun b o hbI hbS e => (Heap.get?_update_other _ _ (Ne.symm hbS)).trans (hk' b o (by simp [hbI]) e)
    refine hR vb _ tk ?_ kk
    rw [hin, List.drop_length, List.foldl_nil]
    exact rep_move (fun ht => ptup_of hit hS kk ht) hb
  | succ k ih =>
    intro j s vb best c hk hj hit hl hr hb hS hR
    have hlt : j < ts.length := by omega
    refine codeAny_builtin F.entry_min_loop ?_
    rw [Around.under_plainId F.plain_min_loop _]
    show wpAny _ A.in1 (seqItems? (.ref S) >>= _) _ _ s
    refine wpAny_bind (wpAny_seqItems hS rfl ?_)
    show wpAny _ A.in1 (tryCatch (pyNext (.ref I)) _ >>= _) _ _ s
    refine wpAny_bind (wpAny_tryCatch (W.item j s _ _ (by rw [List.size_toArray, hlen]; exact hlt) ⟨hit, hl⟩ fun v h' tk hP hst' hk' => ?_))
    have hS' := hk' S _ (by simp [hSI]) hS
    have k1 : ∀ b o, b ≠ I → b ≠ S → s.heap.get? b = some o → h'.get? b = some o := fun b o hbI _ e => hk' b o (by simp [hbI]) e
    have mvT : ∀ {a : Addr} {vs : Array Value}, PTup s.heap a vs → PTup h' a vs := fun ht => ptup_of hit hS k1 ht
    have hr' : RepAll pr h' vs (ts.map tupD) := repAll_move mvT hr
    have hb' : Rep pr h' vb (tupD best) := rep_move mvT hb
    obtain ⟨t, ht⟩ : ∃ t, ts[j]? = some t := ⟨_, List.getElem?_eq_getElem hlt⟩
    have hv : vs[j]? = some v := by simpa using hP
    obtain ⟨d, hd, hvr⟩ := hr'.get' hv
    rw [List.getElem?_map, ht] at hd
    cases hd
    have hdrop : ts.drop j = t :: ts.drop (j + 1) := by
      rw [List.drop_eq_getElem_cons hlt]
      rw [List.getElem?_eq_getElem hlt] at ht
      cases ht; rfl
    show wpAny _ A.in1 (tryCatch (holding [v, v] (richCompare .Lt v vb >>= _)) _ >>= _) _ _ _
    refine wpAny_bind (wpAny_tryCatch (wpAny_holding (wpAny_bind (lt_tup (pr := pr) (by show A.units + 1 + 10 < cLine; omega) hvr hb' ?_))))
    refine wpAny_bind (wpAny_holding (wpAny_truthy_bool ?_))
    refine wpAny_bind (wpAny_letGo (wpAny_pure ?_))
    rw [hdrop, List.foldl_cons] at hR
    cases hbt : ltT t best with
    | true =>
      simp only [if_true]
      refine wpAny_bind ?_
      refine wpAny_updateSeq hS' rfl (wpAny_bind (wpAny_letGo ?_))
      rw [hname]
      have k2 : ∀ b o, b ≠ I → b ≠ S → h'.get? b = some o → (h'.update S (Obj.mapSeq fun _ => #[v, v])).get? b = some o := fun b o _ hbS e => (Heap.get?_update_other _ _ (Ne.symm hbS)).trans e
      have mv2 : ∀ {a : Addr} {vs : Array Value}, PTup h' a vs → PTup (h'.update S (Obj.mapSeq fun _ => #[v, v])) a vs := fun ht => ptup_of hst'.1 hS' k2 ht
      rw [hbt] at hR
      refine wpAny_pure ⟨plainId_quiet F.plain_min_loop _, ih (j + 1) _ v t _ (by omega) hlt ?_ ?_ (repAll_move mv2 hr') (rep_move mv2 hvr) (Heap.get?_update_self _ hS' rfl) fun v' h'' tk'' hP' hk'' => ?_⟩
      · obtain ⟨o, e, r⟩ := hst'.1
        exact ⟨o, (Heap.get?_update_other _ _ hSI).trans e, r⟩
      · obtain ⟨o, e, r⟩ := hst'.2
        exact ⟨o, (Heap.get?_update_other _ _ hSa).trans e, r⟩
      · exact hR v' h'' tk'' hP' fun b o hbI hbS e => hk'' b o hbI hbS (k2 b o hbI hbS (k1 b o hbI hbS e))
    | false =>
      simp only [Bool.false_eq_true, if_false]
      refine wpAny_bind (wpAny_letGo ?_)
      rw [hname]
      rw [hbt] at hR
      refine wpAny_pure ⟨plainId_quiet F.plain_min_loop _, ih (j + 1) _ vb best c (by omega) hlt hst'.1 hst'.2 hr' hb' hS' fun v' h'' tk'' hP' hk'' => ?_⟩
      exact hR v' h'' tk'' hP' fun b o hbI hbS e => hk'' b o hbI hbS (k1 b o hbI hbS e)

theorem fn_min {ts : List (Nat × Nat)} (hne : ts ≠ []) : Fn prog w sT n (.builtin "min") [.list (ts.map tupD)] (tupD (minT ts)) := by
  refine ⟨fun pr s A Q E us rm ok r hq => ?_⟩
  cases r with
  | cons r1 r2 =>
  cases r2
  obtain ⟨ax, vs, rfl, _, ⟨m, hl⟩, hr⟩ := r1.list_inv
  have hname : (toString "min" ++ toString ".loop" : String) = "min.loop" := by decide
  refine call_function_tree F.kind_min F.plain_min F.entry_min (F.args_min1 _) ?_
  show wpAny _ A.in1 (Builtin.Builtins.bindParams "min" ["key", "default"] 0 ⟨[], []⟩ >>= _) _ _ s
  refine wpAny_bind (wpAny_of_eq (show Builtin.Builtins.bindParams "min" ["key", "default"] 0 ⟨[], []⟩ = pure [none, none] from rfl) ?_)
  refine wpAny_bind (wpAny_pure ?_)
  have hlt : ax < s.heap.objs.size := Heap.lt_size hl
  refine wpAny_bind (wpAny_pyIter_list ⟨_, hl, rfl, m, rfl⟩ ?_)
  refine wpAny_bind (wpAny_newObj_type ?_)
  rw [hname]
  generalize hI : s.heap.objs.size = I
  generalize hH : s.heap.push { cls := .type "list_iterator", data := .fields #[.ref ax, .int 0 0] } = H
  have hHs : H.objs.size = I + 1 := by rw [← hH, Heap.size_push, hI]
  have kH : ∀ b o, s.heap.get? b = some o → H.get? b = some o := fun b o e => hH ▸ Heap.get?_push_of_some _ e
  have hHI : H.get? I = some { cls := .type "list_iterator", data := .fields #[.ref ax, .int 0 0] } := by rw [← hH, ← hI]; exact Heap.get?_push_size _ rfl
  dsimp only
  generalize hS : H.objs.size = S
  generalize hH2 : H.push { cls := .type "list", dict := none, data := .seq ([] : List Value).toArray } = H2
  have k2 : ∀ b o, s.heap.get? b = some o → H2.get? b = some o := fun b o e => hH2 ▸ Heap.get?_push_of_some _ (kH b o e)
  have hS2 : H2.get? S = some { cls := .type "list", data := .seq #[] } := by rw [← hH2, ← hS]; exact Heap.get?_push_size _ rfl
  have hI2 : H2.IsListIter I ax 0 := ⟨_, hH2 ▸ Heap.get?_push_of_some _ hHI, rfl, rfl⟩
  have haxI : ax ≠ I := by rw [← hI]; exact Nat.ne_of_lt hlt
  have hSI : S ≠ I := by rw [← hS, hHs]; exact Nat.succ_ne_self _
  have hSa : S ≠ ax := by
    rw [← hS, hHs, ← hI]
    exact Nat.ne_of_gt (Nat.lt_succ_of_lt hlt)
  obtain ⟨t, ts', rfl⟩ : ∃ t ts', ts = t :: ts' := by
    cases ts with
    | nil => exact absurd rfl hne
    | cons t ts' => exact ⟨t, ts', rfl⟩
  have hlen : vs.length = (t :: ts').length := by rw [hr.length, List.length_map]
  have W := Walks.list (prog := prog) (w := w) (A := A.in1) rm.handled I ax haxI vs.toArray
  have hr2 : RepAll pr H2 vs ((t :: ts').map tupD) := hr.keeps k2
  refine wpAny_pure ⟨plainId_quiet F.plain_min_loop _, codeAny_builtin F.entry_min_loop ?_⟩
  rw [Around.under_plainId F.plain_min_loop _]
  show wpAny _ A.in1 (seqItems? (.ref S) >>= _) _ _ _
  refine wpAny_bind (wpAny_seqItems hS2 rfl ?_)
  show wpAny _ A.in1 (tryCatch (pyNext (.ref I)) _ >>= _) _ _ _
  refine wpAny_bind (wpAny_tryCatch (W.item 0 _ _ _ (by rw [List.size_toArray, hlen]; simp) ⟨hI2, ⟨_, k2 _ _ hl, rfl, m, rfl⟩⟩ fun v h' tk hP hst' hk' => ?_))
  have hS' := hk' S _ (by simp [hSI]) hS2
  have k1 : ∀ b o, b ≠ I → b ≠ S → H2.get? b = some o → h'.get? b = some o := fun b o hbI _ e => hk' b o (by simp [hbI]) e
  have mvT : ∀ {a : Addr} {vs : Array Value}, PTup H2 a vs → PTup h' a vs := fun ht => ptup_of hI2 hS2 k1 ht
  have hr' := repAll_move (pr' := pr) mvT hr2
  have hv : vs[0]? = some v := by simpa using hP
  obtain ⟨d, hd, hvr⟩ := hr'.get' hv
  simp only [List.map_cons, List.getElem?_cons_zero, Option.some.injEq] at hd
  subst hd
  show wpAny _ A.in1 (updateSeq S (fun _ => #[v, v]) >>= _) _ _ _
  refine wpAny_bind ?_
  refine wpAny_updateSeq hS' rfl ?_
  rw [hname]
  have k3 : ∀ b o, b ≠ I → b ≠ S → h'.get? b = some o → (h'.update S (Obj.mapSeq fun _ => #[v, v])).get? b = some o := fun b o _ hbS e => (Heap.get?_update_other _ _ (Ne.symm hbS)).trans e
  have mv3 : ∀ {a : Addr} {vs : Array Value}, PTup h' a vs → PTup (h'.update S (Obj.mapSeq fun _ => #[v, v])) a vs := fun ht => ptup_of hst'.1 hS' k3 ht
  refine wpAny_pure ⟨plainId_quiet F.plain_min_loop _, min_loop (pr := pr) (ax := ax) (vs := vs) (ts := t :: ts') rm.handled (by have := rm.units; omega) haxI hSI hSa hlen _ 1 _ v t _ rfl (by simp) ?_ ?_ (repAll_move mv3 hr') (rep_move mv3 hvr) (Heap.get?_update_self _ hS' rfl) fun v' h'' tk'' hP' hk'' => ?_⟩
  · obtain ⟨o, e, r⟩ := hst'.1
    exact ⟨o, (Heap.get?_update_other _ _ hSI).trans e, r⟩
  · obtain ⟨o, e, r⟩ := hst'.2
    exact ⟨o, (Heap.get?_update_other _ _ hSa).trans e, r⟩
  · refine hq v' _ ⟨h'', tk'', rfl, fun b o e => ?_⟩ (by simpa [minT] using hP')
    have hbl := Heap.lt_size e
    have hbI : b ≠ I := by rw [← hI]; exact Nat.ne_of_lt hbl
    have hbS : b ≠ S := by rw [← hS, hHs, ← hI]; exact Nat.ne_of_lt (Nat.lt_succ_of_lt hbl)
    exact hk'' b o hbI hbS (k3 b o hbI hbS (k1 b o hbI hbS (k2 b o e)))
end Mine
end

/-! Pd -/
section
open PySem PySem.W PyProof.Rows
set_option Elab.async false
set_option linter.unusedVariables false
set_option maxRecDepth 100000
namespace Mine

def wordsL : List String := ["OPTIMIZED", "NEWLOCALS", "VARARGS", "VARKEYWORDS", "NESTED", "GENERATOR", "NOFREE", "COROUTINE", "ITERABLE_COROUTINE", "ASYNC_GENERATOR",
  "0x400", "0x800", "0x1000", "0x2000", "0x4000", "0x8000", "0x10000", "0x20000", "0x40000", "0x80000", "0x100000", "0x200000"]
def wordS (p : Nat) : Str := Str.ofString (wordsL.getD p "")
def letterS (p : Nat) : Str := ⟨#[97 + p]⟩
def withinL (p : Nat) : List Nat := if p = 8 then [8, 7] else if p = 9 then [9, 5] else if 13 < p then [p, p - 4, p - 8].filter fun q => decide (9 < q) else [p]
def metT (order : List Nat) (p : Nat) : Nat × Nat := minT ((withinL p).map fun q => (order.idxOf q, q))
def pieceS (p first : Nat) : Str :=
  if first = p then letterS p else if p < 10 then (if p = 8 then Str.ofString "ITERABLE_" else Str.ofString "ASYNC_") ++ letterS first
  else letterS first ++ strMul (Str.ofString "0") ((p - first) / 4)
/-- (turn, word, piece) -/
def metP (order : List Nat) (p : Nat) : Nat × Str × Str := ((metT order p).1, wordS p, pieceS p (metT order p).2)
def met3D (t : Nat × Str × Str) : PyData := .tuple [.int (t.1 : Nat), .str t.2.1, .str t.2.2]
def natsD (l : List Nat) : PyData := .list (l.map fun p => .int (p : Nat))
def bits (x : Nat) : List Nat := (List.range 22).filter fun p => decide (x / 2 ^ p % 2 = 1)
def rowP (order : List Nat) (x : Nat) : List (Nat × Str × Str) := (bits x).map (metP order)
def rowTxt (done : Nat) (row : List (Nat × Str × Str)) : Str := Str.join (Str.ofString ", ") (row.map fun t => if t.1 < done then t.2.2 else t.2.1)
def orNought (x : Str) : Str := if (x.length != 0) = true then x else Str.ofString "0x0"
def pg (rows : List (List (Nat × Str × Str))) (done : Nat) : Str := Str.join (Str.ofString "\n") (rows.map fun r => orNought (rowTxt done r))
def repl : Str → List (Str × Str) → Str
  | t, [] => t
  | t, (u, v) :: r => repl (Str.join v (Txt.split t u)) r
def flagsS (x : Nat) : Str := orNought (Str.join (Str.ofString ", ") ((bits x).map wordS))

/-- the order of the places: a permutation -/
structure Perm22 (o : List Nat) : Prop where
  len : o.length = 22
  nodup : o.Nodup
  all : ∀ p, p ∈ o ↔ p < 22

theorem joinOk {sep : Str} {ys : List Str} {B : Nat} (hB : ∀ y ∈ ys, y.length ≤ B) (h : ys.length * B + ys.length * sep.length ≤ 16777216) : JoinOk sep ys = true := by
  unfold JoinOk
  rw [Bool.not_eq_true']
  exact StrLaws.joinFits hB h
theorem fmodN (p q : Nat) (hq : 0 < q) : Int.fmod (p : Int) (q : Int) = ((p % q : Nat) : Int) := by
  rw [Int.fmod_eq_emod_of_nonneg _ (by omega)]
  exact (Int.natCast_emod p q).symm
theorem fdivN (p q : Nat) : Int.fdiv (p : Int) (q : Int) = ((p / q : Nat) : Int) := by
  rw [Int.fdiv_eq_ediv_of_nonneg _ (by omega)]
  exact (Int.natCast_ediv p q).symm
theorem idxOf_cast (o : List Nat) (p : Nat) : (o.map fun q => ((q : Nat) : Int)).idxOf (p : Int) = o.idxOf p := by
  induction o with
  | nil => rfl
  | cons q r ih =>
    rw [List.map_cons, List.idxOf_cons, List.idxOf_cons, ih]
    have : (((q : Nat) : Int) == ((p : Nat) : Int)) = (q == p) := by
      cases h : q == p with
      | true => rw [beq_iff_eq] at h; subst h; simp
      | false =>
        rw [beq_eq_false_iff_ne] at h
        rw [beq_eq_false_iff_ne]
        omega
    rw [this]
end Mine
end

/-! G1 -/
section
open PySem PySem.W PyProof.Rows
set_option Elab.async false
set_option linter.unusedVariables false
set_option maxRecDepth 100000
namespace Mine
variable {prog : Program} {w : World} {sT : Shared} {n : Nat} {mg mb : Str → Option Value}

def stAt (k : Nat) : Stmt := PySem.Challenge.pw_ph0010_01.main.body.getD k (.Pass default)
def parOf : Stmt → Arguments
  | .FunctionDef _ a .. => a
  | _ => default
def bodOf : Stmt → List Stmt
  | .FunctionDef _ _ b .. => b
  | _ => []
def scoOf : Stmt → Scope
  | .FunctionDef _ _ _ _ _ _ s .. => s
  | _ => default
abbrev DefAt (mg : Str → Option Value) (sT : Shared) (f : String) (k : Nat) (a : Addr) : Prop := FnAt mg sT (Str.ofString f) a (parOf (stAt k)) (bodOf (stAt k)) (scoOf (stAt k))

theorem one_of {vs : List Value} {d : PyData} (h : vs.length = [d].length) : ∃ v, vs = [v] := by
  match vs, h with | [v], _ => exact ⟨v, rfl⟩
theorem two_of {vs : List Value} {d e : PyData} (h : vs.length = [d, e].length) : ∃ v u, vs = [v, u] := by
  match vs, h with | [v, u], _ => exact ⟨v, u, rfl⟩

theorem letter_at : ∀ p < 22, (Str.ofString "abcdefghijklmnopqrstuv").cps[p]? = some (97 + p) := by decide +kernel

theorem letter_spec {a : Addr} (G : Gl mg mb sT) (hf : DefAt mg sT "_law_letter" 7 a) {p : Nat} (hp : p < 22) : Fn prog w sT (n + 1) (.ref a) [.int p] (.str (letterS p)) := by
  refine fn_def (xs := [Str.ofString "place"]) G hf rfl (by simp) (fun vs pm cd doc h => ?_) ?_ ?_
  · obtain ⟨v, rfl⟩ := one_of h
    rfl
  · intro x hx
    rw [List.mem_singleton] at hx
    subst hx
    exact .inl rfl
  · intro pr s₀ L cd ok
    show Ex prog w sT n s₀ (envOfC _ (Scope.mk _ _ _ _ _) L a cd) pr _ (_ :: _) _
    generalize hEv : envOfC (Str.ofString "_law_letter") _ L a cd = env
    have hE : En env := by subst hEv; exact ⟨rfl, rfl, rfl⟩
    refine ex_ret (x_return ok fun s F => ?_)
    exact ev_item_str ev_str (ev_name (F.var hE rfl)) (Int.natCast_nonneg p) (by omega) (c := 97 + p) (by simpa using letter_at p hp)

theorem digit_at : ∀ p < 4, (Str.ofString "1248").cps[p]? = some (((Str.ofString "1248").cps[p]?).getD 0) := by decide +kernel
theorem word_at : ∀ p < 22, 10 ≤ p → Str.ofString "0x" ++ ⟨#[((Str.ofString "1248").cps[p % 4]?).getD 0]⟩ ++ strMul (Str.ofString "0") (p / 4) = wordS p := by decide +kernel
theorem zeros_len : ∀ p < 22, (Str.ofString "0x" ++ ⟨#[((Str.ofString "1248").cps[p % 4]?).getD 0]⟩).length + (strMul (Str.ofString "0") (p / 4)).length ≤ 100 := by decide +kernel

theorem word_spec {a : Addr} (G : Gl mg mb sT) (hf : DefAt mg sT "_law_word" 6 a) {p : Nat} (hp : p < 22) : Fn prog w sT (n + 1) (.ref a) [.int p] (.str (wordS p)) := by
  refine fn_def (xs := [Str.ofString "place"]) G hf rfl (by simp) (fun vs pm cd doc h => ?_) ?_ ?_
  · obtain ⟨v, rfl⟩ := one_of h
    rfl
  · intro x hx
    rw [List.mem_singleton] at hx
    subst hx
    exact .inl rfl
  · intro pr s₀ L cd ok
    show Ex prog w sT n s₀ (envOfC _ (Scope.mk _ _ _ _ _) L a cd) pr _ (_ :: _ :: _ :: _) _
    generalize hEv : envOfC (Str.ofString "_law_word") _ L a cd = env
    have hE : En env := by subst hEv; exact ⟨rfl, rfl, rfl⟩
    have hN : Sto env (Str.ofString "named") := by subst hEv; exact .inl rfl
    refine ex_cons (Γ' := (Str.ofString "named", .tuple ((wordsL.take 10).map fun x => .str (Str.ofString x))) :: ([Str.ofString "place"].zip [PyData.int p])) ?_ ?_
    · refine x_assign ok hE hN (fun s F => ?_) (by rfl)
      refine ev_tuple ?_ ?_
      · exact evl_cons ev_str (evl_cons ev_str (evl_cons ev_str (evl_cons ev_str (evl_cons ev_str (evl_cons ev_str (evl_cons ev_str (evl_cons ev_str (evl_cons ev_str (evl_cons ev_str evl_nil)))))))))
      · rw [sizeLine_eq]; show 10 ≤ 16777216; omega
    by_cases h10 : p < 10
    · refine ex_ret (x_if_t ok (fun s F => Ts.cast (ts_cmp (ev_name (F.var hE rfl)) ev_int op_lt_int) (by simp; omega)) (ex_ret (x_return ok fun s F => ?_)))
      refine ev_item_tuple (ev_name (F.var hE rfl)) (ev_name (F.var hE rfl)) (Int.natCast_nonneg p) ?_
      rw [Int.toNat_natCast]
      have : ∀ p < 10, ((wordsL.take 10).map fun x => PyData.str (Str.ofString x))[p]? = some (.str (wordS p)) := by
        intro p hp
        have hlt : p < (wordsL.take 10).length := hp
        rw [List.getElem?_map, List.getElem?_eq_getElem hlt, List.getElem_take]
        unfold wordS
        rw [List.getD_eq_getElem?_getD, List.getElem?_eq_getElem (show p < wordsL.length by simp [wordsL]; omega)]
        rfl
      exact this p h10
    · refine ex_cons (x_if_f ok (fun s F => Ts.cast (ts_cmp (ev_name (F.var hE rfl)) ev_int op_lt_int) (by simp; omega)) ex_nil) (ex_ret (x_return ok fun s F => ?_))
      refine Ev.cast (ev_bin (ev_bin ev_str (ev_item_str ev_str (Ev.cast (ev_bin (ev_name (F.var hE rfl)) ev_int (op_mod_int (by decide))) (by rw [show (4 : Int) = ((4 : Nat) : Int) from rfl, fmodN p 4 (by omega)])) (Int.natCast_nonneg _) (by omega) (c := ((Str.ofString "1248").cps[p % 4]?).getD 0) ?_) (op_add_str ?_))
        (ev_bin ev_str (Ev.cast (ev_bin (ev_name (F.var hE rfl)) ev_int (op_div_int (by decide) (by decide))) (by rw [show (4 : Int) = ((4 : Nat) : Int) from rfl, fdivN p 4])) (op_mul_str (Int.natCast_nonneg _) (by omega) (by decide))) (op_add_str ?_)) ?_
      · rw [Int.toNat_natCast]
        exact digit_at _ (Nat.mod_lt _ (by omega))
      · have : (Str.ofString "0x").length = 2 := by decide
        rw [this, sizeLine_eq]
        show 2 + 1 ≤ _
        omega
      · rw [Int.toNat_natCast]
        have := zeros_len p hp
        rw [sizeLine_eq]
        omega
      · rw [Int.toNat_natCast, word_at p hp (by omega)]
end Mine
end

/-! G2 -/
section
open PySem PySem.W PyProof.Rows
set_option Elab.async false
set_option linter.unusedVariables false
set_option maxRecDepth 100000
namespace Mine
variable {prog : Program} {w : World} {sT : Shared} {n : Nat} {pr : Addr → Prop} {s s₀ : Shared} {env : Env} {Γ : Cx} {mg mb : Str → Option Value}

theorem wp_execs_append {M : Model} {C : Ctx} {l₂ : List Stmt} {Q : Flow → Pos → Shared → Prop} {E : Value → Pos → Shared → Prop} : ∀ (l₁ : List Stmt) (p : Pos) (s : Shared),
    Sem.wp M C (execs l₁ env) (fun f p' s' => match f with | .next => Sem.wp M C (execs l₂ env) Q E p' s' | f => Q f p' s') E p s → Sem.wp M C (execs (l₁ ++ l₂) env) Q E p s
  | [], p, s, h => h
  | st :: r, p, s, h => by
    show Sem.wp M C (execs (st :: (r ++ l₂)) env) Q E p s
    rw [execs_cons, Sem.wp_bind'] at h ⊢
    refine Sem.wp_mono _ C _ (fun f p' s' hf => ?_) (fun _ _ _ h => h) _ _ h
    cases f with
    | next => exact wp_execs_append r p' s' hf
    | _ => exact hf

theorem ex_split (k : Nat) {l : List Stmt} {o : Out} (P : Cx → Prop) (h2 : ∀ Γ', P Γ' → Ex prog w sT n s₀ env pr Γ' (l.drop k) o) (h1 : ∃ Γ', P Γ' ∧ Ex prog w sT n s₀ env pr Γ (l.take k) (.next Γ')) : Ex prog w sT n s₀ env pr Γ l o := by
  obtain ⟨Γ', hP, h1⟩ := h1
  have h2 := h2 Γ' hP
  refine ⟨fun s A Q E rm F ho => ?_⟩
  have := h1.run s A (fun f s' => match f with | .next => wpAny (model prog w) A (execs (l.drop k) env) Q E s' | f => Q f s') E rm F (fun s' mv F' => h2.run s' A Q E rm F' (Out.moves ho mv))
  intro C p hC
  have h3 := wp_execs_append (l₂ := l.drop k) (Q := fun f _ s' => Q f s') (E := fun e _ s' => E e s') (l.take k) p s
    (Sem.wp_mono _ C _ (fun f p' s' hf => by cases f with | next => exact hf C p' hC | _ => exact hf) (fun _ _ _ h => h) _ _ (this C p hC))
  rwa [List.take_append_drop] at h3

theorem ev_fn {f : Str} {p pos : Pos} {e : Expr} {es : List Expr} {a : Addr} {params : Arguments} {body : List Stmt} {scope : Scope} {ds : List PyData} {d : PyData}
    (G : Gl mg mb sT) (hE : En env) (hf : FnAt mg sT f a params body scope) (hx : env.kindOf f = some .globalImplicit)
    (hl : EvL prog w sT n pr s env pos (e :: es) ds) (hc : Fn prog w sT n (.ref a) ds d) (hdb : (f == ("__debug__" : Str)) = false := by decide)
    (hst : starEach (e :: es) env = (false, eval e env) :: starEach es env := by rfl) : Ev prog w sT n pr s env (.Call (.Name f p) (e :: es) [] pos) d :=
  let ⟨_, _, _, _, ho, hd, _⟩ := hf.ex
  ev_call G hE hx hf.g ho hd hl hc hdb hst

theorem ev_map {α : Type} {elt target iter : Expr} {scope : Scope} {pos : Pos} (xs : List α) (inj f : α → PyData) (V : α → Env → (Addr → Prop) → Shared → Prop)
    (hit : It prog w sT n pr s env iter (xs.map inj))
    (hcl : ∀ x ∈ scope.names, x.2 = .free → ∃ c, env.cells.lookup x.1 = some c)
    (hasg : ∀ x ∈ xs, ∀ cenv cs pr', CEn scope env cenv cs → Asg prog w n pr' cenv cs target (inj x) (V x cenv pr'))
    (hturn : ∀ x ∈ xs, ∀ cenv cs pr' s', CEn scope env cenv cs → Keeps s s' → Ok sT pr' s' → Pres pr pr' s.heap s'.heap → V x cenv pr' s' → Ev prog w sT n pr' s' cenv elt (f x))
    (hsz : xs.length ≤ sizeLine)
    (hd : ∀ p ∈ scope.names, ∀ q ∈ scope.names, p.2 = .free → q.2 = .cell → q.1 ≠ p.1 := by decide)
    (hkind : scope.kind = .function := by rfl) (hnames : ∀ x ∈ scope.names, x.2 = .local → scope.names.lookup x.1 = some .local := by decide)
    (hs : ∀ x, foldedSetIterable iter env x = pure x := by intro _; rfl) :
    Ev prog w sT n pr s env (.ListComp elt [⟨target, iter, [], 0⟩] scope pos) (.list (xs.map f)) := by
  have := ev_comp (elt := elt) (ifs := []) (pos := pos) xs inj (fun x => some (f x)) V hit hcl hasg (fun x hx cenv cs pr' s' hC k ok hp hV => ⟨tsl_nil, fun d hd => by cases hd; exact hturn x hx cenv cs pr' s' hC k ok hp hV⟩) hsz hd hkind hnames hs
  rwa [show xs.filterMap (fun x => some (f x)) = xs.map f from by simp] at this

theorem hcl_of {names : List (Str × NameKind)} (ys : List Str) (h : ∀ x ∈ names, x.2 = NameKind.free → x.1 ∈ ys) (hy : ∀ y ∈ ys, ∃ c, env.cells.lookup y = some c) : ∀ x ∈ names, x.2 = .free → ∃ c, env.cells.lookup x.1 = some c :=
  fun x hx hf => hy x.1 (h x hx hf)

theorem minT_mem : ∀ (ts : List (Nat × Nat)), ts ≠ [] → minT ts ∈ ts
  | [], h => absurd rfl h
  | t :: ts, _ => by
    show ts.foldl (fun b y => if ltT y b = true then y else b) t ∈ _
    have : ∀ (ts : List (Nat × Nat)) (b : Nat × Nat), ts.foldl (fun b y => if ltT y b = true then y else b) b = b ∨ ts.foldl (fun b y => if ltT y b = true then y else b) b ∈ ts := by
      intro ts
      induction ts with
      | nil => intro b; exact .inl rfl
      | cons y r ih =>
        intro b
        rw [List.foldl_cons]
        rcases ih (if ltT y b = true then y else b) with h | h
        · rw [h]
          split
          · exact .inr List.mem_cons_self
          · exact .inl rfl
        · exact .inr (List.mem_cons_of_mem _ h)
    rcases this ts t with h | h
    · rw [h]; exact List.mem_cons_self
    · exact List.mem_cons_of_mem _ h
theorem within_ne : ∀ p, withinL p ≠ [] := by
  intro p
  unfold withinL
  split
  · simp
  split
  · simp
  split
  · rename_i h
    intro e
    have : p ∈ [p, p - 4, p - 8].filter fun q => decide (9 < q) := List.mem_filter.mpr ⟨by simp, by simp; omega⟩
    rw [e] at this; cases this
  · simp
theorem within_le {p q : Nat} (h : q ∈ withinL p) : q ≤ p := by
  unfold withinL at h
  split at h
  · simp at h; omega
  split at h
  · simp at h; omega
  split at h
  · have := (List.mem_filter.mp h).1
    simp at this; omega
  · simp at h; omega
theorem met_mem (order : List Nat) (p : Nat) : (metT order p).2 ∈ withinL p ∧ (metT order p).1 = order.idxOf (metT order p).2 := by
  have := minT_mem ((withinL p).map fun q => (order.idxOf q, q)) (by simpa using within_ne p)
  obtain ⟨q, hq, e⟩ := List.mem_map.mp this
  unfold metT
  rw [← e]
  exact ⟨hq, rfl⟩
theorem strMul_len (k : Nat) : (strMul (Str.ofString "0") k).length = k := by
  unfold strMul Str.length
  have hfl : ∀ (j : Nat) (acc : Array Nat), ((List.replicate j (Str.ofString "0").cps).foldl (· ++ ·) acc).size = acc.size + j := by
    intro j
    induction j with
    | zero => intro acc; simp
    | succ j ih =>
      intro acc
      rw [List.replicate_succ, List.foldl_cons, ih, Array.size_append, show (Str.ofString "0").cps.size = 1 by decide]
      omega
  rw [hfl]; simp
theorem nats_lay {o : List Nat} (ho : o.length ≤ 100) (h : ∀ p ∈ o, p < 22) : PyData.layable0 (.list ((o.map fun q => ((q : Nat) : Int)).map .int)) = true := by
  have h1 : ∀ o : List Nat, (∀ p ∈ o, p < 22) → PyData.canLayAll0 ((o.map fun q => ((q : Nat) : Int)).map PyData.int) = true ∧ PyData.depthAll ((o.map fun q => ((q : Nat) : Int)).map PyData.int) ≤ 1 ∧ PyData.weightAll ((o.map fun q => ((q : Nat) : Int)).map PyData.int) ≤ 10 * o.length := by
    intro o
    induction o with
    | nil => intro _; simp [PyData.canLayAll0, PyData.depthAll, PyData.weightAll]
    | cons p r ih =>
      intro h
      obtain ⟨a, b, c⟩ := ih fun q hq => h q (List.mem_cons_of_mem _ hq)
      have hp : p < 22 := h p List.mem_cons_self
      have hw : PyData.weight (.int (p : Nat)) ≤ 9 := by
        have : ∀ p < 22, PyData.weight (.int (p : Nat)) ≤ 9 := by decide
        exact this p hp
      refine ⟨by simp [PyData.canLayAll0, PyData.canLay0]; simpa using a, ?_, ?_⟩
      · simp only [List.map_cons, PyData.depthAll, PyData.depth] at *
        omega
      · simp only [List.map_cons, PyData.weightAll, List.length_cons] at *
        omega
  obtain ⟨a, b, c⟩ := h1 o h
  unfold PyData.layable0
  simp only [PyData.canLay0, PyData.depth, PyData.weight, Bool.and_eq_true]
  exact ⟨⟨a, decide_eq_true (by omega)⟩, decide_eq_true (by omega)⟩
end Mine
end

/-! G3 -/
section
open PySem PySem.W PyProof.Rows
set_option Elab.async false
set_option linter.unusedVariables false
set_option maxRecDepth 100000
namespace Mine
variable {prog : Program} {w : World} {sT : Shared} {n : Nat} {mg mb : Str → Option Value}

theorem met_spec {a aw al : Addr} (G : Gl mg mb sT) (hf : DefAt mg sT "_law_met" 8 a) (hw : DefAt mg sT "_law_word" 6 aw) (hl : DefAt mg sT "_law_letter" 7 al) (hmn : mg (Str.ofString "min") = none) (hmin : mb (Str.ofString "min") = some (.builtin "min"))
    {order : List Nat} (ho : Perm22 order) {p : Nat} (hp : p < 22) : Fn prog w sT (n + 2) (.ref a) [.int p, natsD order] (met3D (metP order p)) := by
  refine fn_def (n := n + 1) (xs := [Str.ofString "place", Str.ofString "order"]) G hf rfl (by decide) (fun vs pm cd doc h => ?_) ?_ ?_
  · obtain ⟨v, u, rfl⟩ := two_of h
    rfl
  · intro x hx
    simp only [List.mem_cons, List.not_mem_nil, or_false] at hx
    rcases hx with rfl | rfl
    · exact .inl rfl
    · exact .inr ⟨rfl, fun L => rfl⟩
  · intro pr s₀ L cd ok
    show Ex prog w sT (n + 1) s₀ (envOfC _ (Scope.mk _ _ _ _ _) L a cd) pr _ (_ :: _ :: _ :: _ :: _ :: _ :: _ :: _ :: _) _
    generalize hEv : envOfC (Str.ofString "_law_met") _ L a cd = env
    have hE : En env := by subst hEv; exact ⟨rfl, rfl, rfl⟩
    have hN : Sto env (Str.ofString "within") := by subst hEv; exact .inl rfl
    have hT : Sto env (Str.ofString "turn") := by subst hEv; exact .inl rfl
    have hF : Sto env (Str.ofString "first") := by subst hEv; exact .inl rfl
    have hOc : env.kindOf (Str.ofString "order") = some .cell := by subst hEv; rfl
    have hgw : env.kindOf (Str.ofString "_law_word") = some .globalImplicit := by subst hEv; rfl
    have hgl : env.kindOf (Str.ofString "_law_letter") = some .globalImplicit := by subst hEv; rfl
    have hgm : env.kindOf (Str.ofString "min") = some .globalImplicit := by subst hEv; rfl
    have hcc : ∀ y ∈ [Str.ofString "order"], ∃ c, env.cells.lookup y = some c := by
      subst hEv
      intro y hy
      rw [List.mem_singleton] at hy
      subst hy
      exact ⟨_, rfl⟩
    refine ex_split 4 (fun Γ => Γ.lookup (Str.ofString "within") = some (natsD (withinL p)) ∧ Γ.lookup (Str.ofString "place") = some (.int p) ∧ Γ.lookup (Str.ofString "order") = some (natsD order)) ?_ ?_
    · -- the rest
      rintro Γ ⟨hΓw, hΓp, hΓo⟩
      show Ex prog w sT (n + 1) s₀ env pr Γ (_ :: _ :: _ :: _ :: _) _
      obtain ⟨hmem, hturn⟩ := met_mem order p
      generalize hmt : metT order p = mt at hmem hturn
      obtain ⟨turn, first⟩ := mt
      dsimp only at hmem hturn
      have hle := within_le hmem
      refine ex_cons (x_assign2 (d₁ := .int (turn : Nat)) (d₂ := .int (first : Nat)) ok hE hT hF (fun s F => ?_)) ?_
      · refine Ev.cast (ev_bcall G hE hgm hmn hmin (evl_cons (Ev.cast (ev_map (withinL p) (fun q => .int (q : Nat)) (fun q => tupD (order.idxOf q, q)) (fun q cenv pr' s' => Var pr' s' cenv (Str.ofString "other") (.int (q : Nat)))
          (it_list (ev_name (F.var hE hΓw))) (hcl_of _ (by decide) hcc) (fun q hq cenv cs pr' hC => asg_loc (hC.en hE rfl).fn (hC.loc rfl)) (fun q hq cenv cs pr' s' hC k' ok' hp' hV => ?_) ?_) ?_) evl_nil) (fn_min (ts := (withinL p).map fun q => (order.idxOf q, q)) ?_)) ?_
        · have hq22 : q < 22 := Nat.lt_of_le_of_lt (within_le hq) hp
          refine ev_tuple (evl_cons ?_ (evl_cons (ev_name hV) evl_nil)) (by rw [sizeLine_eq]; show 2 ≤ 16777216; omega)
          have hvo : VarC pr' s' cenv (Str.ofString "order") (natsD order) := hC.inherit rfl rfl (F.varc hE hΓo hOc) k' hp'
          have hm : ((q : Nat) : Int) ∈ order.map fun q => ((q : Nat) : Int) := List.mem_map.mpr ⟨q, (ho.all q).mpr hq22, rfl⟩
          exact Ev.cast (ev_index (ns := order.map fun q => ((q : Nat) : Int)) (Ev.cast (ev_name hvo.var) (by simp [natsD])) (ev_name hV) hm (nats_lay (by rw [ho.len]; omega) fun p h => (ho.all p).mp h)) (by rw [idxOf_cast])
        · rw [sizeLine_eq]
          have : (withinL p).length ≤ 3 := by
            have : ∀ p < 22, (withinL p).length ≤ 3 := by decide
            exact this p hp
          omega
        · rw [List.map_map]; rfl
        · simpa using within_ne p
        · show tupD (metT order p) = _
          rw [hmt]; rfl
      have hlW : ∀ {s : Shared} {Γ' : Cx} {pos q : Pos} {e : Expr}, Ev prog w sT (n + 1) pr s env e (.int p) → (hs : starEach [e] env = [(false, eval e env)]) → Ev prog w sT (n + 1) pr s env (.Call (.Name (Str.ofString "_law_word") q) [e] [] pos) (.str (wordS p)) :=
        fun he hs => ev_fn G hE hw hgw (evl_cons he evl_nil hs) (word_spec G hw hp) (by decide) hs
      have hlL : ∀ {s : Shared} {pos q : Pos} {e : Expr} {j : Nat}, j < 22 → Ev prog w sT (n + 1) pr s env e (.int j) → (hs : starEach [e] env = [(false, eval e env)]) → Ev prog w sT (n + 1) pr s env (.Call (.Name (Str.ofString "_law_letter") q) [e] [] pos) (.str (letterS j)) :=
        fun hj he hs => ev_fn G hE hl hgl (evl_cons he evl_nil hs) (letter_spec G hl hj) (by decide) hs
      by_cases hfp : first = p
      · refine ex_ret (x_if_t ok (fun s F => Ts.cast (ts_cmp (ev_name (F.var hE rfl)) (ev_name (F.var hE (d := .int p) hΓp)) op_eq_int) (by simp [hfp])) (ex_ret (x_return ok fun s F => ?_)))
        refine Ev.cast (ev_tuple (evl_cons (ev_name (F.var hE rfl)) (evl_cons (hlW (Γ' := Γ) (ev_name (F.var hE hΓp)) rfl) (evl_cons (hlL hp (ev_name (F.var hE hΓp)) rfl) evl_nil))) (by rw [sizeLine_eq]; show 3 ≤ 16777216; omega)) ?_
        unfold met3D metP pieceS
        rw [hmt]
        simp [hfp]
      · refine ex_cons (x_if_f ok (fun s F => Ts.cast (ts_cmp (ev_name (F.var hE rfl)) (ev_name (F.var hE (d := .int p) hΓp)) op_eq_int) (by simp; omega)) ex_nil) ?_
        have hf22 : first < 22 := Nat.lt_of_le_of_lt hle hp
        by_cases hp10 : p < 10
        · have hp89 : p = 8 ∨ p = 9 := by
            by_cases h8 : p = 8
            · exact .inl h8
            · by_cases h9 : p = 9
              · exact .inr h9
              · unfold withinL at hmem
                rw [if_neg h8, if_neg h9, if_neg (by omega)] at hmem
                rw [List.mem_singleton] at hmem
                exact absurd hmem hfp
          refine ex_ret (x_if_t ok (fun s F => Ts.cast (ts_cmp (ev_name (F.var hE hΓp)) ev_int op_lt_int) (by simp; omega)) (ex_ret (x_return ok fun s F => ?_)))
          refine Ev.cast (ev_tuple (evl_cons (ev_name (F.var hE rfl)) (evl_cons (hlW (Γ' := Γ) (ev_name (F.var hE hΓp)) rfl) (evl_cons (ev_bin (ev_item_tuple (ds := [.str (Str.ofString "ITERABLE_"), .str (Str.ofString "ASYNC_")]) (d := .str (if p = 8 then Str.ofString "ITERABLE_" else Str.ofString "ASYNC_"))
            (ev_tuple (evl_cons ev_str (evl_cons ev_str evl_nil)) (by rw [sizeLine_eq]; show 2 ≤ 16777216; omega)) (Ev.cast (ev_bin (ev_name (F.var hE hΓp)) ev_int op_sub_int) (d' := .int ((p - 8 : Nat) : Int)) (by congr 1; omega)) (Int.natCast_nonneg _) ?_) (hlL hf22 (ev_name (F.var hE rfl)) rfl) (op_add_str ?_)) evl_nil))) (by rw [sizeLine_eq]; show 3 ≤ 16777216; omega)) ?_
          · rcases hp89 with rfl | rfl <;> rfl
          · rw [sizeLine_eq]
            have h1 : (letterS first).length = 1 := rfl
            have h2 : (Str.ofString "ITERABLE_").length = 9 := by decide
            have h3 : (Str.ofString "ASYNC_").length = 6 := by decide
            split <;> omega
          · unfold met3D metP pieceS
            rw [hmt]
            simp [hfp, hp10]
        · refine ex_cons (x_if_f ok (fun s F => Ts.cast (ts_cmp (ev_name (F.var hE hΓp)) ev_int op_lt_int) (by simp; omega)) ex_nil) (ex_ret (x_return ok fun s F => ?_))
          refine Ev.cast (ev_tuple (evl_cons (ev_name (F.var hE rfl)) (evl_cons (hlW (Γ' := Γ) (ev_name (F.var hE hΓp)) rfl) (evl_cons (ev_bin (hlL hf22 (ev_name (F.var hE rfl)) rfl)
            (ev_bin ev_str (Ev.cast (ev_bin (Ev.cast (ev_bin (ev_name (F.var hE hΓp)) (ev_name (F.var hE rfl)) op_sub_int) (d' := .int ((p - first : Nat) : Int)) (by congr 1; omega)) ev_int (op_div_int (by decide) (by decide))) (d' := .int (((p - first) / 4 : Nat) : Int)) (by rw [show (4 : Int) = ((4 : Nat) : Int) from rfl, fdivN])) (op_mul_str (Int.natCast_nonneg _) (by omega) (by decide))) (op_add_str ?_)) evl_nil))) (by rw [sizeLine_eq]; show 3 ≤ 16777216; omega)) ?_
          · rw [Int.toNat_natCast, strMul_len, sizeLine_eq]
            have h1 : (letterS first).length = 1 := rfl
            omega
          · unfold met3D metP pieceS
            rw [hmt, Int.toNat_natCast]
            simp only [hfp, hp10, if_false]
    · -- within
      show ∃ Γ', _ ∧ Ex prog w sT (n + 1) s₀ env pr _ (_ :: _ :: _ :: _ :: _) _
      by_cases h8 : p = 8
      · subst h8
        refine ⟨_, ?_, ex_cons (x_assign ok hE hN fun s F => ev_list (evl_cons (ev_name (F.var hE rfl)) evl_nil) (by rw [sizeLine_eq]; show 1 ≤ 16777216; omega))
          (ex_cons (x_if_t ok (fun s F => Ts.cast (ts_cmp (ev_name (F.var hE rfl)) ev_int op_eq_int) (by decide)) (ex_cons (x_assign ok hE hN fun s F => ev_list (evl_cons ev_int (evl_cons ev_int evl_nil)) (by rw [sizeLine_eq]; show 2 ≤ 16777216; omega)) ex_nil))
          (ex_cons (x_if_f ok (fun s F => Ts.cast (ts_cmp (ev_name (F.var hE rfl)) ev_int op_eq_int) (by decide)) ex_nil)
          (ex_cons (x_if_f ok (fun s F => Ts.cast (ts_cmp (ev_name (F.var hE rfl)) ev_int op_gt_int) (by decide)) ex_nil) ex_nil)))⟩
        exact ⟨rfl, rfl, rfl⟩
      · by_cases h9 : p = 9
        · subst h9
          refine ⟨_, ?_, ex_cons (x_assign ok hE hN fun s F => ev_list (evl_cons (ev_name (F.var hE rfl)) evl_nil) (by rw [sizeLine_eq]; show 1 ≤ 16777216; omega))
            (ex_cons (x_if_f ok (fun s F => Ts.cast (ts_cmp (ev_name (F.var hE rfl)) ev_int op_eq_int) (by decide)) ex_nil)
            (ex_cons (x_if_t ok (fun s F => Ts.cast (ts_cmp (ev_name (F.var hE rfl)) ev_int op_eq_int) (by decide)) (ex_cons (x_assign ok hE hN fun s F => ev_list (evl_cons ev_int (evl_cons ev_int evl_nil)) (by rw [sizeLine_eq]; show 2 ≤ 16777216; omega)) ex_nil))
            (ex_cons (x_if_f ok (fun s F => Ts.cast (ts_cmp (ev_name (F.var hE rfl)) ev_int op_gt_int) (by decide)) ex_nil) ex_nil)))⟩
          exact ⟨rfl, rfl, rfl⟩
        · by_cases h13 : 13 < p
          · refine ⟨_, ?_, ex_cons (x_assign ok hE hN fun s F => ev_list (evl_cons (ev_name (F.var hE rfl)) evl_nil) (by rw [sizeLine_eq]; show 1 ≤ 16777216; omega))
              (ex_cons (x_if_f ok (fun s F => Ts.cast (ts_cmp (ev_name (F.var hE rfl)) ev_int op_eq_int) (by simp; omega)) ex_nil)
              (ex_cons (x_if_f ok (fun s F => Ts.cast (ts_cmp (ev_name (F.var hE rfl)) ev_int op_eq_int) (by simp; omega)) ex_nil)
              (ex_cons (x_if_t ok (fun s F => Ts.cast (ts_cmp (ev_name (F.var hE rfl)) ev_int op_gt_int) (by simp; omega)) (ex_cons (x_assign_comp [p, p - 4, p - 8] (fun q => .int (q : Nat)) (fun q => if 9 < q then some (.int (q : Nat)) else none) (fun q cenv pr' s' => Var pr' s' cenv (Str.ofString "other") (.int (q : Nat))) ok hE hN
                (fun s F => It.toC (it_tuple (Ev.cast (ev_tuple (evl_cons (ev_name (F.var hE rfl)) (evl_cons (ev_bin (ev_name (F.var hE rfl)) ev_int op_sub_int) (evl_cons (ev_bin (ev_name (F.var hE rfl)) ev_int op_sub_int) evl_nil))) (by rw [sizeLine_eq]; show 3 ≤ 16777216; omega)) ?_))) (hcl_of [] (by decide) (fun _ h => nomatch h))
                (fun q hq cenv cs pr' hC => asg_loc (hC.en hE rfl).fn (hC.loc rfl)) (fun s F q hq cenv cs pr' s' hC k' ok' hp' hV => ⟨tsl_one (Ts.cast (ts_cmp (ev_name hV) ev_int op_gt_int) ?_), fun d hd => ?_⟩) (by rw [sizeLine_eq]; show 3 ≤ 16777216; omega) (by subst hEv; rfl)) ex_nil)) ex_nil)))⟩
            · refine ⟨?_, rfl, rfl⟩
              show some _ = some _
              congr 1
              unfold natsD withinL
              rw [if_neg h8, if_neg h9, if_pos h13]
              congr 1
              have : ∀ l : List Nat, l.filterMap (fun q => if 9 < q then some (PyData.int (q : Nat)) else none) = (l.filter fun q => decide (9 < q)).map fun q => PyData.int (q : Nat) := by
                intro l
                induction l with
                | nil => rfl
                | cons x r ih =>
                  by_cases hx : 9 < x
                  · simp [hx, ih]
                  · simp [hx, ih]
              exact this _
            · have e1 : ((p : Nat) : Int) - 4 = ((p - 4 : Nat) : Int) := by omega
              have e2 : ((p : Nat) : Int) - 8 = ((p - 8 : Nat) : Int) := by omega
              rw [e1, e2]; rfl
            · by_cases hq9 : 9 < q
              · simp [hq9]; omega
              · simp [hq9]; omega
            · by_cases hq9 : 9 < q
              · rw [if_pos hq9] at hd
                cases hd
                exact ev_name hV
              · rw [if_neg hq9] at hd; cases hd
          · refine ⟨_, ?_, ex_cons (x_assign ok hE hN fun s F => ev_list (evl_cons (ev_name (F.var hE rfl)) evl_nil) (by rw [sizeLine_eq]; show 1 ≤ 16777216; omega))
              (ex_cons (x_if_f ok (fun s F => Ts.cast (ts_cmp (ev_name (F.var hE rfl)) ev_int op_eq_int) (by simp; omega)) ex_nil)
              (ex_cons (x_if_f ok (fun s F => Ts.cast (ts_cmp (ev_name (F.var hE rfl)) ev_int op_eq_int) (by simp; omega)) ex_nil)
              (ex_cons (x_if_f ok (fun s F => Ts.cast (ts_cmp (ev_name (F.var hE rfl)) ev_int op_gt_int) (by simp; omega)) ex_nil) ex_nil)))⟩
            refine ⟨?_, rfl, rfl⟩
            show some _ = some _
            unfold natsD withinL
            rw [if_neg h8, if_neg h9, if_neg h13]
            rfl
end Mine
end

/-! G4 -/
section
open PySem PySem.W PyProof.Rows
set_option Elab.async false
set_option linter.unusedVariables false
set_option maxRecDepth 100000
namespace Mine
variable {prog : Program} {w : World} {sT : Shared} {n : Nat} {pr : Addr → Prop} {s s₀ : Shared} {env : Env} {Γ : Cx} {mg mb : Str → Option Value}

theorem asg_cellC {cs : List Addr} {x : Str} {pos : Pos} {c : Addr} {d : PyData} (hE : env.scope.kind = .function) (hx : env.kindOf x = some .cell) (hc : env.cells.lookup x = some c) (hcs : c ∈ cs)
    (hd : (x == ("__classdict__" : Str)) = false := by decide) : Asg prog w n pr env cs (.Name x pos) d (fun s' => VarC pr s' env x d) := by
  refine ⟨fun s A Q E v rm mf r hq => ?_⟩
  obtain ⟨u, hu⟩ := mf.cell c hcs
  refine wpAny_assign_Name (wpAny_storeName_cell hE hx hc hu fun h' hv hs' => ?_)
  have mv : Moves (ownOf env cs) s { s with heap := h' } := ⟨h', s.toks, rfl, fun b o hb e => hs'.extBut b o (fun q => hb (q ▸ List.mem_cons_of_mem _ hcs)) e⟩
  refine hq _ mv ⟨?_, fun c' hc' => ?_, mf.apart⟩ ⟨c, v, hE, .inl hx, hd, hc, hv, r.mono (mf.pres mv)⟩
  · obtain ⟨m, hn⟩ := mf.ns
    exact ⟨m, hn.sameBut hs' fun q => mf.apart (q ▸ hcs)⟩
  · by_cases q : c' = c
    · exact q ▸ ⟨_, hv⟩
    · obtain ⟨u', e'⟩ := mf.cell c' hc'
      exact ⟨u', e'.sameBut hs' q⟩

theorem VarC.look {x : Str} {d : PyData} (h : VarC pr s env x d) : ∃ c, env.cells.lookup x = some c := let ⟨c, _, _, _, _, h, _⟩ := h; ⟨c, h⟩

theorem log2_pow (i : Nat) (h : i < 22) : ((2 : Int) ^ i).natAbs.log2 < 8000 := by
  have : ∀ i < 22, ((2 : Int) ^ i).natAbs.log2 < 8000 := by decide
  exact this i h
theorem pow_cast (i : Nat) : (2 : Int) ^ i = ((2 ^ i : Nat) : Int) := by simp

theorem rows_spec {a am aw al : Addr} (G : Gl mg mb sT) (hf : DefAt mg sT "_law_rows" 9 a) (hm : DefAt mg sT "_law_met" 8 am) (hw : DefAt mg sT "_law_word" 6 aw) (hl : DefAt mg sT "_law_letter" 7 al)
    (hmn : mg (Str.ofString "min") = none) (hmin : mb (Str.ofString "min") = some (.builtin "min")) (hrn : mg (Str.ofString "range") = none) (hran : mb (Str.ofString "range") = some (.type "range"))
    {order : List Nat} (ho : Perm22 order) {numbers : List Nat} (hnum : numbers.length ≤ 100) :
    Fn prog w sT (n + 3) (.ref a) [natsD numbers, natsD order] (.list (numbers.map fun x => .list ((rowP order x).map met3D))) := by
  refine fn_def (n := n + 2) (xs := [Str.ofString "numbers", Str.ofString "order"]) G hf rfl (by decide) (fun vs pm cd doc h => ?_) ?_ ?_
  · obtain ⟨v, u, rfl⟩ := two_of h
    rfl
  · intro x hx
    simp only [List.mem_cons, List.not_mem_nil, or_false] at hx
    rcases hx with rfl | rfl
    · exact .inl rfl
    · exact .inr ⟨rfl, fun L => rfl⟩
  · intro pr s₀ L cd ok
    show Ex prog w sT (n + 2) s₀ (envOfC _ (Scope.mk _ _ _ _ _) L a cd) pr _ (_ :: _) _
    generalize hEv : envOfC (Str.ofString "_law_rows") _ L a cd = env
    have hE : En env := by subst hEv; exact ⟨rfl, rfl, rfl⟩
    have hOc : env.kindOf (Str.ofString "order") = some .cell := by subst hEv; rfl
    refine ex_ret (x_return ok fun s F => ?_)
    have hvo := F.varc hE (d := natsD order) rfl hOc
    refine ev_map numbers (fun x => .int (x : Nat)) (fun x => .list ((rowP order x).map met3D)) (fun x cenv pr' s' => VarC pr' s' cenv (Str.ofString "x") (.int (x : Nat)))
      (it_list (ev_name (F.var hE rfl))) (hcl_of [Str.ofString "order"] (by decide) fun y hy => by rw [List.mem_singleton] at hy; subst hy; exact hvo.look) (fun x hx cenv cs pr' hC => ?_) (fun x hx cenv cs pr' s' hC k' ok' hp' hV => ?_) (by rw [sizeLine_eq]; omega)
    · obtain ⟨⟨cl, C, rfl, rfl⟩, hfr⟩ := id hC
      exact asg_cellC rfl (hC.cell rfl) rfl (by simp [csOf])
    · have hEc := hC.en hE rfl
      have hvo' := hC.inherit rfl rfl hvo k' hp'
      refine Ev.cast (ev_comp (List.range 22) (fun i => .int (i : Nat)) (fun i => if x / 2 ^ i % 2 = 1 then some (met3D (metP order i)) else none) (fun i cenv pr' s' => Var pr' s' cenv (Str.ofString "place") (.int (i : Nat)))
        (it_range G hEc (hC.glob rfl) hrn hran (k := 22) ev_int (by omega)) (hcl_of [Str.ofString "x", Str.ofString "order"] (by decide) fun y hy => by
          simp only [List.mem_cons, List.not_mem_nil, or_false] at hy
          rcases hy with rfl | rfl
          · exact hV.look
          · exact hvo'.look) (fun i hi cenv₂ cs₂ pr₂ hC₂ => asg_loc (hC₂.en hEc rfl).fn (hC₂.loc rfl)) (fun i hi cenv₂ cs₂ pr₂ s₂ hC₂ k₂ ok₂ hp₂ hV₂ => ?_) (by rw [sizeLine_eq]; simp)) ?_
      · have hi22 : i < 22 := List.mem_range.mp hi
        have hEc₂ := hC₂.en hEc rfl
        have hvx := hC₂.inherit rfl rfl hV k₂ hp₂
        have hvo₂ := hC₂.inherit rfl rfl hvo' k₂ hp₂
        refine ⟨tsl_one (Ts.cast (ts_cmp (Ev.cast (ev_bin (Ev.cast (ev_bin (ev_name hvx.var) (ev_bin ev_int (ev_name hV₂) (op_pow_int (Int.natCast_nonneg _) (by omega) (by decide))) (op_div_int ?_ ?_)) (d' := .int ((x / 2 ^ i : Nat) : Int)) ?_) ev_int (op_mod_int (by decide))) (d' := .int ((x / 2 ^ i % 2 : Nat) : Int)) ?_) ev_int op_eq_int) ?_), fun d hd => ?_⟩
        · rw [Int.toNat_natCast, pow_cast]
          have : 0 < 2 ^ i := Nat.two_pow_pos i
          omega
        · rw [Int.toNat_natCast]; exact log2_pow i hi22
        · rw [Int.toNat_natCast, pow_cast, fdivN]
        · rw [show (2 : Int) = ((2 : Nat) : Int) from rfl, fmodN _ _ (by omega)]
        · by_cases h1 : x / 2 ^ i % 2 = 1
          · rw [if_pos h1, h1]; rfl
          · rw [if_neg h1]
            have h0 : x / 2 ^ i % 2 = 0 := by omega
            rw [h0]; rfl
        · by_cases h1 : x / 2 ^ i % 2 = 1
          · rw [if_pos h1] at hd
            cases hd
            exact ev_fn G hEc₂ hm (hC₂.glob rfl) (evl_cons (ev_name hV₂) (evl_cons (ev_name hvo₂.var) evl_nil)) (met_spec G hm hw hl hmn hmin ho hi22)
          · rw [if_neg h1] at hd; cases hd
      · congr 1
        unfold rowP bits
        rw [List.map_map]
        generalize List.range 22 = l
        induction l with
        | nil => rfl
        | cons i r ih =>
          by_cases h1 : x / 2 ^ i % 2 = 1
          · simp [h1, ih]
          · simp [h1, ih]
end Mine
end

/-! G5 -/
section
open PySem PySem.W PyProof.Rows
set_option Elab.async false
set_option linter.unusedVariables false
set_option maxRecDepth 100000
namespace Mine
variable {prog : Program} {w : World} {sT : Shared} {n : Nat} {pr : Addr → Prop} {s s₀ : Shared} {env : Env} {Γ : Cx} {mg mb : Str → Option Value}

theorem join_len_le {sep : Str} {ys : List Str} {B : Nat} (h : ∀ y ∈ ys, y.length ≤ B) : (Str.join sep ys).length ≤ ys.length * (B + sep.length) := by
  have h1 := StrLaws.join_length_le sep ys
  have h2 := StrLaws.sumLen_le ys h
  rw [Nat.mul_add]
  omega

structure RowsOk (rows : List (List (Nat × Str × Str))) : Prop where
  len : rows.length ≤ 10
  row : ∀ r ∈ rows, r.length ≤ 22
  word : ∀ r ∈ rows, ∀ t ∈ r, t.2.1.length ≤ 40
  piece : ∀ r ∈ rows, ∀ t ∈ r, t.2.2.length ≤ 40

theorem rowTxt_len {rows : List (List (Nat × Str × Str))} (hr : RowsOk rows) {r : List (Nat × Str × Str)} (h : r ∈ rows) (done : Nat) : (rowTxt done r).length ≤ 1000 := by
  unfold rowTxt
  have h1 := join_len_le (sep := Str.ofString ", ") (ys := r.map fun t => if t.1 < done then t.2.2 else t.2.1) (B := 40) (by
    intro y hy
    obtain ⟨t, ht, rfl⟩ := List.mem_map.mp hy
    split
    · exact hr.piece r h t ht
    · exact hr.word r h t ht)
  rw [List.length_map, show (Str.ofString ", ").length = 2 by decide] at h1
  have h2 := hr.row r h
  have : r.length * (40 + 2) ≤ 22 * 42 := Nat.mul_le_mul h2 (by omega)
  omega

theorem page_spec {a : Addr} (G : Gl mg mb sT) (hf : DefAt mg sT "_law_page" 10 a) {rows : List (List (Nat × Str × Str))} (hr : RowsOk rows) {done : Nat} :
    Fn prog w sT (n + 1) (.ref a) [.list (rows.map fun r => .list (r.map met3D)), .int done] (.str (pg rows done)) := by
  refine fn_def (n := n) (xs := [Str.ofString "rows", Str.ofString "done"]) G hf rfl (by decide) (fun vs pm cd doc h => ?_) ?_ ?_
  · obtain ⟨v, u, rfl⟩ := two_of h
    rfl
  · intro x hx
    simp only [List.mem_cons, List.not_mem_nil, or_false] at hx
    rcases hx with rfl | rfl
    · exact .inl rfl
    · exact .inr ⟨rfl, fun L => rfl⟩
  · intro pr s₀ L cd ok
    show Ex prog w sT n s₀ (envOfC _ (Scope.mk _ _ _ _ _) L a cd) pr _ (_ :: _ :: _) _
    generalize hEv : envOfC (Str.ofString "_law_page") _ L a cd = env
    have hE : En env := by subst hEv; exact ⟨rfl, rfl, rfl⟩
    have hOc : env.kindOf (Str.ofString "done") = some .cell := by subst hEv; rfl
    have hN : Sto env (Str.ofString "listed") := by subst hEv; exact .inl rfl
    have hcc : ∀ y ∈ [Str.ofString "done"], ∃ c, env.cells.lookup y = some c := by
      subst hEv
      intro y hy
      rw [List.mem_singleton] at hy
      subst hy
      exact ⟨_, rfl⟩
    refine ex_cons (x_assign_comp rows (fun r => .list (r.map met3D)) (fun r => some (.str (rowTxt done r))) (fun r cenv pr' s' => Var pr' s' cenv (Str.ofString "row") (.list (r.map met3D))) ok hE hN
      (fun s F => (it_list (ev_name (F.var hE rfl))).toC) (hcl_of _ (by decide) hcc) (fun r hr' cenv cs pr' hC => asg_loc (hC.en hE rfl).fn (hC.loc rfl)) (fun s F r hr' cenv cs pr' s' hC k' ok' hp' hV => ⟨tsl_nil, fun d hd => ?_⟩) (by rw [sizeLine_eq]; have := hr.len; omega) (by subst hEv; rfl)) ?_
    · cases hd
      have hEc := hC.en hE rfl
      have hvd := hC.inherit rfl rfl (F.varc hE (d := .int (done : Nat)) rfl hOc) k' hp'
      refine ev_join ev_str (Ev.cast (ev_map r met3D (fun t => .str (if t.1 < done then t.2.2 else t.2.1)) (fun t cenv pr' s' => Var pr' s' cenv (Str.ofString "turn") (.int (t.1 : Nat)) ∧ Var pr' s' cenv (Str.ofString "word") (.str t.2.1) ∧ Var pr' s' cenv (Str.ofString "piece") (.str t.2.2))
        (it_list (ev_name hV)) (hcl_of [Str.ofString "done"] (by decide) fun y hy => by rw [List.mem_singleton] at hy; subst hy; exact hvd.look)
        (fun t ht cenv₂ cs₂ pr₂ hC₂ => asg_tup3 (hC₂.en hEc rfl).fn (hC₂.loc rfl) (hC₂.loc rfl) (hC₂.loc rfl) (by decide) (by decide) (by decide)) (fun t ht cenv₂ cs₂ pr₂ s₂ hC₂ k₂ ok₂ hp₂ hV₂ => ?_) ?_) ?_) (joinOk (B := 40) ?_ ?_)
      · have hvd₂ := hC₂.inherit rfl rfl hvd k₂ hp₂
        refine Ev.cast (ev_ite (ts_cmp (ev_name hV₂.1) (ev_name hvd₂.var) op_lt_int) (fun _ => ev_name hV₂.2.2) (fun _ => ev_name hV₂.2.1)) ?_
        by_cases h : t.1 < done
        · simp [h]
        · simp [h]
      · rw [sizeLine_eq]
        have := hr.row r hr'
        omega
      · rw [List.map_map]; rfl
      · intro y hy
        obtain ⟨t, ht, rfl⟩ := List.mem_map.mp hy
        split
        · exact hr.piece r hr' t ht
        · exact hr.word r hr' t ht
      · rw [List.length_map, show (Str.ofString ", ").length = 2 by decide]
        have := hr.row r hr'
        omega
    · refine ex_ret (x_return ok fun s F => ?_)
      refine ev_join ev_str (Ev.cast (ev_map (rows.map (rowTxt done)) (fun x => .str x) (fun x => .str (orNought x)) (fun x cenv pr' s' => Var pr' s' cenv (Str.ofString "one") (.str x))
        (it_list (Ev.cast (ev_name (F.var hE rfl)) ?_)) (hcl_of [] (by decide) (fun _ h => nomatch h)) (fun x hx cenv cs pr' hC => asg_loc (hC.en hE rfl).fn (hC.loc rfl)) (fun x hx cenv cs pr' s' hC k' ok' hp' hV => ?_) ?_) ?_) (joinOk (B := 1000) ?_ ?_)
      · congr 1
        simp
      · obtain ⟨r, hr', rfl⟩ := List.mem_map.mp hx
        refine Ev.cast (ev_or (ev_name hV) (tr_str ?_) ev_str) ?_
        · have := rowTxt_len hr hr' done
          rw [sizeLine_eq]; omega
        · unfold orNought
          split <;> rfl
      · rw [sizeLine_eq, List.length_map]
        have := hr.len
        omega
      · rw [List.map_map, List.map_map]; rfl
      · intro y hy
        obtain ⟨r, hr', rfl⟩ := List.mem_map.mp hy
        have := rowTxt_len hr hr' done
        unfold orNought
        split
        · exact this
        · have : (Str.ofString "0x0").length = 3 := by decide
          omega
      · rw [List.length_map, show (Str.ofString "\n").length = 1 by decide]
        have := hr.len
        omega
end Mine
end

/-! G6 -/
section
open PySem PySem.W PyProof.Rows
set_option Elab.async false
set_option linter.unusedVariables false
set_option maxRecDepth 100000
namespace Mine
variable {prog : Program} {w : World} {sT : Shared} {n : Nat} {pr : Addr → Prop} {s s₀ : Shared} {env : Env} {Γ : Cx} {mg mb : Str → Option Value}

theorem x_while {test : Expr} {body : List Stmt} {pos : Pos} (k : Nat) (Γs : Nat → Cx) (ok : Ok sT pr s₀) (ht : ∀ i, i < k → TsF prog w sT n s₀ env pr (Γs i) test true) (hb : ∀ i, i < k → Ex prog w sT n s₀ env pr (Γs i) body (.next (Γs (i + 1))))
    (he : TsF prog w sT n s₀ env pr (Γs k) test false) : Ex1 prog w sT n s₀ env pr (Γs 0) (.While test body [] pos) (.next (Γs k)) := by
  refine ⟨fun s A Q E rm F ho => ?_⟩
  refine wpAny_While (codeAny_whileLoop (fun j s' => ∃ i, Frm s₀ env pr (Γs i) s' ∧ Moves (own env) s s' ∧ i ≤ k ∧ j = k + 1 - i) ?_ (k + 1) ⟨0, F, .of_keeps (keeps_refl s), Nat.zero_le _, rfl⟩)
  rintro j s' ⟨i, F', mv, hi, rfl⟩
  by_cases hlt : i < k
  · refine (ht i hlt s' F').run s' (keeps_refl _) A _ _ rm (F'.ok ok) fun s₁ k₁ => ?_
    simp only [if_true]
    refine (hb i hlt).run s₁ A _ _ rm (F'.keeps k₁) fun s₂ mv₂ F₂ => ?_
    exact ⟨k + 1 - (i + 1), by omega, i + 1, F₂, (mv.trans (.of_keeps k₁)).trans mv₂, hlt, rfl⟩
  · have : i = k := by omega
    subst this
    refine (he s' F').run s' (keeps_refl _) A _ _ rm (F'.ok ok) fun s₁ k₁ => ?_
    simp only [Bool.false_eq_true, if_false]
    exact wpAny_execs_nil (ho _ (mv.trans (.of_keeps k₁)) (F'.keeps k₁))

def flat (ps : List (Str × Str)) : List PyData := ps.flatMap fun p => [.str p.1, .str p.2]
theorem flat_len (ps : List (Str × Str)) : (flat ps).length = 2 * ps.length := by
  unfold flat
  induction ps with
  | nil => rfl
  | cons p r ih => rw [List.flatMap_cons, List.length_append, ih]; simp; omega
theorem repl_snoc : ∀ (l : List (Str × Str)) (t u v : Str), repl t (l ++ [(u, v)]) = Str.join v (Txt.split (repl t l) u)
  | [], _, _, _ => rfl
  | (_, _) :: r, t, u, v => by
    rw [List.cons_append, repl, repl]
    exact repl_snoc r _ u v

/-- what each step asks -/
def ReplOk (t : Str) (ps : List (Str × Str)) : Prop :=
  ∀ i u v, ps[i]? = some (u, v) → u.length ≠ 0 ∧ (repl t (ps.take i)).length + 2 ≤ sizeLine ∧ JoinOk v (Txt.split (repl t (ps.take i)) u) = true

theorem bind_star (v : Value) (vs : List Value) (pm cd doc : Value) : bindArgs (Calls.docDef (Str.ofString "replace") (parOf (stAt 1)) (bodOf (stAt 1)) (scoOf (stAt 1)) pm cd doc) ⟨v :: vs, []⟩ = (newTuple vs >>= fun t => pure [(Str.ofString "text", v), (Str.ofString "pairs", t)]) := by
  cases vs with
  | nil => rfl
  | cons u us => rfl

theorem replace_spec {a : Addr} (G : Gl mg mb sT) (hf : DefAt mg sT "replace" 1 a) {t : Str} {ps : List (Str × Str)} (hok : ReplOk t ps) (hsz : ps.length ≤ 1000) : Fn prog w sT (n + 1) (.ref a) (.str t :: flat ps) (.str (repl t ps)) := by
  refine ⟨fun pr s A Q E vs rm ok r hq => ?_⟩
  obtain ⟨o, pm, cd, doc, ho, hdat, hcd⟩ := hf.ex
  have kT := keeps_heap ok.base
  cases r with
  | cons r1 rs =>
  rename_i v vs
  refine wpAny_call (codeAny_call_function (by have := rm.depth; omega) (kT _ _ ho) hdat rfl rfl rfl (hcd.keeps kT) ?_)
  rw [bind_star]
  refine wpAny_bind (wpAny_newObj_type ?_ ?_)
  · refine wpAny_pure ?_
    refine wpAny_newFunctionEnv_cells rfl ?_ fun env hEv s' X => ?_
    · intro x hx
      simp only [List.mem_cons, List.not_mem_nil, or_false] at hx
      rcases hx with rfl | rfl
      · exact .inl rfl
      · exact .inl rfl
    · have hkeep : Keeps s s' := by
        obtain ⟨h', tk, rfl⟩ := X.toInCall.same
        exact ⟨h', tk, rfl, fun b o e => X.toInCall.keep b o (Heap.get?_push_of_some _ e)⟩
      have hE : En env := by subst hEv; exact ⟨rfl, rfl, rfl⟩
      have hSt : Sto env (Str.ofString "text") := by subst hEv; exact .inl rfl
      have hSp : Sto env (Str.ofString "pairs") := by subst hEv; exact .inl rfl
      have hL : s.heap.objs.size + 1 ≤ env.locals := by
        have := X.toInCall.fresh
        rwa [Heap.size_push] at this
      have F : Frm s env pr [(Str.ofString "pairs", .tuple (flat ps)), (Str.ofString "text", .str t)] s' := by
        refine ⟨_, _, hkeep, X.toInCall.ns, X.cell, fun x y c hx hy => name_of_addr X.apart (mem_of_lookup hx) (mem_of_lookup hy), none_of_size (Nat.le_of_succ_le hL), fun x c h => ⟨none_of_size (Nat.le_trans (Nat.le_of_succ_le hL) (Nat.le_of_lt (X.above x c (mem_of_lookup h)))), Nat.ne_of_gt (X.above x c (mem_of_lookup h))⟩, fun y d h => ?_⟩
        rw [List.lookup_cons] at h
        cases hb : y == Str.ofString "pairs" with
        | true =>
          rw [hb] at h
          cases h
          rw [beq_iff_eq.mp hb]
          refine ⟨.ref s.heap.objs.size, .tuple (vs := vs) ⟨0, X.toInCall.keep _ _ (Heap.get?_push_size _ rfl)⟩ (rs.keeps (keeps_heap hkeep)), .inl ⟨?_, ?_⟩⟩
          · subst hEv; rfl
          · exact bindL_get _ _ _ _ (by simp; decide) (by simp) (by subst hEv; rfl)
        | false =>
          rw [hb, List.lookup_cons] at h
          cases hb2 : y == Str.ofString "text" with
          | true =>
            rw [hb2] at h
            cases h
            rw [beq_iff_eq.mp hb2]
            refine ⟨v, r1.keeps (keeps_heap hkeep), .inl ⟨?_, ?_⟩⟩
            · subst hEv; rfl
            · exact bindL_get _ _ _ _ (by simp; decide) (by simp) (by subst hEv; rfl)
          | false => rw [hb2] at h; simp at h
      refine ⟨(G.nolimit.keeps kT).keeps (keeps_heap hkeep), codeAny_func ?_⟩
      refine Ex.run (prog := prog) (w := w) (sT := sT) (n := n) (s₀ := s) (pr := pr) (o := .ret (.str (repl t ps))) ?_ s' _ _ _ rm.deeper F fun v s'' k r => hq v s'' k r
      show Ex prog w sT n s env pr _ (_ :: _ :: _) _
      refine ex_cons (x_while ps.length (fun i => [(Str.ofString "pairs", .tuple (flat (ps.drop i))), (Str.ofString "text", .str (repl t (ps.take i)))]) ok (fun i hi s F => ?_) (fun i hi => ?_) (fun s F => ?_)) (ex_ret (x_return ok fun s F => ?_))
      · refine ts_val (ev_name (F.var hE rfl)) ?_
        have e : (!(flat (ps.drop i)).isEmpty) = true := by
          have h1 := flat_len (ps.drop i)
          rw [List.length_drop] at h1
          cases hc : flat (ps.drop i) with
          | nil => rw [hc] at h1; simp at h1; omega
          | cons => rfl
        rw [← e]
        refine tr_tuple ?_
        rw [flat_len, List.length_drop, sizeLine_eq]; omega
      · obtain ⟨u, v, huv⟩ : ∃ u v, ps[i]? = some (u, v) := ⟨_, _, List.getElem?_eq_getElem hi⟩
        obtain ⟨h1, h2, h3⟩ := hok i u v huv
        have hd : flat (ps.drop i) = .str u :: .str v :: flat (ps.drop (i + 1)) := by
          rw [List.drop_eq_getElem_cons hi]
          rw [List.getElem?_eq_getElem hi, Option.some.injEq] at huv
          rw [huv]
          rfl
        have htk : repl t (ps.take (i + 1)) = Str.join v (Txt.split (repl t (ps.take i)) u) := by
          rw [List.take_add_one, huv]
          exact repl_snoc _ _ _ _
        refine Ex.weaken (Γ₁ := [(Str.ofString "pairs", .tuple (flat (ps.drop (i + 1)))), (Str.ofString "text", .str (repl t (ps.take (i + 1)))), (Str.ofString "pairs", .tuple (flat (ps.drop i))), (Str.ofString "text", .str (repl t (ps.take i)))]) ?_ ?_
        · show Ex prog w sT n s env pr _ (_ :: _ :: _) _
          refine ex_cons (x_assign ok hE hSt fun s F => ?_) (ex_cons (x_assign ok hE hSp fun s F => ?_) ex_nil)
          · rw [htk]
            refine ev_join (ev_item_tuple (ds := flat (ps.drop i)) (ev_name (F.var hE rfl)) ev_int (by decide) (by rw [hd]; rfl) (by intro _ _; with_unfolding_all rfl) ?_) (ev_split (ev_name (F.var hE rfl)) (ev_item_tuple (ds := flat (ps.drop i)) (ev_name (F.var hE rfl)) ev_int (by decide) (by rw [hd]; rfl) (by intro _ _; with_unfolding_all rfl) ?_) (by simpa using h1) h2) h3
            · rw [flat_len, List.length_drop]; omega
            · rw [flat_len, List.length_drop]; omega
          · refine Ev.cast (ev_from_tuple (ds := flat (ps.drop i)) (k := 2) (ev_name (F.var hE rfl)) ev_int (by omega) ?_ ?_) ?_
            · rw [hd]; simp
            · rw [flat_len, List.length_drop, sizeLine_eq]; omega
            · rw [hd]; rfl
        · intro y d hy
          simp only [List.lookup_cons] at hy ⊢
          cases hb : y == Str.ofString "pairs" with
          | true => rw [hb] at hy; exact hy
          | false =>
            rw [hb] at hy
            dsimp only at hy ⊢
            cases hb2 : y == Str.ofString "text" with
            | true => rw [hb2] at hy; exact hy
            | false => rw [hb2] at hy; cases hy
      · refine ts_val (ev_name (F.var hE rfl)) ?_
        have e : (!(flat (ps.drop ps.length)).isEmpty) = false := by rw [List.drop_length]; rfl
        rw [← e]
        refine tr_tuple ?_
        rw [List.drop_length, sizeLine_eq]; exact Nat.zero_le _
      · exact Ev.cast (ev_name (F.var hE rfl)) (by rw [List.take_length])
  · show vs.toArray.size ≤ sizeLine
    rw [List.size_toArray, rs.length, flat_len, sizeLine_eq]
    omega
end Mine
end

/-! G7 -/
section
open PySem PySem.W PyProof.Rows
set_option Elab.async false
set_option linter.unusedVariables false
set_option maxRecDepth 100000
namespace Mine
variable {prog : Program} {w : World} {sT : Shared} {n : Nat} {pr : Addr → Prop} {s s₀ : Shared} {env : Env} {Γ : Cx} {mg mb : Str → Option Value}

/-- the flags left at turn i -/
def fl (x i : Nat) : Nat := 2 ^ i * (x / 2 ^ i)
theorem fl_and (x i : Nat) : Builtin.bitAnd ((fl x i : Nat) : Int) ((2 ^ i : Nat) : Int) = ((2 ^ i * (x / 2 ^ i % 2) : Nat) : Int) := by
  unfold Builtin.bitAnd
  rw [decide_eq_true (Int.natCast_nonneg _), decide_eq_true (Int.natCast_nonneg _)]
  dsimp only
  rw [Int.toNat_natCast, Int.toNat_natCast]
  congr 1
  unfold fl
  have h1 : 2 ^ i * (x / 2 ^ i) = (x / 2 ^ i) <<< i := by rw [Nat.shiftLeft_eq, Nat.mul_comm]
  have h2 : 2 ^ i = 1 <<< i := by rw [Nat.shiftLeft_eq, Nat.one_mul]
  conv => lhs; rw [h1]; rhs; rw [h2]
  rw [← Nat.shiftLeft_and_distrib, Nat.and_one_is_mod, Nat.shiftLeft_eq, Nat.mul_comm]
theorem div_succ (x i : Nat) : x / 2 ^ (i + 1) = x / 2 ^ i / 2 := by rw [Nat.pow_succ, Nat.div_div_eq_div_mul]
theorem fl_xor (x i : Nat) (h : x / 2 ^ i % 2 = 1) : Builtin.bitXor ((fl x i : Nat) : Int) ((2 ^ i : Nat) : Int) = ((fl x (i + 1) : Nat) : Int) := by
  rw [bitXor_and, fl_and, h]
  unfold fl
  rw [div_succ, Nat.pow_succ]
  generalize x / 2 ^ i = q at h
  have hq : q = 2 * (q / 2) + 1 := by omega
  generalize q / 2 = r at hq
  subst hq
  generalize 2 ^ i = m
  have : m * (2 * r + 1) = m * 2 * r + m := by rw [Nat.mul_add, Nat.mul_one, Nat.mul_assoc]
  rw [this]
  push_cast
  omega
theorem fl_same (x i : Nat) (h : x / 2 ^ i % 2 ≠ 1) : fl x (i + 1) = fl x i := by
  unfold fl
  rw [div_succ, Nat.pow_succ]
  generalize x / 2 ^ i = q at h
  have hq : q = 2 * (q / 2) := by omega
  conv => rhs; rw [hq]
  rw [Nat.mul_assoc]
theorem fl_zero (x i : Nat) : fl x i = 0 ↔ x < 2 ^ i := by
  unfold fl
  have hp : 0 < 2 ^ i := Nat.two_pow_pos i
  rw [Nat.mul_eq_zero]
  constructor
  · rintro (h | h)
    · omega
    · rcases Nat.div_eq_zero_iff.mp h with h | h <;> omega
  · intro h; exact .inr (Nat.div_eq_of_lt h)
def bitsTo (x k : Nat) : List Nat := (List.range k).filter fun p => decide (x / 2 ^ p % 2 = 1)
theorem bitsTo_succ (x k : Nat) : bitsTo x (k + 1) = bitsTo x k ++ (if x / 2 ^ k % 2 = 1 then [k] else []) := by
  unfold bitsTo
  rw [List.range_succ, List.filter_append]
  congr 1
  by_cases h : x / 2 ^ k % 2 = 1 <;> simp [h]
theorem bitsTo_all (x : Nat) {k : Nat} (h : x < 2 ^ k) : ∀ j, bitsTo x (k + j) = bitsTo x k
  | 0 => rfl
  | j + 1 => by
    rw [← Nat.add_assoc, bitsTo_succ, bitsTo_all x h j]
    have : x / 2 ^ (k + j) = 0 := Nat.div_eq_of_lt (Nat.lt_of_lt_of_le h (Nat.pow_le_pow_right (by omega) (Nat.le_add_right _ _)))
    rw [this]; simp
theorem bits_of (x : Nat) {k : Nat} (hk : k ≤ 22) (h : x < 2 ^ k) : bitsTo x k = bits x := by
  have := bitsTo_all x h (22 - k)
  rw [show k + (22 - k) = 22 by omega] at this
  exact this.symm
theorem word_len : ∀ p < 22, (wordS p).length ≤ 30 ∧ (wordS p).length ≠ 0 := by decide +kernel
theorem hex_word : ∀ i < 22, 10 ≤ i → baseText "0x" 16 ((2 ^ i : Nat) : Int) = wordS i := by decide +kernel
theorem hex_len : ∀ i < 22, (baseText "0x" 16 ((2 ^ i : Nat) : Int)).length ≤ 100 := by decide +kernel
theorem hex_zero : baseText "0x" 16 0 = Str.ofString "0x0" := by decide +kernel

def alive (s₀ : Shared) : Addr → Prop := fun b => ∃ o, s₀.heap.get? b = some o

theorem fn_defI {f : Str} {a : Addr} {params : Arguments} {body : List Stmt} {scope : Scope} {x : Str} {i : Int} {r : Str} (G : Gl mg mb sT) (hf : FnAt mg sT f a params body scope)
    (hbind : ∀ (v : Value) pm cd doc, bindArgs (Calls.docDef f params body scope pm cd doc) ⟨[v], []⟩ = pure [(x, v)])
    (hkind : scope.names.lookup x = some .local)
    (hbody : ∀ (s₀ : Shared) (L : Addr) (cd : Value), Ok sT (alive s₀) s₀ → Ex prog w sT n s₀ (envOfC f scope L a cd) (alive s₀) [(x, .int i)] body (.ret (.str r)))
    (hco : scope.isCoroutine = false := by rfl) (hgen : scope.isGenerator = false := by rfl) (hk : scope.kind = .function := by rfl) : Fn prog w sT (n + 1) (.ref a) [.int i] (.str r) := by
  refine ⟨fun pr s A Q E vs rm ok rr hq => ?_⟩
  obtain ⟨o, pm, cd, doc, ho, hdat, hcd⟩ := hf.ex
  have kT := keeps_heap ok.base
  obtain ⟨v, rfl⟩ := one_of rr.length
  cases rr with
  | cons r1 r2 =>
  obtain ⟨t, rfl⟩ := r1.int_inv
  refine wpAny_call (call_cells (by have := rm.depth; omega) (kT _ _ ho) hdat (G.nolimit.keeps kT) (hcd.keeps kT) (hbind _ pm cd doc) ?_ (fun h₁ tk F X => ?_) hco hgen hk)
  · intro y hy
    rw [List.mem_singleton] at hy
    subst hy
    exact .inl hkind
  · refine (hbody s s.heap.objs.size cd ⟨ok.base, fun _ h => h⟩).run _ _ _ _ rm.deeper ⟨_, _, ⟨h₁, tk, rfl, F.keep⟩, F.ns, X.cell, fun x y c hx hy => name_of_addr X.apart (mem_of_lookup hx) (mem_of_lookup hy), none_of_size (Nat.le_refl _), fun x c h => ⟨none_of_size (Nat.le_of_lt (X.above x c (mem_of_lookup h))), Nat.ne_of_gt (X.above x c (mem_of_lookup h))⟩, fun y d' h => ?_⟩ fun v s' k rv => ?_
    · rw [List.lookup_cons] at h
      cases hb : y == x with
      | true =>
        rw [hb] at h
        cases h
        rw [beq_iff_eq.mp hb]
        exact ⟨_, .int i t, .inl ⟨hkind, bindL_get _ _ _ _ (by simp) (by simp) hkind⟩⟩
      | false => rw [hb] at h; simp at h
    · obtain ⟨t', rfl⟩ := rv.str_inv
      exact hq _ s' k (.str ..)

/-- names.append(e), names the frame's own new list, all else ints -/
theorem frm_append {A : Around} {Q : Flow → Shared → Prop} {E : Value → Shared → Prop} {L : List Str} {x : Str} {e : Expr} {p apos pos spos : Pos} (F : Frm s₀ env (alive s₀) Γ s) (ok : Ok sT (alive s₀) s₀) (hE : En env) (rm : Room n A)
    (hg : Γ.lookup (Str.ofString "names") = some (.list (L.map .str))) (hflat : ∀ y d, Γ.lookup y = some d → y ≠ Str.ofString "names" → ∃ i, d = .int i) (hsz : L.length ≤ 1000)
    (he : Ev prog w sT n (alive s₀) s env e (.str x)) (hline : (apos.endLine == pos.line) = true) (hst : starEach [e] env = [(false, eval e env)])
    (hi : interactive env = false) (hsw : swapsWith (.Call (.Attribute (.Name (Str.ofString "names") p) (Str.ofString "append") apos) [e] [] pos) none spos.line env = pure false)
    (hq : ∀ s' a, s₀.heap.get? a = none → (∃ o, s.heap.get? a = some o ∧ o.cls = .type "list") → (∀ b o, b ≠ a → s.heap.get? b = some o → s'.heap.get? b = some o) → Frm s₀ env (alive s₀) ((Str.ofString "names", .list ((L ++ [x]).map .str)) :: Γ) s' → Q .next s') :
    wpAny (model prog w) A (exec (.Expr (.Call (.Attribute (.Name (Str.ofString "names") p) (Str.ofString "append") apos) [e] [] pos) spos) env) Q E s := by
  have F' := F
  obtain ⟨m, cm, f⟩ := F
  obtain ⟨v, r, hv⟩ := f.vars _ _ hg
  obtain ⟨a, vs, rfl, hpa, hl, hr⟩ := r.list_inv
  have hna : s₀.heap.get? a = none := by
    cases h : s₀.heap.get? a with
    | none => rfl
    | some o => exact absurd ⟨o, h⟩ hpa
  have hbind : Binds s.heap env (Str.ofString "names") (.ref a) := by
    rcases hv with ⟨hk, hm⟩ | ⟨hk, ⟨c, hc⟩, hm⟩
    · exact .loc m hE.fn hk f.ns hm
    · exact .cel c hE.fn (.inl hk) (by decide) hc (hm ▸ f.cell _ c hc)
  refine wpAny_Expr ?_ hi hsw
  obtain ⟨j, ha⟩ := id hl
  refine wpAny_Call_method (by rfl) (by rw [hst]; rfl) hline F.plainAttrs_list F.slot_list_append F.type_list_append (wpAny_Name (hbind.load ⟨⟨_, ha, rfl⟩, (fun b e => by cases e; exact ⟨_, ha, rfl⟩), callWith_method1 (args_cons (he.run s (keeps_refl _) A _ E rm (F'.ok ok) fun u s₁ k₁ r₁ => args_nil ?_) hst) hst rfl⟩) (by decide))
  have hl₁ : s₁.heap.PlainList a vs.toArray := ⟨j, keeps_heap k₁ _ _ ha⟩
  have f₁ := F'.keeps k₁
  obtain ⟨tu, rfl⟩ := r₁.str_inv
  refine wpAny_list_append_plain hl₁ (fun h' hl' hs' => ?_) (by rw [List.size_toArray, hr.length, List.length_map, sizeLine_eq]; omega)
  have kk : ∀ b o, b ≠ a → s.heap.get? b = some o → h'.get? b = some o := fun b o hb e => hs'.extBut b o hb (keeps_heap k₁ _ _ e)
  have nd : ∀ {b : Addr} {o : Obj}, s.heap.get? b = some o → (∀ xs c, o.data ≠ .seq xs c) → b ≠ a := by
    rintro b o e hd rfl
    rw [ha] at e; cases e
    exact hd _ _ rfl
  refine hq _ a hna ⟨_, ha, rfl⟩ kk ⟨m, cm, ?_, ?_, fun y c h => ?_, f.inj, f.newL, f.newC, fun y d h => ?_⟩
  · obtain ⟨h₁, t₁, rfl, kk₁⟩ := keeps_trans f.keep k₁
    exact ⟨h', t₁, rfl, fun b o e => hs'.extBut b o (fun q => by rw [q, hna] at e; cases e) (kk₁ b o e)⟩
  · obtain ⟨o, es, ep, e, hd, r⟩ := f.ns
    exact ⟨o, es, ep, kk _ _ (nd e (by rw [hd]; intro _ _ h; cases h)) e, hd, r⟩
  · obtain ⟨o, e, hd⟩ := f.cell y c h
    exact ⟨o, kk _ _ (nd e (by rw [hd]; intro _ _ h; cases h)) e, hd⟩
  · rw [List.lookup_cons] at h
    cases hb : y == Str.ofString "names" with
    | true =>
      rw [hb] at h
      cases h
      rw [beq_iff_eq.mp hb]
      refine ⟨.ref a, .list (vs := vs ++ [.str x tu]) hpa (by simpa using hl') ?_, hv⟩
      rw [List.map_append]
      have : ∀ {vs : List Value} {L : List Str}, RepAll (alive s₀) s.heap vs (L.map .str) → RepAll (alive s₀) h' vs (L.map .str) := by
        intro vs L hr
        obtain ⟨l, rfl, rfl⟩ := strs_of hr
        exact strs_to l
      exact (this hr).snoc (.str ..)
    | false =>
      rw [hb] at h
      obtain ⟨u, ru, hu⟩ := f.vars y d h
      obtain ⟨i, rfl⟩ := hflat y d h (beq_eq_false_iff_ne.mp hb)
      obtain ⟨t, rfl⟩ := ru.int_inv
      exact ⟨_, .int i t, hu⟩

theorem range_iter {A : Around} {Q : Value → Shared → Prop} {E : Value → Shared → Prop} {p pos : Pos} {e : Expr} {k : Nat} (G : Gl mg mb sT) (hE : En env) (rm : Room n A) (ok : Ok sT pr s) (hx : env.kindOf "range" = some .globalImplicit) (hm : mg "range" = none) (hf : mb "range" = some (.type "range"))
    (he : Ev prog w sT n pr s env e (.int k)) (hk : k < 2 ^ 60)
    (hq : ∀ I s', Keeps s s' → IsRangeIter s'.heap I (0 + ((0 : Nat) : Int) * 1) ((k : Int) - ((0 : Nat) : Int)) 1 → s.heap.get? I = none → Q (.ref I) s')
    (hst : starEach [e] env = [(false, eval e env)] := by rfl) : wpAny (model prog w) A (eval (.Call (.Name "range" p) [e] [] pos) env) (fun x s₂ => wpAny (model prog w) A (pyIter x) Q E s₂) E s := by
  refine Call_ (load_builtin G hE hx hm hf ok.base ?_)
  refine PyProof.Rows.callWith_type1 ?_ hst
  refine args_cons (he.run s (keeps_refl _) A _ E rm ok fun v s₂ k₂ r₂ => args_nil ?_) hst
  obtain ⟨t, rfl⟩ := r₂.int_inv
  refine call_range_1 ?_
  have hsz : Builtin.Range.rangeSize 0 k 1 = (k : Int) := by rw [rangeSize_nat]; omega
  refine wpAny_pyIter_range (IsRange.new ..) (small_one (by omega) (by omega) (by omega) (by omega)) (hq _ _ (keeps_trans k₂ ⟨_, _, rfl, fun _ _ e => Heap.get?_push_of_some _ (Heap.get?_push_of_some _ e)⟩) ?_ ?_)
  · rw [hsz]
    have := Heap.get?_push_size (s₂.heap.push { cls := .type "range", data := .fields #[.int 0 s₂.toks, .int k t, .int 1 (s₂.toks + 1)] }) (o := { cls := .type "range_iterator", data := .fields #[rawInt 0, rawInt k, rawInt 1] }) rfl
    simpa using this
  · refine none_of_keeps k₂ (none_of_size ?_)
    rw [Heap.size_push]
    exact Nat.le_succ _
end Mine
end

/-! G8 -/
section
open PySem PySem.W PyProof.Rows
set_option Elab.async false
set_option linter.unusedVariables false
set_option maxRecDepth 100000
namespace Mine
variable {prog : Program} {w : World} {sT : Shared} {n : Nat} {pr : Addr → Prop} {s s₀ : Shared} {env : Env} {Γ : Cx} {mg mb : Str → Option Value}

/-- the table of the flags' names -/
structure TabAt (prog : Program) (w : World) (mg : Str → Option Value) (sT : Shared) (d : Addr) : Prop where
  g : mg (Str.ofString "COMPILER_FLAG_NAMES") = some (.ref d)
  sys : (d == sysModules) = false
  map : ∃ f, sT.heap.MapOf (intKind prog w) d f ∧ ∀ i < 22, (i < 10 → ∃ t, f ((2 ^ i : Nat) : Int) = some (.str (wordS i) t)) ∧ (10 ≤ i → f ((2 ^ i : Nat) : Int) = none)

/-- COMPILER_FLAG_NAMES.get(flag, hex(flag)) -/
theorem ev_get {d : Addr} {p p2 p3 p4 apos pos hpos : Pos} {i : Nat} (G : Gl mg mb sT) (hE : En env) (hT : TabAt prog w mg sT d) (hhn : mg (Str.ofString "hex") = none) (hhex : mb (Str.ofString "hex") = some (.builtin "hex")) (hi : i < 22)
    (hg : env.kindOf (Str.ofString "COMPILER_FLAG_NAMES") = some .globalImplicit) (hh : env.kindOf (Str.ofString "hex") = some .globalImplicit)
    (hv : Var pr s env (Str.ofString "flag") (.int ((2 ^ i : Nat) : Int))) (hline : (apos.endLine == pos.line) = true) :
    Ev prog w sT n pr s env (.Call (.Attribute (.Name (Str.ofString "COMPILER_FLAG_NAMES") p) (Str.ofString "get") apos) [.Name (Str.ofString "flag") p2, .Call (.Name (Str.ofString "hex") p3) [.Name (Str.ofString "flag") p4] [] hpos] [] pos) (.str (wordS i)) := by
  refine ⟨fun s₁ k₁ A Q E rm ok hq => ?_⟩
  obtain ⟨f, hm, hf⟩ := hT.map
  have hm' : ∀ {s' : Shared}, Keeps sT s' → s'.heap.MapOf (intKind prog w) d f := fun k => let ⟨o, es, ep, ho, r⟩ := hm; ⟨o, es, ep, keeps_heap k _ _ ho, r⟩
  refine wpAny_Call_method (by rfl) (by rfl) hline F.plainAttrs_dict F.slot_dict_get F.type_dict_get (load_global G hE hg hT.g ok.base ?_)
  refine ⟨(hm' ok.base).typeIs, (hm' ok.base).noDict, ?_⟩
  show wpAny _ _ (callWith pos (.builtin "dict.get") [.ref d] [(false, eval (.Name (Str.ofString "flag") p2) env), (false, eval (.Call (.Name (Str.ofString "hex") p3) [.Name (Str.ofString "flag") p4] [] hpos) env)] []) _ _ _
  refine wpAny_dict_get2 (K := Int) (knd := intKind prog w) hT.sys ((ev_name hv).run s₁ k₁ A _ E rm ok fun v s₂ k₂ r₂ => ?_)
  have ehx : Ev prog w sT n pr s env (.Call (.Name (Str.ofString "hex") p3) [.Name (Str.ofString "flag") p4] [] hpos) (.str (baseText "0x" 16 ((2 ^ i : Nat) : Int))) :=
    ev_bcall G hE hh hhn hhex (evl_cons (ev_name hv) evl_nil) (fn_hex (by have := hex_len i hi; rw [sizeLine_eq]; omega))
  refine ehx.run s₂ (keeps_trans k₁ k₂) A _ E rm (ok.keeps k₂) fun u s₃ k₃ r₃ => ?_
  obtain ⟨t, rfl⟩ := r₂.int_inv
  obtain ⟨t', rfl⟩ := r₃.str_inv
  refine ⟨_, f, intKind_is _ _ _ _, hm' (keeps_trans ok.base (keeps_trans k₂ k₃)), hq _ _ (keeps_trans k₂ (keeps_trans k₃ keeps_tok)) ?_⟩
  by_cases h10 : i < 10
  · obtain ⟨t, e⟩ := (hf i hi).1 h10
    rw [e]; exact .str ..
  · rw [(hf i hi).2 (by omega), ← hex_word i hi (by omega)]
    exact .str ..

theorem pretty_spec {a d : Addr} (G : Gl mg mb sT) (hf : DefAt mg sT "pretty_flags" 4 a) (hT : TabAt prog w mg sT d) (hhn : mg (Str.ofString "hex") = none) (hhex : mb (Str.ofString "hex") = some (.builtin "hex"))
    (hrn : mg (Str.ofString "range") = none) (hran : mb (Str.ofString "range") = some (.type "range")) {x : Nat} (hx : x < 2 ^ 22) : Fn prog w sT (n + 1) (.ref a) [.int x] (.str (flagsS x)) := by
  refine fn_defI (x := Str.ofString "flags") G hf (fun v pm cd doc => rfl) rfl fun s₀ L cd ok => ?_
  show Ex prog w sT n s₀ (envOfC _ (Scope.mk _ _ _ _ _) L a cd) (alive s₀) _ (_ :: _ :: _ :: _) _
  generalize hEv : envOfC (Str.ofString "pretty_flags") _ L a cd = env
  have hE : En env := by subst hEv; exact ⟨rfl, rfl, rfl⟩
  have hSn : Sto env (Str.ofString "names") := by subst hEv; exact .inl rfl
  have hSf : Sto env (Str.ofString "flags") := by subst hEv; exact .inl rfl
  have hSi : Sto env (Str.ofString "i") := by subst hEv; exact .inl rfl
  have hSg : Sto env (Str.ofString "flag") := by subst hEv; exact .inl rfl
  have hkr : env.kindOf (Str.ofString "range") = some .globalImplicit := by subst hEv; rfl
  have hkc : env.kindOf (Str.ofString "COMPILER_FLAG_NAMES") = some .globalImplicit := by subst hEv; rfl
  have hkh : env.kindOf (Str.ofString "hex") = some .globalImplicit := by subst hEv; rfl
  have hint : interactive env = false := by subst hEv; rfl
  refine ⟨fun s A Q E rm F ho => ?_⟩
  refine wpAny_execs_cons ((x_assign ok hE hSn fun s F => ev_list evl_nil (Nat.zero_le _)).run s A _ E rm F fun s₁ mv₁ F₁ => ?_)
  -- the end: names joined
  have hret : ∀ (L : List Str) (Γ : Cx) (s' : Shared), Γ.lookup (Str.ofString "names") = some (.list (L.map .str)) → L.length ≤ 100 → (∀ y ∈ L, y.length ≤ 100) → Str.join (Str.ofString ", ") L = flagsS x → Frm s₀ env (alive s₀) Γ s' →
      ∀ {e : Expr} {p1 p2 p3 p4 p5 : Pos} {kk : Nat}, (p2.endLine == p4.line) = true → wpAny (model prog w) A (execs [.Return (some (.Call (.Attribute (.Constant (.str (Str.ofString ", ")) kk p1) (Str.ofString "join") p2) [.Name (Str.ofString "names") p3] [] p4)) p5] env) Q E s' := by
    intro L Γ s' hg hl hB hj F' e p1 p2 p3 p4 p5 kk hline
    refine (ex_ret (x_return ok fun s F => ?_)).run s' A Q E rm F' ho
    exact Ev.cast (ev_join ev_str (ev_name (F.var hE hg)) (joinOk hB (by rw [show (Str.ofString ", ").length = 2 by decide]; omega)) (by rfl) hline) (by rw [hj])
  refine wpAny_execs_cons (wpAny_For (range_iter G hE rm (F₁.ok ok) hkr hrn hran (k := 32) ev_int (by omega) fun I s₂ k₂ hI hIn => ?_))
  have W := Walks.range (prog := prog) (w := w) rm.handled I 0 1 32
  have hI₀ : s₀.heap.get? I = none := none_of_keeps F₁.keep hIn
  have nI : ∀ {Γ : Cx} {s' : Shared} {i : Nat}, Frm s₀ env (alive s₀) Γ s' → IsRangeIter s'.heap I (0 + ((i : Nat) : Int) * 1) (((32 : Nat) : Int) - ((i : Nat) : Int)) 1 → ∀ b ∈ own env, b ∉ [I] := by
    intro Γ s' i F' hI b hb hm
    rw [List.mem_singleton] at hm
    subst hm
    obtain ⟨o, e, h⟩ := F'.noSeq b hb
    rw [hI] at e; cases e
    rcases h with ⟨_, _, h⟩ | ⟨_, h⟩ <;> cases h
  refine codeAny_forLoop (fun k s' => ∃ i, Frm s₀ env (alive s₀) [(Str.ofString "names", .list (((bitsTo x i).map wordS).map .str)), (Str.ofString "flags", .int (fl x i : Nat))] s' ∧ IsRangeIter s'.heap I (0 + ((i : Nat) : Int) * 1) (((32 : Nat) : Int) - ((i : Nat) : Int)) 1 ∧ (x = 0 ∨ 2 ^ i ≤ x) ∧ i ≤ 32 ∧ k = 32 + 1 - i) ?_ (32 + 1)
    ⟨0, ?_, hI, ?_, Nat.zero_le _, rfl⟩
  · rintro k s' ⟨i, F', hI', hxi, hi, rfl⟩
    by_cases hlt : i < 32
    · refine W.item i s' _ _ hlt hI' fun v h₃ tk₃ hv hI₃ hk₃ => ?_
      obtain ⟨tv, rfl⟩ := hv
      have e0 : (0 : Int) + ((i : Nat) : Int) * 1 = (i : Nat) := by omega
      rw [e0]
      have mv₃ : Moves [I] s' { s' with heap := h₃, toks := tk₃ } := ⟨h₃, tk₃, rfl, hk₃⟩
      have F₃ := F'.off mv₃ (nI F' hI') (fun b hb => by rw [List.mem_singleton.mp hb]; exact hI₀) (pres_of hk₃ fun b hb o ho vs m hd => by
        rw [List.mem_singleton] at hb
        subst hb
        rw [hI'] at ho; cases ho; cases hd)
      refine wpAny_assign_Name (frm_store F₃ hE hSi (.int ..) fun s₄ mv₄ F₄ => ?_)
      have hI₄ : IsRangeIter s₄.heap I (0 + ((i + 1 : Nat) : Int) * 1) (((32 : Nat) : Int) - ((i + 1 : Nat) : Int)) 1 := mv₄.heap _ _ (fun hm => nI F₃ hI₃ I hm (List.mem_singleton.mpr rfl)) hI₃
      refine wpAny_execs_cons ((x_assign ok hE hSg fun s F => Ev.cast (ev_bin ev_int (ev_name (F.var hE rfl)) (op_lsh_int (Int.natCast_nonneg _) (by omega) (by decide))) (d' := .int ((2 ^ i : Nat) : Int)) ?_).run s₄ A _ _ rm F₄ fun s₅ mv₅ F₅ => ?_)
      · rw [Int.toNat_natCast, Int.one_mul]; push_cast; rfl
      have hI₅ : IsRangeIter s₅.heap I (0 + ((i + 1 : Nat) : Int) * 1) (((32 : Nat) : Int) - ((i + 1 : Nat) : Int)) 1 := mv₅.heap _ _ (fun hm => nI F₄ hI₄ I hm (List.mem_singleton.mpr rfl)) hI₄
      have hgo : ∀ (Γ : Cx) (s' : Shared), Frm s₀ env (alive s₀) Γ s' → Γ.lookup (Str.ofString "names") = some (.list (((bitsTo x (i + 1)).map wordS).map .str)) → Γ.lookup (Str.ofString "flags") = some (.int (fl x (i + 1) : Nat)) →
          IsRangeIter s'.heap I (0 + ((i + 1 : Nat) : Int) * 1) (((32 : Nat) : Int) - ((i + 1 : Nat) : Int)) 1 → (x = 0 ∨ 2 ^ (i + 1) ≤ x) → ∃ m, m < 32 + 1 - i ∧ ∃ i, Frm s₀ env (alive s₀) [(Str.ofString "names", .list (((bitsTo x i).map wordS).map .str)), (Str.ofString "flags", .int (fl x i : Nat))] s' ∧ IsRangeIter s'.heap I (0 + ((i : Nat) : Int) * 1) (((32 : Nat) : Int) - ((i : Nat) : Int)) 1 ∧ (x = 0 ∨ 2 ^ i ≤ x) ∧ i ≤ 32 ∧ m = 32 + 1 - i := by
        intro Γ s' F'' hn hfl hI'' hx''
        refine ⟨32 + 1 - (i + 1), by omega, i + 1, F''.weaken fun y d h => ?_, hI'', hx'', hlt, rfl⟩
        rw [List.lookup_cons] at h
        cases hb : y == Str.ofString "names" with
        | true => rw [hb] at h; cases h; rw [beq_iff_eq.mp hb]; exact hn
        | false =>
          rw [hb, List.lookup_cons] at h
          cases hb2 : y == Str.ofString "flags" with
          | true => rw [hb2] at h; cases h; rw [beq_iff_eq.mp hb2]; exact hfl
          | false => rw [hb2] at h; cases h
      refine wpAny_execs_cons (wpAny_If ((ts_val (ev_bin (ev_name (F₅.var hE rfl)) (ev_name (F₅.var hE rfl)) op_and_int) tr_int).run s₅ (keeps_refl _) A _ _ rm (F₅.ok ok) fun s₆ k₆ => ?_))
      have F₆ := F₅.keeps k₆
      have hI₆ := keeps_heap k₆ _ _ hI₅
      rw [fl_and]
      by_cases hbit : x / 2 ^ i % 2 = 1
      · have hi22 : i < 22 := by
          apply Nat.lt_of_not_le
          intro h
          have : x / 2 ^ i = 0 := Nat.div_eq_of_lt (Nat.lt_of_lt_of_le hx (Nat.pow_le_pow_right (by omega) h))
          omega
        have hpos : 0 < 2 ^ i := Nat.two_pow_pos i
        rw [show (((2 ^ i * (x / 2 ^ i % 2) : Nat) : Int) != 0) = true from by rw [hbit, bne_iff_ne]; omega]
        simp only [if_true]
        have hbs : bitsTo x (i + 1) = bitsTo x i ++ [i] := by rw [bitsTo_succ, if_pos hbit]
        have hbm : (bitsTo x (i + 1)).map wordS = (bitsTo x i).map wordS ++ [wordS i] := by rw [hbs, List.map_append]; rfl
        have hbl : ∀ k, k ≤ 32 → (bitsTo x k).length ≤ 32 := fun k hk => Nat.le_trans (List.length_filter_le _ _) (by rw [List.length_range]; exact hk)
        refine wpAny_execs_cons (frm_append F₆ ok hE rm (L := (bitsTo x i).map wordS) (x := wordS i) rfl ?_ (by rw [List.length_map]; have := hbl i (by omega); omega) (ev_get G hE hT hhn hhex hi22 hkc hkh (F₆.var hE rfl) rfl) rfl rfl hint rfl fun s₇ a₇ hna₇ hal₇ hk₇ F₇ => ?_)
        · intro y d h hne
          rw [List.lookup_cons] at h
          cases hb : y == Str.ofString "flag" with
          | true => rw [hb] at h; cases h; exact ⟨_, rfl⟩
          | false =>
            rw [hb, List.lookup_cons] at h
            cases hb : y == Str.ofString "i" with
            | true => rw [hb] at h; cases h; exact ⟨_, rfl⟩
            | false =>
              rw [hb, List.lookup_cons] at h
              rw [show (y == Str.ofString "names") = false from beq_eq_false_iff_ne.mpr hne, List.lookup_cons] at h
              cases hb : y == Str.ofString "flags" with
              | true => rw [hb] at h; cases h; exact ⟨_, rfl⟩
              | false => rw [hb] at h; cases h
        have hI₇ : IsRangeIter s₇.heap I (0 + ((i + 1 : Nat) : Int) * 1) (((32 : Nat) : Int) - ((i + 1 : Nat) : Int)) 1 := hk₇ _ _ (by
          rintro rfl
          obtain ⟨o, e, hc⟩ := hal₇
          rw [hI₆] at e; cases e; simp at hc) hI₆
        obtain ⟨vf, hbf, rf⟩ := F₇.var hE (y := Str.ofString "flags") (d := .int (fl x i : Nat)) rfl
        refine wpAny_execs_cons (wpAny_AugAssign_Name (hbf.load ((ev_name (F₇.var hE rfl)).run s₇ (keeps_refl _) A _ _ rm (F₇.ok ok) fun u s₈ k₈ r₈ => ?_)))
        refine (op_ixor_int (n := n) (pr := alive s₀) (a := (fl x i : Nat)) (b := ((2 ^ i : Nat) : Int))).run s₈ A _ _ vf u rm ((F₇.ok ok).keeps k₈) (rf.keeps (keeps_heap k₈)) r₈ fun r s₉ k₉ r₉ => ?_
        rw [fl_xor x i hbit] at r₉
        have k₈₉ := keeps_trans k₈ k₉
        refine frm_store (F₇.keeps k₈₉) hE hSf r₉ fun s₁₀ mv₁₀ F₁₀ => ?_
        have hI₉ := keeps_heap k₈₉ _ _ hI₇
        have hI₁₀ : IsRangeIter s₁₀.heap I (0 + ((i + 1 : Nat) : Int) * 1) (((32 : Nat) : Int) - ((i + 1 : Nat) : Int)) 1 := mv₁₀.heap _ _ (fun hm => nI (F₇.keeps k₈₉) hI₉ I hm (List.mem_singleton.mpr rfl)) hI₉
        have hxi' : 2 ^ i ≤ x := by
          rcases hxi with h | h
          · subst h; simp at hbit
          · exact h
        refine wpAny_execs_cons (wpAny_If ((ts_not (ts_val (ev_name (F₁₀.var hE rfl)) tr_int)).run s₁₀ (keeps_refl _) A _ _ rm (F₁₀.ok ok) fun s₁₁ k₁₁ => ?_))
        have F₁₁ := F₁₀.keeps k₁₁
        have hI₁₁ := keeps_heap k₁₁ _ _ hI₁₀
        by_cases hz : fl x (i + 1) = 0
        · rw [show (!(((fl x (i + 1) : Nat) : Int) != 0)) = true from by rw [hz]; rfl]
          simp only [if_true]
          refine wpAny_execs_cons (wpAny_Break ?_)
          have hlt1 := (fl_zero x (i + 1)).mp hz
          refine hret ((bitsTo x (i + 1)).map wordS) _ s₁₁ (by rw [hbm]; rfl) ?_ ?_ ?_ F₁₁ (e := .Name (Str.ofString "names") default) rfl
          · rw [List.length_map]; have := hbl (i + 1) (by omega); omega
          · intro y hy
            obtain ⟨q, hq, rfl⟩ := List.mem_map.mp hy
            have hq22 : q < 22 := by
              have := (List.mem_filter.mp hq).1
              rw [List.mem_range] at this; omega
            have := (word_len q hq22).1
            omega
          · unfold flagsS
            rw [bits_of x (by omega) hlt1]
            unfold orNought
            rw [if_pos ?_]
            rw [bne_iff_ne]
            intro h0
            have hmem : wordS i ∈ (bits x).map wordS := List.mem_map.mpr ⟨i, by rw [← bits_of x (by omega : i + 1 ≤ 22) hlt1, hbs]; simp, rfl⟩
            have := join_mem_le (Str.ofString ", ") _ _ hmem
            have := (word_len i hi22).2
            omega
        · rw [show (!(((fl x (i + 1) : Nat) : Int) != 0)) = false from by
            have : (((fl x (i + 1) : Nat) : Int) != 0) = true := bne_iff_ne.mpr (by omega)
            rw [this]; rfl]
          simp only [Bool.false_eq_true, if_false]
          refine wpAny_execs_nil (wpAny_execs_nil (wpAny_execs_nil (hgo _ s₁₁ F₁₁ ?_ rfl hI₁₁ (.inr ?_))))
          · rw [hbm]; rfl
          · apply Nat.le_of_not_lt
            intro h
            exact hz ((fl_zero x (i + 1)).mpr h)
      · have h0 : x / 2 ^ i % 2 = 0 := by omega
        rw [show (((2 ^ i * (x / 2 ^ i % 2) : Nat) : Int) != 0) = false from by rw [h0]; rfl]
        simp only [Bool.false_eq_true, if_false]
        refine wpAny_execs_nil (wpAny_execs_nil (hgo _ s₆ F₆ ?_ ?_ hI₆ ?_))
        · rw [bitsTo_succ, if_neg hbit, List.append_nil]; rfl
        · rw [fl_same x i hbit]; rfl
        · rcases hxi with h | h
          · exact .inl h
          · right
            apply Nat.le_of_not_lt
            intro h2
            have h3 : x / 2 ^ i = 1 := by
              rw [Nat.pow_succ] at h2
              apply Nat.div_eq_of_lt_le <;> omega
            omega
    · have hi32 : i = 32 := by omega
      subst hi32
      have hx0 : x = 0 := by
        rcases hxi with h | h
        · exact h
        · exact absurd (Nat.lt_of_lt_of_le hx (Nat.le_trans (by decide) h)) (Nat.lt_irrefl _)
      subst hx0
      refine W.done s' _ _ hI' fun h₃ tk₃ hk₃ => ?_
      have mv₃ : Moves [I] s' { s' with heap := h₃, toks := tk₃ } := ⟨h₃, tk₃, rfl, hk₃⟩
      have F₃ := F'.off mv₃ (nI F' hI') (fun b hb => by rw [List.mem_singleton.mp hb]; exact hI₀) (pres_of hk₃ fun b hb o ho vs m hd => by
        rw [List.mem_singleton] at hb
        subst hb
        rw [hI'] at ho; cases ho; cases hd)
      have hb0 : bitsTo 0 32 = [] := by decide
      rw [hb0] at F₃
      have hf0 : fl 0 32 = 0 := by decide
      rw [hf0] at F₃
      refine wpAny_execs_cons (frm_append F₃ ok hE rm (L := []) (x := Str.ofString "0x0") rfl ?_ (by simp) (ev_bcall G hE hkh hhn hhex (evl_cons (ev_name (F₃.var hE rfl)) evl_nil) (by have := fn_hex (prog := prog) (w := w) (sT := sT) (n := n) (i := 0) (by rw [hex_zero, sizeLine_eq]; decide); rw [hex_zero] at this; exact this)) rfl rfl hint rfl fun s₇ a₇ hna₇ hal₇ hk₇ F₇ => wpAny_execs_nil ?_)
      · intro y d h hne
        rw [List.lookup_cons, show (y == Str.ofString "names") = false from beq_eq_false_iff_ne.mpr hne, List.lookup_cons] at h
        cases hb : y == Str.ofString "flags" with
        | true => rw [hb] at h; cases h; exact ⟨_, rfl⟩
        | false => rw [hb] at h; cases h
      · refine hret [Str.ofString "0x0"] _ s₇ rfl (by simp) ?_ ?_ F₇ (e := .Name (Str.ofString "names") default) rfl
        · intro y hy
          rw [List.mem_singleton] at hy
          subst hy
          decide
        · decide +kernel
  · refine (F₁.keeps k₂).weaken fun y d h => ?_
    have hf0 : fl x 0 = x := by unfold fl; simp
    rw [hf0] at h
    exact h
  · by_cases h : x = 0
    · exact .inl h
    · exact .inr (by simp; omega)
end Mine
end

/-! Q1 -/
section
open PySem PySem.W PyProof.Rows
open PySem.Builtin PySem.Builtin.Str
set_option Elab.async false
set_option linter.unusedVariables false
set_option maxRecDepth 100000
namespace Mine

/-- replacement, from the left, of u by v (k signs are skipped) -/
def rp (u v : List Nat) : Nat → List Nat → List Nat
  | _, [] => []
  | k + 1, _ :: t => rp u v k t
  | 0, c :: t => if u.isPrefixOf (c :: t) then v ++ rp u v (u.length - 1) t else c :: rp u v 0 t

theorem rp_skip (u v : List Nat) : ∀ (k : Nat) (t : List Nat), rp u v k t = rp u v 0 (t.drop k)
  | 0, _ => by simp
  | k + 1, [] => by simp [rp]
  | k + 1, c :: t => by rw [rp, List.drop_succ_cons]; exact rp_skip u v k t

theorem rp_none (u v : List Nat) : ∀ (t : List Nat), (∀ k, u.isPrefixOf (t.drop k) = false) → rp u v 0 t = t
  | [], _ => rfl
  | c :: t, h => by
    rw [rp, if_neg (by have := h 0; rw [List.drop_zero] at this; rw [this]; simp), rp_none u v t fun k => by have := h (k + 1); rwa [List.drop_succ_cons] at this]

theorem rp_first (u v : List Nat) (hu : u ≠ []) : ∀ (j : Nat) (t : List Nat), (∀ k, k < j → u.isPrefixOf (t.drop k) = false) → u.isPrefixOf (t.drop j) = true → rp u v 0 t = t.take j ++ v ++ rp u v 0 (t.drop (j + u.length))
  | _, [], _, hp => by
    rw [List.drop_nil] at hp
    cases u with
    | nil => exact absurd rfl hu
    | cons => simp [List.isPrefixOf] at hp
  | 0, c :: t, _, hp => by
    rw [List.drop_zero] at hp
    rw [rp, if_pos hp, rp_skip, List.take_zero, List.nil_append, Nat.zero_add]
    cases u with
    | nil => exact absurd rfl hu
    | cons a r => rfl
  | j + 1, c :: t, hn, hp => by
    have h0 := hn 0 (by omega)
    rw [List.drop_zero] at h0
    rw [rp, if_neg (by rw [h0]; simp), rp_first u v hu j t (fun k hk => by have := hn (k + 1) (by omega); rwa [List.drop_succ_cons] at this) (by rwa [List.drop_succ_cons] at hp)]
    rw [List.take_succ_cons, show j + 1 + u.length = (j + u.length) + 1 by omega, List.drop_succ_cons]
    rfl

theorem pre_sep {c : Nat} : ∀ (u a b : List Nat), c ∉ u → u.isPrefixOf (a ++ c :: b) = u.isPrefixOf a
  | [], _, _, _ => by simp [List.isPrefixOf]
  | x :: u, [], b, h => by
    rw [List.nil_append, List.isPrefixOf_cons_cons]
    have : (x == c) = false := by rw [beq_eq_false_iff_ne]; rintro rfl; exact h (List.mem_cons_self ..)
    rw [this]; rfl
  | x :: u, y :: a, b, h => by
    rw [List.cons_append, List.isPrefixOf_cons_cons, List.isPrefixOf_cons_cons, pre_sep u a b fun hc => h (List.mem_cons_of_mem _ hc)]

theorem rp_sepK {u v : List Nat} {c : Nat} (hu : u ≠ []) (hc : c ∉ u) (b : List Nat) : ∀ (a : List Nat) (k : Nat), k ≤ a.length → rp u v k (a ++ c :: b) = rp u v k a ++ c :: rp u v 0 b
  | [], k, hk => by
    have : k = 0 := Nat.le_zero.mp hk
    subst this
    have h := pre_sep u [] b hc
    rw [List.nil_append] at h ⊢
    have h2 : u.isPrefixOf [] = false := by
      cases u with
      | nil => exact absurd rfl hu
      | cons => rfl
    show (if u.isPrefixOf (c :: b) then _ else _) = _
    rw [if_neg (by rw [h, h2]; simp)]
    rfl
  | d :: a, 0, hk => by
    have h := pre_sep u (d :: a) b hc
    rw [List.cons_append] at h ⊢
    rw [rp, rp, h]
    split
    · rename_i hp
      have hl : u.length ≤ (d :: a).length := (List.isPrefixOf_iff_prefix.mp hp).length_le
      rw [rp_sepK hu hc b a (u.length - 1) (by simp at hl; omega), List.append_assoc]
    · rw [rp_sepK hu hc b a 0 (Nat.zero_le _)]
      rfl
  | d :: a, k + 1, hk => by
    rw [List.cons_append, rp, rp]
    exact rp_sepK hu hc b a k (by simpa using hk)
theorem rp_sep {u v : List Nat} {c : Nat} (hu : u ≠ []) (hc : c ∉ u) (a b : List Nat) : rp u v 0 (a ++ c :: b) = rp u v 0 a ++ c :: rp u v 0 b := rp_sepK hu hc b a 0 (Nat.zero_le _)
theorem rp_seps {u v : List Nat} (hu : u ≠ []) : ∀ (sep : List Nat), sep ≠ [] → (∀ c ∈ sep, c ∉ u) → ∀ a b, rp u v 0 (a ++ sep ++ b) = rp u v 0 a ++ sep ++ rp u v 0 b
  | [], h, _, _, _ => absurd rfl h
  | [c], _, hc, a, b => by
    rw [List.append_assoc, List.singleton_append, rp_sep hu (hc c (by simp)), List.append_assoc, List.singleton_append]
  | c :: d :: r, _, hc, a, b => by
    have ih := rp_seps (v := v) hu (d :: r) (by simp) (fun e he => hc e (List.mem_cons_of_mem _ he)) [] b
    rw [List.nil_append] at ih
    rw [List.append_assoc, List.cons_append, rp_sep hu (hc c (by simp)), ih, List.append_assoc]
    simp [rp]
theorem rp_ne {u v : List Nat} (hv : v ≠ []) : ∀ (t : List Nat), t ≠ [] → rp u v 0 t ≠ []
  | [], h => absurd rfl h
  | c :: t, _ => by
    rw [rp]
    split
    · simp [hv]
    · simp

/-- the same on texts, as the program does it -/
def rpS (u v t : Str) : Str := Str.join v (Txt.split t u)

theorem at_iff (x y : Str) (hy : y.length ≠ 0) (k : Nat) : StrLaws.At x y x.length k ↔ y.cps.toList.isPrefixOf (x.cps.toList.drop k) = true := by
  rw [List.isPrefixOf_iff_prefix]
  unfold StrLaws.At
  rw [StrLaws.subAt_eq, beq_iff_eq, List.prefix_iff_eq_take]
  have ex : x.cps.toList.length = x.length := by simp [Str.length]
  have ey : y.cps.toList.length = y.length := by simp [Str.length]
  rw [ey]
  constructor
  · rintro ⟨_, h⟩; exact h.symm
  · intro h
    refine ⟨?_, h.symm⟩
    have := congrArg List.length h
    rw [List.length_take, List.length_drop, ex, ey] at this
    omega

theorem parts_rp (x u v : Str) (hu : u.length ≠ 0) : ∀ (cuts : List Nat) (a f : Nat), StrLaws.ChainG x u x.length a cuts f → (∀ k, f ≤ k → ¬ StrLaws.At x u x.length k) →
    (Str.join v (StrLaws.partsFrom x u.length a cuts)).cps.toList = rp u.cps.toList v.cps.toList 0 (x.cps.toList.drop a)
  | [], a, f, hG, hn => by
    have e : f = a := hG
    subst e
    show (strSub x f x.length).cps.toList = _
    rw [StrLaws.strSub_toList, rp_none]
    · exact List.take_of_length_le (by simp [Str.length])
    · intro k
      rw [List.drop_drop]
      have := hn (f + k) (by omega)
      rw [at_iff x u hu] at this
      exact Bool.eq_false_iff.mpr this
  | c :: r, a, f, hG, hn => by
    obtain ⟨h1, h2, h3, h4⟩ := hG
    obtain ⟨p, q, e⟩ := StrLaws.partsFrom_ne x u.length (c + u.length) r
    have ih := parts_rp x u v hu r (c + u.length) f h4 hn
    show (Str.join v (strSub x a c :: StrLaws.partsFrom x u.length (c + u.length) r)).cps.toList = _
    have hne : u.cps.toList ≠ [] := by
      intro h
      apply hu
      rw [Str.length, ← Array.length_toList, h]
      rfl
    have el : u.cps.toList.length = u.length := by simp [Str.length]
    rw [rp_first _ _ hne (c - a) (x.cps.toList.drop a)]
    · rw [e] at ih ⊢
      show (strSub x a c ++ v ++ Str.join v (p :: q)).cps.toList = _
      rw [Str.cps_append, Str.cps_append, Array.toList_append, Array.toList_append, ih, StrLaws.strSub_toList, List.drop_drop, el, show a + (c - a + u.length) = c + u.length by omega]
    · intro k hk
      rw [List.drop_drop]
      have := h3 (a + k) (by omega) (by omega)
      rw [at_iff x u hu] at this
      exact Bool.eq_false_iff.mpr this
    · rw [List.drop_drop, show a + (c - a) = c by omega]
      exact (at_iff x u hu c).mp h2

theorem rpS_eq (x u v : Str) (hu : u.length ≠ 0) (hk : Builtin.Str.strKind u = 1) : (rpS u v x).cps.toList = rp u.cps.toList v.cps.toList 0 x.cps.toList := by
  obtain ⟨f, hG, hn⟩ := StrLaws.occ_tight x u (by omega)
  unfold rpS Txt.split
  have hk1 : ¬ Builtin.Str.strKind x < Builtin.Str.strKind u := by
    rw [hk]; unfold Builtin.Str.strKind
    split
    · omega
    · split <;> omega
  by_cases hlt : x.length < u.length
  · rw [if_pos (by simp [hlt])]
    show x.cps.toList = _
    rw [rp_none]
    intro k
    have : ¬ StrLaws.At x u x.length k := fun h => by have := h.1; omega
    rw [at_iff x u hu] at this
    exact Bool.eq_false_iff.mpr this
  · rw [if_neg (by simp [hlt, hk1])]
    split
    · rename_i he
      have e0 : occurrences x u 0 x.length (x.length + 1) = [] := List.isEmpty_iff.mp he
      rw [e0] at hG
      have e : f = 0 := hG
      subst e
      show x.cps.toList = _
      rw [rp_none]
      intro k
      have := hn k (Nat.zero_le _)
      rw [at_iff x u hu] at this
      exact Bool.eq_false_iff.mpr this
    · rw [StrLaws.partsBetween_eq, parts_rp x u v hu _ 0 f hG hn, List.drop_zero]

/-- what a pair must be -/
structure Pair (u v : Str) : Prop where
  une : u.length ≠ 0
  kind : Builtin.Str.strKind u = 1
  vne : v.length ≠ 0
  vle : v.length ≤ 20
  sep : ∀ c ∈ [10, 44, 32], c ∉ u.cps.toList
  nought : rp u.cps.toList v.cps.toList 0 (Str.ofString "0x0").cps.toList = (Str.ofString "0x0").cps.toList

theorem str_ext {a b : Str} (h : a.cps.toList = b.cps.toList) : a = b := Str.ext' (Array.toList_inj.mp h)
theorem cps_ne {a : Str} (h : a.length ≠ 0) : a.cps.toList ≠ [] := by
  intro e
  apply h
  rw [Str.length, ← Array.length_toList, e]
  rfl

theorem rpS_join {u v sep : Str} (P : Pair u v) (hs : sep.length ≠ 0) (hsep : ∀ c ∈ sep.cps.toList, c ∈ [10, 44, 32]) : ∀ (ts : List Str), rpS u v (Str.join sep ts) = Str.join sep (ts.map (rpS u v))
  | [] => str_ext (by rw [rpS_eq _ _ _ P.une P.kind]; rfl)
  | [t] => rfl
  | t :: t' :: r => by
    have ih := rpS_join P hs hsep (t' :: r)
    show rpS u v (t ++ sep ++ Str.join sep (t' :: r)) = rpS u v t ++ sep ++ Str.join sep (rpS u v t' :: r.map (rpS u v))
    rw [List.map_cons] at ih
    rw [← ih]
    apply str_ext
    rw [rpS_eq _ _ _ P.une P.kind]
    simp only [Str.cps_append, Array.toList_append]
    rw [rp_seps (cps_ne P.une) _ (cps_ne hs) (fun c hc => P.sep c (hsep c hc)), rpS_eq _ _ _ P.une P.kind, rpS_eq _ _ _ P.une P.kind]

theorem rpS_orNought {u v : Str} (P : Pair u v) (t : Str) : rpS u v (orNought t) = orNought (rpS u v t) := by
  unfold orNought
  by_cases ht : t.length = 0
  · have e : t.cps.toList = [] := by
      rw [Str.length, ← Array.length_toList] at ht
      exact List.length_eq_zero_iff.mp ht
    have e2 : (rpS u v t).length = 0 := by
      rw [Str.length, ← Array.length_toList, rpS_eq _ _ _ P.une P.kind, e]
      rfl
    rw [if_neg (by simp [ht]), if_neg (by simp [e2])]
    exact str_ext (by rw [rpS_eq _ _ _ P.une P.kind, P.nought])
  · have e2 : (rpS u v t).length ≠ 0 := by
      rw [Str.length, ← Array.length_toList, rpS_eq _ _ _ P.une P.kind]
      intro h
      exact rp_ne (cps_ne P.vne) _ (cps_ne ht) (List.length_eq_zero_iff.mp h)
    rw [if_pos (by simp [ht]), if_pos (by simp [e2])]

/-- a page whose words are told by f -/
def pageT (numbers : List Nat) (f : Nat → Str) : Str := Str.join (Str.ofString "\n") (numbers.map fun x => orNought (Str.join (Str.ofString ", ") ((bits x).map f)))

theorem rpS_page {u v : Str} (P : Pair u v) (numbers : List Nat) (f g : Nat → Str) (h : ∀ p, p < 22 → rpS u v (f p) = g p) : rpS u v (pageT numbers f) = pageT numbers g := by
  unfold pageT
  rw [rpS_join P (by decide) (by decide), List.map_map]
  congr 1
  apply List.map_congr_left
  intro x _
  show rpS u v (orNought _) = _
  rw [rpS_orNought P, rpS_join P (by decide) (by decide), List.map_map]
  congr 2
  apply List.map_congr_left
  intro p hp
  exact h p (by unfold bits at hp; rw [List.mem_filter, List.mem_range] at hp; exact hp.1)

theorem pageT_congr (numbers : List Nat) (f g : Nat → Str) (h : ∀ p, p < 22 → f p = g p) : pageT numbers f = pageT numbers g := by
  unfold pageT
  congr 1
  apply List.map_congr_left
  intro x _
  congr 2
  apply List.map_congr_left
  intro p hp
  exact h p (by unfold bits at hp; rw [List.mem_filter, List.mem_range] at hp; exact hp.1)
end Mine
end

/-! Q2 -/
section
open PySem PySem.W PyProof.Rows
set_option Elab.async false
set_option linter.unusedVariables false
set_option linter.unusedSectionVars false
set_option maxRecDepth 100000
namespace Mine

def wl (p : Nat) : List Nat := (wordS p).cps.toList
def ll (p : Nat) : List Nat := (letterS p).cps.toList
def pl (p f : Nat) : List Nat := (pieceS p f).cps.toList

theorem chk1 : ∀ o < 22, ∀ p < 22, rp (wl o) (ll o) 0 (wl p) = if o ∈ withinL p then pl p o else wl p := by decide +kernel
theorem chk2 : ∀ o < 22, ∀ p < 22, ∀ f ∈ withinL p, rp (wl o) (ll o) 0 (pl p f) = pl p f := by decide +kernel
theorem chk3 : ∀ o < 22, ∀ p < 22, ∀ f ∈ withinL p, rp (ll o) (wl o) 0 (pl p f) = if o = f then wl p else pl p f := by decide +kernel
theorem chk4 : ∀ o < 22, ∀ p < 22, rp (ll o) (wl o) 0 (wl p) = wl p := by decide +kernel
theorem piece_len : ∀ p < 22, ∀ f ∈ withinL p, (pieceS p f).length ≤ 20 := by decide +kernel
theorem word_len20 : ∀ p < 22, (wordS p).length ≤ 20 := by decide +kernel
theorem piece_ok : ∀ p < 22, ∀ f ∈ withinL p, PyData.strOk (pieceS p f) = true := by decide +kernel
theorem word_ok : ∀ p < 22, PyData.strOk (wordS p) = true := by decide +kernel

theorem pair_wl (o : Nat) (h : o < 22) : Pair (wordS o) (letterS o) where
  une := (by decide +kernel : ∀ o < 22, (wordS o).length ≠ 0) o h
  kind := (by decide +kernel : ∀ o < 22, Builtin.Str.strKind (wordS o) = 1) o h
  vne := (by decide +kernel : ∀ o < 22, (letterS o).length ≠ 0) o h
  vle := (by decide +kernel : ∀ o < 22, (letterS o).length ≤ 20) o h
  sep := (by decide +kernel : ∀ o < 22, ∀ c ∈ [10, 44, 32], c ∉ (wordS o).cps.toList) o h
  nought := (by decide +kernel : ∀ o < 22, rp (wordS o).cps.toList (letterS o).cps.toList 0 (Str.ofString "0x0").cps.toList = (Str.ofString "0x0").cps.toList) o h
theorem pair_lw (o : Nat) (h : o < 22) : Pair (letterS o) (wordS o) where
  une := (by decide +kernel : ∀ o < 22, (letterS o).length ≠ 0) o h
  kind := (by decide +kernel : ∀ o < 22, Builtin.Str.strKind (letterS o) = 1) o h
  vne := (by decide +kernel : ∀ o < 22, (wordS o).length ≠ 0) o h
  vle := (by decide +kernel : ∀ o < 22, (wordS o).length ≤ 20) o h
  sep := (by decide +kernel : ∀ o < 22, ∀ c ∈ [10, 44, 32], c ∉ (letterS o).cps.toList) o h
  nought := (by decide +kernel : ∀ o < 22, rp (letterS o).cps.toList (wordS o).cps.toList 0 (Str.ofString "0x0").cps.toList = (Str.ofString "0x0").cps.toList) o h

theorem w_word {o p : Nat} (ho : o < 22) (hp : p < 22) : rpS (wordS o) (letterS o) (wordS p) = if o ∈ withinL p then pieceS p o else wordS p := by
  have P := pair_wl o ho
  apply str_ext
  rw [rpS_eq _ _ _ P.une P.kind]
  have := chk1 o ho p hp
  unfold wl ll pl at this
  rw [this]
  split <;> rfl
theorem w_piece {o p f : Nat} (ho : o < 22) (hp : p < 22) (hf : f ∈ withinL p) : rpS (wordS o) (letterS o) (pieceS p f) = pieceS p f := by
  have P := pair_wl o ho
  apply str_ext
  rw [rpS_eq _ _ _ P.une P.kind]
  exact chk2 o ho p hp f hf
theorem l_piece {o p f : Nat} (ho : o < 22) (hp : p < 22) (hf : f ∈ withinL p) : rpS (letterS o) (wordS o) (pieceS p f) = if o = f then wordS p else pieceS p f := by
  have P := pair_lw o ho
  apply str_ext
  rw [rpS_eq _ _ _ P.une P.kind]
  have := chk3 o ho p hp f hf
  unfold wl ll pl at this
  rw [this]
  split <;> rfl
theorem l_word {o p : Nat} (ho : o < 22) (hp : p < 22) : rpS (letterS o) (wordS o) (wordS p) = wordS p := by
  have P := pair_lw o ho
  apply str_ext
  rw [rpS_eq _ _ _ P.une P.kind]
  exact chk4 o ho p hp

theorem fold_le : ∀ (xs : List (Nat × Nat)) (b : Nat × Nat), (xs.foldl (fun b y => if ltT y b = true then y else b) b).1 ≤ b.1 ∧ ∀ y ∈ xs, (xs.foldl (fun b y => if ltT y b = true then y else b) b).1 ≤ y.1
  | [], b => ⟨Nat.le_refl _, by simp⟩
  | x :: xs, b => by
    rw [List.foldl_cons]
    obtain ⟨h1, h2⟩ := fold_le xs (if ltT x b = true then x else b)
    have h3 : (if ltT x b = true then x else b).1 ≤ b.1 ∧ (if ltT x b = true then x else b).1 ≤ x.1 := by
      split
      · rename_i h
        unfold ltT at h
        simp only [Bool.or_eq_true, Bool.and_eq_true, decide_eq_true_eq] at h
        exact ⟨by omega, Nat.le_refl _⟩
      · rename_i h
        unfold ltT at h
        simp only [Bool.or_eq_true, Bool.and_eq_true, decide_eq_true_eq] at h
        exact ⟨Nat.le_refl _, by omega⟩
    refine ⟨Nat.le_trans h1 h3.1, fun y hy => ?_⟩
    rcases List.mem_cons.mp hy with rfl | hy
    · exact Nat.le_trans h1 h3.2
    · exact h2 y hy
theorem met_le (order : List Nat) (p q : Nat) (hq : q ∈ withinL p) : (metT order p).1 ≤ order.idxOf q := by
  unfold metT
  have hm : (order.idxOf q, q) ∈ (withinL p).map fun q => (order.idxOf q, q) := List.mem_map.mpr ⟨q, hq, rfl⟩
  revert hm
  generalize (withinL p).map (fun q => (order.idxOf q, q)) = l
  intro hm
  cases l with
  | nil => simp at hm
  | cons x xs =>
    obtain ⟨h1, h2⟩ := fold_le xs x
    rcases List.mem_cons.mp hm with e | hm
    · rw [← e] at h1 ⊢; exact h1
    · exact h2 _ hm

/-- the word's text when the first k pairs are done -/
def tokAt (o : List Nat) (k p : Nat) : Str := if (metT o p).1 < k then pieceS p (metT o p).2 else wordS p

theorem pg_page (numbers o : List Nat) (k : Nat) : pg (numbers.map (rowP o)) k = pageT numbers (tokAt o k) := by
  unfold pg pageT rowTxt rowP tokAt
  rw [List.map_map]
  congr 1
  apply List.map_congr_left
  intro x _
  show orNought _ = orNought _
  rw [List.map_map]
  rfl
theorem flags_page (numbers o : List Nat) : Str.join (Str.ofString "\n") (numbers.map flagsS) = pageT numbers (tokAt o 0) := by
  unfold pageT flagsS tokAt
  simp
theorem flags_word (numbers : List Nat) : Str.join (Str.ofString "\n") (numbers.map flagsS) = pageT numbers wordS := rfl

variable {o : List Nat} (O : Perm22 o)
include O

theorem mem22 {k : Nat} (hk : k < 22) : ∃ q, o[k]? = some q ∧ q < 22 ∧ o.idxOf q = k := by
  have hl : k < o.length := by rw [O.len]; exact hk
  refine ⟨o[k], List.getElem?_eq_getElem hl, (O.all _).mp (List.getElem_mem _), ?_⟩
  exact O.nodup.idxOf_getElem _ _

theorem idx_inv {k q f : Nat} (hq : o[k]? = some q) (hf : o.idxOf f = k) (hm : f ∈ o) : f = q := by
  have hl : o.idxOf f < o.length := List.idxOf_lt_length_iff.mpr hm
  have := List.getElem_idxOf hl
  subst hf
  rw [List.getElem?_eq_getElem hl, this] at hq
  exact Option.some.inj hq

theorem met_in {p : Nat} (hp : p < 22) : (metT o p).2 ∈ o ∧ (metT o p).1 < 22 := by
  obtain ⟨h1, h2⟩ := met_mem o p
  have h3 : (metT o p).2 ∈ o := (O.all _).mpr (Nat.lt_of_le_of_lt (within_le h1) hp)
  refine ⟨h3, ?_⟩
  rw [h2, ← O.len]
  exact List.idxOf_lt_length_iff.mpr h3

theorem tok_step {k q p : Nat} (hk : k < 22) (hq : o[k]? = some q) (hp : p < 22) : rpS (wordS q) (letterS q) (tokAt o k p) = tokAt o (k + 1) p := by
  obtain ⟨q', e1, e2, e3⟩ := mem22 O hk
  rw [hq] at e1
  cases Option.some.inj e1
  obtain ⟨h1, h2⟩ := met_mem o p
  obtain ⟨h3, h4⟩ := met_in O hp
  unfold tokAt
  by_cases hlt : (metT o p).1 < k
  · rw [if_pos hlt, if_pos (by omega), w_piece e2 hp h1]
  · rw [if_neg hlt, w_word e2 hp]
    by_cases hw : q ∈ withinL p
    · have := met_le o p q hw
      rw [e3] at this
      rw [if_pos hw, if_pos (by omega), idx_inv O hq (by rw [← h2]; omega) h3]
    · rw [if_neg hw, if_neg]
      intro hlt'
      apply hw
      rw [← idx_inv O hq (by rw [← h2]; omega) h3]
      exact h1

theorem page_step (numbers : List Nat) {k q : Nat} (hk : k < 22) (hq : o[k]? = some q) : rpS (wordS q) (letterS q) (pageT numbers (tokAt o k)) = pageT numbers (tokAt o (k + 1)) := by
  obtain ⟨q', e1, e2, e3⟩ := mem22 O hk
  rw [hq] at e1
  cases Option.some.inj e1
  exact rpS_page (pair_wl q e2) numbers _ _ fun p hp => tok_step O hk hq hp

theorem page_still (numbers : List Nat) {q : Nat} (hq : q < 22) : rpS (wordS q) (letterS q) (pageT numbers (tokAt o 22)) = pageT numbers (tokAt o 22) := by
  refine rpS_page (pair_wl q hq) numbers _ _ fun p hp => ?_
  unfold tokAt
  rw [if_pos (met_in O hp).2]
  exact w_piece hq hp (met_mem o p).1

/-- the word's text when the letters D are turned back -/
def tokU (o D : List Nat) (p : Nat) : Str := if (metT o p).2 ∈ D then wordS p else pieceS p (metT o p).2

theorem page_back (numbers D : List Nat) {q : Nat} (hq : q < 22) : rpS (letterS q) (wordS q) (pageT numbers (tokU o D)) = pageT numbers (tokU o (D ++ [q])) := by
  refine rpS_page (pair_lw q hq) numbers _ _ fun p hp => ?_
  unfold tokU
  by_cases h : (metT o p).2 ∈ D
  · rw [if_pos h, if_pos (List.mem_append_left _ h)]
    exact l_word hq hp
  · rw [if_neg h, l_piece hq hp (met_mem o p).1]
    by_cases e : q = (metT o p).2
    · rw [if_pos e, if_pos (by rw [← e]; simp)]
    · rw [if_neg e, if_neg (by simp [h]; exact fun h => e h.symm)]

omit O in
theorem rev22 (O : Perm22 o) : Perm22 o.reverse := ⟨by rw [List.length_reverse]; exact O.len, List.pairwise_reverse.mpr (O.nodup.imp fun h => h.symm), fun p => by rw [List.mem_reverse]; exact O.all p⟩

theorem tokU_nil (numbers : List Nat) : pageT numbers (tokAt o 22) = pageT numbers (tokU o []) := by
  refine pageT_congr _ _ _ fun p hp => ?_
  unfold tokAt tokU
  rw [if_pos (met_in O hp).2, if_neg (by simp)]
theorem tokU_all (numbers : List Nat) {L : List Nat} (hL : Perm22 L) : pageT numbers (tokU o L) = pageT numbers wordS := by
  refine pageT_congr _ _ _ fun p hp => ?_
  unfold tokU
  rw [if_pos ((hL.all _).mpr ((O.all _).mp (met_in O hp).1))]
end Mine
end

/-! Q3 -/
section
open PySem PySem.W PyProof.Rows
set_option Elab.async false
set_option linter.unusedVariables false
set_option maxRecDepth 100000
namespace Mine

def fwOf (o : List Nat) : List (Str × Str) := o.map fun p => (wordS p, letterS p)
def unOf (o : List Nat) : List (Str × Str) := o.map fun p => (letterS p, wordS p)

theorem repl_cons (t u v : Str) (r : List (Str × Str)) : repl t ((u, v) :: r) = repl (rpS u v t) r := rfl
theorem repl_one (t u v : Str) (l : List (Str × Str)) : repl t (l ++ [(u, v)]) = rpS u v (repl t l) := repl_snoc l t u v

theorem fw_len (o : List Nat) : (fwOf o).length = o.length := List.length_map ..
theorem un_len (o : List Nat) : (unOf o).length = o.length := List.length_map ..

theorem repl_fw {o : List Nat} (O : Perm22 o) (N : List Nat) : ∀ (k : Nat), k ≤ 22 → repl (pageT N wordS) ((fwOf o).take k) = pageT N (tokAt o k)
  | 0, _ => by
    rw [List.take_zero]
    show pageT N wordS = _
    refine pageT_congr _ _ _ fun p _ => ?_
    unfold tokAt
    rw [if_neg (by omega)]
  | k + 1, hk => by
    obtain ⟨q, e1, e2, e3⟩ := mem22 O (k := k) (by omega)
    have h : (fwOf o).take (k + 1) = (fwOf o).take k ++ [(wordS q, letterS q)] := by
      rw [List.take_add_one]
      unfold fwOf
      rw [List.getElem?_map, e1]
      rfl
    rw [h, repl_one, repl_fw O N k (by omega), page_step O N (by omega) e1]
theorem repl_fw_all {o : List Nat} (O : Perm22 o) (N : List Nat) : repl (pageT N wordS) (fwOf o) = pageT N (tokAt o 22) := by
  have := repl_fw O N 22 (Nat.le_refl _)
  rwa [List.take_of_length_le (by rw [fw_len, O.len]; exact Nat.le_refl _)] at this
theorem repl_still {o : List Nat} (O : Perm22 o) (N : List Nat) : ∀ (L : List Nat), (∀ q ∈ L, q < 22) → repl (pageT N (tokAt o 22)) (fwOf L) = pageT N (tokAt o 22)
  | [], _ => rfl
  | q :: L, h => by
    show repl (rpS (wordS q) (letterS q) (pageT N (tokAt o 22))) (fwOf L) = _
    rw [page_still O N (h q (by simp))]
    exact repl_still O N L fun r hr => h r (List.mem_cons_of_mem _ hr)
theorem repl_back {o : List Nat} (O : Perm22 o) (N : List Nat) : ∀ (L D : List Nat), (∀ q ∈ L, q < 22) → repl (pageT N (tokU o D)) (unOf L) = pageT N (tokU o (D ++ L))
  | [], D, _ => by rw [List.append_nil]; rfl
  | q :: L, D, h => by
    show repl (rpS (letterS q) (wordS q) (pageT N (tokU o D))) (unOf L) = _
    rw [page_back O N D (h q (by simp)), repl_back O N L (D ++ [q]) fun r hr => h r (List.mem_cons_of_mem _ hr), List.append_assoc]
    rfl
theorem repl_back_all {o L : List Nat} (O : Perm22 o) (hL : Perm22 L) (N : List Nat) : repl (pageT N (tokAt o 22)) (unOf L) = pageT N wordS := by
  rw [tokU_nil O, repl_back O N L [] fun q hq => (hL.all q).mp hq, List.nil_append, tokU_all O N hL]

theorem fw_rev (o : List Nat) : (fwOf o).reverse = fwOf o.reverse := by unfold fwOf; rw [List.map_reverse]
theorem un_rev (o : List Nat) : (unOf o).reverse = unOf o.reverse := by unfold unOf; rw [List.map_reverse]

theorem bits_len (x : Nat) : (bits x).length ≤ 22 := by
  unfold bits
  exact Nat.le_trans (List.length_filter_le ..) (by rw [List.length_range]; exact Nat.le_refl _)
theorem bits_lt {x p : Nat} (h : p ∈ bits x) : p < 22 := by
  unfold bits at h
  rw [List.mem_filter, List.mem_range] at h
  exact h.1
theorem page_len {N : List Nat} (hN : N.length ≤ 3) {f : Nat → Str} (hf : ∀ p < 22, (f p).length ≤ 20) : (pageT N f).length ≤ 1500 := by
  unfold pageT
  refine Nat.le_trans (join_len_le (B := 484) ?_) ?_
  · intro y hy
    obtain ⟨x, _, rfl⟩ := List.mem_map.mp hy
    have h1 := join_len_le (sep := Str.ofString ", ") (ys := (bits x).map f) (B := 20) (by
      intro y hy
      obtain ⟨p, hp, rfl⟩ := List.mem_map.mp hy
      exact hf p (bits_lt hp))
    rw [List.length_map, show (Str.ofString ", ").length = 2 by decide] at h1
    have h2 := bits_len x
    unfold orNought
    split
    · omega
    · rw [show (Str.ofString "0x0").length = 3 by decide]; omega
  · rw [List.length_map, show (Str.ofString "\n").length = 1 by decide]
    omega

theorem split_fits {t u v : Str} (ht : t.length ≤ 1500) (hv : v.length ≤ 20) : JoinOk v (Txt.split t u) = true := by
  refine joinOk (B := 1500) (fun y hy => Nat.le_trans (part_short hy) ht) ?_
  have h1 := split_le t u
  have h2 : (Txt.split t u).length ≤ 1502 := by omega
  have h3 : (Txt.split t u).length * v.length ≤ 1502 * 20 := Nat.mul_le_mul h2 hv
  omega

theorem replOk {t : Str} {ps : List (Str × Str)} {N : List Nat} (hN : N.length ≤ 3) (hp : ∀ q ∈ ps, Pair q.1 q.2) (h : ∀ i, i ≤ ps.length → ∃ f, repl t (ps.take i) = pageT N f ∧ ∀ p < 22, (f p).length ≤ 20) : ReplOk t ps := by
  intro i u v hi
  have hlt : i < ps.length := (List.getElem?_eq_some_iff.mp hi).1
  obtain ⟨f, e, hf⟩ := h i (by omega)
  have P := hp _ (List.mem_of_getElem? hi)
  have hl := page_len hN hf
  rw [e]
  refine ⟨P.une, ?_, split_fits hl P.vle⟩
  rw [sizeLine_eq]
  omega

theorem tokAt_len {o : List Nat} {k p : Nat} (hp : p < 22) : (tokAt o k p).length ≤ 20 := by
  unfold tokAt
  split
  · exact piece_len p hp _ (met_mem o p).1
  · exact word_len20 p hp
theorem tokU_len {o D : List Nat} {p : Nat} (hp : p < 22) : (tokU o D p).length ≤ 20 := by
  unfold tokU
  split
  · exact word_len20 p hp
  · exact piece_len p hp _ (met_mem o p).1
theorem fw_pair {L : List Nat} (h : ∀ q ∈ L, q < 22) : ∀ q ∈ fwOf L, Pair q.1 q.2 := by
  intro q hq
  obtain ⟨p, hp, rfl⟩ := List.mem_map.mp hq
  exact pair_wl p (h p hp)
theorem un_pair {L : List Nat} (h : ∀ q ∈ L, q < 22) : ∀ q ∈ unOf L, Pair q.1 q.2 := by
  intro q hq
  obtain ⟨p, hp, rfl⟩ := List.mem_map.mp hq
  exact pair_lw p (h p hp)

variable {o : List Nat} (O : Perm22 o) {N : List Nat} (hN : N.length ≤ 3)
include O hN
theorem ok_step {k q : Nat} (hk : k < 22) (hq : o[k]? = some q) : ReplOk (pageT N (tokAt o k)) [(wordS q, letterS q)] := by
  have hq22 : q < 22 := (O.all q).mp (List.mem_of_getElem? hq)
  refine replOk hN (by intro x hx; rw [List.mem_singleton.mp hx]; exact pair_wl q hq22) fun i hi => ?_
  have hi' : i = 0 ∨ i = 1 := by simp at hi; omega
  rcases hi' with rfl | rfl
  · exact ⟨_, rfl, fun p hp => tokAt_len hp⟩
  · exact ⟨_, page_step O N hk hq, fun p hp => tokAt_len hp⟩
theorem ok_fw : ReplOk (pageT N wordS) (fwOf o) := by
  refine replOk hN (fw_pair fun q hq => (O.all q).mp hq) fun i hi => ?_
  rw [fw_len, O.len] at hi
  exact ⟨_, repl_fw O N i hi, fun p hp => tokAt_len hp⟩
theorem ok_still {L : List Nat} (hL : ∀ q ∈ L, q < 22) : ReplOk (pageT N (tokAt o 22)) (fwOf L) := by
  refine replOk hN (fw_pair hL) fun i hi => ⟨_, ?_, fun p hp => tokAt_len (o := o) (k := 22) hp⟩
  unfold fwOf
  rw [← List.map_take]
  exact repl_still O N _ fun q hq => hL q (List.mem_of_mem_take hq)
theorem ok_back {L : List Nat} (hL : ∀ q ∈ L, q < 22) : ReplOk (pageT N (tokAt o 22)) (unOf L) := by
  refine replOk hN (un_pair hL) fun i hi => ⟨_, ?_, fun p hp => tokU_len (o := o) (D := [] ++ L.take i) hp⟩
  unfold unOf
  rw [← List.map_take, tokU_nil O]
  exact repl_back O N _ [] fun q hq => hL q (List.mem_of_mem_take hq)
omit hN O in
theorem rowsOk (hN : N.length ≤ 3) : RowsOk (N.map (rowP o)) where
  len := by rw [List.length_map]; omega
  row := by
    intro r hr
    obtain ⟨x, _, rfl⟩ := List.mem_map.mp hr
    unfold rowP
    rw [List.length_map]
    exact bits_len x
  word := by
    intro r hr t ht
    obtain ⟨x, _, rfl⟩ := List.mem_map.mp hr
    obtain ⟨p, hp, rfl⟩ := List.mem_map.mp ht
    exact Nat.le_trans (word_len20 p (bits_lt hp)) (by omega)
  piece := by
    intro r hr t ht
    obtain ⟨x, _, rfl⟩ := List.mem_map.mp hr
    obtain ⟨p, hp, rfl⟩ := List.mem_map.mp ht
    exact Nat.le_trans (piece_len p (bits_lt hp) _ (met_mem o p).1) (by omega)
omit hN O
theorem ok_append {a b : Str} (ha : PyData.strOk a = true) (hb : PyData.strOk b = true) : PyData.strOk (a ++ b) = true := by
  unfold PyData.strOk at *
  rw [Str.cps_append, Array.all_append, ha, hb]
  rfl
theorem ok_join {sep : Str} (hs : PyData.strOk sep = true) : ∀ (ts : List Str), (∀ t ∈ ts, PyData.strOk t = true) → PyData.strOk (Str.join sep ts) = true
  | [], _ => by show PyData.strOk Str.empty = true; decide +kernel
  | [t], h => h t (by simp)
  | t :: t' :: r, h => ok_append (ok_append (h t (by simp)) hs) (ok_join hs (t' :: r) fun x hx => h x (List.mem_cons_of_mem _ hx))
theorem page_ok (N : List Nat) : PyData.strOk (pageT N wordS) = true := by
  unfold pageT
  refine ok_join (by decide +kernel) _ fun t ht => ?_
  obtain ⟨x, _, rfl⟩ := List.mem_map.mp ht
  unfold orNought
  split
  · refine ok_join (by decide +kernel) _ fun t ht => ?_
    obtain ⟨p, hp, rfl⟩ := List.mem_map.mp ht
    exact word_ok p (bits_lt hp)
  · decide +kernel
end Mine
end

/-! E1 -/
section
open PySem PySem.W PyProof.Rows
open AutoSeq1 (wpAny_loadPart')
set_option Elab.async false
set_option linter.unusedVariables false
set_option maxRecDepth 100000
namespace Mine
variable {prog : Program} {w : World} {sT : Shared} {n : Nat} {pr : Addr → Prop} {s s₀ : Shared} {env : Env} {Γ : Cx} {mg mb : Str → Option Value}

theorem next_tuple_item {A : Around} {E : Value → Shared → Prop} {it t : Addr} {i : Nat} {items : Array Value} {x : Value} {Q : Value → Shared → Prop} (hit : s.heap.IsTupleIter it t i) (ht : s.heap.IsTuple t items) (hx : items[i]? = some x)
    (hQ : ∀ h', h'.IsTupleIter it t (i + 1) → Heap.SameBut it s.heap h' → Q x { s with heap := h' }) : wpAny (model prog w) A (Builtin.SmallTypes.nextOf (.ref it)) Q E s := by
  obtain ⟨o, ho, hc, hd⟩ := id hit
  obtain ⟨ol, hol, _, nl, hdl⟩ := ht
  unfold Builtin.SmallTypes.nextOf
  refine wpAny_bind (wpAny_callSpecial?_slot (name := Str.ofString "__next__") hit.typeIs F.slot_tuple_iterator_next
    (wpAny_call_entry F.slot_tuple_iterator_next hit.typeIs F.entry_tuple_iterator_next ?_ (F.args_tuple_iterator_next_1 _)))
  show wpAny _ _ (field (.ref it) 0 >>= _) _ _ s
  refine wpAny_bind (wpAny_field ho hd (x := .ref t) rfl ?_)
  show wpAny _ _ (if (Value.ref t == Value.none) = true then _ else _) _ _ s
  rw [if_neg (show ¬ ((Value.ref t == Value.none) = true) from Bool.false_ne_true)]
  show wpAny _ _ (field (.ref it) 1 >>= _) _ _ s
  refine wpAny_bind (wpAny_field ho hd (x := .int i 0) rfl ?_)
  show wpAny _ _ (seqItems? (.ref t) >>= _) _ _ s
  refine wpAny_bind (wpAny_seqItems hol hdl ?_)
  simp only [Int.toNat_natCast, hx]
  refine wpAny_bind (wpAny_setField ho hd (by simp) (wpAny_pure ⟨x, rfl, wpAny_pure (hQ _ ?_ (Heap.SameBut.update ..))⟩))
  exact ⟨_, Heap.get?_update_self _ ho (Obj.isFreed_of_fields (Obj.data_mapFields hd _)), (Obj.cls_mapFields ..).trans hc, by
    rw [Obj.data_mapFields hd]; simp [rawInt]⟩

theorem next_tuple_end {A : Around} {E : Value → Shared → Prop} {it t : Addr} {i : Nat} {items : Array Value} {Q : Value → Shared → Prop} (hh : A.handled = none) (hit : s.heap.IsTupleIter it t i) (ht : s.heap.IsTuple t items) (hx : items[i]? = none)
    (hE : ∀ h' e, Heap.ExtBut it s.heap h' → (∃ o, h'.get? e = some o ∧ o.cls = .type "StopIteration") → E (.ref e) { s with heap := h' }) : wpAny (model prog w) A (Builtin.SmallTypes.nextOf (.ref it)) Q E s := by
  obtain ⟨o, ho, hc, hd⟩ := id hit
  obtain ⟨ol, hol, _, nl, hdl⟩ := ht
  unfold Builtin.SmallTypes.nextOf
  refine wpAny_bind (wpAny_callSpecial?_slot (name := Str.ofString "__next__") hit.typeIs F.slot_tuple_iterator_next
    (wpAny_call_entry F.slot_tuple_iterator_next hit.typeIs F.entry_tuple_iterator_next ?_ (F.args_tuple_iterator_next_1 _)))
  show wpAny _ _ (field (.ref it) 0 >>= _) _ _ s
  refine wpAny_bind (wpAny_field ho hd (x := .ref t) rfl ?_)
  show wpAny _ _ (if (Value.ref t == Value.none) = true then _ else _) _ _ s
  rw [if_neg (show ¬ ((Value.ref t == Value.none) = true) from Bool.false_ne_true)]
  show wpAny _ _ (field (.ref it) 1 >>= _) _ _ s
  refine wpAny_bind (wpAny_field ho hd (x := .int i 0) rfl ?_)
  show wpAny _ _ (seqItems? (.ref t) >>= _) _ _ s
  refine wpAny_bind (wpAny_seqItems hol hdl ?_)
  simp only [Int.toNat_natCast, hx]
  refine wpAny_bind (wpAny_rule (wpAny_bind (wpAny_setField ho hd (by simp) ?_)))
  show wpAny _ _ (newExc (.type "StopIteration") [] >>= _) _ _ _
  refine wpAny_bind ?_
  simp only [newExc, newTuple]
  refine wpAny_bind (wpAny_newObj_type ?_ (by size_fits))
  refine wpAny_bind (m := firstArgMember _ _) (wpAny_of_eq (a := Value.none) (by first | rfl | (simp only [firstArgMember]; rfl)) ?_)
  refine wpAny_newObj_type ?_ (by size_fits)
  simp only [raiseNew]
  refine wpAny_bind (wpAny_handled ?_)
  first | rw [show A.in1.handled = none from hh] | rw [hh]
  refine wpAny_bind (wpAny_pure (wpAny_throw ?_))
  exact hE _ _ (((Heap.SameBut.update ..).extBut.push _).push _) ⟨_, Heap.get?_push_size _ rfl, rfl⟩

theorem draws_tuple {A : Around} (hh : A.handled = none) (it t : Addr) (hne : t ≠ it) (items : Array Value) :
    Draws prog w A it [it, t] items.size (fun i v => items[i]? = some v) (fun i h => h.IsTupleIter it t i ∧ h.IsTuple t items) where
  live := fun _ _ st => let ⟨o, ho, _⟩ := st.1; ⟨o, ho⟩
  frame := fun _ _ _ st hk => by
    obtain ⟨⟨o, ho, r⟩, ⟨o2, ho2, r2⟩⟩ := st
    exact ⟨⟨o, hk it (by simp) o ho, r⟩, ⟨o2, hk t (by simp) o2 ho2, r2⟩⟩
  item := fun i s Q E hi st hQ => by
    refine next_tuple_item st.1 st.2 (x := items[i]) (by simp [hi]) fun h' hit' hs' => ?_
    exact hQ _ h' s.toks (by simp [hi]) ⟨hit', st.2.extBut hs'.extBut hne⟩ hs'
  done := fun s Q E st hE => next_tuple_end hh st.1 st.2 (by simp) hE

theorem enum_new (l : Addr) (items : Array Value) (k : Nat) :
    Meets (Builtin.«enumerate.__new__» ⟨[.type "enumerate", .ref l], []⟩) (fun _ R s => s.heap.get? l = some { cls := .type "tuple", data := .seq items k } ∧
      R (.ok (.ret (.ref (s.heap.push { cls := .type "tuple_iterator", data := .fields #[.ref l, .int 0 0] }).objs.size)))
        { s with heap := (s.heap.push { cls := .type "tuple_iterator", data := .fields #[.ref l, .int 0 0] }).push { cls := .type "enumerate", data := .fields #[.none, .bool false, .ref s.heap.objs.size, rawInt 0, .none, .none] } }) :=
  .of_wp fun prog w A R s h => by
    obtain ⟨hp, g, d, tk, os⟩ := s; obtain ⟨hl, h⟩ := h
    have hsub := sub_enumerate
    have hL : Heap.IsTuple (Shared.heap ⟨hp, g, d, tk, os⟩) l items := ⟨_, hl, rfl, k, rfl⟩
    wp_walk using wpAny_loadPart' hl
    refine wpAny_stack_any fun st => wpAny_pure ?_
    split
    · rename_i c _ _ _ _ _
      cases (c == Value.type "enumerate")
      · wp_walk using wpAny_loadPart' hl, wpAny_pyIter_tuple hL
        exact ⟨_, rfl, h⟩
      · wp_walk using wpAny_loadPart' hl, wpAny_pyIter_tuple hL
        exact ⟨_, rfl, h⟩
    · wp_walk using wpAny_loadPart' hl, wpAny_pyIter_tuple hL
      exact ⟨_, rfl, h⟩

theorem call_enum_tuple {A : Around} {E : Value → Shared → Prop} {l : Addr} {items : Array Value} {k : Nat} {Q : Value → Shared → Prop} (hl : s.heap.get? l = some { cls := .type "tuple", data := .seq items k })
    (h : ∀ h', IsEnum h' (s.heap.objs.size + 1) s.heap.objs.size 0 .none → h'.IsTupleIter s.heap.objs.size l 0 → (∀ b o, s.heap.get? b = some o → h'.get? b = some o) → Q (.ref (s.heap.objs.size + 1)) { s with heap := h' }) :
    wpAny (model prog w) A (call (.type "enumerate") [.ref l]) Q E s := by
  refine callType_new F.called_enumerate (by decide) (F.typeCall_enumerate_1 _) (F.newCall_enumerate_1 _) (fun obj => F.args_object_init_2 obj _) F.entry_enumerate_new
    (enum_new l items k) ⟨hl, ?_⟩
  have hz : (s.heap.push { cls := .type "tuple_iterator", data := .fields #[.ref l, .int 0 0] }).objs.size = s.heap.objs.size + 1 := Heap.size_push ..
  show _ ∧ _
  rw [hz]
  have he : IsEnum ((s.heap.push { cls := .type "tuple_iterator", data := .fields #[.ref l, .int 0 0] }).push
      { cls := .type "enumerate", data := .fields #[.none, .bool false, .ref s.heap.objs.size, rawInt 0, .none, .none] }) (s.heap.objs.size + 1) s.heap.objs.size 0 .none := by
    have := Heap.get?_push_size (s.heap.push { cls := .type "tuple_iterator", data := .fields #[.ref l, .int 0 0] })
      (o := { cls := .type "enumerate", data := .fields #[.none, .bool false, .ref s.heap.objs.size, rawInt 0, .none, .none] }) rfl
    rw [hz] at this; exact this
  exact ⟨⟨_, he, rfl⟩, h _ he ⟨_, Heap.get?_push_of_some _ (Heap.get?_push_size _ rfl), rfl, rfl⟩ fun b o x => Heap.get?_push_of_some _ (Heap.get?_push_of_some _ x)⟩

/-- (0, d0), (1, d1), .. -/
def enumD (ds : List PyData) : List PyData := ds.zipIdx.map fun p => .tuple [.int (p.2 : Nat), p.1]

theorem enumD_get {ds : List PyData} {i : Nat} {d : PyData} (h : (enumD ds)[i]? = some d) : ∃ e, ds[i]? = some e ∧ d = .tuple [.int (i : Nat), e] := by
  unfold enumD at h
  rw [List.getElem?_map, List.getElem?_zipIdx] at h
  cases he : ds[i]? with
  | none => rw [he] at h; cases h
  | some e =>
    rw [he] at h
    simp at h
    exact ⟨e, rfl, h.symm⟩

theorem itr_enum {A : Around} {elts : List Expr} {kk : Nat} {tp : Pos} {e it ax : Addr} {vs : List Value} {ds : List PyData} (hh : A.handled = none) (hei : e ≠ it) (hea : e ≠ ax) (hia : ax ≠ it) (hlen : vs.length = ds.length) :
    ItrC prog w A (.Tuple elts kk tp) e [e, it, ax] [e, it] (enumD ds) (fun pr i h => ((∃ old, IsEnum h e it i old) ∧ (h.IsTupleIter it ax i ∧ h.IsTuple ax vs.toArray)) ∧ RepAll pr h vs ds) := by
  have D := draws_tuple (prog := prog) (w := w) (A := A.in1) hh it ax hia vs.toArray
  have W := WalksT.enumerateD (prog := prog) (w := w) (A := A) D e hei (by simp [hei, hea]) (by simp)
  have nwE : ∀ {i : Int} {old : Value} {h : Heap}, IsEnum h e it i old → ∀ o, h.get? e = some o → ∀ vs n, o.data ≠ .seq vs n := by
    intro i old h he o ho vs n hd
    rw [he] at ho; cases ho; cases hd
  have nwI : ∀ {i : Nat} {h : Heap}, h.IsTupleIter it ax i → ∀ o, h.get? it = some o → ∀ vs n, o.data ≠ .seq vs n := by
    intro i h ⟨o', e', _, hd'⟩ o ho vs n hd
    rw [e'] at ho; cases ho; rw [hd'] at hd; cases hd
  have nw : ∀ {i : Nat} {old : Value} {j : Int} {h : Heap}, IsEnum h e it j old → h.IsTupleIter it ax i → ∀ b ∈ [e, it], ∀ o, h.get? b = some o → ∀ vs n, o.data ≠ .seq vs n := by
    intro i old j h h1 h2 b hb
    simp only [List.mem_cons, List.not_mem_nil, or_false] at hb
    rcases hb with rfl | rfl
    · exact nwE h1
    · exact nwI h2
  refine ⟨W.sub, fun pr pr' i h st hp => ⟨st.1, st.2.prm hp⟩, fun pr i h h' st hk hp => ⟨W.frame i h h' st.1 hk, st.2.mono hp⟩, ?_, ?_, fun pr i s Q E st hq => W.self i s Q E st.1 hq⟩
  · intro pr i d s Q E hd st hq
    obtain ⟨d', hd', rfl⟩ := enumD_get hd
    obtain ⟨v, hv, _⟩ := st.2.get hd'
    have hlt := (List.getElem?_eq_some_iff.mp hv).1
    obtain ⟨⟨⟨old, hen⟩, hit, htu⟩, hrep⟩ := id st
    refine wpAny_pyNext_enum_itemD D hen ⟨hit, htu⟩ (by simpa using hlt) hei (by simp [hei, hea]) fun x h' tk₀ hx hout hst2 hT _ hk₀ => ?_
    have hk : ∀ b o, b ∉ [e, it] → s.heap.get? b = some o → h'.get? b = some o := fun b o hb y => hk₀ b o (fun q => hb (by simp [q])) (fun q => hb (by simp [q])) y
    have hp := pres_of (pr := pr) hk (nw hen hit)
    have helt : e < s.heap.objs.size := Heap.lt_size hen
    have hilt : it < s.heap.objs.size := let ⟨_, y, _⟩ := hit; Heap.lt_size y
    have hx' : vs[i]? = some x := by simpa using hx
    have r' := hrep.mono hp
    obtain ⟨v₂, hv₂, hr₂⟩ := r'.get hd'
    rw [hx'] at hv₂
    cases hv₂
    refine hq (.ref s.heap.objs.size) h' (tk₀ + 1) ?_ hk hp fun Q' E' hq' => ?_
    · exact .tuple (vs := [.int (i : Nat) tk₀, x]) ⟨0, hT⟩ (.cons (.int ..) (.cons hr₂ .nil))
    · refine W.go elts kk tp i s.heap.objs.size { s with heap := h', toks := tk₀ + 1 } Q' E' ⟨⟨x, hout⟩, hst2, Nat.ne_of_gt helt, Nat.ne_of_gt hilt⟩ fun h₂ st₂ hk₂ => ?_
      have hp₂ : Pres pr pr h' h₂ := pres_of hk₂ fun b hb o ho vs' n' hdat => by
        simp only [List.mem_cons, List.not_mem_nil, or_false] at hb
        rcases hb with rfl | rfl
        · rw [hout] at ho; cases ho; cases hdat
        · exact nwI hst2.1 o ho vs' n' hdat
      exact hq' h₂ ⟨st₂, r'.mono hp₂⟩ hk₂ hp₂
  · intro pr s Q E st hq
    obtain ⟨⟨⟨old, hen⟩, hit, htu⟩, hrep⟩ := id st
    have hl : (enumD ds).length = vs.length := by unfold enumD; simp [hlen]
    refine W.done s Q E (by rw [List.size_toArray, ← hl]; exact st.1) fun h' tk hk => hq h' tk hk (pres_of hk (nw hen hit))

theorem it_enum {p pos tp : Pos} {elts : List Expr} {kk : Nat} {e : Expr} {ds : List PyData} (G : Gl mg mb sT) (hE : En env) (hx : env.kindOf (Str.ofString "enumerate") = some .globalImplicit) (hm : mg (Str.ofString "enumerate") = none) (hf : mb (Str.ofString "enumerate") = some (.type "enumerate"))
    (he : Ev prog w sT n pr s env e (.tuple ds)) (hst : starEach [e] env = [(false, eval e env)] := by rfl) : ItC prog w sT n pr s env (.Tuple elts kk tp) (.Call (.Name (Str.ofString "enumerate") p) [e] [] pos) (enumD ds) := by
  refine ⟨fun s₁ k₁ A Q E rm ok hq => ?_⟩
  refine Call_ (load_builtin G hE hx hm hf ok.base ?_)
  refine PyProof.Rows.callWith_type1 ?_ hst
  refine args_cons (he.run s₁ k₁ A _ E rm ok fun v s₂ k₂ r₂ => args_nil ?_) hst
  obtain ⟨a, vs, rfl, ⟨k, ha⟩, hr⟩ := r₂.tuple_inv
  have hlt := Heap.lt_size ha
  refine call_enum_tuple ha fun h' hen hit hk => ?_
  have hne : s₂.heap.objs.size + 1 ≠ s₂.heap.objs.size := Nat.succ_ne_self _
  refine wpAny_pyIter_enum hen ?_
  refine hq _ _ _ _ _ (keeps_trans k₂ ⟨h', s₂.toks, rfl, hk⟩) (itr_enum rm.handled hne (Nat.ne_of_gt (Nat.lt_succ_of_lt hlt)) (Nat.ne_of_lt hlt) hr.length) ⟨⟨⟨_, hen⟩, hit, ⟨_, hk _ _ ha, rfl, _, rfl⟩⟩, hr.keeps hk⟩ ?_ ?_
  · intro b hb
    simp only [List.mem_cons, List.not_mem_nil, or_false] at hb
    rcases hb with rfl | rfl | rfl
    · exact ⟨_, hen, (fun _ _ e => nomatch e), (fun _ e => nomatch e)⟩
    · obtain ⟨o, ho, _, hd⟩ := hit
      exact ⟨o, ho, (fun _ _ e => by rw [hd] at e; cases e), (fun _ e => by rw [hd] at e; cases e)⟩
    · exact ⟨_, hk _ _ ha, (fun _ _ e => nomatch e), (fun _ e => nomatch e)⟩
  · intro b hb
    simp only [List.mem_cons, List.not_mem_nil, or_false] at hb
    rcases hb with rfl | rfl
    · exact none_of_keeps k₂ (none_of_size (Nat.le_succ _))
    · exact none_of_keeps k₂ (none_of_size (Nat.le_refl _))

theorem repAll_of {h : Heap} : ∀ (vs : List Value) (ds : List PyData), vs.length = ds.length → (∀ (i : Nat) v d, vs[i]? = some v → ds[i]? = some d → Rep pr h v d) → RepAll pr h vs ds
  | [], [], _, _ => .nil
  | v :: vs, d :: ds, hl, hr => .cons (hr 0 v d rfl rfl) (repAll_of vs ds (by simpa using hl) fun i v' d' h1 h2 => hr (i + 1) v' d' (by simpa using h1) (by simpa using h2))
  | [], _ :: _, hl, _ => by simp at hl
  | _ :: _, [], hl, _ => by simp at hl

/-- list(range(k)) -/
theorem ev_list_range {p p2 pos pos2 : Pos} {e : Expr} {k : Nat} (G : Gl mg mb sT) (hE : En env) (hx : env.kindOf (Str.ofString "range") = some .globalImplicit) (hm : mg (Str.ofString "range") = none) (hf : mb (Str.ofString "range") = some (.type "range"))
    (hx2 : env.kindOf (Str.ofString "list") = some .globalImplicit) (hm2 : mg (Str.ofString "list") = none) (hf2 : mb (Str.ofString "list") = some (.type "list"))
    (he : Ev prog w sT n pr s env e (.int k)) (hk : k < 2 ^ 24)
    (hst : starEach [e] env = [(false, eval e env)] := by rfl) : Ev prog w sT n pr s env (.Call (.Name (Str.ofString "list") p2) [.Call (.Name (Str.ofString "range") p) [e] [] pos] [] pos2) (natsD (List.range k)) := by
  refine ⟨fun s₁ k₁ A Q E rm ok hq => ?_⟩
  refine Call_ (load_builtin G hE hx2 hm2 hf2 ok.base ?_)
  refine PyProof.Rows.callWith_type1 ?_ rfl
  refine args_cons (Call_ (load_builtin G hE hx hm hf ok.base ?_)) rfl
  refine PyProof.Rows.callWith_type1 ?_ hst
  refine args_cons (he.run s₁ k₁ A _ E rm ok fun v s₂ k₂ r₂ => args_nil ?_) hst
  obtain ⟨t, rfl⟩ := r₂.int_inv
  refine call_range_1 (args_nil ?_)
  have hsz : Builtin.Range.rangeSize 0 k 1 = (k : Int) := by rw [rangeSize_nat]; omega
  refine call_list_range rm.handled (IsRange.new ..) (small_one (by omega) (by omega) (by omega) (by omega)) hsz (by omega) fun h' tk acc c hk' hD hI => ?_
  have k₃ := keeps_trans k₂ (⟨h', tk, rfl, fun b o e => hk' b o (Heap.get?_push_of_some _ e)⟩ : Keeps s₂ { s₂ with heap := h', toks := tk })
  refine hq _ _ k₃ ?_
  unfold natsD
  have hnew : ¬ pr (s₂.heap.push { cls := .type "range", data := .fields #[.int 0 s₂.toks, .int k t, .int 1 (s₂.toks + 1)] }).objs.size := fun hp => by
    obtain ⟨o, e⟩ := (ok.keeps k₂).live _ hp
    have := Heap.lt_size e
    rw [Heap.size_push] at this
    exact absurd this (Nat.not_lt.mpr (Nat.le_succ _))
  refine .list (vs := acc.toList) hnew ⟨c, by simpa using hD⟩ ?_
  refine repAll_of _ _ (by rw [Array.length_toList, hI.1, List.length_map, List.length_range]) fun i v d h1 h2 => ?_
  obtain ⟨tk', rfl⟩ := hI.2 i v (by simpa using h1)
  have hlt := (List.getElem?_eq_some_iff.mp h2).1
  rw [List.length_map, List.length_range] at hlt
  rw [List.getElem?_map, List.getElem?_range hlt] at h2
  simp at h2
  subst h2
  have e : (0 : Int) + (i : Nat) * 1 = (i : Nat) := by omega
  rw [e]
  exact .int ..
end Mine
end

/-! E2 -/
section
open PySem PySem.W PyProof.Rows
set_option Elab.async false
set_option linter.unusedVariables false
set_option maxRecDepth 100000
namespace Mine
variable {prog : Program} {w : World} {sT : Shared} {n : Nat} {pr pr' : Addr → Prop} {s s₀ : Shared} {env cenv : Env} {Γ Δ : Cx} {mg mb : Str → Option Value} {D : Addr} {ds : List PyData}

/-- the ground of a comprehension's loops -/
structure CB (sT s₀ : Shared) (cenv : Env) (pr pr' : Addr → Prop) (D : Addr) : Prop where
  base : Keeps sT s₀
  prD : ∀ a, pr' a → pr a ∨ a = D
  live : ∀ a, pr a → ∃ o, s₀.heap.get? a = some o
  acc : pr' D
  newD : s₀.heap.get? D = none
  newC : s₀.heap.get? cenv.locals = none
  ne : D ≠ cenv.locals
  fn : cenv.scope.kind = .function

/-- their state -/
structure CS (s₀ : Shared) (cenv : Env) (pr' : Addr → Prop) (D : Addr) (Δ : Cx) (ds : List PyData) (s : Shared) : Prop where
  keep : Keeps s₀ s
  ns : ∃ m, s.heap.Ns cenv.locals m ∧ ∀ y d, Δ.lookup y = some d → cenv.kindOf y = some .local ∧ ∃ v, m y = some v ∧ Rep pr' s.heap v d
  acc : ∃ ys, s.heap.PlainList D ys ∧ RepAll pr' s.heap ys.toList ds

theorem CS.ok (C : CS s₀ cenv pr' D Δ ds s) (B : CB sT s₀ cenv pr pr' D) : Ok sT pr' s :=
  ⟨keeps_trans B.base C.keep, fun a ha => by
    rcases B.prD a ha with h | rfl
    · obtain ⟨o, e⟩ := B.live a h; exact ⟨o, keeps_heap C.keep _ _ e⟩
    · obtain ⟨ys, ⟨m, e⟩, _⟩ := C.acc; exact ⟨_, e⟩⟩
theorem CS.weaken {Δ' : Cx} (C : CS s₀ cenv pr' D Δ ds s) (h : ∀ y d, Δ'.lookup y = some d → Δ.lookup y = some d) : CS s₀ cenv pr' D Δ' ds s :=
  ⟨C.keep, let ⟨m, h1, h2⟩ := C.ns; ⟨m, h1, fun y d e => h2 y d (h y d e)⟩, C.acc⟩
theorem CS.off {s' : Shared} {wr : List Addr} (C : CS s₀ cenv pr' D Δ ds s) (mv : Moves wr s s') (hD : D ∉ wr) (hL : cenv.locals ∉ wr) (hn : ∀ b ∈ wr, s₀.heap.get? b = none) (hp : Pres pr' pr' s.heap s'.heap) : CS s₀ cenv pr' D Δ ds s' := by
  refine ⟨Moves.keeps C.keep mv hn, ?_, ?_⟩
  · obtain ⟨m, ⟨o, es, ep, e, r⟩, h2⟩ := C.ns
    exact ⟨m, ⟨o, es, ep, mv.heap _ _ hL e, r⟩, fun y d h => let ⟨k, v, h3, h4⟩ := h2 y d h; ⟨k, v, h3, h4.mono hp⟩⟩
  · obtain ⟨ys, ⟨m, e⟩, r⟩ := C.acc
    exact ⟨ys, ⟨m, mv.heap _ _ hD e⟩, r.mono hp⟩
theorem CS.keeps {s' : Shared} (C : CS s₀ cenv pr' D Δ ds s) (k : Keeps s s') : CS s₀ cenv pr' D Δ ds s' :=
  C.off (wr := []) (.of_keeps k) (by simp) (by simp) (by simp) (.keeps (keeps_heap k))
theorem CS.var (C : CS s₀ cenv pr' D Δ ds s) (B : CB sT s₀ cenv pr pr' D) {y : Str} {d : PyData} (h : Δ.lookup y = some d) : Var pr' s cenv y d := by
  obtain ⟨m, h1, h2⟩ := C.ns
  obtain ⟨k, v, h3, h4⟩ := h2 y d h
  exact ⟨v, .loc m B.fn k h1 h3, h4⟩
theorem pres_two {s s' : Shared} (C : CS s₀ cenv pr' D Δ ds s) (B : CB sT s₀ cenv pr pr' D) (mv : Moves [D, cenv.locals] s s') : Pres pr' pr' s.heap s'.heap := by
  obtain ⟨m, ⟨o, es, ep, e, hd, _⟩, _⟩ := C.ns
  refine ⟨fun a vs ha ⟨k, e'⟩ => ⟨k, mv.heap a _ (fun hm => ?_) e'⟩, fun a vs ⟨k, e'⟩ => ⟨k, mv.heap a _ (fun hm => ?_) e'⟩, fun _ _ h _ => h⟩
  · simp only [List.mem_cons, List.not_mem_nil, or_false] at hm
    rcases hm with rfl | rfl
    · exact ha B.acc
    · rw [e] at e'; cases e'; cases hd
  · simp only [List.mem_cons, List.not_mem_nil, or_false] at hm
    rcases hm with rfl | rfl
    · obtain ⟨ys, ⟨m', e2⟩, _⟩ := C.acc
      rw [e2] at e'; simp at e'
    · rw [e] at e'; cases e'; cases hd
theorem CS.store {M : Model} {A : Around} {Q : Unit → Shared → Prop} {E : Value → Shared → Prop} {y : Str} {v : Value} {d : PyData} (C : CS s₀ cenv pr' D Δ ds s) (B : CB sT s₀ cenv pr pr' D) (hy : cenv.kindOf y = some .local) (r : Rep pr' s.heap v d)
    (hq : ∀ s', Moves [D, cenv.locals] s s' → CS s₀ cenv pr' D ((y, d) :: Δ) ds s' → Q () s') : wpAny M A (storeName cenv y v) Q E s := by
  obtain ⟨m, hn, h2⟩ := C.ns
  refine wpAny_storeName_local hy hn (fun h' hn' hs' => ?_) (fn_kind B.fn)
  have mv : Moves [D, cenv.locals] s { s with heap := h', toks := s.toks + 1 } := moves_sameBut (by simp) hs'
  have hp := pres_two C B mv
  refine hq _ mv ⟨Moves.keeps C.keep mv fun b hb => ?_, ⟨_, hn', fun z d' h => ?_⟩, ?_⟩
  · simp only [List.mem_cons, List.not_mem_nil, or_false] at hb
    rcases hb with rfl | rfl
    · exact B.newD
    · exact B.newC
  · rw [List.lookup_cons] at h
    cases hb : z == y with
    | true =>
      rw [hb] at h
      cases h
      rw [beq_iff_eq.mp hb]
      exact ⟨hy, v, by simp, r.mono hp⟩
    | false =>
      rw [hb] at h
      obtain ⟨k, u, hu, ru⟩ := h2 z d' h
      have hne : z ≠ y := beq_eq_false_iff_ne.mp hb
      exact ⟨k, u, by simpa [hne] using hu, ru.mono hp⟩
  · obtain ⟨ys, ⟨k, e⟩, hr⟩ := C.acc
    exact ⟨ys, ⟨k, hs'.extBut D _ B.ne e⟩, hr.mono hp⟩
theorem CS.append {A : Around} {Q : Value → Shared → Prop} {E : Value → Shared → Prop} {v : Value} {d : PyData} (C : CS s₀ cenv pr' D Δ ds s) (B : CB sT s₀ cenv pr pr' D) (r : Rep pr' s.heap v d) (hz : ds.length < sizeLine)
    (hq : ∀ v s', Moves [D, cenv.locals] s s' → CS s₀ cenv pr' D Δ (ds ++ [d]) s' → Q v s') : wpAny (model prog w) A (call (.builtin "list.append") [.ref D, v]) Q E s := by
  obtain ⟨ys, hl, hr⟩ := C.acc
  have e1 := hr.length
  rw [Array.length_toList] at e1
  refine wpAny_list_append_plain hl (fun h₆ acc₆ hs₆ => ?_) (by omega)
  have mv : Moves [D, cenv.locals] s { s with heap := h₆ } := ⟨h₆, s.toks, rfl, fun b o hb e => hs₆.extBut b o (fun q => hb (by simp [q])) e⟩
  have hp := pres_two C B mv
  refine hq _ _ mv ⟨Moves.keeps C.keep mv fun b hb => ?_, ?_, ys.push v, acc₆, ?_⟩
  · simp only [List.mem_cons, List.not_mem_nil, or_false] at hb
    rcases hb with rfl | rfl
    · exact B.newD
    · exact B.newC
  · obtain ⟨m, hn, h2⟩ := C.ns
    exact ⟨m, hn.sameBut hs₆ (Ne.symm B.ne), fun y d h => let ⟨k, v, h3, h4⟩ := h2 y d h; ⟨k, v, h3, h4.mono hp⟩⟩
  · have := (hr.mono hp).snoc (r.mono hp)
    simpa using this

/-- a loop of a comprehension, at any depth -/
theorem loopC {β : Type} {A : Around} {R : Result → Shared → Prop} {elt : Expr} {gens : List Comprehension} {scope : Scope} {pos ipos : Pos} {depth : Nat} {y : Str} {py : Pos} {rest : Sem Fin} {I : Addr} {fp wr : List Addr} {St : (Addr → Prop) → Nat → Heap → Prop}
    (B : CB sT s₀ cenv pr pr' D) (xs : List β) (inj : β → PyData) (dsOf : Nat → List PyData)
    (heq : compTurn (.ListComp elt gens scope pos) depth (.ref I) (.ref D) cenv = (standAt ipos >>= fun _ => pyNext (.ref I) >>= fun r => match r with
      | none => pure (.done .next)
      | some v => letOwnedTupleGo (.Name y py) (.ref I) v >>= fun _ => assign (.Name y py) cenv v >>= fun _ => rest))
    (W : ItrC prog w A (.Name y py) I fp wr (xs.map inj) St) (hy : cenv.kindOf y = some .local) (hyΔ : Δ.lookup y = none)
    (C : CS s₀ cenv pr' D Δ (dsOf 0) s) (hst : St pr' 0 s.heap) (hDf : D ∉ fp) (hLf : cenv.locals ∉ fp) (hnew : ∀ b ∈ wr, s₀.heap.get? b = none)
    (hbody : ∀ i x s', xs[i]? = some x → CS s₀ cenv pr' D ((y, inj x) :: Δ) (dsOf i) s' → ∀ (Q : Fin → Shared → Prop) (E : Value → Shared → Prop), (∀ s'', Moves [D, cenv.locals] s' s'' → CS s₀ cenv pr' D Δ (dsOf (i + 1)) s'' → wpAny (model prog w) A (again (.compLoop (.ListComp elt gens scope pos) depth (.ref I) (.ref D) cenv)) Q E s'') → wpAny (model prog w) A rest Q E s')
    (hR : ∀ s', Moves (D :: cenv.locals :: wr) s s' → CS s₀ cenv pr' D Δ (dsOf xs.length) s' → R (.ok .next) s') :
    codeAny (model prog w) A (.compLoop (.ListComp elt gens scope pos) depth (.ref I) (.ref D) cenv) R s := by
  have hDw : D ∉ wr := fun h => hDf (W.sub _ h)
  have hLw : cenv.locals ∉ wr := fun h => hLf (W.sub _ h)
  have up2 : ∀ {a b : Shared}, Moves [D, cenv.locals] a b → Moves (D :: cenv.locals :: wr) a b := fun {a b} ⟨h', tk, e, hk⟩ => ⟨h', tk, e, fun c o hc => hk c o fun h => hc (by
    simp only [List.mem_cons, List.not_mem_nil, or_false] at h ⊢
    rcases h with h | h
    · exact .inl h
    · exact .inr (.inl h))⟩
  have upW : ∀ {a b : Shared}, Moves wr a b → Moves (D :: cenv.locals :: wr) a b := fun {a b} ⟨h', tk, e, hk⟩ => ⟨h', tk, e, fun c o hc => hk c o fun h => hc (List.mem_cons_of_mem _ (List.mem_cons_of_mem _ h))⟩
  refine codeAny_loop rfl (fun k s' => ∃ i, CS s₀ cenv pr' D Δ (dsOf i) s' ∧ St pr' i s'.heap ∧ Moves (D :: cenv.locals :: wr) s s' ∧ i ≤ xs.length ∧ k = xs.length + 1 - i) (fun k s' hI => ?_) (xs.length + 1) ⟨0, C, hst, .of_keeps (keeps_refl s), Nat.zero_le _, rfl⟩
  obtain ⟨i, C', st', mv', hi, rfl⟩ := hI
  show wpAny _ A ((compTurn (.ListComp elt gens scope pos) depth (.ref I) (.ref D) cenv).onRaise (fun x => do noteFrame x cenv; theTreesLotGoes x)) _ _ s'
  refine wpAny_noted ?_
  rw [heq]
  refine wpAny_bind (wpAny_standAt (wpAny_bind ?_))
  by_cases hlt : i < xs.length
  · obtain ⟨x, hx⟩ : ∃ x, xs[i]? = some x := ⟨_, List.getElem?_eq_getElem hlt⟩
    have hd : (xs.map inj)[i]? = some (inj x) := by rw [List.getElem?_map, hx]; rfl
    refine W.item pr' i _ s' _ _ hd st' fun v h₁ tk₁ hv hk₁ hp₁ hown₁ => ?_
    have mv₁ : Moves wr s' { s' with heap := h₁, toks := tk₁ } := ⟨h₁, tk₁, rfl, hk₁⟩
    refine wpAny_bind (hown₁ _ _ fun h₂ st₂ hk₂ hp₂ => ?_)
    have mv₂ : Moves wr { s' with heap := h₁, toks := tk₁ } { s' with heap := h₂, toks := tk₁ } := ⟨h₂, tk₁, rfl, hk₂⟩
    have C₂ := (C'.off mv₁ hDw hLw hnew hp₁).off mv₂ hDw hLw hnew hp₂
    refine wpAny_bind (wpAny_assign_Name (C₂.store B hy (hv.mono hp₂) fun s₃ mv₃ C₃ => ?_))
    refine hbody i x s₃ hx C₃ _ _ (fun s₄ mv₄ C₄ => wpAny_pure ⟨rfl, xs.length + 1 - (i + 1), by omega, i + 1, C₄, ?_, ((mv'.trans (upW mv₁)).trans (upW mv₂)).trans ((up2 mv₃).trans (up2 mv₄)), hlt, rfl⟩)
    have mv₃₄ := mv₃.trans mv₄
    exact W.frame pr' (i + 1) h₂ _ st₂ (fun b hb o e => mv₃₄.heap b o (fun hm => by
      simp only [List.mem_cons, List.not_mem_nil, or_false] at hm
      rcases hm with rfl | rfl
      · exact hDf hb
      · exact hLf hb) e) (pres_two C₂ B mv₃₄)
  · have hin : i = xs.length := by omega
    subst hin
    refine W.done pr' s' _ _ (by rw [List.length_map]; exact st') fun h₁ tk₁ hk₁ hp₁ => ?_
    have mv₁ : Moves wr s' { s' with heap := h₁, toks := tk₁ } := ⟨h₁, tk₁, rfl, hk₁⟩
    exact wpAny_pure (hR _ (mv'.trans (upW mv₁)) (C'.off mv₁ hDw hLw hnew hp₁))

/-- the start of the second loop -/
theorem start1 {A : Around} {R : Result → Shared → Prop} {elt t0 i0 t1 i1 : Expr} {scope : Scope} {pos : Pos} {it acc : Value}
    (h0 : codeAny (model prog w) A (.compLoop (.ListComp elt [⟨t0, i0, [], 0⟩, ⟨t1, i1, [], 0⟩] scope pos) 1 it acc env) R s)
    (h : wpAny (model prog w) A (pyIter it) (fun it' s' => codeAny (model prog w) A (.compLoop (.ListComp elt [⟨t0, i0, [], 0⟩, ⟨t1, i1, [], 0⟩] scope pos) 1 it' acc env) R s') (notedBy (model prog w) A env fun x s' => R (.error x) s') s) :
    codeAny (model prog w) A (.compStart (.ListComp elt [⟨t0, i0, [], 0⟩, ⟨t1, i1, [], 0⟩] scope pos) 1 it acc env) R s := by
  refine codeAny_of_tree ?_
  show wpAny _ _ ((compStart (.ListComp elt [⟨t0, i0, [], 0⟩, ⟨t1, i1, [], 0⟩] scope pos) 1 it acc env).onRaise (fun x => do noteFrame x env; standAt theWindowsPlace)) _ _ s
  refine wpAny_notedAt ?_
  unfold compStart
  show wpAny _ _ (ask >>= _) _ _ s
  refine wpAny_bind (wpAny_askSetting (wpAny_ite ?_))
  split
  · first
      | exact wpAny_bind (wpAny_pure (wpAny_pure (And.intro rfl h0)))
      | exact wpAny_pure (And.intro rfl h0)
  · first
      | exact wpAny_bind (wpAny_rule (wpAny_bind (wpAny_standAt (wpAny_bind (wpAny_mono h (fun it' s' h' => wpAny_pure (And.intro rfl h')) fun _ _ x => x)))))
      | (refine wpAny_bind (wpAny_rule ?_); show wpAny _ _ (standAt i1.pos >>= _) _ _ s; exact wpAny_bind (wpAny_standAt (wpAny_bind (wpAny_mono h (fun it' s' h' => wpAny_pure (And.intro rfl h')) fun _ _ x => x))))

theorem turn0 (elt t0 i0 t1 i1 : Expr) (scope : Scope) (pos : Pos) (it acc : Value) (env : Env) :
    compTurn (.ListComp elt [⟨t0, i0, [], 0⟩, ⟨t1, i1, [], 0⟩] scope pos) 0 it acc env = (standAt i0.pos >>= fun _ => pyNext it >>= fun r => match r with
      | none => pure (.done .next)
      | some v => letOwnedTupleGo t0 it v >>= fun _ => assign t0 env v >>= fun _ =>
        eval i1 env >>= fun x => standAt i1.pos >>= fun _ => foldedSetIterable i1 env x >>= fun x => holding [x] (pyIter x) >>= fun it' =>
          runOwn (.compStart (.ListComp elt [⟨t0, i0, [], 0⟩, ⟨t1, i1, [], 0⟩] scope pos) 1 it' acc env) env >>= fun _ =>
          again (.compLoop (.ListComp elt [⟨t0, i0, [], 0⟩, ⟨t1, i1, [], 0⟩] scope pos) 0 it acc env)) := by rfl
theorem turn1 (elt t0 i0 t1 i1 : Expr) (scope : Scope) (pos : Pos) (it acc : Value) (env : Env) :
    compTurn (.ListComp elt [⟨t0, i0, [], 0⟩, ⟨t1, i1, [], 0⟩] scope pos) 1 it acc env = (standAt i1.pos >>= fun _ => pyNext it >>= fun r => match r with
      | none => pure (.done .next)
      | some v => letOwnedTupleGo t1 it v >>= fun _ => assign t1 env v >>= fun _ =>
        (do let _ ← call (.builtin "list.append") [acc, ← eval elt env]) >>= fun _ =>
          again (.compLoop (.ListComp elt [⟨t0, i0, [], 0⟩, ⟨t1, i1, [], 0⟩] scope pos) 1 it acc env)) := by rfl
end Mine
end

/-! E3 -/
section
open PySem PySem.W PyProof.Rows
set_option Elab.async false
set_option linter.unusedVariables false
set_option maxRecDepth 100000
namespace Mine
variable {prog : Program} {w : World} {sT : Shared} {n : Nat} {pr pr' : Addr → Prop} {s s₀ : Shared} {env cenv : Env} {Γ Δ : Cx} {mg mb : Str → Option Value} {D : Addr} {ds : List PyData}

theorem pres_new {s' : Shared} (k : Keeps s s') (hpr : ∀ a, pr' a → pr a ∨ a = D) (hD : s.heap.get? D = none) : Pres pr pr' s.heap s'.heap :=
  ⟨fun a vs ha e => (Pres.keeps (keeps_heap k)).list a vs ha e, fun a vs e => (Pres.keeps (pr := pr) (keeps_heap k)).tup a vs e, fun a vs ha ⟨m, e⟩ hp => by
    rcases hpr a hp with hp | rfl
    · exact ha hp
    · rw [hD] at e; cases e⟩

theorem ev_comp2 {α β : Type} {elt i0 i1 : Expr} {x y : Str} {px py : Pos} {scope : Scope} {pos : Pos} (xs : List α) (inj : α → PyData) (ys : List β) (inj1 : β → PyData) (f : α → β → PyData)
    (hit : It prog w sT n pr s env i0 (xs.map inj))
    (hcl : ∀ x ∈ scope.names, x.2 = .free → ∃ c, env.cells.lookup x.1 = some c)
    (hx : scope.names.lookup x = some .local) (hy : scope.names.lookup y = some .local) (hxy : y ≠ x)
    (hev1 : ∀ a ∈ xs, ∀ cenv cs pr' s', CEn scope env cenv cs → Keeps s s' → Ok sT pr' s' → Pres pr pr' s.heap s'.heap → Var pr' s' cenv x (inj a) → Ev prog w sT n pr' s' cenv i1 (.tuple (ys.map inj1)))
    (hturn : ∀ a ∈ xs, ∀ b ∈ ys, ∀ cenv cs pr' s', CEn scope env cenv cs → Keeps s s' → Ok sT pr' s' → Pres pr pr' s.heap s'.heap → Var pr' s' cenv x (inj a) → Var pr' s' cenv y (inj1 b) → Ev prog w sT n pr' s' cenv elt (f a b))
    (hsz : xs.length * ys.length + ys.length ≤ sizeLine)
    (hd : ∀ p ∈ scope.names, ∀ q ∈ scope.names, p.2 = .free → q.2 = .cell → q.1 ≠ p.1 := by decide)
    (hkind : scope.kind = .function := by rfl) (hnames : ∀ x ∈ scope.names, x.2 = .local → scope.names.lookup x.1 = some .local := by decide)
    (hs : ∀ x, foldedSetIterable i0 env x = pure x := by intro _; rfl) (hs1 : ∀ env x, foldedSetIterable i1 env x = pure x := by intro _ _; rfl) :
    Ev prog w sT n pr s env (.ListComp elt [⟨.Name x px, i0, [], 0⟩, ⟨.Name y py, i1, [], 0⟩] scope pos) (.list (xs.flatMap fun a => ys.map (f a))) := by
  refine ⟨fun s₁ k₁ A Q E rm ok hq => ?_⟩
  rw [eval_ListComp]
  obtain ⟨cl, hclos, hcl'⟩ := closure_ok hcl
  refine wpAny_comprehension_free (use := none) rfl hs hclos hkind hnames (hit.run s₁ k₁ A _ E rm ok fun I s₂ fp wr St k₂ W st hfp hwr => ?_)
  refine wpAny_newObj_type (newCompEnv ?_)
  dsimp only
  generalize hH : s₂.heap.push { cls := .type "list", dict := none, data := .seq ([] : List Value).toArray } = H
  have hHs : H.objs.size = s₂.heap.objs.size + 1 := by rw [← hH, Heap.size_push]
  have kH : ∀ b o, s₂.heap.get? b = some o → H.get? b = some o := fun b o e => hH ▸ Heap.get?_push_of_some _ e
  have hDget : H.get? s₂.heap.objs.size = some { cls := .type "list", data := .seq #[] } := by rw [← hH]; exact Heap.get?_push_size _ rfl
  obtain ⟨cen, mf, kn, hown⟩ := newC (env := env) hcl' hd H
  show codeAny _ A (.compStart _ 0 (.ref I) (.ref s₂.heap.objs.size) (cEnv scope env cl H.objs.size)) (compPost (model prog w) A E none Q (.ref s₂.heap.objs.size) H.objs.size) _
  generalize hH4 : pushCells (H.push { cls := .type "dict", data := .dict #[] }) scope.names = H4 at kn mf ⊢
  generalize hcs : csOf (H.objs.size + 1) scope.names = cs at cen mf hown
  have hDnone : s₂.heap.get? s₂.heap.objs.size = none := none_of_size (Nat.le_refl _)
  have ok₂ := ok.keeps k₂
  have k₄ : ∀ b o, s₂.heap.get? b = some o → H4.get? b = some o := fun b o e => kn b o (kH b o e)
  let pr' : Addr → Prop := fun a => pr a ∨ a = s₂.heap.objs.size
  have st' : St pr' 0 H4 := W.frame pr' 0 s₂.heap H4 (W.prm pr pr' 0 s₂.heap st fun a o e ha => by
      rcases ha with h | rfl
      · exact h
      · rw [hDnone] at e; cases e) (fun b _ o e => k₄ b o e) (.keeps k₄)
  have kk : Keeps s₁ { s₂ with heap := H4 } := keeps_trans k₂ ⟨H4, s₂.toks, rfl, k₄⟩
  have lt_of : ∀ b ∈ fp, b < s₂.heap.objs.size := fun b hb => let ⟨_, e, _⟩ := hfp b hb; Heap.lt_size e
  generalize hcenv : cEnv scope env cl H.objs.size = cenv at cen mf ⊢
  have hloc : cenv.locals = H.objs.size := by rw [← hcenv]; rfl
  have hDs : s.heap.get? s₂.heap.objs.size = none := none_of_keeps (keeps_trans k₁ k₂) hDnone
  have B : CB sT s₁ cenv pr pr' s₂.heap.objs.size := ⟨ok.base, fun a h => h, ok.live, .inr rfl, none_of_keeps k₂ hDnone, none_of_keeps k₂ (none_of_size (by rw [hloc, hHs]; exact Nat.le_succ _)), by rw [hloc, hHs]; exact Nat.ne_of_lt (Nat.lt_succ_self _), by rw [cen.scope_eq]; exact hkind⟩
  have C₀ : CS s₁ cenv pr' s₂.heap.objs.size [] [] { s₂ with heap := H4 } := ⟨kk, let ⟨m, e⟩ := mf.ns; ⟨m, e, fun _ _ h => nomatch h⟩, #[], ⟨0, kn _ _ hDget⟩, .nil⟩
  let dsOf : Nat → List PyData := fun i => (xs.take i).flatMap fun a => ys.map (f a)
  have dsOf_len : ∀ i, i ≤ xs.length → (dsOf i).length ≤ xs.length * ys.length := by
    intro i hi
    have : (dsOf i).length = i * ys.length := by
      show ((xs.take i).flatMap fun a => ys.map (f a)).length = _
      have h0 : ∀ l : List α, (l.flatMap fun a => ys.map (f a)).length = l.length * ys.length := by
        intro l
        induction l with
        | nil => simp
        | cons a r ih => rw [List.flatMap_cons, List.length_append, ih, List.length_map, List.length_cons, Nat.succ_mul]; omega
      rw [h0, List.length_take, Nat.min_eq_left hi]
    rw [this]
    exact Nat.mul_le_mul_right _ hi
  have loop : codeAny (model prog w) A (.compLoop (.ListComp elt [⟨.Name x px, i0, [], 0⟩, ⟨.Name y py, i1, [], 0⟩] scope pos) 0 (.ref I) (.ref s₂.heap.objs.size) cenv)
      (compPost (model prog w) A E none Q (.ref s₂.heap.objs.size) H.objs.size) { s₂ with heap := H4 } := by
    refine loopC (Δ := []) B xs inj dsOf (turn0 ..) W.toC (cen.loc hx) rfl C₀ st' (fun h => Nat.lt_irrefl _ (lt_of _ h)) (fun h => by have := lt_of _ h; rw [hloc, hHs] at this; exact absurd this (Nat.not_lt.mpr (Nat.le_succ _))) hwr ?_ ?_
    · intro i a s' ha C' Q' E' hq'
      have ham : a ∈ xs := List.mem_of_getElem? ha
      have hlt : i < xs.length := (List.getElem?_eq_some_iff.mp ha).1
      refine wpAny_bind ((hev1 a ham cenv cs pr' s' cen (keeps_trans k₁ C'.keep) (C'.ok B) (pres_new (keeps_trans k₁ C'.keep) B.prD hDs) (C'.var B (by simp))).run s' (keeps_refl _) A _ _ rm (C'.ok B) fun v s₃ k₃ r₃ => ?_)
      obtain ⟨ax, vs, rfl, htu, hr⟩ := r₃.tuple_inv
      obtain ⟨mt, hax⟩ := id htu
      have haxlt := Heap.lt_size hax
      refine wpAny_bind (wpAny_standAt (wpAny_bind (wpAny_of_eq (hs1 _ _) (wpAny_bind (wpAny_holding (wpAny_pyIter_tuple htu.isTuple ?_))))))
      have k₅ : Keeps s' { s₃ with heap := s₃.heap.push { cls := .type "tuple_iterator", data := .fields #[.ref ax, .int 0 0] } } := keeps_trans k₃ keeps_push
      have W1 := itr_tuple (prog := prog) (w := w) (A := A) (I := s₃.heap.objs.size) (ds := ys.map inj1) rm.handled (Nat.ne_of_lt haxlt) hr.length
      have C₅ := C'.keeps k₅
      have hI3 : s₃.heap.get? s₃.heap.objs.size = none := none_of_size (Nat.le_refl _)
      obtain ⟨ysA, ⟨mA, eA⟩, _⟩ := C'.acc
      obtain ⟨mN, ⟨oN, esN, epN, eN, hdN, _⟩, _⟩ := C'.ns
      have lv3 : ∀ b o, s'.heap.get? b = some o → b ≠ s₃.heap.objs.size := fun b o e q => by
        have := keeps_heap k₃ _ _ e
        rw [q, hI3] at this; cases this
      have loop1 : codeAny (model prog w) A (.compLoop (.ListComp elt [⟨.Name x px, i0, [], 0⟩, ⟨.Name y py, i1, [], 0⟩] scope pos) 1 (.ref s₃.heap.objs.size) (.ref s₂.heap.objs.size) cenv)
          (fun r s' => match r with | .ok _ => wpAny (model prog w) A (again (.compLoop (.ListComp elt [⟨.Name x px, i0, [], 0⟩, ⟨.Name y py, i1, [], 0⟩] scope pos) 0 (.ref I) (.ref s₂.heap.objs.size) cenv)) Q' E' s' | .error e => cameBackBy (model prog w) A cenv E' e s')
          { s₃ with heap := s₃.heap.push { cls := .type "tuple_iterator", data := .fields #[.ref ax, .int 0 0] } } := by
        refine loopC (Δ := (x, inj a) :: []) B ys inj1 (fun j => dsOf i ++ (ys.take j).map (f a)) (turn1 ..) W1.toC (cen.loc hy) (by
            rw [List.lookup_cons, beq_eq_false_iff_ne.mpr hxy]; rfl) (by simpa using C₅) ⟨⟨⟨_, Heap.get?_push_size _ rfl, rfl, rfl⟩, htu.isTuple.push _⟩, hr.keeps fun _ _ e => Heap.get?_push_of_some _ e⟩ ?_ ?_ ?_ ?_ ?_
        · intro hm
          simp only [List.mem_cons, List.not_mem_nil, or_false] at hm
          rcases hm with h | h
          · exact lv3 _ _ eA h
          · have := keeps_heap k₃ _ _ eA
            rw [h, hax] at this; simp at this
        · intro hm
          simp only [List.mem_cons, List.not_mem_nil, or_false] at hm
          rcases hm with h | h
          · exact lv3 _ _ eN h
          · have := keeps_heap k₃ _ _ eN
            rw [h, hax] at this
            cases this
            cases hdN
        · intro b hb
          rw [List.mem_singleton] at hb
          subst hb
          exact none_of_keeps (keeps_trans C'.keep k₃) hI3
        · intro j b s₆ hb C₆ Q'' E'' hq''
          have hbm : b ∈ ys := List.mem_of_getElem? hb
          refine wpAny_bind (wpAny_bind ((hturn a ham b hbm cenv cs pr' s₆ cen (keeps_trans k₁ C₆.keep) (C₆.ok B) (pres_new (keeps_trans k₁ C₆.keep) B.prD hDs) (C₆.var B ?_) (C₆.var B (by simp))).run s₆ (keeps_refl _) A _ _ rm (C₆.ok B) fun v s₇ k₇ r₇ => ?_))
          · rw [List.lookup_cons, beq_eq_false_iff_ne.mpr (Ne.symm hxy)]
            simp
          · refine wpAny_bind ((C₆.keeps k₇).append B r₇ ?_ fun v' s₈ mv₈ C₈ => wpAny_pure (hq'' s₈ ((Moves.of_keeps k₇).trans mv₈) ?_))
            · have h1 := dsOf_len i (by omega)
              have h2 : ((ys.take j).map (f a)).length ≤ j := by rw [List.length_map, List.length_take]; omega
              have h3 : j < ys.length := (List.getElem?_eq_some_iff.mp hb).1
              rw [List.length_append]
              omega
            · have e : dsOf i ++ (ys.take (j + 1)).map (f a) = dsOf i ++ (ys.take j).map (f a) ++ [f a b] := by
                rw [List.take_add_one, hb, List.map_append, List.append_assoc]
                rfl
              rw [e]
              refine C₈.weaken fun z d h => ?_
              rw [List.lookup_cons] at h
              cases hzx : z == x with
              | true =>
                rw [hzx] at h
                have hz : z = x := beq_iff_eq.mp hzx
                subst hz
                rw [List.lookup_cons, beq_eq_false_iff_ne.mpr (Ne.symm hxy), List.lookup_cons, hzx]
                exact h
              | false => rw [hzx] at h; cases h
        · intro s₆ mv₆ C₆
          refine hq' s₆ ?_ ?_
          · obtain ⟨h6, tk6, rfl, hk6⟩ := mv₆
            obtain ⟨h5, tk5, e5, hk5⟩ := k₅
            refine ⟨h6, tk6, ?_, fun b o hb e => hk6 b o (fun hm => ?_) ?_⟩
            · obtain ⟨h3, tk3, rfl, hk3⟩ := k₃
              rfl
            · simp only [List.mem_cons, List.not_mem_nil, or_false] at hm hb
              rcases hm with h | h | h
              · exact hb (.inl h)
              · exact hb (.inr h)
              · exact lv3 _ _ e h
            · exact Heap.get?_push_of_some _ (keeps_heap k₃ _ _ e)
          · have e : dsOf (i + 1) = dsOf i ++ (ys.take ys.length).map (f a) := by
              show (xs.take (i + 1)).flatMap (fun a => ys.map (f a)) = _
              rw [List.take_add_one, ha, List.flatMap_append, List.take_length]
              simp [dsOf]
            rw [e]
            exact C₆.weaken fun z d h => nomatch h
      exact wpAny_bind (wpAny_runOwn (start1 loop1 (W1.self pr' 0 _ _ _ ⟨⟨⟨_, Heap.get?_push_size _ rfl, rfl, rfl⟩, htu.isTuple.push _⟩, hr.keeps fun _ _ e => Heap.get?_push_of_some _ e⟩ loop1)))
    · intro s' mv' C'
      obtain ⟨m, hn, _⟩ := C'.ns
      rw [hloc] at hn
      obtain ⟨ysA, hlA, hrA⟩ := C'.acc
      have e : dsOf xs.length = xs.flatMap fun a => ys.map (f a) := by
        show (xs.take xs.length).flatMap _ = _
        rw [List.take_length]
      rw [e] at hrA
      have hC : s₁.heap.get? H.objs.size = none := hloc ▸ B.newC
      have hr : Rep pr s'.heap (.ref s₂.heap.objs.size) (.list (xs.flatMap fun a => ys.map (f a))) := .list (vs := ysA.toList) ok₂.new (by simpa using hlA) (hrA.prm fun a o _ h => .inl h)
      refine ⟨m, hn, fun h' hs' => hq _ _ (keeps_trans (Moves.keeps (own := [H.objs.size]) C'.keep ⟨h', s'.toks, rfl, fun b o hb e => hs'.extBut b o (fun q => hb (by rw [q]; exact List.mem_singleton.mpr rfl)) e⟩ fun b hb => by rw [List.mem_singleton.mp hb]; exact hC) (keeps_refl _)) (hr.mono ?_)⟩
      refine pres_of (wr := [H.objs.size]) (fun b o hb e => hs'.extBut b o (fun q => hb (by rw [q]; exact List.mem_singleton.mpr rfl)) e) fun b hb o ho vs m' hdat => ?_
      rw [List.mem_singleton] at hb
      subst hb
      obtain ⟨o', es, ep, e, hd', _⟩ := hn
      rw [e] at ho; cases ho; rw [hd'] at hdat; cases hdat
  exact codeAny_compStart_list loop (W.self pr' 0 _ _ _ st' loop)
end Mine
end

/-! L1 -/
section
open PySem PySem.W PyProof.Rows
set_option Elab.async false
set_option linter.unusedVariables false
set_option maxRecDepth 100000
namespace Mine

theorem pick_ints (ns : List Int) (lo hi st : Option Int) : pickD (ns.map .int) lo hi st = (pickNums ns lo hi st).map .int := by
  unfold pickD pickNums
  rw [List.length_map, List.map_filterMap]
  congr 1
  funext i
  rw [List.getElem?_map]
theorem ints_mk : ∀ ns : List Int, IntsAre (ns.map fun i => Value.int i 0) ns
  | [] => .nil
  | i :: r => .cons i _ (ints_mk r)
theorem pick_len (ns : List Int) (lo hi st : Option Int) : (pickNums ns lo hi st).length ≤ ns.length := length_pickNums_le (ints_mk ns) lo hi st

/-- the pair drawn goes to the front -/
def m22 (x : Int) : Nat := (Int.fmod x 22).toNat
theorem m22_cast (x : Int) : Int.fmod x 22 = ((m22 x : Nat) : Int) := by
  unfold m22
  rw [Int.toNat_of_nonneg]
  rw [Int.fmod_eq_emod_of_nonneg _ (by omega)]
  exact Int.emod_nonneg _ (by omega)
theorem m22_lt (x : Int) : m22 x < 22 := by
  have h := m22_cast x
  have : Int.fmod x 22 < 22 := by
    rw [Int.fmod_eq_emod_of_nonneg _ (by omega)]
    exact Int.emod_lt_of_pos _ (by omega)
  omega
def front (o : List Nat) (x : Int) : List Nat := m22 x :: o.filter fun q => decide (q ≠ m22 x)
theorem front_ok {o : List Nat} (O : Perm22 o) (x : Int) : Perm22 (front o x) := by
  have hm : m22 x ∈ o := (O.all _).mpr (m22_lt x)
  have he : (o.filter fun q => decide (q ≠ m22 x)) = o.erase (m22 x) := by
    rw [List.Nodup.erase_eq_filter O.nodup]
    congr 1
    funext q
    simp [bne, decide_not]
    by_cases h : q = m22 x <;> simp [h]
  refine ⟨?_, ?_, fun p => ?_⟩
  · unfold front
    rw [he, List.length_cons, List.length_erase_of_mem hm, O.len]
  · unfold front
    refine List.nodup_cons.mpr ⟨fun h => ?_, O.nodup.filter _⟩
    rw [List.mem_filter] at h
    simp at h
  · unfold front
    rw [List.mem_cons, List.mem_filter, ← O.all p]
    constructor
    · rintro (rfl | h)
      · exact hm
      · exact h.1
    · intro h
      by_cases e : p = m22 x
      · exact .inl e
      · exact .inr ⟨h, by simpa using e⟩
def ordOf (dr : List Int) (i : Nat) : List Nat := (dr.take i).foldl front (List.range 22)
theorem ord_zero (dr : List Int) : ordOf dr 0 = List.range 22 := rfl
theorem ord_succ {dr : List Int} {i : Nat} {x : Int} (h : dr[i]? = some x) : ordOf dr (i + 1) = front (ordOf dr i) x := by
  unfold ordOf
  rw [List.take_add_one, h, List.foldl_append]
  rfl
theorem ord_ok (dr : List Int) (i : Nat) : Perm22 (ordOf dr i) := by
  unfold ordOf
  have h : ∀ (l : List Int) (o : List Nat), Perm22 o → Perm22 (l.foldl front o) := by
    intro l
    induction l with
    | nil => intro o O; exact O
    | cons x r ih => intro o O; exact ih _ (front_ok O x)
  exact h _ _ ⟨List.length_range, List.nodup_range, fun p => List.mem_range⟩

/-- the numbers -/
def sumOf (dr : List Int) (k : Nat) : Int := ((pickNums dr (some (k : Nat)) none (some 3)).map fun y => Int.fdiv y 22).sum
def numOf (dr : List Int) (t : Nat × Int) : Nat := (Int.fmod (t.2 + sumOf dr t.1) 4194304).toNat
theorem num_cast (dr : List Int) (t : Nat × Int) : Int.fmod (t.2 + sumOf dr t.1) 4194304 = ((numOf dr t : Nat) : Int) := by
  unfold numOf
  rw [Int.toNat_of_nonneg]
  rw [Int.fmod_eq_emod_of_nonneg _ (by omega)]
  exact Int.emod_nonneg _ (by omega)
theorem num_lt (dr : List Int) (t : Nat × Int) : numOf dr t < 2 ^ 22 := by
  have h := num_cast dr t
  have : Int.fmod (t.2 + sumOf dr t.1) 4194304 < 4194304 := by
    rw [Int.fmod_eq_emod_of_nonneg _ (by omega)]
    exact Int.emod_lt_of_pos _ (by omega)
  omega
def starts : List (Nat × Int) := [(0, 16768), (1, 263712), (2, 1081352)]
def numsOf (dr : List Int) : List Nat := starts.map (numOf dr)

theorem look_weaken {Γ₁ Γ₂ : Cx} (h : ∀ p ∈ Γ₂, Γ₁.lookup p.1 = some p.2) : ∀ y d, Γ₂.lookup y = some d → Γ₁.lookup y = some d := fun y d e => h (y, d) (PySem.mem_of_lookup e)

theorem flat_append (a b : List (Str × Str)) : flat (a ++ b) = flat a ++ flat b := by unfold flat; rw [List.flatMap_append]
theorem rev_take_succ {α : Type} {l : List α} {i : Nat} {x : α} (h : l[i]? = some x) : (l.take (i + 1)).reverse = x :: (l.take i).reverse := by
  rw [List.take_add_one, h, List.reverse_append]
  rfl
theorem rev_pick {o : List Nat} (O : Perm22 o) : (List.range 22).map (fun k => o.getD (21 - k) 0) = o.reverse := by
  apply List.ext_getElem
  · rw [List.length_map, List.length_range, List.length_reverse, O.len]
  · intro i h1 h2
    rw [List.length_map, List.length_range] at h1
    rw [List.getElem_map, List.getElem_range, List.getElem_reverse, List.getD_eq_getElem?_getD, List.getElem?_eq_getElem (by rw [O.len]; omega)]
    simp only [Option.getD_some]
    congr 1
    rw [O.len]
end Mine
end

/-! L2 -/
section
open PySem PySem.W PyProof.Rows
set_option Elab.async false
set_option linter.unusedVariables false
set_option maxRecDepth 100000
set_option maxHeartbeats 1000000
namespace Mine
variable {prog : Program} {w : World} {sT : Shared} {n : Nat} {pr : Addr → Prop} {s s₀ : Shared} {env : Env} {Γ : Cx} {mg mb : Str → Option Value}

/-- what the text's top has made -/
structure Kit (prog : Program) (w : World) (mg mb : Str → Option Value) (sT : Shared) (ar ap aw al am ao ag d : Addr) : Prop where
  G : Gl mg mb sT
  replace : DefAt mg sT "replace" 1 ar
  pretty : DefAt mg sT "pretty_flags" 4 ap
  word : DefAt mg sT "_law_word" 6 aw
  letter : DefAt mg sT "_law_letter" 7 al
  met : DefAt mg sT "_law_met" 8 am
  rows : DefAt mg sT "_law_rows" 9 ao
  page : DefAt mg sT "_law_page" 10 ag
  tab : TabAt prog w mg sT d
  hexN : mg (Str.ofString "hex") = none
  hexB : mb (Str.ofString "hex") = some (.builtin "hex")
  rangeN : mg (Str.ofString "range") = none
  rangeB : mb (Str.ofString "range") = some (.type "range")
  minN : mg (Str.ofString "min") = none
  minB : mb (Str.ofString "min") = some (.builtin "min")
  sumN : mg (Str.ofString "sum") = none
  sumB : mb (Str.ofString "sum") = some (.builtin "sum")
  listN : mg (Str.ofString "list") = none
  listB : mb (Str.ofString "list") = some (.type "list")
  enumN : mg (Str.ofString "enumerate") = none
  enumB : mb (Str.ofString "enumerate") = some (.type "enumerate")

theorem small (k : Nat) (h : k ≤ 16777216) : k ≤ sizeLine := by rw [sizeLine_eq]; exact h

theorem flags_len (x : Nat) : (flagsS x).length ≤ 484 := by
  unfold flagsS
  have h1 := join_len_le (sep := Str.ofString ", ") (ys := (bits x).map wordS) (B := 20) (by
    intro y hy
    obtain ⟨p, hp, rfl⟩ := List.mem_map.mp hy
    exact word_len20 p (bits_lt hp))
  rw [List.length_map, show (Str.ofString ", ").length = 2 by decide] at h1
  have h2 := bits_len x
  unfold orNought
  split
  · omega
  · rw [show (Str.ofString "0x0").length = 3 by decide]; omega

theorem ev_repl {a : Addr} {p p2 pos : Pos} {e l : Expr} {t : Str} {ps : List (Str × Str)} (G : Gl mg mb sT) (hE : En env) (hf : DefAt mg sT "replace" 1 a) (hx : env.kindOf (Str.ofString "replace") = some .globalImplicit)
    (he : Ev prog w sT (n + 1) pr s env e (.str t)) (hl : Ev prog w sT (n + 1) pr s env l (.list (flat ps))) (hok : ReplOk t ps) (hsz : ps.length ≤ 1000)
    (hst : starEach [e, .Starred l p2] env = (false, eval e env) :: starEach [.Starred l p2] env := by rfl) (hst2 : starEach [.Starred l p2] env = [(true, eval l env)] := by rfl) :
    Ev prog w sT (n + 1) pr s env (.Call (.Name (Str.ofString "replace") p) [e, .Starred l p2] [] pos) (.str (repl t ps)) := by
  obtain ⟨o, pm, cd, doc, ho, hd, _⟩ := hf.ex
  exact ev_call_star G hE hx hf.g ho hd (evl_cons he (evl_star hl (small _ (by rw [flat_len]; omega)) hst2) hst) (replace_spec G hf hok hsz) (by decide) hst

theorem law_spec {a ar ap aw al am ao ag d : Addr} (K : Kit prog w mg mb sT ar ap aw al am ao ag d) (hf : DefAt mg sT "law" 11 a) {script : List Int} (hlen : script.length ≤ 63) :
    Fn prog w sT (n + 4) (.ref a) [.list (script.map .int)] (.bool true) := by
  have G := K.G
  refine fn_def (n := n + 3) (xs := [Str.ofString "script"]) G hf rfl (by decide) (fun vs pm cd doc h => ?_) ?_ ?_
  · obtain ⟨v, rfl⟩ := one_of h
    rfl
  · intro x hx
    simp only [List.mem_cons, List.not_mem_nil, or_false] at hx
    subst hx
    exact .inl rfl
  · intro pr s₀ L cd ok
    show Ex prog w sT (n + 3) s₀ (envOfC _ (Scope.mk _ _ _ _ _) L a cd) pr _ (_ :: _ :: _ :: _ :: _ :: _ :: _ :: _ :: _ :: _ :: _ :: _ :: _ :: _ :: _ :: _ :: _ :: []) _
    generalize hEv : envOfC (Str.ofString "law") _ L a cd = env
    have hE : En env := by subst hEv; exact ⟨rfl, rfl, rfl⟩
    have cell : ∀ y ∈ [Str.ofString "drawn", Str.ofString "order", Str.ofString "x", Str.ofString "undone", Str.ofString "undoing"], env.kindOf y = some .cell ∧ ∃ c, env.cells.lookup y = some c := by
      subst hEv
      intro y hy
      simp only [List.mem_cons, List.not_mem_nil, or_false] at hy
      rcases hy with rfl | rfl | rfl | rfl | rfl <;> exact ⟨rfl, _, rfl⟩
    have loc : ∀ y ∈ [Str.ofString "k", Str.ofString "numbers", Str.ofString "page", Str.ofString "rows", Str.ofString "now", Str.ofString "forward", Str.ofString "backward", Str.ofString "word", Str.ofString "letter", Str.ofString "other"], env.kindOf y = some .local := by
      subst hEv
      intro y hy
      simp only [List.mem_cons, List.not_mem_nil, or_false] at hy
      rcases hy with rfl | rfl | rfl | rfl | rfl | rfl | rfl | rfl | rfl | rfl <;> rfl
    have glo : ∀ y ∈ [Str.ofString "list", Str.ofString "range", Str.ofString "enumerate", Str.ofString "_law_rows", Str.ofString "_law_page", Str.ofString "_law_word", Str.ofString "_law_letter", Str.ofString "replace"], env.kindOf y = some .globalImplicit := by
      subst hEv
      intro y hy
      simp only [List.mem_cons, List.not_mem_nil, or_false] at hy
      rcases hy with rfl | rfl | rfl | rfl | rfl | rfl | rfl | rfl <;> rfl
    have sC : ∀ y ∈ [Str.ofString "drawn", Str.ofString "order", Str.ofString "x", Str.ofString "undone", Str.ofString "undoing"], Sto env y := fun y hy => .inr (cell y hy)
    have sL : ∀ y ∈ [Str.ofString "k", Str.ofString "numbers", Str.ofString "page", Str.ofString "rows", Str.ofString "now", Str.ofString "forward", Str.ofString "backward", Str.ofString "word", Str.ofString "letter", Str.ofString "other"], Sto env y := fun y hy => .inl (loc y hy)
    have hnumsw : ∀ (e : Expr) (gs : List Comprehension) (sc : Scope) (p1 p2 : Pos) (l : Nat), True := fun _ _ _ _ _ _ => trivial
    obtain ⟨dr, hdr⟩ : ∃ dr, dr = pickNums script none (some 24) none := ⟨_, rfl⟩
    have hdrl : dr.length ≤ 63 := by rw [hdr]; exact Nat.le_trans (pick_len _ _ _ _) hlen
    have O := ord_ok dr dr.length
    -- drawn, order
    refine ex_cons (x_assign (d := .list (dr.map .int)) ok hE (sC _ (by decide)) fun s F => Ev.cast (ev_upto (ev_name (F.var hE rfl)) ev_int (by rw [List.length_map]; exact small _ (by omega))) (by rw [pick_ints, ← hdr])) ?_
    refine ex_cons (x_assign (d := natsD (List.range 22)) ok hE (sC _ (by decide)) fun s F => ev_list_range G hE (glo _ (by decide)) K.rangeN K.rangeB (glo _ (by decide)) K.listN K.listB (k := 22) ev_int (by decide)) ?_
    -- the order's turns
    refine ex_cons (x_for (ds := dr.map .int) (fun i => [(Str.ofString "order", natsD (ordOf dr i)), (Str.ofString "drawn", .list (dr.map .int)), (Str.ofString "script", .list (script.map .int))]) ok hE (sC _ (by decide)) (fun s F => it_list (ev_name (F.var hE rfl))) fun i d hd => ?_) ?_
    · rw [List.getElem?_map] at hd
      cases hxi : dr[i]? with
      | none => rw [hxi] at hd; cases hd
      | some xi =>
      rw [hxi] at hd
      cases hd
      have Oi := ord_ok dr i
      refine Ex.weaken (ex_cons (x_assign (d := natsD (ordOf dr (i + 1))) ok hE (sC _ (by decide)) fun s F => ?_) ex_nil) (look_weaken fun q hq => ?_)
      · have hvx := F.varc hE (y := Str.ofString "x") (d := .int xi) rfl (cell _ (by decide)).1
        refine Ev.cast (ev_bin (ev_list (evl_cons (ev_bin (ev_name (F.var hE rfl)) ev_int (op_mod_int (by decide))) evl_nil) (small _ (by simp))) (ev_comp (ordOf dr i) (fun q => .int (q : Nat)) (fun q => if q = m22 xi then none else some (.int (q : Nat))) (fun q cenv pr' s' => Var pr' s' cenv (Str.ofString "place") (.int (q : Nat)))
          (it_list (ev_name (F.var hE rfl))) (hcl_of [Str.ofString "x"] (by decide) fun y hy => by rw [List.mem_singleton] at hy; subst hy; exact hvx.look) (fun q hq cenv cs pr' hC => asg_loc (hC.en hE rfl).fn (hC.loc rfl)) (fun q hq cenv cs pr' s' hC k' ok' hp' hV => ⟨tsl_one (Ts.cast (ts_cmp (ev_name hV) (ev_bin (ev_name (hC.inherit rfl rfl hvx k' hp').var) ev_int (op_mod_int (by decide))) op_ne_int) ?_), fun d hd => ?_⟩) (small _ (by rw [Oi.len]; omega))) (op_add_list (small _ ?_))) ?_
        · rw [m22_cast]
          by_cases h : q = m22 xi
          · subst h; simp
          · rw [if_neg h]
            simp only [Option.isSome_some, bne_iff_ne]
            omega
        · by_cases h : q = m22 xi
          · rw [if_pos h] at hd; cases hd
          · rw [if_neg h] at hd; cases hd; exact ev_name hV
        · have h1 := List.length_filterMap_le (fun q => if q = m22 xi then none else some (PyData.int (q : Nat))) (ordOf dr i)
          rw [Oi.len] at h1
          simp only [List.length_cons, List.length_nil]
          omega
        · rw [ord_succ hxi, m22_cast]
          unfold natsD front
          rw [List.map_cons]
          congr 2
          generalize ordOf dr i = l
          induction l with
          | nil => rfl
          | cons q r ih =>
            by_cases h : q = m22 xi
            · simpa [h] using ih
            · simpa [h] using ih
      · simp only [List.mem_cons, List.not_mem_nil, or_false] at hq
        rcases hq with rfl | rfl | rfl <;> rfl
    rw [List.length_map]
    generalize ordOf dr dr.length = o at O ⊢
    -- the numbers
    obtain ⟨N, hN⟩ : ∃ N, N = numsOf dr := ⟨_, rfl⟩
    have hNl : N.length = 3 := by rw [hN]; rfl
    have hNlt : ∀ x ∈ N, x < 2 ^ 22 := by
      intro x hx
      rw [hN] at hx
      obtain ⟨t, _, rfl⟩ := List.mem_map.mp hx
      exact num_lt dr t
    refine ex_cons (x_assign_comp (y := Str.ofString "numbers") starts (fun t => .tuple [.int (t.1 : Nat), .int t.2]) (fun t => some (.int (numOf dr t : Nat))) (fun t cenv pr' s' => Var pr' s' cenv (Str.ofString "k") (.int (t.1 : Nat)) ∧ Var pr' s' cenv (Str.ofString "x") (.int t.2)) ok hE (sL _ (by decide))
      (fun s F => it_enum G hE (glo _ (by decide)) K.enumN K.enumB (ev_tuple (evl_cons ev_int (evl_cons ev_int (evl_cons ev_int evl_nil))) (small _ (by simp)))) (hcl_of [Str.ofString "drawn"] (by decide) fun y hy => by rw [List.mem_singleton] at hy; subst hy; exact (cell _ (by decide)).2)
      (fun t ht cenv cs pr' hC => asg_tup2 (hC.en hE rfl).fn (hC.loc rfl) (hC.loc rfl) (by decide)) (fun s F t ht cenv cs pr' s' hC k' ok' hp' hV => ⟨tsl_nil, fun d hd => ?_⟩) (small _ (by decide)) (by subst hEv; rfl)) ?_
    · cases hd
      have hEc := hC.en hE rfl
      have hvd := hC.inherit rfl rfl (F.varc hE (y := Str.ofString "drawn") (d := .list (dr.map .int)) rfl (cell _ (by decide)).1) k' hp'
      have hps := pick_len dr (some (t.1 : Nat)) none (some 3)
      refine Ev.cast (ev_bin (ev_bin (ev_name hV.2) (ev_bcall G hEc (hC.glob rfl) K.sumN K.sumB (evl_cons (Ev.cast (ev_map (pickNums dr (some (t.1 : Nat)) none (some 3)) .int (fun y => .int (Int.fdiv y 22)) (fun y cenv pr' s' => Var pr' s' cenv (Str.ofString "y") (.int y))
        (it_list (Ev.cast (ev_step (ev_name hvd.var) (ev_name hV.1) ev_int (by decide) (by rw [List.length_map]; exact small _ (by omega))) (by rw [pick_ints]))) (hcl_of [] (by decide) (fun _ h => nomatch h)) (fun y hy cenv₂ cs₂ pr₂ hC₂ => asg_loc (hC₂.en hEc rfl).fn (hC₂.loc rfl)) (fun y hy cenv₂ cs₂ pr₂ s₂ hC₂ k₂ ok₂ hp₂ hV₂ => ev_bin (ev_name hV₂) ev_int (op_div_int (by decide) (by decide))) (small _ (by omega)))
          (d' := .list (((pickNums dr (some (t.1 : Nat)) none (some 3)).map fun y => Int.fdiv y 22).map .int)) ?_) evl_nil) fn_sum) op_add_int) (ev_bin ev_int ev_int (op_pow_int (by decide) (by decide) (by decide))) (op_mod_int (by decide))) ?_
      · rw [List.map_map]; rfl
      · rw [← num_cast]; rfl
    rw [show starts.filterMap (fun t => some (PyData.int (numOf dr t : Nat))) = N.map (fun x => PyData.int (x : Nat)) from by rw [hN]; rfl]
    -- the page
    refine ex_cons (x_assign (d := .str (pageT N wordS)) ok hE (sL _ (by decide)) fun s F => ?_) ?_
    · refine ev_join ev_str (Ev.cast (ev_map N (fun x => .int (x : Nat)) (fun x => .str (flagsS x)) (fun x cenv pr' s' => Var pr' s' cenv (Str.ofString "x") (.int (x : Nat))) (it_list (ev_name (F.var hE rfl))) (hcl_of [] (by decide) (fun _ h => nomatch h))
        (fun x hx cenv cs pr' hC => asg_loc (hC.en hE rfl).fn (hC.loc rfl)) (fun x hx cenv cs pr' s' hC k' ok' hp' hV => ev_fn G (hC.en hE rfl) K.pretty (hC.glob rfl) (evl_cons (ev_name hV) evl_nil) (pretty_spec G K.pretty K.tab K.hexN K.hexB K.rangeN K.rangeB (hNlt x hx))) (small _ (by omega))) (d' := .list ((N.map flagsS).map .str)) ?_) (joinOk (B := 484) ?_ ?_)
      · rw [List.map_map]; rfl
      · intro y hy
        obtain ⟨x, _, rfl⟩ := List.mem_map.mp hy
        exact flags_len x
      · rw [List.length_map, hNl, show (Str.ofString "\n").length = 1 by decide]; omega
    -- the rows
    have hN3 : N.length ≤ 3 := by omega
    refine ex_cons (x_assign (d := .list ((N.map (rowP o)).map fun r => .list (r.map met3D))) ok hE (sL _ (by decide)) fun s F => Ev.cast (ev_fn G hE K.rows (glo _ (by decide)) (evl_cons (ev_name (F.var hE rfl)) (evl_cons (ev_name (F.var hE rfl)) evl_nil)) (rows_spec G K.rows K.met K.word K.letter K.minN K.minB K.rangeN K.rangeB O (by omega))) ?_) ?_
    · rw [List.map_map]; rfl
    refine ex_cons (x_if_f ok (fun s F => Ts.cast (ts_cmp (ev_name (F.var hE rfl)) (ev_fn G hE K.page (glo _ (by decide)) (evl_cons (ev_name (F.var hE rfl)) (evl_cons ev_int evl_nil)) (page_spec G K.page (rowsOk hN3) (done := 0))) op_ne_str) ?_) ex_nil) ?_
    · rw [pg_page, show pageT N (tokAt o 0) = pageT N wordS from (flags_page N o).symm]
      simp
    -- now and the four lists
    refine ex_cons (x_assign (d := .str (pageT N (tokAt o 0))) ok hE (sL _ (by decide)) fun s F => Ev.cast (ev_name (F.var hE rfl)) (congrArg PyData.str (flags_page N o))) ?_
    refine ex_cons (x_assign (d := .list (flat ((fwOf o).take 0))) ok hE (sL _ (by decide)) fun s F => ev_list evl_nil (small _ (by simp [flat]))) ?_
    refine ex_cons (x_assign (d := .list (flat ((fwOf o).take 0).reverse)) ok hE (sL _ (by decide)) fun s F => ev_list evl_nil (small _ (by simp [flat]))) ?_
    refine ex_cons (x_assign (d := .list (flat ((unOf o).take 0))) ok hE (sC _ (by decide)) fun s F => ev_list evl_nil (small _ (by simp [flat]))) ?_
    refine ex_cons (x_assign (d := .list (flat ((unOf o).take 0).reverse)) ok hE (sC _ (by decide)) fun s F => ev_list evl_nil (small _ (by simp [flat]))) ?_
    -- pair by pair
    refine ex_cons (x_for (ds := (List.range 22).map fun i => .int (i : Nat)) (fun i => [(Str.ofString "undoing", .list (flat ((unOf o).take i).reverse)), (Str.ofString "undone", .list (flat ((unOf o).take i))), (Str.ofString "backward", .list (flat ((fwOf o).take i).reverse)), (Str.ofString "forward", .list (flat ((fwOf o).take i))), (Str.ofString "now", .str (pageT N (tokAt o i))),
      (Str.ofString "rows", .list ((N.map (rowP o)).map fun r => .list (r.map met3D))), (Str.ofString "page", .str (pageT N wordS)), (Str.ofString "numbers", .list (N.map fun x => .int (x : Nat))), (Str.ofString "order", natsD o), (Str.ofString "drawn", .list (dr.map .int)), (Str.ofString "script", .list (script.map .int))]) ok hE (sL _ (by decide))
      (fun s F => it_range G hE (glo (Str.ofString "range") (by decide)) K.rangeN K.rangeB (k := 22) ev_int (by omega)) fun i d hd => ?_) ?_
    · have hi : i < 22 := by
        have := (List.getElem?_eq_some_iff.mp hd).1
        rw [List.length_map, List.length_range] at this
        exact this
      rw [List.getElem?_map, List.getElem?_range hi] at hd
      cases hd
      obtain ⟨q, hq, hq22, _⟩ := mem22 O hi
      have hget : ∀ (j : Nat), j = i → (o.map fun p => PyData.int (p : Nat))[j]? = some (.int (q : Nat)) := by
        rintro j rfl
        rw [List.getElem?_map, hq]
        rfl
      have hfw : (fwOf o)[i]? = some (wordS q, letterS q) := by unfold fwOf; rw [List.getElem?_map, hq]; rfl
      have hun : (unOf o)[i]? = some (letterS q, wordS q) := by unfold unOf; rw [List.getElem?_map, hq]; rfl
      have hfl : (fwOf o).length = 22 := by rw [fw_len, O.len]
      have hul : (unOf o).length = 22 := by rw [un_len, O.len]
      have hlf : ∀ l : List (Str × Str), (flat l).length = 2 * l.length := flat_len
      refine Ex.weaken (ex_cons (x_assign (d := .str (wordS q)) ok hE (sL _ (by decide)) fun s F => ?_) (ex_cons (x_assign (d := .str (letterS q)) ok hE (sL _ (by decide)) fun s F => ?_) (ex_cons (x_assign (d := .str (pageT N (tokAt o (i + 1)))) ok hE (sL _ (by decide)) fun s F => ?_) (ex_cons (x_if_f ok (fun s F => ?_) ex_nil)
        (ex_cons (x_assign (d := .list (flat ((fwOf o).take (i + 1)))) ok hE (sL _ (by decide)) fun s F => ?_) (ex_cons (x_assign (d := .list (flat ((fwOf o).take (i + 1)).reverse)) ok hE (sL _ (by decide)) fun s F => ?_)
        (ex_cons (x_assign (d := .list (flat ((unOf o).take (i + 1)))) ok hE (sC _ (by decide)) fun s F => ?_) (ex_cons (x_assign (d := .list (flat ((unOf o).take (i + 1)).reverse)) ok hE (sC _ (by decide)) fun s F => ?_) ex_nil)))))))) (look_weaken fun p hp => ?_)
      · exact ev_fn G hE K.word (glo _ (by decide)) (evl_cons (ev_item_list (ev_name (F.var hE rfl)) (ev_name (F.var hE rfl)) (Int.natCast_nonneg _) (by omega) (hget _ (Int.toNat_natCast i))) evl_nil) (word_spec G K.word hq22)
      · exact ev_fn G hE K.letter (glo _ (by decide)) (evl_cons (ev_item_list (ev_name (F.var hE rfl)) (ev_name (F.var hE rfl)) (Int.natCast_nonneg _) (by omega) (hget _ (Int.toNat_natCast i))) evl_nil) (letter_spec G K.letter hq22)
      · refine Ev.cast (ev_fn G hE K.replace (glo _ (by decide)) (evl_cons (ev_name (F.var hE rfl)) (evl_cons (ev_name (F.var hE rfl)) (evl_cons (ev_name (F.var hE rfl)) evl_nil))) (replace_spec G K.replace (ps := [(wordS q, letterS q)]) (ok_step O hN3 hi hq) (by simp))) ?_
        exact congrArg PyData.str (page_step O N hi hq)
      · refine Ts.cast (ts_cmp (ev_name (F.var hE rfl)) (ev_fn G hE K.page (glo _ (by decide)) (evl_cons (ev_name (F.var hE rfl)) (evl_cons (Ev.cast (ev_bin (ev_name (F.var hE rfl)) ev_int op_add_int) (d' := .int ((i + 1 : Nat) : Int)) (by simp)) evl_nil)) (page_spec G K.page (rowsOk hN3) (done := i + 1))) op_ne_str) ?_
        rw [pg_page]
        simp
      · refine Ev.cast (ev_bin (ev_name (F.var hE rfl)) (ev_list (evl_cons (ev_name (F.var hE rfl)) (evl_cons (ev_name (F.var hE rfl)) evl_nil)) (small _ (by simp))) (op_add_list (small _ ?_))) ?_
        · rw [hlf, List.length_take]; simp; omega
        · rw [List.take_add_one, hfw, flat_append]; rfl
      · refine Ev.cast (ev_bin (ev_list (evl_cons (ev_name (F.var hE rfl)) (evl_cons (ev_name (F.var hE rfl)) evl_nil)) (small _ (by simp))) (ev_name (F.var hE rfl)) (op_add_list (small _ ?_))) ?_
        · rw [hlf, List.length_reverse, List.length_take]; simp; omega
        · rw [rev_take_succ hfw]; rfl
      · refine Ev.cast (ev_bin (ev_name (F.var hE rfl)) (ev_list (evl_cons (ev_name (F.var hE rfl)) (evl_cons (ev_name (F.var hE rfl)) evl_nil)) (small _ (by simp))) (op_add_list (small _ ?_))) ?_
        · rw [hlf, List.length_take]; simp; omega
        · rw [List.take_add_one, hun, flat_append]; rfl
      · refine Ev.cast (ev_bin (ev_list (evl_cons (ev_name (F.var hE rfl)) (evl_cons (ev_name (F.var hE rfl)) evl_nil)) (small _ (by simp))) (ev_name (F.var hE rfl)) (op_add_list (small _ ?_))) ?_
        · rw [hlf, List.length_reverse, List.length_take]; simp; omega
        · rw [rev_take_succ hun]; rfl
      · simp only [List.mem_cons, List.not_mem_nil, or_false] at hp
        rcases hp with rfl | rfl | rfl | rfl | rfl | rfl | rfl | rfl | rfl | rfl | rfl <;> rfl
    rw [List.length_map, List.length_range]
    have hf22 : (fwOf o).take 22 = fwOf o := List.take_of_length_le (by rw [fw_len, O.len]; exact Nat.le_refl _)
    have hu22 : (unOf o).take 22 = unOf o := List.take_of_length_le (by rw [un_len, O.len]; exact Nat.le_refl _)
    have hfl : (fwOf o).length = 22 := by rw [fw_len, O.len]
    have hul : (unOf o).length = 22 := by rw [un_len, O.len]
    have Or := rev22 O
    have hlt : ∀ q ∈ o, q < 22 := fun q h => (O.all q).mp h
    have hltr : ∀ q ∈ o.reverse, q < 22 := fun q h => (Or.all q).mp h
    rw [hf22, hu22, fw_rev, un_rev]
    have hl1 : ∀ l : List Nat, l.length = 22 → (fwOf l).length ≤ 1000 := fun l h => by rw [fw_len]; omega
    have hl2 : ∀ l : List Nat, l.length = 22 → (unOf l).length ≤ 1000 := fun l h => by rw [un_len]; omega
    -- all at once, and once more
    refine ex_cons (x_if_f ok (fun s F => ts_or3_f
      (Ts.cast (ts_cmp (ev_repl (n := n + 2) G hE K.replace (glo _ (by decide)) (ev_name (F.var hE rfl)) (ev_name (F.var hE rfl)) (ok_fw O hN3) (hl1 _ O.len)) (ev_name (F.var hE rfl)) op_ne_str) ?_)
      (Ts.cast (ts_cmp (ev_repl (n := n + 2) G hE K.replace (glo _ (by decide)) (ev_name (F.var hE rfl)) (ev_name (F.var hE rfl)) (ok_still O hN3 hlt) (hl1 _ O.len)) (ev_name (F.var hE rfl)) op_ne_str) ?_)
      (Ts.cast (ts_cmp (ev_repl (n := n + 2) G hE K.replace (glo _ (by decide)) (ev_name (F.var hE rfl)) (ev_name (F.var hE rfl)) (ok_still O hN3 hltr) (hl1 _ Or.len)) (ev_name (F.var hE rfl)) op_ne_str) ?_)) ex_nil) ?_
    · rw [repl_fw_all O N]; simp
    · rw [repl_still O N _ hlt]; simp
    · rw [repl_still O N _ hltr]; simp
    -- the order turned about
    refine ex_cons (x_assign (d := .str (pageT N (tokAt o.reverse 22))) ok hE (sL _ (by decide)) fun s F => Ev.cast (ev_repl (n := n + 2) G hE K.replace (glo _ (by decide)) (ev_name (F.var hE rfl)) (ev_name (F.var hE rfl)) (ok_fw Or hN3) (hl1 _ Or.len)) (congrArg PyData.str (repl_fw_all Or N))) ?_
    refine ex_cons (x_if_f ok (fun s F => Ts.cast (ts_cmp (ev_name (F.var hE rfl)) (ev_fn G hE K.page (glo _ (by decide)) (evl_cons (Ev.cast (ev_fn G hE K.rows (glo _ (by decide)) (evl_cons (ev_name (F.var hE rfl)) (evl_cons (Ev.cast
      (ev_map (List.range 22) (fun k => .int (k : Nat)) (fun k => .int (o.getD (21 - k) 0 : Nat)) (fun k cenv pr' s' => Var pr' s' cenv (Str.ofString "k") (.int (k : Nat))) (it_range G hE (glo (Str.ofString "range") (by decide)) K.rangeN K.rangeB (k := 22) ev_int (by omega))
        (hcl_of [Str.ofString "order"] (by decide) fun y hy => by rw [List.mem_singleton] at hy; subst hy; exact (cell _ (by decide)).2) (fun k hk cenv cs pr' hC => asg_loc (hC.en hE rfl).fn (hC.loc rfl)) (fun k hk cenv cs pr' s' hC k' ok' hp' hV => ?_) (small _ (by simp))) (d' := natsD o.reverse) ?_) evl_nil)) (rows_spec G K.rows K.met K.word K.letter K.minN K.minB K.rangeN K.rangeB Or (by omega)))
        (d' := .list ((N.map (rowP o.reverse)).map fun r => .list (r.map met3D))) ?_) (evl_cons ev_int evl_nil)) (page_spec G K.page (rowsOk hN3) (done := 22))) op_ne_str) ?_) ex_nil) ?_
    · have hk22 : k < 22 := List.mem_range.mp hk
      have hvo := hC.inherit rfl rfl (F.varc hE (y := Str.ofString "order") (d := natsD o) rfl (cell _ (by decide)).1) k' hp'
      refine ev_item_list (ev_name hvo.var) (ev_bin ev_int (ev_name hV) op_sub_int) (by omega) (by omega) ?_
      have e : ((21 : Int) - (k : Nat)).toNat = 21 - k := by omega
      rw [e, List.getElem?_map, List.getD_eq_getElem?_getD, List.getElem?_eq_getElem (by rw [O.len]; omega)]
      rfl
    · rw [← rev_pick O]
      unfold natsD
      rw [List.map_map]
      rfl
    · rw [List.map_map]; rfl
    · rw [pg_page]; simp
    -- the pairs turned round
    refine ex_ret (x_return ok fun s F => ?_)
    have hvu := F.varc hE (y := Str.ofString "undone") (d := .list (flat (unOf o))) rfl (cell _ (by decide)).1
    have hvi := F.varc hE (y := Str.ofString "undoing") (d := .list (flat (unOf o.reverse))) rfl (cell _ (by decide)).1
    have key : ∀ t ∈ [pageT N (tokAt o 22), pageT N (tokAt o.reverse 22)], ∀ ps ∈ [unOf o, unOf o.reverse], ReplOk t ps ∧ ps.length ≤ 1000 ∧ repl t ps = pageT N wordS := by
      intro t ht ps hps
      simp only [List.mem_cons, List.not_mem_nil, or_false] at ht hps
      rcases ht with rfl | rfl <;> rcases hps with rfl | rfl
      · exact ⟨ok_back O hN3 hlt, hl2 _ O.len, repl_back_all O O N⟩
      · exact ⟨ok_back O hN3 hltr, hl2 _ Or.len, repl_back_all O Or N⟩
      · exact ⟨ok_back Or hN3 hlt, hl2 _ O.len, repl_back_all Or O N⟩
      · exact ⟨ok_back Or hN3 hltr, hl2 _ Or.len, repl_back_all Or Or N⟩
    refine ev_cmp (Ev.cast (ev_comp2 [pageT N (tokAt o 22), pageT N (tokAt o.reverse 22)] .str [unOf o, unOf o.reverse] (fun ps => .list (flat ps)) (fun _ _ => .str (pageT N wordS))
      (it_tuple (ev_tuple (evl_cons (ev_name (F.var hE rfl)) (evl_cons (ev_name (F.var hE rfl)) evl_nil)) (small _ (by simp))))
      (hcl_of [Str.ofString "undone", Str.ofString "undoing"] (by decide) fun y hy => by
        simp only [List.mem_cons, List.not_mem_nil, or_false] at hy
        rcases hy with rfl | rfl
        · exact hvu.look
        · exact hvi.look) rfl rfl (by decide)
      (fun t ht cenv cs pr' s' hC k' ok' hp' hV => ev_tuple (evl_cons (ev_name (hC.inherit rfl rfl hvu k' hp').var) (evl_cons (ev_name (hC.inherit rfl rfl hvi k' hp').var) evl_nil)) (small _ (by simp)))
      (fun t ht ps hps cenv cs pr' s' hC k' ok' hp' hV hV' => Ev.cast (ev_repl (n := n + 2) G (hC.en hE rfl) K.replace (hC.glob rfl) (ev_name hV) (ev_name hV') (key t ht ps hps).1 (key t ht ps hps).2.1) (congrArg PyData.str (key t ht ps hps).2.2)) (small _ (by simp)))
      (d' := .list ([pageT N wordS, pageT N wordS, pageT N wordS, pageT N wordS].map .str)) rfl)
      (ev_bin (ev_list (evl_cons (ev_name (F.var hE rfl)) evl_nil) (small _ (by simp))) ev_int op_mul_list1) (op_eq_strs (xs := [pageT N wordS, pageT N wordS, pageT N wordS, pageT N wordS]) ?_)
    intro x hx
    simp only [List.mem_cons, List.not_mem_nil, or_false, or_self] at hx
    subst hx
    exact page_ok N
end Mine
end

/-! J1 -/
section
open PySem PySem.W PyProof.Rows
set_option Elab.async false
set_option linter.unusedVariables false
set_option maxRecDepth 100000
namespace Mine
variable {prog p : Program} {w : World} {sT : Shared} {mg mb : Str → Option Value}

def posOf : Stmt → Pos
  | .FunctionDef _ _ _ _ _ _ _ _ _ q => q
  | _ => default
def itemAt (f : String) (k : Nat) : DefItem := ⟨Str.ofString f, parOf (stAt k), bodOf (stAt k), scoOf (stAt k), posOf (stAt k)⟩
def defsL : List DefItem := [itemAt "replace" 1, itemAt "pretty_flags" 4, itemAt "_law_word" 6, itemAt "_law_letter" 7, itemAt "_law_met" 8, itemAt "_law_rows" 9, itemAt "_law_page" 10, itemAt "law" 11]
def flagsD : List (PyData × PyData) := (List.range 10).map fun i => (.int ((2 ^ i : Nat) : Int), .str (wordS i))

theorem def_at {defs : List DefItem} {N : Nat} {consts : List (Str × PyData)} {objs : List (Str × (Obj → Prop))} {names : List Str} (GL : Glob N mg mb defs consts objs names sT.heap) {f : String} {k : Nat} (h : itemAt f k ∈ defs) (hp : (parOf (stAt k)).defaults = []) :
    ∃ a, DefAt mg sT f k a := by
  obtain ⟨a, c', o, pm, doc, _, _, h1, h2, h3, h4⟩ := (GL.made _ h).plain hp
  exact ⟨a, h1, o, pm, _, doc, h2, h3, h4⟩

theorem flags_look : ∀ i < 22, Spec.lookup (.int ((2 ^ i : Nat) : Int)) flagsD = if i < 10 then some (.str (wordS i)) else none := by
  intro i hi
  have h : i = 0 ∨ i = 1 ∨ i = 2 ∨ i = 3 ∨ i = 4 ∨ i = 5 ∨ i = 6 ∨ i = 7 ∨ i = 8 ∨ i = 9 ∨ i = 10 ∨ i = 11 ∨ i = 12 ∨ i = 13 ∨ i = 14 ∨ i = 15 ∨ i = 16 ∨ i = 17 ∨ i = 18 ∨ i = 19 ∨ i = 20 ∨ i = 21 := by omega
  rcases h with rfl | rfl | rfl | rfl | rfl | rfl | rfl | rfl | rfl | rfl | rfl | rfl | rfl | rfl | rfl | rfl | rfl | rfl | rfl | rfl | rfl | rfl <;> kernel_rfl

theorem tab_of (B : Tables p w mg sT.heap) (hD : tabIntOf p (Str.ofString "COMPILER_FLAG_NAMES") = some flagsD) : ∃ d, TabAt prog w mg sT d := by
  obtain ⟨d, h1, lo, kvs, hd, hf⟩ := B.tabI _ _ hD
  refine ⟨d, h1, lo, _, hd.mapOf.intMap.mapOf (fun o ho => ?_), fun i hi => ?_⟩
  · obtain ⟨o', es, ep, ho', hc, _⟩ := hd.mapOf
    rw [ho'] at ho; cases ho
    exact hc.2
  · have hl := flags_look i hi
    refine ⟨fun h10 => ?_, fun h10 => ?_⟩
    · rw [if_pos h10] at hl
      obtain ⟨v, hv, hfl⟩ := hf.of_lookup PyProof.V.same_int hl
      have hr := hfl sT.heap
      cases hr
      exact ⟨_, hv⟩
    · rw [if_neg (by omega)] at hl
      exact hf.none_of_lookup PyProof.V.same_int hl

theorem kit_of {consts : List (Str × PyData)} {objs : List (Str × (Obj → Prop))} {names : List Str} (GL : Glob 0 mg mb defsL consts objs names sT.heap) (B : Tables p w mg sT.heap) (hD : tabIntOf p (Str.ofString "COMPILER_FLAG_NAMES") = some flagsD)
    (hn : ∀ x ∈ ["hex", "range", "min", "sum", "list", "enumerate"], Str.ofString x ∉ names ∧ Str.ofString x ∉ bootMainNames) :
    ∃ ar ap aw al am ao ag d, Kit prog w mg mb sT ar ap aw al am ao ag d := by
  obtain ⟨ar, h1⟩ := def_at GL (f := "replace") (k := 1) (by simp [defsL]) rfl
  obtain ⟨ap, h2⟩ := def_at GL (f := "pretty_flags") (k := 4) (by simp [defsL]) rfl
  obtain ⟨aw, h3⟩ := def_at GL (f := "_law_word") (k := 6) (by simp [defsL]) rfl
  obtain ⟨al, h4⟩ := def_at GL (f := "_law_letter") (k := 7) (by simp [defsL]) rfl
  obtain ⟨am, h5⟩ := def_at GL (f := "_law_met") (k := 8) (by simp [defsL]) rfl
  obtain ⟨ao, h6⟩ := def_at GL (f := "_law_rows") (k := 9) (by simp [defsL]) rfl
  obtain ⟨ag, h7⟩ := def_at GL (f := "_law_page") (k := 10) (by simp [defsL]) rfl
  obtain ⟨d, h8⟩ := tab_of (prog := prog) B hD
  have fr : ∀ x ∈ ["hex", "range", "min", "sum", "list", "enumerate"], mg (Str.ofString x) = none := fun x hx => GL.free _ (hn x hx).1 (hn x hx).2
  exact ⟨ar, ap, aw, al, am, ao, ag, d, ⟨⟨GL.g, GL.b, GL.nolimit⟩, h1, h2, h3, h4, h5, h6, h7, h8,
    fr _ (by simp), by rw [GL.builtins _ (by decide)]; kernel_rfl,
    fr _ (by simp), by rw [GL.builtins _ (by decide)]; kernel_rfl,
    fr _ (by simp), by rw [GL.builtins _ (by decide)]; kernel_rfl,
    fr _ (by simp), by rw [GL.builtins _ (by decide)]; kernel_rfl,
    fr _ (by simp), by rw [GL.builtins _ (by decide)]; kernel_rfl,
    fr _ (by simp), by rw [GL.builtins _ (by decide)]; kernel_rfl⟩⟩

theorem caller_room : Room 4 callerA := ⟨rfl, by show 1 + claimMargin + 4 < recursionLimit; decide +kernel, by show 4 + 4 * 4 + 100 < cLine; decide +kernel⟩

theorem finish {consts : List (Str × PyData)} {objs : List (Str × (Obj → Prop))} {names : List Str} {s₁ : Shared} {fa a : Addr} {ns : List Int} {vs : List Value} {Q E : Value → Shared → Prop} (hdefs : List.map itemOf (recsOf p) = defsL) (GL : Glob 0 mg mb (List.map itemOf (recsOf p)) consts objs names s₁.heap) (B : Tables p w mg s₁.heap)
    (hD : tabIntOf p (Str.ofString "COMPILER_FLAG_NAMES") = some flagsD) (hn : ∀ x ∈ ["hex", "range", "min", "sum", "list", "enumerate"], Str.ofString x ∉ names ∧ Str.ofString x ∉ bootMainNames) (hmg : mg (Str.ofString "law") = some (.ref fa))
    (hL : s₁.heap.IsList a vs.toArray) (hw : Well w.params s₁.heap (.ref a) (ofPy (.list (ns.map .int)))) (hI : IntsAre vs ns) (hlen : ns.length ≤ 63)
    (hq : ∀ s', (∀ b o, s₁.heap.get? b = some o → s'.heap.get? b = some o) → s'.os = s₁.os → s'.gens = s₁.gens → Q (.bool true) s') : wpAny (model prog w) callerA (call (.ref fa) [.ref a]) Q E s₁ := by
  rw [hdefs] at GL
  obtain ⟨ar, ap, aw, al, am, ao, ag, d, K⟩ := kit_of (prog := prog) GL B hD hn
  obtain ⟨fa', hf⟩ := def_at GL (f := "law") (k := 11) (by simp [defsL]) rfl
  have e : fa' = fa := by
    have h1 := hf.g
    rw [hmg] at h1
    cases h1
    rfl
  subst e
  have hrep : Rep (fun _ => False) s₁.heap (.ref a) (.list (ns.map .int)) := by
    cases hw with
    | list ho _ =>
      rename_i us _
      obtain ⟨o', ho', _, k, hd'⟩ := hL
      rw [ho] at ho'
      cases ho'
      have e : us = vs := by
        have := hd'
        simp at this
        exact this.1
      subst e
      exact .list (fun h => h) ⟨_, ho⟩ (ints_to hI)
  refine (law_spec (n := 0) K hf hlen).run (fun _ => False) s₁ callerA Q E [.ref a] caller_room ⟨keeps_refl _, fun _ h => h.elim⟩ (.cons hrep .nil) fun v s' k r => ?_
  cases r
  obtain ⟨h', tk, rfl, hk⟩ := k
  exact hq _ hk rfl rfl
end Mine
end

/-! the head, and the law's walk at its end -/
open PySem PySem.W PyProof.Rows
set_option maxRecDepth 100000 in
set_option maxHeartbeats 8000000 in
theorem PySem.Challenge.cw_ph0010_01_holds : PySem.Challenge.rw_ph0010_01.Holds := by
  w_on
  o_law
  k_head
  (case hw => w_witness2)
  k_fill
  intro w s₀ s₁ mg mb G Y fa o pm cd doc dV kV ho hdd hcd hD hmg hg args vals as hpre hlay hrd hwl hlo
  have V := (Ground.X G).2
  have GL := glob_more (Ground.glob G (by first | k_qdec | decide +kernel) (by first | k_qdec | decide +kernel)) V
  refine Ground.open G ?_
  intro T B D TE TW
  wrow_args hpre hlay hrd hwl hlo
  refine Mine.finish (by kernel_rfl) GL B (by kernel_rfl) (by decide +kernel) hmg (by assumption) (by assumption) (by assumption) (by omega) fun s' hk hos hgs => ?_
  refine GoodW.toG ⟨.inl ⟨_, _, _, rfl, fun _ => rfl, .bool true, ?_, unshared_nil⟩, hk, hos, hgs.trans hg⟩
  first | (with_unfolding_all rfl; done) | kernel_rfl
