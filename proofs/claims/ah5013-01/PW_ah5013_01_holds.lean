import PyProof.Rows.All
import Wide.All
import OpenK.AllK
import Wide.FinOn
import KE.KTryDeep
import PySem.Challenge.RW_ah5013_01
open PySem PySem.W PySem.Calls PyProof.Rows
set_option Elab.async false
set_option maxRecDepth 100000
set_option maxHeartbeats 8000000
set_option linter.unusedSimpArgs false
set_option linter.unusedVariables false

namespace Mine
set_option autoImplicit false

inductive D where
  | none
  | bool (b : Bool)
  | int (i : Int)
  | str (s : Str)
  | tup (l : List D)
  | lst (l : List D)

/-- the heap without the objects of a list (what is being built) -/
abbrev V (as : List Addr) (h : Heap) : Heap := hideAll h as
def As (as : List Addr) (h : Heap) : Prop := ∀ a ∈ as, ∃ o, h.get? a = some o
theorem As.keeps {as : List Addr} {h h' : Heap} (x : As as h) (k : h.StaysIn h') : As as h' := fun a m => let ⟨o, e⟩ := x a m; ⟨o, k _ _ e⟩
theorem V_sub {as : List Addr} {h : Heap} : (V as h).StaysIn h := fun _ _ e => of_hideAll as e
theorem V_not {as : List Addr} {h : Heap} {b : Addr} {o : Obj} (e : (V as h).get? b = some o) : b ∉ as := fun q => by
  rw [hideAll_none as q] at e; cases e
theorem V_in {as : List Addr} {h : Heap} {b : Addr} {o : Obj} (e : h.get? b = some o) (q : b ∉ as) : (V as h).get? b = some o := hideAll_get as e q
theorem V_stays {as : List Addr} {h h' : Heap} (k : h.StaysIn h') : (V as h).StaysIn (V as h') := fun _ _ e => V_in (k _ _ (V_sub _ _ e)) (V_not e)
theorem V_ext {as : List Addr} {h h' : Heap} {L : Addr} (k : Heap.ExtBut L h h') : Heap.ExtBut L (V as h) (V as h') := fun _ _ n e => V_in (k _ _ n (V_sub _ _ e)) (V_not e)
theorem V_new {as : List Addr} {h : Heap} {o : Obj} (x : As as h) (hf : o.isFreed = false) : (V as (h.push o)).get? h.objs.size = some o :=
  V_in (Heap.get?_push_size _ hf) fun m => by
    obtain ⟨o', e⟩ := x _ m
    exact Nat.lt_irrefl _ (Heap.lt_size e)

mutual
inductive Rep (as : List Addr) (h : Heap) : Value → D → Prop
  | none : Rep as h .none .none
  | bool (b) : Rep as h (.bool b) (.bool b)
  | int (i t) : Rep as h (.int i t) (.int i)
  | str (x t) : Rep as h (.str x t) (.str x)
  | lst {a o vs n xs} : (V as h).get? a = some o → o.cls = .type "list" → o.data = .seq vs n → RepAll as h vs.toList xs → Rep as h (.ref a) (.lst xs)
  | tup {a o vs n xs} : (V as h).get? a = some o → o.cls = .type "tuple" → o.data = .seq vs n → RepAll as h vs.toList xs → Rep as h (.ref a) (.tup xs)
inductive RepAll (as : List Addr) (h : Heap) : List Value → List D → Prop
  | nil : RepAll as h [] []
  | cons {v vs d ds} : Rep as h v d → RepAll as h vs ds → RepAll as h (v :: vs) (d :: ds)
end

/-- what is kept: every sequence stays -/
def Seqs (h h' : Heap) : Prop := ∀ a o vs n, h.get? a = some o → o.data = .seq vs n → h'.get? a = some o
mutual
theorem Rep.seqs {as as' : List Addr} {h h' : Heap} (k : Seqs (V as h) (V as' h')) : ∀ {v d}, Rep as h v d → Rep as' h' v d
  | _, _, .none => .none
  | _, _, .bool b => .bool b
  | _, _, .int i t => .int i t
  | _, _, .str x t => .str x t
  | _, _, .lst e c d r => .lst (k _ _ _ _ e d) c d (RepAll.seqs k r)
  | _, _, .tup e c d r => .tup (k _ _ _ _ e d) c d (RepAll.seqs k r)
theorem RepAll.seqs {as as' : List Addr} {h h' : Heap} (k : Seqs (V as h) (V as' h')) : ∀ {v d}, RepAll as h v d → RepAll as' h' v d
  | _, _, .nil => .nil
  | _, _, .cons a r => .cons (Rep.seqs k a) (RepAll.seqs k r)
end
theorem Seqs.of_stays {h h' : Heap} (k : h.StaysIn h') : Seqs h h' := fun a o _ _ e _ => k a o e
theorem Seqs.of_extBut {h h' : Heap} {L : Addr} {m : Str → Option Value} (n : h.Ns L m) (k : Heap.ExtBut L h h') : Seqs h h' := fun a o vs c e d => by
  refine k a o (fun q => ?_) e
  subst q
  obtain ⟨o', es, ep, e', d', _⟩ := n
  rw [e] at e'; cases e'; rw [d] at d'; cases d'
theorem Rep.keeps {as : List Addr} {h h' : Heap} {v d} (r : Rep as h v d) (k : h.StaysIn h') : Rep as h' v d := r.seqs (Seqs.of_stays (V_stays k))
theorem RepAll.keeps {as : List Addr} {h h' : Heap} {v d} (r : RepAll as h v d) (k : h.StaysIn h') : RepAll as h' v d := r.seqs (Seqs.of_stays (V_stays k))
theorem RepAll.length {as : List Addr} {h : Heap} : ∀ {vs ds}, RepAll as h vs ds → vs.length = ds.length
  | _, _, .nil => rfl
  | _, _, .cons _ r => by rw [List.length_cons, List.length_cons, RepAll.length r]
theorem RepAll.append {as : List Addr} {h : Heap} : ∀ {vs ds vs' ds'}, RepAll as h vs ds → RepAll as h vs' ds' → RepAll as h (vs ++ vs') (ds ++ ds')
  | _, _, _, _, .nil, r => r
  | _, _, _, _, .cons a r, r' => .cons a (RepAll.append r r')
theorem RepAll.get {as : List Addr} {h : Heap} : ∀ {vs ds} {i : Nat} {d : D}, RepAll as h vs ds → ds[i]? = some d → ∃ v, vs[i]? = some v ∧ Rep as h v d
  | _, _, _, _, .nil, e => by simp at e
  | _, _, 0, _, .cons a _, e => ⟨_, rfl, by simp at e; exact e ▸ a⟩
  | _, _, i + 1, _, .cons _ r, e => by simpa using RepAll.get r (by simpa using e)
theorem RepAll.drop {as : List Addr} {h : Heap} : ∀ {vs ds} (n : Nat), RepAll as h vs ds → RepAll as h (vs.drop n) (ds.drop n)
  | _, _, 0, r => r
  | _, _, _ + 1, .nil => .nil
  | _, _, n + 1, .cons _ r => RepAll.drop n r

mutual
def toPy : D → PyData
  | .none => .none
  | .bool b => .bool b
  | .int i => .int i
  | .str s => .str s
  | .tup l => .tuple (toPys l)
  | .lst l => .list (toPys l)
def toPys : List D → List PyData
  | [] => []
  | d :: r => toPy d :: toPys r
end
mutual
theorem Rep.reads {as : List Addr} {h : Heap} : ∀ {v d}, Rep as h v d → ∃ as, Reads h v (toPy d) as
  | _, _, .none => ⟨_, .none⟩
  | _, _, .bool b => ⟨_, .bool b⟩
  | _, _, .int i t => ⟨_, .int i t⟩
  | _, _, .str x t => ⟨_, .str x t⟩
  | _, _, .lst e c d r => let ⟨_, q⟩ := RepAll.reads r; ⟨_, by rw [toPy]; exact .list (V_sub _ _ e) c d q⟩
  | _, _, .tup e c d r => let ⟨_, q⟩ := RepAll.reads r; ⟨_, by rw [toPy]; exact .tuple (V_sub _ _ e) c d q⟩
theorem RepAll.reads {as : List Addr} {h : Heap} : ∀ {v d}, RepAll as h v d → ∃ as, ReadsAll h v (toPys d) as
  | _, _, .nil => ⟨_, .nil⟩
  | _, _, .cons a r => let ⟨_, q⟩ := Rep.reads a; let ⟨_, q'⟩ := RepAll.reads r; ⟨_, by rw [toPys]; exact .cons q q'⟩
end

/-- the world of the claim -/
structure Wd where
  prog : Program
  w : World
  K : Frag
  p : Program
  loose : List Str
  mg : Str → Option Value
  mb : Str → Option Value

structure Wd.Gd (W : Wd) (h : Heap) : Prop where
  k : W.K.In h
  t : TopRead W.p W.loose W.mg W.mb h
theorem Wd.Gd.keeps {W : Wd} {h h' : Heap} (g : W.Gd h) (k : h.StaysIn h') : W.Gd h' := ⟨g.k.keeps k, g.t.keeps k⟩
abbrev Wd.M (W : Wd) : Model := model W.prog W.w

structure Room (n : Nat) (A : Around) : Prop where
  depth : A.depth + n < recursionLimit
  units : A.units + 8 * n + 200 < cLine
  handled : A.handled = none
theorem Room.le {n m : Nat} {A : Around} (r : Room n A) (h : m ≤ n) : Room m A := ⟨by have := r.depth; omega, by have := r.units; omega, r.handled⟩

abbrev St := List (Option D)
def gt (ρ : St) (i : Nat) : Option D := (ρ[i]?).join
def up (ρ : St) (i : Nat) (d : D) : St := ρ.set i (some d)

structure EnvOk (sc : Scope) (env : Env) : Prop where
  scope : env.scope = sc
  kind : sc.kind = .function
  globals : env.globals = mainGlobals
  builtins : env.builtins = builtinsNs

def VarAt (as : List Addr) (env : Env) (h : Heap) (m : Str → Option Value) (x : Str) (d : D) : Prop :=
  ∃ v, Rep as h v d ∧ ((env.kindOf x = some .local ∧ m x = some v) ∨
    (env.kindOf x = some .cell ∧ ∃ c, env.cells.lookup x = some c ∧ (V as h).IsCell c (some v)))

/-- the frame holds the store -/
def FrOk (W : Wd) (env : Env) (tab : List Str) (as : List Addr) (h : Heap) (ρ : St) : Prop :=
  As as h ∧ ∃ h₀ m, W.Gd h₀ ∧ Fr h₀ env.locals (V as h) m ∧ ∀ i x d, tab[i]? = some x → gt ρ i = some d → VarAt as env h m x d

theorem FrOk.gd {W : Wd} {env tab as h ρ} (F : FrOk W env tab as h ρ) : W.Gd (V as h) := by
  obtain ⟨_, h₀, m, g, F, _⟩ := F
  exact g.keeps F.keep
theorem FrOk.gdR {W : Wd} {env tab as h ρ} (F : FrOk W env tab as h ρ) : W.Gd h := F.gd.keeps V_sub
theorem FrOk.as {W : Wd} {env tab as h ρ} (F : FrOk W env tab as h ρ) : As as h := F.1
theorem FrOk.keeps {W : Wd} {env tab as h h' ρ} (F : FrOk W env tab as h ρ) (k : h.StaysIn h') : FrOk W env tab as h' ρ := by
  obtain ⟨a, h₀, m, g, F, v⟩ := F
  refine ⟨a.keeps k, h₀, m, g, F.keeps (V_stays k), fun i x d e1 e2 => ?_⟩
  obtain ⟨v, r, hv⟩ := v i x d e1 e2
  refine ⟨v, r.keeps k, hv.imp id fun ⟨a, c, b, o, ho, hd⟩ => ⟨a, c, b, o, V_stays k _ _ ho, hd⟩⟩


/-- an expression of the frame's gives the datum -/
def ESem (W : Wd) (n : Nat) (sc : Scope) (tab : List Str) (e : Expr) (f : St → Option D) : Prop :=
  ∀ {A as env s ρ d} {Q : Value → Shared → Prop} {E : Value → Shared → Prop}, Room n A → EnvOk sc env → FrOk W env tab as s.heap ρ → f ρ = some d →
    (∀ v h tk, s.heap.StaysIn h → Rep as h v d → Q v { s with heap := h, toks := tk }) → wpAny W.M A (eval e env) Q E s

theorem ESem.le {W : Wd} {n m sc tab e f} (x : ESem W n sc tab e f) (h : n ≤ m) : ESem W m sc tab e f := fun r => x (r.le h)
theorem ESem.no {W : Wd} {n sc tab e} : ESem W n sc tab e (fun _ => none) := fun _ _ _ e => by cases e

theorem stays_trans {h₁ h₂ h₃ : Heap} (a : h₁.StaysIn h₂) (b : h₂.StaysIn h₃) : h₁.StaysIn h₃ := fun x o e => b x o (a x o e)
theorem stays_refl {h : Heap} : h.StaysIn h := fun _ _ e => e
theorem stays_push {h : Heap} (o : Obj) : h.StaysIn (h.push o) := fun _ _ e => Heap.get?_push_of_some o e

section
variable {W : Wd} {n : Nat} {sc : Scope} {tab : List Str}

theorem ESem.int {i k pos} : ESem W n sc tab (.Constant (.int i) k pos) (fun _ => some (.int i)) := by
  intro A as env s ρ d Q E R O F e h
  cases e
  exact wpAny_Constant_int (h _ _ _ stays_refl (.int _ _))
theorem ESem.bool {b k pos} : ESem W n sc tab (.Constant (.bool b) k pos) (fun _ => some (.bool b)) := by
  intro A as env s ρ d Q E R O F e h
  cases e
  exact Constant_bool (h _ _ s.toks stays_refl (.bool _))
theorem ESem.str {b k pos} : ESem W n sc tab (.Constant (.str b) k pos) (fun _ => some (.str b)) := by
  intro A as env s ρ d Q E R O F e h
  cases e
  exact Constant_str (h _ _ _ stays_refl (.str _ _))

theorem ESem.var {x pos} (i : Nat) (hi : tab[i]? = some x := by rfl) (hd : (x == ("__debug__" : Str)) = false := by decide) : ESem W n sc tab (.Name x pos) (fun ρ => gt ρ i) := by
  intro A as env s ρ d Q E R O F e h
  obtain ⟨_, h₀, m, g, F, v⟩ := F
  obtain ⟨v, r, hv⟩ := v i x d hi e
  have hk : env.scope.kind = .function := O.scope ▸ O.kind
  rcases hv with ⟨k, hv⟩ | ⟨k, c, hc, hv⟩
  · exact wpAny_Name (wpAny_loadName_local hk k (F.ns.keeps V_sub) hv (h _ _ s.toks stays_refl r)) hd
  · exact wpAny_Name (wpAny_loadName_cell hk k hc (let ⟨o, a, b⟩ := hv; ⟨o, V_sub _ _ a, b⟩) (h _ _ s.toks stays_refl r)) hd

/-- a name of the module's top whose value is a datum -/
theorem ESem.glob {x pos v d} (hv : nsIn W.K mainGlobals x = some (some v)) (hr : ∀ as h, W.K.In (V as h) → Rep as h v d) (hx : sc.names.lookup x = some .globalImplicit := by rfl) (hd : (x == ("__debug__" : Str)) = false := by decide) :
    ESem W n sc tab (.Name x pos) (fun _ => some d) := by
  intro A as env s ρ d Q E R O F e h
  cases e
  have g := F.gdR
  have hk : env.scope.kind = .function := O.scope ▸ O.kind
  refine Name_function_global hk (by show env.scope.names.lookup x = _; rw [O.scope]; exact hx) (loadGlobal_global (by rw [O.globals]; exact g.t.g) (mg_of g.k g.t.g hv) (h _ _ s.toks stays_refl (hr _ _ F.gd.k))) hd

theorem glob_name {x pos v A as env s ρ} {Q : Value → Shared → Prop} {E : Value → Shared → Prop} (O : EnvOk sc env) (F : FrOk W env tab as s.heap ρ) (hv : nsIn W.K mainGlobals x = some (some v)) (hx : sc.names.lookup x = some .globalImplicit) (hd : (x == ("__debug__" : Str)) = false)
    (h : Q v s) : wpAny W.M A (eval (.Name x pos) env) Q E s := by
  have g := F.gdR
  have hk : env.scope.kind = .function := O.scope ▸ O.kind
  exact Name_function_global hk (by show env.scope.names.lookup x = _; rw [O.scope]; exact hx) (loadGlobal_global (by rw [O.globals]; exact g.t.g) (mg_of g.k g.t.g hv) h) hd
theorem built_name {x pos v A as env s ρ} {Q : Value → Shared → Prop} {E : Value → Shared → Prop} (O : EnvOk sc env) (F : FrOk W env tab as s.heap ρ) (hn : nsIn W.K mainGlobals x = some none) (hv : bootBuiltins x = some v) (hne : x ≠ "__name__") (hx : sc.names.lookup x = some .globalImplicit) (hd : (x == ("__debug__" : Str)) = false)
    (h : Q v s) : wpAny W.M A (eval (.Name x pos) env) Q E s := by
  have g := F.gdR
  have hk : env.scope.kind = .function := O.scope ▸ O.kind
  exact Name_function_global hk (by show env.scope.names.lookup x = _; rw [O.scope]; exact hx) (loadGlobal_builtin (by rw [O.globals]; exact g.t.g) (mg_none_of g.k g.t.g hn) (by rw [O.builtins]; exact g.t.b) ((g.t.builtins x hne).trans hv) h) hd

end
end Mine

namespace Mine
set_option autoImplicit false

abbrev ib (x : Int) : Nat := Builtin.Int.intBits x
def bnd (c : Prop) [Decidable c] (d : D) : Option D := if c then some d else none
theorem bnd_some {c : Prop} [Decidable c] {d e : D} (h : bnd c d = some e) : c ∧ d = e := by
  unfold bnd at h
  split at h
  · exact ⟨by assumption, Option.some.inj h⟩
  · cases h

def dBin (op : Operator) (a b : D) : Option D :=
  match a, b with
  | .int x, .int y =>
    (match op with
    | .Add => some (.int (x + y))
    | .Sub => some (.int (x - y))
    | .Mult => bnd (ib x ≤ 64 ∨ ib y ≤ 64 ∨ ib x + ib y ≤ 134217728) (.int (x * y))
    | .FloorDiv => bnd (y ≠ 0 ∧ y.natAbs.log2 < 9000) (.int (x.fdiv y))
    | .Mod => bnd (y ≠ 0) (.int (x.fmod y))
    | .Pow => bnd (0 ≤ y ∧ (ib x : Int) * y ≤ 134217728) (.int (x ^ y.toNat))
    | .LShift => bnd (0 ≤ y ∧ (ib x : Int) + y ≤ 134217728) (.int (x * 2 ^ y.toNat))
    | .RShift => bnd (0 ≤ y) (.int (x.fdiv (2 ^ y.toNat)))
    | .BitAnd => some (.int (Builtin.bitAnd x y))
    | .BitOr => some (.int (Builtin.bitOr x y))
    | .BitXor => some (.int (Builtin.bitXor x y))
    | _ => none)
  | .lst xs, .lst ys =>
    (match op with
    | .Add => bnd (xs.length + ys.length ≤ 100) (.lst (xs ++ ys))
    | _ => none)
  | _, _ => none

theorem mulOk {x y : Int} (h : ib x ≤ 64 ∨ ib y ≤ 64 ∨ ib x + ib y ≤ 134217728) : IntMulOk x y := by
  rcases h with h | h | h
  · exact IntMulOk.of_left h
  · exact IntMulOk.of_right h
  · unfold IntMulOk Builtin.Int.intTooBig
    intro q
    simp only [Bool.and_eq_true, decide_eq_true_eq] at q
    have := q.2
    simp only [bitsLine] at this
    have h' : Builtin.Int.intBits x + Builtin.Int.intBits y ≤ 134217728 := h
    omega

section
variable {W : Wd} {n : Nat} {sc : Scope} {tab : List Str}

theorem Rep.asList {as : List Addr} {h : Heap} {v : Value} {xs : List D} (r : Rep as h v (.lst xs)) : ∃ a vs, v = .ref a ∧ h.IsList a vs ∧ RepAll as h vs.toList xs := by
  cases r with
  | lst e c d r => exact ⟨_, _, rfl, ⟨_, V_sub _ _ e, c, _, d⟩, r⟩
theorem Rep.asTup {as : List Addr} {h : Heap} {v : Value} {xs : List D} (r : Rep as h v (.tup xs)) : ∃ a vs, v = .ref a ∧ IsTup h a vs ∧ RepAll as h vs.toList xs := by
  cases r with
  | tup e c d r => exact ⟨_, _, rfl, ⟨_, V_sub _ _ e, c, _, d⟩, r⟩

theorem bin_ok {op : Operator} {A as s v₁ v₂ d₁ d₂ d} {Q : Value → Shared → Prop} {E : Value → Shared → Prop} {env : Env} {ρ : St} (_R : Room n A) (F : FrOk W env tab as s.heap ρ) (r₁ : Rep as s.heap v₁ d₁) (r₂ : Rep as s.heap v₂ d₂) (e : dBin op d₁ d₂ = some d)
    (h : ∀ v h tk, s.heap.StaysIn h → Rep as h v d → Q v { s with heap := h, toks := tk }) : wpAny W.M A (binaryOp op v₁ v₂) Q E s := by
  have hi : ∀ x tk, d = .int x → Q (.int x tk) { s with heap := s.heap, toks := s.toks + 1 } := fun x tk q => h _ _ _ stays_refl (q ▸ .int _ _)
  cases r₁ <;> cases r₂ <;> (first | (simp only [dBin] at e; cases e; done) | skip)
  · cases op <;> simp only [dBin] at e
    case Add => cases e; exact add_int (hi _ _ rfl)
    case Sub => cases e; exact sub_int (hi _ _ rfl)
    case Mult => obtain ⟨c, e⟩ := bnd_some e; exact mul_int (hi _ _ e.symm) (mulOk c)
    case FloorDiv => obtain ⟨c, e⟩ := bnd_some e; exact floordiv_int c.1 (hi _ _ e.symm) (.inl (PyProof.noPylong_of_log2 c.2))
    case Mod => obtain ⟨c, e⟩ := bnd_some e; exact mod_int c (hi _ _ e.symm)
    case Pow => obtain ⟨c, e⟩ := bnd_some e; exact pow_int c.1 (by exact c.2) (hi _ _ e.symm)
    case LShift => obtain ⟨c, e⟩ := bnd_some e; exact lshift_int c.1 (by exact c.2) (hi _ _ e.symm)
    case RShift => obtain ⟨c, e⟩ := bnd_some e; exact rshift_int c (hi _ _ e.symm)
    case BitAnd => cases e; exact and_int (hi _ _ rfl)
    case BitOr => cases e; exact or_int (hi _ _ rfl)
    case BitXor => cases e; exact xor_int (hi _ _ rfl)
    all_goals (cases e)
  · cases op <;> simp only [dBin] at e
    case Add =>
      rename_i a o vs n xs h1 h2 h3 h4 b o' vs' n' ys k1 k2 k3 k4
      obtain ⟨c, e⟩ := bnd_some e
      have l1 := h4.length
      have l2 := k4.length
      obtain ⟨cls, dd, data, sl⟩ := o
      obtain ⟨cls2, dd2, data2, sl2⟩ := o'
      simp only at h2 h3 k2 k3
      subst h2 h3 k2 k3
      refine concat_meets ⟨_, V_sub _ _ h1, rfl⟩ ⟨_, V_sub _ _ k1, rfl⟩ noFill_list_add seq_list_add PySem.F.slot_list_add PySem.F.entry_list_add (PySem.F.args_list_add_2 _ _) (list_addW a b vs vs' n n' dd dd2 sl sl2 (by rw [sizeLine_eq]; simp only [Array.length_toList] at l1 l2; omega)) ⟨V_sub _ _ h1, V_sub _ _ k1, ?_⟩
      refine h _ _ s.toks (stays_push _) ?_
      subst e
      exact .lst (V_new F.as rfl) rfl rfl (by simpa using (h4.keeps (stays_push _)).append (k4.keeps (stays_push _)))
    all_goals (cases e)

theorem ESem.binop {l r f g op pos} (hl : ESem W n sc tab l f) (hr : ESem W n sc tab r g) :
    ESem W n sc tab (.BinOp l op r pos) (fun ρ => (f ρ).bind fun a => (g ρ).bind fun c => dBin op a c) := by
  intro A as env s ρ d Q E R O F e h
  obtain ⟨d₁, e₁, e⟩ := Option.bind_eq_some_iff.mp e
  obtain ⟨d₂, e₂, e⟩ := Option.bind_eq_some_iff.mp e
  refine wpAny_BinOp (hl R O F e₁ fun v₁ h₁ tk k₁ r₁ => hr R O (F.keeps k₁) e₂ fun v₂ h₂ tk k₂ r₂ => ?_)
  exact bin_ok R ((F.keeps k₁).keeps k₂) (r₁.keeps k₂) r₂ e fun v h₃ tk k₃ r₃ => h _ _ _ (stays_trans k₁ (stays_trans k₂ k₃)) r₃

/-! comparisons -/
mutual
def flat : D → Bool
  | .none | .int _ => true
  | .tup l | .lst l => flats l
  | .bool _ | .str _ => false
def flats : List D → Bool
  | [] => true
  | d :: r => flat d && flats r
end
mutual
theorem flat_lay : ∀ d, flat d = true → (toPy d).canLay0 = true
  | .none, _ => by simp [toPy, PyData.canLay0]
  | .int _, _ => by simp [toPy, PyData.canLay0]
  | .bool _, h => by simp [flat] at h
  | .str _, h => by simp [flat] at h
  | .tup l, h => by rw [toPy, PyData.canLay0]; exact flats_lay l (by simpa [flat] using h)
  | .lst l, h => by rw [toPy, PyData.canLay0]; exact flats_lay l (by simpa [flat] using h)
theorem flats_lay : ∀ d, flats d = true → PyData.canLayAll0 (toPys d) = true
  | [], _ => by simp [toPys, PyData.canLayAll0]
  | d :: r, h => by
    rw [flats, Bool.and_eq_true] at h
    rw [toPys, PyData.canLayAll0, flat_lay d h.1, flats_lay r h.2]; rfl
end

def dEq (a b : D) : Option Bool :=
  match a, b with
  | .int x, .int y => some (x == y)
  | .str x, .str y => some (x == y)
  | .tup x, .tup y => if flats x = true ∧ flats y = true ∧ (toPy (.tup x)).depth ≤ 64 ∧ (toPy (.tup y)).depth ≤ 64 then some (PyData.eqvAll (toPys x) (toPys y)) else none
  | _, _ => none

def dCmp (op : CmpOp) (a b : D) : Option Bool :=
  match op with
  | .Eq => dEq a b
  | .NotEq => (dEq a b).map (!·)
  | .Lt => (match a, b with | .int x, .int y => some (decide (x < y)) | _, _ => none)
  | .LtE => (match a, b with | .int x, .int y => some (decide (x ≤ y)) | _, _ => none)
  | .Gt => (match a, b with | .int x, .int y => some (decide (y < x)) | _, _ => none)
  | .GtE => (match a, b with | .int x, .int y => some (decide (y ≤ x)) | _, _ => none)
  | .In => (match a, b with | .str x, .str y => some (!(Builtin.Str.occurrences y x 0 y.length 1).isEmpty) | _, _ => none)
  | _ => none

theorem cmp_ok {op : CmpOp} {A as s v₁ v₂ d₁ d₂ b} {Q : Value → Shared → Prop} {E : Value → Shared → Prop} (R : Room n A) (r₁ : Rep as s.heap v₁ d₁) (r₂ : Rep as s.heap v₂ d₂) (e : dCmp op d₁ d₂ = some b)
    (h : ∀ tk, Q (.bool b) { s with toks := tk }) : wpAny W.M A (compareOp op v₁ v₂) Q E s := by
  have h' := h s.toks
  cases op <;> simp only [dCmp] at e
  case Eq =>
    cases r₁ <;> cases r₂ <;> simp only [dEq] at e <;> (first | (cases e; done) | skip)
    · cases e; exact eq_int h'
    · cases e; exact eq_str h'
    · split at e
      · rename_i p1 p2 p3 p4 _ _ _ _ _ q1 q2 q3 q4 c
        cases e
        obtain ⟨_, ra⟩ := (Rep.tup p1 p2 p3 p4).reads
        obtain ⟨_, rb⟩ := (Rep.tup q1 q2 q3 q4).reads
        refine eq_dataH ra rb ?_ ?_ (by have := R.units; omega) (by rw [toPy, toPy, PyData.eqv]; exact h')
        · unfold SeqAt.shaped; rw [flat_lay _ (by rw [flat]; exact c.1)]; exact decide_eq_true c.2.2.1
        · unfold SeqAt.shaped; rw [flat_lay _ (by rw [flat]; exact c.2.1)]; exact decide_eq_true c.2.2.2
      · cases e
  case NotEq =>
    cases r₁ <;> cases r₂ <;> simp only [dEq] at e <;> (first | (cases e; done) | skip)
    · cases e; exact ne_int h'
    · cases e; exact ne_str h'
    · split at e
      · rename_i p1 p2 p3 p4 _ _ _ _ _ q1 q2 q3 q4 c
        cases e
        obtain ⟨_, ra⟩ := (Rep.tup p1 p2 p3 p4).reads
        obtain ⟨_, rb⟩ := (Rep.tup q1 q2 q3 q4).reads
        refine ne_dataH ra rb ?_ ?_ (by have := R.units; omega) (by rw [toPy, toPy, PyData.eqv]; exact h')
        · unfold SeqAt.shaped; rw [flat_lay _ (by rw [flat]; exact c.1)]; exact decide_eq_true c.2.2.1
        · unfold SeqAt.shaped; rw [flat_lay _ (by rw [flat]; exact c.2.1)]; exact decide_eq_true c.2.2.2
      · cases e
  case Lt => cases r₁ <;> cases r₂ <;> (first | (cases e; done) | skip); cases e; exact lt_int h'
  case LtE => cases r₁ <;> cases r₂ <;> (first | (cases e; done) | skip); cases e; exact le_int h'
  case Gt => cases r₁ <;> cases r₂ <;> (first | (cases e; done) | skip); cases e; exact gt_int h'
  case GtE => cases r₁ <;> cases r₂ <;> (first | (cases e; done) | skip); cases e; exact ge_int h'
  case In => cases r₁ <;> cases r₂ <;> (first | (cases e; done) | skip); cases e; exact in_str h'
  all_goals (cases e)

theorem ESem.cmp {l r f g op pos} (hl : ESem W n sc tab l f) (hr : ESem W n sc tab r g) (hm : behindInMarks op r = false := by with_unfolding_all rfl) :
    ESem W n sc tab (.Compare l [op] [r] pos) (fun ρ => (f ρ).bind fun a => (g ρ).bind fun c => (dCmp op a c).map D.bool) := by
  intro A as env s ρ d Q E R O F e h
  obtain ⟨d₁, e₁, e⟩ := Option.bind_eq_some_iff.mp e
  obtain ⟨d₂, e₂, e⟩ := Option.bind_eq_some_iff.mp e
  obtain ⟨b, e₃, rfl⟩ := Option.map_eq_some_iff.mp e
  refine wpAny_Compare1 (hl R O F e₁ fun v₁ h₁ tk k₁ r₁ => hr R O (F.keeps k₁) e₂ fun v₂ h₂ tk k₂ r₂ => ?_) hm
  exact cmp_ok R (r₁.keeps k₂) r₂ e₃ fun tk => h _ _ _ (stays_trans k₁ k₂) (.bool _)

/-! truth -/
def dTruth : D → Option Bool
  | .bool b => some b
  | .int i => some (i != 0)
  | _ => none
theorem truth_ok {A as s v d b} {Q : Bool → Shared → Prop} {E : Value → Shared → Prop} (r : Rep as s.heap v d) (e : dTruth d = some b) (h : Q b s) : wpAny W.M A (truthy v) Q E s := by
  cases r <;> (first | (cases e; done) | skip)
  · cases e; exact wpAny_truthy_bool h
  · cases e; exact truthy_int h

/-- a test of the frame's -/
def TSem (W : Wd) (n : Nat) (sc : Scope) (tab : List Str) (e : Expr) (f : St → Option Bool) : Prop :=
  ∀ {A as env s ρ b} {Q : Bool → Shared → Prop} {E : Value → Shared → Prop}, Room n A → EnvOk sc env → FrOk W env tab as s.heap ρ → f ρ = some b →
    (∀ h tk, s.heap.StaysIn h → Q b { s with heap := h, toks := tk }) → wpAny W.M A (isTrue e env (eval e env)) Q E s

theorem TSem.plain {e f} (he : ESem W n sc tab e f) (hp : ∀ env whole, isTrue e env whole = (do let v ← whole; standAt e.pos; holding [v] (truthy v)) := by intro _ _; rfl) :
    TSem W n sc tab e (fun ρ => (f ρ).bind dTruth) := by
  intro A as env s ρ b Q E R O F e h
  obtain ⟨d₁, e₁, e⟩ := Option.bind_eq_some_iff.mp e
  exact isTrue_plain (he R O F e₁ fun v h₁ tk k r => truth_ok r e (h _ _ k)) (hp _ _)
theorem TSem.cmp {l r f g op pos} (hl : ESem W n sc tab l f) (hr : ESem W n sc tab r g) (hm : behindInMarks op r = false := by with_unfolding_all rfl) :
    TSem W n sc tab (.Compare l [op] [r] pos) (fun ρ => (f ρ).bind fun a => (g ρ).bind fun c => dCmp op a c) := by
  intro A as env s ρ d Q E R O F e h
  obtain ⟨d₁, e₁, e⟩ := Option.bind_eq_some_iff.mp e
  obtain ⟨d₂, e₂, e⟩ := Option.bind_eq_some_iff.mp e
  refine wpAny_isTrue_Compare1 (hl R O F e₁ fun v₁ h₁ tk k₁ r₁ => hr R O (F.keeps k₁) e₂ fun v₂ h₂ tk k₂ r₂ => ?_) hm
  exact cmp_ok R (r₁.keeps k₂) r₂ e fun tk => wpAny_truthy_bool (h _ _ (stays_trans k₁ k₂))
theorem TSem.not {x f pos} (hx : TSem W n sc tab x f) : TSem W n sc tab (.UnaryOp .Not x pos) (fun ρ => (f ρ).map (!·)) := by
  intro A as env s ρ b Q E R O F e h
  obtain ⟨d₁, e₁, rfl⟩ := Option.map_eq_some_iff.mp e
  exact isTrue_not (hx R O F e₁ fun h₁ tk k => h _ _ k)
theorem TSem.and0 {pos} : TSem W n sc tab (.BoolOp .And [] pos) (fun _ => some true) := by
  intro A as env s ρ b Q E R O F e h
  cases e
  exact isTrue_and_nil (h _ s.toks stays_refl)
theorem TSem.or0 {pos} : TSem W n sc tab (.BoolOp .Or [] pos) (fun _ => some false) := by
  intro A as env s ρ b Q E R O F e h
  cases e
  exact isTrue_or_nil (h _ s.toks stays_refl)
theorem TSem.and1 {x rest f g pos} (hx : TSem W n sc tab x f) (hr : TSem W n sc tab (.BoolOp .And rest pos) g) :
    TSem W n sc tab (.BoolOp .And (x :: rest) pos) (fun ρ => (f ρ).bind fun b => if b then g ρ else some false) := by
  intro A as env s ρ b Q E R O F e h
  obtain ⟨d₁, e₁, e⟩ := Option.bind_eq_some_iff.mp e
  refine isTrue_and (hx R O F e₁ fun h₁ tk k => ?_)
  cases d₁ with
  | false => cases e; exact h _ _ k
  | true => exact hr R O (F.keeps k) e fun h₂ tk k₂ => h _ _ (stays_trans k k₂)
theorem TSem.or1 {x rest f g pos} (hx : TSem W n sc tab x f) (hr : TSem W n sc tab (.BoolOp .Or rest pos) g) :
    TSem W n sc tab (.BoolOp .Or (x :: rest) pos) (fun ρ => (f ρ).bind fun b => if b then some true else g ρ) := by
  intro A as env s ρ b Q E R O F e h
  obtain ⟨d₁, e₁, e⟩ := Option.bind_eq_some_iff.mp e
  refine isTrue_or (hx R O F e₁ fun h₁ tk k => ?_)
  cases d₁ with
  | true => cases e; exact h _ _ k
  | false => exact hr R O (F.keeps k) e fun h₂ tk k₂ => h _ _ (stays_trans k k₂)
/-- a == b == c, as a test -/
theorem TSem.chain2 {l r r' f g g' op op' pos} (hl : ESem W n sc tab l f) (hr : ESem W n sc tab r g) (hr' : ESem W n sc tab r' g') (hm : lastMarks [op, op'] [r, r'] = false := by with_unfolding_all rfl) :
    TSem W n sc tab (.Compare l [op, op'] [r, r'] pos) (fun ρ => (f ρ).bind fun a => (g ρ).bind fun c => (dCmp op a c).bind fun t => if t then (g' ρ).bind fun c' => dCmp op' c c' else some false) := by
  intro A as env s ρ d Q E R O F e h
  obtain ⟨d₁, e₁, e⟩ := Option.bind_eq_some_iff.mp e
  obtain ⟨d₂, e₂, e⟩ := Option.bind_eq_some_iff.mp e
  obtain ⟨b, e₃, e⟩ := Option.bind_eq_some_iff.mp e
  refine isTrue_chain (hl R O F e₁ fun v₁ h₁ tk k₁ r₁ => test_link (hr R O (F.keeps k₁) e₂ fun v₂ h₂ tk k₂ r₂ => ?_)) hm
  refine cmp_ok R (r₁.keeps k₂) r₂ e₃ fun tk => wpAny_truthy_bool ?_
  cases b with
  | false => cases e; exact h _ _ (stays_trans k₁ k₂)
  | true =>
    obtain ⟨d₃, e₄, e⟩ := Option.bind_eq_some_iff.mp e
    exact test_last (hr' R O ((F.keeps k₁).keeps k₂) e₄ fun v₃ h₃ tk k₃ r₃ => cmp_ok R (r₂.keeps k₃) r₃ e fun tk => wpAny_truthy_bool (h _ _ (stays_trans k₁ (stays_trans k₂ k₃))))

theorem ESem.not {x f pos} (hx : ESem W n sc tab x f) : ESem W n sc tab (.UnaryOp .Not x pos) (fun ρ => (f ρ).bind fun a => (dTruth a).map fun b => .bool !b) := by
  intro A as env s ρ d Q E R O F e h
  obtain ⟨d₁, e₁, e⟩ := Option.bind_eq_some_iff.mp e
  obtain ⟨b, e₃, rfl⟩ := Option.map_eq_some_iff.mp e
  exact UnaryOp_ (hx R O F e₁ fun v h₁ tk k r => not_of (truth_ok r e₃ (h _ _ _ k (.bool _))))
def dNeg : D → Option D
  | .int i => some (.int (-i))
  | _ => none
theorem ESem.neg {x f pos} (hx : ESem W n sc tab x f) : ESem W n sc tab (.UnaryOp .USub x pos) (fun ρ => (f ρ).bind dNeg) := by
  intro A as env s ρ d Q E R O F e h
  obtain ⟨d₁, e₁, e⟩ := Option.bind_eq_some_iff.mp e
  refine UnaryOp_ (hx R O F e₁ fun v h₁ tk k r => ?_)
  cases r <;> (first | (cases e; done) | skip)
  cases e
  exact neg_int (h _ _ _ k (.int _ _))
theorem ESem.ite {t x y f g k pos} (ht : TSem W n sc tab t f) (hx : ESem W n sc tab x g) (hy : ESem W n sc tab y k) :
    ESem W n sc tab (.IfExp t x y pos) (fun ρ => (f ρ).bind fun b => if b then g ρ else k ρ) := by
  intro A as env s ρ d Q E R O F e h
  obtain ⟨b, e₁, e⟩ := Option.bind_eq_some_iff.mp e
  refine IfExp_ (ht R O F e₁ fun h₁ tk k₁ => ?_)
  cases b with
  | true => exact hx R O (F.keeps k₁) e fun v h₂ tk k₂ r => h _ _ _ (stays_trans k₁ k₂) r
  | false => exact hy R O (F.keeps k₁) e fun v h₂ tk k₂ r => h _ _ _ (stays_trans k₁ k₂) r
theorem ESem.bop1 {x f op pos} (hx : ESem W n sc tab x f) : ESem W n sc tab (.BoolOp op [x] pos) f := by
  intro A as env s ρ d Q E R O F e h
  exact BoolOp_one (hx R O F e h)
theorem ESem.and {x y rest f g pos} (hx : ESem W n sc tab x f) (hy : ESem W n sc tab (.BoolOp .And (y :: rest) pos) g) :
    ESem W n sc tab (.BoolOp .And (x :: y :: rest) pos) (fun ρ => (f ρ).bind fun a => (dTruth a).bind fun b => if b then g ρ else some a) := by
  intro A as env s ρ d Q E R O F e h
  obtain ⟨d₁, e₁, e⟩ := Option.bind_eq_some_iff.mp e
  obtain ⟨b, e₂, e⟩ := Option.bind_eq_some_iff.mp e
  refine BoolOp_and (hx R O F e₁ fun v h₁ tk k r => truth_ok r e₂ ?_)
  cases b with
  | true => exact hy R O (F.keeps k) e fun v h₂ tk k₂ r => h _ _ _ (stays_trans k k₂) r
  | false => cases e; exact h _ _ _ k r
theorem ESem.or {x y rest f g pos} (hx : ESem W n sc tab x f) (hy : ESem W n sc tab (.BoolOp .Or (y :: rest) pos) g) :
    ESem W n sc tab (.BoolOp .Or (x :: y :: rest) pos) (fun ρ => (f ρ).bind fun a => (dTruth a).bind fun b => if b then some a else g ρ) := by
  intro A as env s ρ d Q E R O F e h
  obtain ⟨d₁, e₁, e⟩ := Option.bind_eq_some_iff.mp e
  obtain ⟨b, e₂, e⟩ := Option.bind_eq_some_iff.mp e
  refine BoolOp_or (hx R O F e₁ fun v h₁ tk k r => truth_ok r e₂ ?_)
  cases b with
  | false => exact hy R O (F.keeps k) e fun v h₂ tk k₂ r => h _ _ _ (stays_trans k k₂) r
  | true => cases e; exact h _ _ _ k r

/-! lists of expressions, displays -/
def LSem (W : Wd) (n : Nat) (sc : Scope) (tab : List Str) (es : List Expr) (f : St → Option (List D)) : Prop :=
  ∀ {A as env s ρ ds pos} {Q : List Value → Shared → Prop} {E : Value → Shared → Prop}, Room n A → EnvOk sc env → FrOk W env tab as s.heap ρ → f ρ = some ds →
    (∀ vs h tk, s.heap.StaysIn h → RepAll as h vs ds → Q vs { s with heap := h, toks := tk }) → wpAny W.M A (spliced (backTo pos (starEach es env))) Q E s
theorem LSem.nil : LSem W n sc tab [] (fun _ => some []) := by
  intro A as env s ρ ds pos Q E R O F e h
  cases e
  exact args_nil (h _ _ s.toks stays_refl .nil)
theorem LSem.cons {e es f g} (he : ESem W n sc tab e f) (hr : LSem W n sc tab es g) (hs : ∀ env, starEach (e :: es) env = (false, eval e env) :: starEach es env := by intro _; rfl) :
    LSem W n sc tab (e :: es) (fun ρ => (f ρ).bind fun a => (g ρ).bind fun l => some (a :: l)) := by
  intro A as env s ρ ds pos Q E R O F e h
  obtain ⟨d₁, e₁, e⟩ := Option.bind_eq_some_iff.mp e
  obtain ⟨l, e₂, e⟩ := Option.bind_eq_some_iff.mp e
  cases e
  rw [hs env]
  exact spliced_cons (he R O F e₁ fun v h₁ tk k₁ r₁ => hr R O (F.keeps k₁) e₂ fun vs h₂ tk k₂ r₂ => h _ _ _ (stays_trans k₁ k₂) (.cons (r₁.keeps k₂) r₂))
theorem ESem.tuple {es f k pos} (hl : LSem W n sc tab es f) : ESem W n sc tab (.Tuple es k pos) (fun ρ => (f ρ).bind fun l => bnd (l.length ≤ 100) (.tup l)) := by
  intro A as env s ρ d Q E R O F e h
  obtain ⟨l, e₁, e⟩ := Option.bind_eq_some_iff.mp e
  obtain ⟨c, rfl⟩ := bnd_some e
  refine Tuple_ (hl R O F e₁ fun vs h₁ tk k₁ r₁ => ?_)
  refine wpAny_newObj_type (h _ _ _ (stays_trans k₁ (stays_push _)) (.tup (V_new (F.keeps k₁).as rfl) rfl rfl (by simpa using r₁.keeps (stays_push _)))) ?_
  show vs.toArray.size ≤ sizeLine
  rw [List.size_toArray, r₁.length, sizeLine_eq]; omega
theorem ESem.list {es f pos} (hl : LSem W n sc tab es f) : ESem W n sc tab (.List es pos) (fun ρ => (f ρ).bind fun l => bnd (l.length ≤ 100) (.lst l)) := by
  intro A as env s ρ d Q E R O F e h
  obtain ⟨l, e₁, e⟩ := Option.bind_eq_some_iff.mp e
  obtain ⟨c, rfl⟩ := bnd_some e
  refine List_ (hl R O F e₁ fun vs h₁ tk k₁ r₁ => ?_)
  refine wpAny_newObj_type (h _ _ _ (stays_trans k₁ (stays_push _)) (.lst (V_new (F.keeps k₁).as rfl) rfl rfl (by simpa using r₁.keeps (stays_push _)))) ?_
  show vs.toArray.size ≤ sizeLine
  rw [List.size_toArray, r₁.length, sizeLine_eq]; omega
end
end Mine

namespace Mine
set_option autoImplicit false

section
variable {W : Wd} {n : Nat} {sc : Scope} {tab : List Str}

theorem seqIdx {i : Int} {n : Nat} (h0 : 0 ≤ i) (h : i.toNat < n) : seqIndex? i n = some i.toNat := by
  unfold seqIndex?
  have h1 : ¬ i < 0 := by omega
  simp only [h1, if_false]
  rw [if_pos]
  simp only [Bool.and_eq_true, decide_eq_true_eq]
  omega
/-! items -/
def dItem (a b : D) : Option D :=
  match a, b with
  | .tup l, .int i => if 0 ≤ i ∧ i < 1000 then l[i.toNat]? else none
  | .lst l, .int i => if 0 ≤ i ∧ i < 1000 then l[i.toNat]? else none
  | _, _ => none
theorem item_list_any {value slice : Expr} {l : Addr} {items : Array Value} {k : Int} {u : Tok} {x : Value} {A s} {Q : Value → Shared → Prop} {E : Value → Shared → Prop} (hl : s.heap.IsList l items)
    (h0 : 0 ≤ k) (hfit : k < 2 ^ 63) (hx : items[k.toNat]? = some x) (h : Q x s)
    (hs : subscripted slice false (.ref l) (.int k u) = operate [.ref l, .int k u] (getItem (.ref l) (.int k u))) :
    wpAny W.M A (subscriptTail value slice (.ref l) (.int k u)) Q E s := tail_any hl.typeIs slot_list_getitem.lookup (wpAny_getItem_list hl h0 hfit hx h) hs
theorem ESem.sub {value slice f g pos} (hv : ESem W n sc tab value f) (hi : ESem W n sc tab slice g)
    (hs : ∀ a k u, subscripted slice false (.ref a) (.int k u) = operate [.ref a, .int k u] (getItem (.ref a) (.int k u)) := by intro _ _ _; with_unfolding_all rfl) :
    ESem W n sc tab (.Subscript value slice pos) (fun ρ => (f ρ).bind fun a => (g ρ).bind fun b => dItem a b) := by
  intro A as env s ρ d Q E R O F e h
  obtain ⟨d₁, e₁, e⟩ := Option.bind_eq_some_iff.mp e
  obtain ⟨d₂, e₂, e⟩ := Option.bind_eq_some_iff.mp e
  refine Subscript_ (hv R O F e₁ fun v₁ h₁ tk k₁ r₁ => hi R O (F.keeps k₁) e₂ fun v₂ h₂ tk k₂ r₂ => ?_)
  have r₁' := r₁.keeps k₂
  cases d₁ <;> (first | (cases e; done) | skip) <;> cases r₂ <;> (first | (cases e; done) | skip)
  · obtain ⟨a, vs, rfl, ht, ra⟩ := r₁'.asTup
    simp only [dItem] at e
    split at e
    · rename_i c
      obtain ⟨v, hx, rv⟩ := ra.get e
      have hlt := (List.getElem?_eq_some_iff.mp hx).1
      refine item_tupleT (l := vs.toList) (by simpa using ht) (by omega) (by omega) ?_ hx (h _ _ _ (stays_trans k₁ k₂) rv) (hs _ _ _)
      exact seqIdx c.1 hlt
    · cases e
  · obtain ⟨a, vs, rfl, ht, ra⟩ := r₁'.asList
    simp only [dItem] at e
    split at e
    · rename_i c
      obtain ⟨v, hx, rv⟩ := ra.get e
      exact item_list_any ht c.1 (by omega) (by simpa using hx) (h _ _ _ (stays_trans k₁ k₂) rv) (hs _ _ _)
    · cases e

/-- seq[1:] of a list that a name holds -/
def dTail : D → Option D
  | .lst (_ :: r) => if r.length ≤ 1000 then some (.lst r) else none
  | _ => none
theorem ESem.tail {x p k q sp pos} (i : Nat) (hi : tab[i]? = some x := by rfl) (hd : (x == ("__debug__" : Str)) = false := by decide) :
    ESem W n sc tab (.Subscript (.Name x p) (.Slice (some (.Constant (.int 1) k q)) none none sp) pos) (fun ρ => (gt ρ i).bind dTail) := by
  intro A as env s ρ d Q E R O F e h
  obtain ⟨d₁, e₁, e⟩ := Option.bind_eq_some_iff.mp e
  refine Subscript_ (ESem.var (W := W) (n := n) (sc := sc) i hi hd R O F e₁ fun v₁ h₁ tk k₁ r₁ => ?_)
  cases d₁ <;> (first | (cases e; done) | skip)
  obtain ⟨a, vs, rfl, ht, ra⟩ := r₁.asList
  rename_i l
  cases l with
  | nil => cases e
  | cons y r =>
    simp only [dTail] at e
    split at e
    · rename_i c
      cases e
      refine wpAny_Slice ?_
      refine wpAny_Constant_int (k := k) (pos := q) ?_
      refine wpAny_pure (wpAny_pure ?_)
      have hlen := ra.length
      refine slice_listK (lo := some 1) (hi := none) (s := { s with heap := h₁, toks := tk + 1 }) ht (.int 1 _) .none ?_ (hsz := by rw [sizeLine_eq]; simp only [Array.length_toList, List.length_cons] at hlen; omega)
      refine h _ _ (tk + 1) (stays_trans k₁ (stays_trans (stays_push _) (stays_push _))) ?_
      rw [show (some (1 : Int)) = some ((1 : Nat) : Int) from rfl, slicePick_from']
      refine .lst (o := { cls := .type "list", data := .seq (vs.toList.drop 1).toArray }) ?_ rfl rfl ?_
      · rw [show h₁.objs.size + 1 = (h₁.push { cls := .type "slice", data := .fields #[.int 1 tk, .none, .none] }).objs.size by rw [Heap.size_push]]
        exact V_new (((F.keeps k₁).as).keeps (stays_push _)) rfl
      · exact (RepAll.drop 1 ra).keeps (stays_trans (stays_push _) (stays_push _))
    · cases e
end
end Mine

namespace Mine
set_option autoImplicit false

/-- a callable value computes F -/
def CSem (W : Wd) (n : Nat) (fv : Value) (F : List D → Option D) : Prop :=
  ∀ {A as s vs ds d} {Q : Value → Shared → Prop} {E : Value → Shared → Prop}, Room n A → W.Gd (V as s.heap) → As as s.heap → RepAll as s.heap vs ds → F ds = some d →
    (∀ v h tk, s.heap.StaysIn h → Rep as h v d → Q v { s with heap := h, toks := tk }) → wpAny W.M A (call fv vs) Q E s
theorem CSem.le {W : Wd} {n m fv F} (x : CSem W n fv F) (h : n ≤ m) : CSem W m fv F := fun r => x (r.le h)

section
variable {W : Wd} {n : Nat} {sc : Scope} {tab : List Str}

theorem hplain_of {env : Env} {pos : Pos} : ∀ {es : List Expr}, (∀ env, (starEach es env).all (fun p => !p.1) = true) → (backTo pos (starEach es env)).any (·.1) = false := by
  intro es h
  have h' := h env
  rw [List.any_eq_false]
  intro p hp
  unfold backTo at hp
  obtain ⟨q, hq, rfl⟩ := List.mem_map.mp hp
  have := List.all_eq_true.mp h' q hq
  simpa using this

theorem ESem.call {x p pos e es fa F G} (hg : nsIn W.K mainGlobals x = some (some (.ref fa))) (hk : keepIn W.K (.ref fa) = true) (hF : CSem W n (.ref fa) F) (hG : LSem W n sc tab (e :: es) G)
    (hx : sc.names.lookup x = some .globalImplicit := by rfl) (hd : (x == ("__debug__" : Str)) = false := by decide)
    (he : ∀ env, starEach (e :: es) env = (false, eval e env) :: starEach es env := by intro _; rfl) (hp : ∀ env, (backTo pos (starEach es env)).any (·.1) = false := by intro _; rfl) :
    ESem W n sc tab (.Call (.Name x p) (e :: es) [] pos) (fun ρ => (G ρ).bind F) := by
  intro A as env s ρ d Q E R O Fr e h
  obtain ⟨ds, e₁, e⟩ := Option.bind_eq_some_iff.mp e
  refine Call_ (glob_name O Fr hg hx hd ?_)
  refine callWith_K (h₀ := s.heap) Fr.gdR.k hk (hG R O Fr e₁ fun vs h₁ tk k₁ r₁ => ⟨(Fr.keeps k₁).gdR.k, ?_⟩) (he env) (hp env)
  exact hF R (Fr.keeps k₁).gd (Fr.keeps k₁).as r₁ e fun v h₂ tk k₂ r₂ => h _ _ _ (stays_trans k₁ k₂) r₂

theorem evalArgs_p {f : Value} {M : Model} {A : Around} {E : Value → Shared → Prop} {s : Shared} {env : Env} {pos : Pos} {e : Expr} {es : List Expr} {Q : Args → Shared → Prop}
    (he : starEach (e :: es) env = (false, eval e env) :: starEach es env)
    (h : wpAny M A (spliced (backTo pos (starEach (e :: es) env))) (fun vs s' => Q ⟨vs, []⟩ s') E s) : wpAny M A (evalArgs f true (backTo pos (starEach (e :: es) env)) []) Q E s := by
  rw [he] at h ⊢
  exact evalArgs_plain h

theorem ESem.callB {x p pos e es id F G} (hg : nsIn W.K mainGlobals x = some none) (hb : bootBuiltins x = some (.builtin id)) (hF : CSem W n (.builtin id) F) (hG : LSem W n sc tab (e :: es) G)
    (hne : x ≠ "__name__" := by decide) (hx : sc.names.lookup x = some .globalImplicit := by rfl) (hd : (x == ("__debug__" : Str)) = false := by decide)
    (he : ∀ env, starEach (e :: es) env = (false, eval e env) :: starEach es env := by intro _; rfl) (hp : ∀ env, (backTo pos (starEach (e :: es) env)).any (·.1) = false := by intro _; rfl) :
    ESem W n sc tab (.Call (.Name x p) (e :: es) [] pos) (fun ρ => (G ρ).bind F) := by
  intro A as env s ρ d Q E R O Fr e h
  obtain ⟨ds, e₁, e⟩ := Option.bind_eq_some_iff.mp e
  refine Call_ (built_name O Fr hg hb hne hx hd ?_)
  refine callWith_builtin (hp env) (evalArgs_p (he env) (hG R O Fr e₁ fun vs h₁ tk k₁ r₁ => ?_))
  exact hF R (Fr.keeps k₁).gd (Fr.keeps k₁).as r₁ e fun v h₂ tk k₂ r₂ => h _ _ _ (stays_trans k₁ k₂) r₂

/-- int(n) of an int -/
def dInt : List D → Option D
  | [.int i] => some (.int i)
  | _ => none
theorem ESem.callInt {x p pos e G} (hg : nsIn W.K mainGlobals x = some none) (hb : bootBuiltins x = some (.type "int")) (hG : LSem W n sc tab [e] G)
    (hne : x ≠ "__name__" := by decide) (hx : sc.names.lookup x = some .globalImplicit := by rfl) (hd : (x == ("__debug__" : Str)) = false := by decide)
    (he : ∀ env, starEach [e] env = (false, eval e env) :: starEach [] env := by intro _; rfl) (hp : ∀ env, (backTo pos (starEach [e] env)).any (·.1) = false := by intro _; rfl) :
    ESem W n sc tab (.Call (.Name x p) [e] [] pos) (fun ρ => (G ρ).bind dInt) := by
  intro A as env s ρ d Q E R O Fr e h
  obtain ⟨ds, e₁, e⟩ := Option.bind_eq_some_iff.mp e
  refine Call_ (built_name O Fr hg hb hne hx hd ?_)
  refine PySem.callWith_type (hp env) (evalArgs_p (he env) (hG R O Fr e₁ fun vs h₁ tk k₁ r₁ => ?_))
  cases r₁ with
  | nil => cases e
  | cons a r =>
    cases r with
    | cons _ _ => simp [dInt] at e
    | nil =>
      cases a <;> (first | (cases e; done) | skip)
      cases e
      exact call_int_int (h _ _ _ k₁ (.int _ _))

def dLen : List D → Option D
  | [.lst l] => bnd (l.length ≤ 1000) (.int l.length)
  | [.tup l] => bnd (l.length ≤ 1000) (.int l.length)
  | _ => none
theorem len_sem : CSem W n (.builtin "len") dLen := by
  intro A as s vs ds d Q E R g ha r e h
  cases r with
  | nil => cases e
  | cons a r =>
    cases r with
    | cons _ _ => unfold dLen at e; split at e <;> simp_all
    | nil =>
      rename_i v d₁
      cases d₁ <;> (first | (cases e; done) | skip)
      · obtain ⟨c, rfl⟩ := bnd_some e
        obtain ⟨a, vs, rfl, ht, ra⟩ := a.asTup
        have hl := ra.length
        refine len_tuple ht (by simp only [Array.length_toList] at hl; omega) ?_
        have hl' := hl; rw [Array.length_toList] at hl'
        rw [hl']
        exact h _ s.heap (s.toks + 1 + 1) stays_refl (.int _ (s.toks + 1))
      · obtain ⟨c, rfl⟩ := bnd_some e
        obtain ⟨a, vs, rfl, ht, ra⟩ := a.asList
        have hl := ra.length
        refine len_list ht (by simp only [Array.length_toList] at hl; omega) ?_
        have hl' := hl; rw [Array.length_toList] at hl'
        rw [hl']
        exact h _ s.heap (s.toks + 1 + 1) stays_refl (.int _ (s.toks + 1))

def dAbs : List D → Option D
  | [.int i] => some (.int (if i < 0 then -i else i))
  | _ => none
theorem abs_sem : CSem W n (.builtin "abs") dAbs := by
  intro A as s vs ds d Q E R g ha r e h
  cases r with
  | nil => cases e
  | cons a r =>
    cases r with
    | cons _ _ => unfold dAbs at e; split at e <;> simp_all
    | nil =>
      cases a <;> (first | (cases e; done) | skip)
      cases e
      exact call_abs_int fun u tk => h _ _ _ stays_refl (.int _ _)
def dMax : List D → Option D
  | [.int i, .int j] => some (.int (if j > i then j else i))
  | _ => none
theorem max_sem : CSem W n (.builtin "max") dMax := by
  intro A as s vs ds d Q E R g ha r e h
  cases r with
  | nil => cases e
  | cons a r =>
    cases r with
    | nil => unfold dMax at e; split at e <;> simp_all
    | cons b r =>
      cases r with
      | cons _ _ => unfold dMax at e; split at e <;> simp_all
      | nil =>
        cases a <;> cases b <;> (first | (cases e; done) | skip)
        cases e
        refine max_two_ints R.handled fun h' tk hk => ?_
        refine h _ _ _ hk ?_
        split
        · exact .int _ _
        · exact .int _ _
def dDivmod : List D → Option D
  | [.int x, .int y] => bnd (y ≠ 0 ∧ y.natAbs.log2 < 9000) (.tup [.int (x.fdiv y), .int (x.fmod y)])
  | _ => none
theorem divmod_sem : CSem W n (.builtin "divmod") dDivmod := by
  intro A as s vs ds d Q E R g ha r e h
  cases r with
  | nil => cases e
  | cons a r =>
    cases r with
    | nil => unfold dDivmod at e; split at e <;> simp_all
    | cons b r =>
      cases r with
      | cons _ _ => unfold dDivmod at e; split at e <;> simp_all
      | nil =>
        cases a <;> cases b <;> (first | (cases e; done) | skip)
        obtain ⟨c, rfl⟩ := bnd_some e
        refine divmod_int c.1 ?_ (.inl (PyProof.noPylong_of_log2 c.2))
        exact h _ _ _ (stays_push _) (.tup (V_new (h := s.heap) ha rfl) rfl rfl (.cons (.int _ _) (.cons (.int _ _) .nil)))

/-- isinstance(x, int) of an int -/
def dIsInt : D → Option D
  | .int _ => some (.bool true)
  | _ => none
theorem ESem.isInt {x y p q pos e f} (hg : nsIn W.K mainGlobals x = some none) (hb : bootBuiltins x = some (.builtin "isinstance")) (hg' : nsIn W.K mainGlobals y = some none) (hb' : bootBuiltins y = some (.type "int")) (hf : ESem W n sc tab e f)
    (hne : x ≠ "__name__" := by decide) (hx : sc.names.lookup x = some .globalImplicit := by rfl) (hd : (x == ("__debug__" : Str)) = false := by decide)
    (hne' : y ≠ "__name__" := by decide) (hx' : sc.names.lookup y = some .globalImplicit := by rfl) (hd' : (y == ("__debug__" : Str)) = false := by decide)
    (he : ∀ env, starEach [e, .Name y q] env = (false, eval e env) :: starEach [.Name y q] env := by intro _; rfl) (hp : ∀ env, (backTo pos (starEach [e, .Name y q] env)).any (·.1) = false := by intro _; rfl) :
    ESem W n sc tab (.Call (.Name x p) [e, .Name y q] [] pos) (fun ρ => (f ρ).bind dIsInt) := by
  intro A as env s ρ d Q E R O Fr e h
  obtain ⟨ds, e₁, e⟩ := Option.bind_eq_some_iff.mp e
  refine Call_ (built_name O Fr hg hb hne hx hd ?_)
  refine callWith_builtin (hp env) (evalArgs_p (he env) ?_)
  rw [he env]
  refine spliced_cons (hf R O Fr e₁ fun v h₁ tk k₁ r₁ => ?_)
  refine args_cons (built_name O (Fr.keeps k₁) hg' hb' hne' hx' hd' (args_nil ?_))
  cases r₁ <;> (first | (cases e; done) | skip)
  cases e
  exact IsiPair.int_int (h _ _ _ k₁ (.bool _))

/-- x.bit_length() -/
def dBits : D → Option D
  | .int i => some (.int (ib i))
  | _ => none
theorem ESem.bits {o apos pos f} (ho : ESem W n sc tab o f) (hbase : ∀ env, attributeBase o "bit_length" env (eval o env) = eval o env := by intro _; rfl) (hline : (apos.endLine == pos.line) = true := by rfl) :
    ESem W n sc tab (.Call (.Attribute o "bit_length" apos) [] [] pos) (fun ρ => (f ρ).bind dBits) := by
  intro A as env s ρ d Q E R O Fr e h
  obtain ⟨d₁, e₁, e⟩ := Option.bind_eq_some_iff.mp e
  refine Call_method0 (hbase env) hline (ho R O Fr e₁ fun v h₁ tk k₁ r₁ => ?_)
  cases r₁ <;> (first | (cases e; done) | skip)
  cases e
  refine ⟨"int", "int.bit_length", F.plainAttrs_int, F.slot_int_bit_length, F.type_int_bit_length, typeIs_int _ _ _, (fun _ e => nomatch e), ?_⟩
  refine callWith_builtin rfl (PySem.evalArgs_none ?_)
  exact call_int_bit_length (h _ _ _ k₁ (.int _ _))

/-- all([..]) of a list of bools -/
def dBools : List D → Option (List Bool)
  | [] => some []
  | .bool b :: r => (dBools r).map (b :: ·)
  | _ => none
def dAll : List D → Option D
  | [.lst l] => (dBools l).map fun bs => .bool (bs.all id)
  | _ => none
theorem bools_are {as : List Addr} {h : Heap} {ds : List D} : ∀ {vs : List Value} {bs : List Bool}, RepAll as h vs ds → dBools ds = some bs → LSm.BoolsAre vs bs := by
  induction ds with
  | nil => intro vs bs r e; cases r; cases e; exact .nil
  | cons d ds ih =>
    intro vs bs r e
    cases r with
    | cons a r =>
      cases a <;> (first | (cases e; done) | skip)
      simp only [dBools] at e
      obtain ⟨l, e₂, rfl⟩ := Option.map_eq_some_iff.mp e
      exact .cons _ (ih r e₂)
theorem all_sem : CSem W n (.builtin "all") dAll := by
  intro A as s vs ds d Q E R g ha r e h
  cases r with
  | nil => cases e
  | cons a r =>
    cases r with
    | cons _ _ => unfold dAll at e; split at e <;> simp_all
    | nil =>
      rename_i v d₁
      cases d₁ <;> (first | (cases e; done) | skip)
      obtain ⟨bs, e₂, rfl⟩ := Option.map_eq_some_iff.mp e
      obtain ⟨l, vs, rfl, hl, ra⟩ := a.asList
      have hb := bools_are ra e₂
      have hlt : l < s.heap.objs.size := by obtain ⟨_, e, _⟩ := hl; exact Heap.lt_size e
      refine call_all_walk (wpAny_pyIter_list hl ?_)
      refine ⟨s.heap.objs.size, [s.heap.objs.size, l], [s.heap.objs.size], vs.size, _, _, fun i => (bs[i]?).getD true, rfl, Walks.list (A := A.in1) R.handled _ l (Nat.ne_of_lt hlt) vs,
        ⟨⟨_, Heap.get?_push_size _ rfl, rfl, rfl⟩, hl.push _⟩, fun i v s' Q' E' hP hQ => ?_, fun h' tk hk => ?_⟩
      · obtain ⟨b, e, rfl⟩ := hb.get i v (by simpa using hP)
        simp only [e, Option.getD_some] at hQ
        exact wpAny_truthy_bool hQ
      · have e : ((List.range vs.size).all fun i => (bs[i]?).getD true) = bs.all id := by
          rw [← Array.length_toList, hb.length]; exact LSm.range_all bs
        rw [e]
        exact h _ h' tk (LSm.kept_iter hk) (.bool _)
end
end Mine

namespace Mine
set_option autoImplicit false

inductive Fl where
  | nxt (ρ : St)
  | ret (d : D)

section
variable {W : Wd} {n : Nat} {sc : Scope} {tab : List Str}

theorem gt_up {ρ : St} {i j : Nat} {d e : D} (h : gt (up ρ i d) j = some e) : (j = i ∧ e = d) ∨ (j ≠ i ∧ gt ρ j = some e) := by
  unfold gt up at h
  rw [List.getElem?_set] at h
  by_cases q : i = j
  · subst q
    rw [if_pos rfl] at h
    split at h
    · exact .inl ⟨rfl, (Option.some.inj h).symm⟩
    · cases h
  · rw [if_neg q] at h
    exact .inr ⟨fun e => q e.symm, h⟩

theorem VarAt.extBut {as : List Addr} {env : Env} {h h' : Heap} {m m' : Str → Option Value} {x : Str} {d : D} (n : (V as h).Ns env.locals m) (k : Heap.ExtBut env.locals h h') (hm : m' x = m x) (v : VarAt as env h m x d) : VarAt as env h' m' x d := by
  obtain ⟨v, r, hv⟩ := v
  refine ⟨v, r.seqs (Seqs.of_extBut n (V_ext k)), hv.imp (fun q => ⟨q.1, hm.trans q.2⟩) fun ⟨a, c, b, o, ho, hd⟩ => ⟨a, c, b, o, V_ext k _ _ (fun q => ?_) ho, hd⟩⟩
  subst q
  obtain ⟨o', es, ep, e', d', _⟩ := n
  rw [ho] at e'; cases e'; rw [hd] at d'; cases d'
theorem As.ext {as : List Addr} {h h' : Heap} {L : Addr} (x : As as h) (k : Heap.ExtBut L h h') (hL : L ∉ as) : As as h' := fun a m => let ⟨o, e⟩ := x a m; ⟨o, k _ _ (fun q => hL (q ▸ m)) e⟩
theorem Ns_not {as : List Addr} {h : Heap} {L : Addr} {m : Str → Option Value} (n : (V as h).Ns L m) : L ∉ as := let ⟨_, _, _, e, _⟩ := n; V_not e
theorem Ns_V {as : List Addr} {h : Heap} {L : Addr} {m : Str → Option Value} (n : h.Ns L m) (k : L ∉ as) : (V as h).Ns L m := let ⟨o, es, ep, e, r⟩ := n; ⟨o, es, ep, V_in e k, r⟩
theorem Fr_V {as : List Addr} {h₀ h h' : Heap} {L : Addr} {m m' : Str → Option Value} (F : Fr h₀ L (V as h) m) (n : h'.Ns L m') (k : Heap.ExtBut L h h') : Fr h₀ L (V as h') m' :=
  ⟨Ns_V n (Ns_not F.ns), fun b o e => V_ext k _ _ (Nat.ne_of_lt (Nat.lt_of_lt_of_le (Heap.lt_size e) F.above)) (F.keep b o e), F.above⟩

/-- a name is stored -/
theorem store_ok {A as env s ρ v d x} {i : Nat} {Q : Unit → Shared → Prop} {E : Value → Shared → Prop} (O : EnvOk sc env) (F : FrOk W env tab as s.heap ρ) (r : Rep as s.heap v d) (hi : tab[i]? = some x) (hn : tab.Nodup) (hx : sc.names.lookup x = some .local)
    (h : ∀ h tk, FrOk W env tab as h (up ρ i d) → Heap.ExtBut env.locals s.heap h → Q () { s with heap := h, toks := tk }) : wpAny W.M A (storeName env x v) Q E s := by
  obtain ⟨ha, h₀, m, g, F, vs⟩ := F
  refine wpAny_storeName_local (by show env.scope.names.lookup x = _; rw [O.scope]; exact hx) (F.ns.keeps V_sub) (fun h' hn' hs => h h' _ ⟨ha.ext hs.extBut (Ns_not F.ns), h₀, _, g, Fr_V F hn' hs.extBut, fun j y e e1 e2 => ?_⟩ hs.extBut) (by rw [O.scope, O.kind]; rfl)
  rcases gt_up e2 with ⟨rfl, rfl⟩ | ⟨hne, e2⟩
  · rw [hi] at e1; cases e1
    exact ⟨v, r.seqs (Seqs.of_extBut F.ns (V_ext hs.extBut)), .inl ⟨by show env.scope.names.lookup x = _; rw [O.scope]; exact hx, if_pos rfl⟩⟩
  · refine VarAt.extBut F.ns hs.extBut (if_neg fun q => ?_) (vs j y e e1 e2)
    subst q
    exact hne ((List.getElem?_inj (List.getElem?_eq_some_iff.mp e1).1 hn).mp (e1.trans hi.symm))

def SSem (W : Wd) (n : Nat) (sc : Scope) (tab : List Str) (st : Stmt) (g : St → Option Fl) : Prop :=
  ∀ {A as env s ρ fl} {Q : Flow → Shared → Prop} {E : Value → Shared → Prop}, Room n A → EnvOk sc env → FrOk W env tab as s.heap ρ → g ρ = some fl →
    (∀ ρ' h tk, fl = .nxt ρ' → FrOk W env tab as h ρ' → Heap.ExtBut env.locals s.heap h → Q .next { s with heap := h, toks := tk }) →
    (∀ d v h tk, fl = .ret d → Heap.ExtBut env.locals s.heap h → Rep as h v d → Q (.ret v) { s with heap := h, toks := tk }) → wpAny W.M A (exec st env) Q E s
def BSem (W : Wd) (n : Nat) (sc : Scope) (tab : List Str) (b : List Stmt) (g : St → Option Fl) : Prop :=
  ∀ {A as env s ρ fl} {Q : Flow → Shared → Prop} {E : Value → Shared → Prop}, Room n A → EnvOk sc env → FrOk W env tab as s.heap ρ → g ρ = some fl →
    (∀ ρ' h tk, fl = .nxt ρ' → FrOk W env tab as h ρ' → Heap.ExtBut env.locals s.heap h → Q .next { s with heap := h, toks := tk }) →
    (∀ d v h tk, fl = .ret d → Heap.ExtBut env.locals s.heap h → Rep as h v d → Q (.ret v) { s with heap := h, toks := tk }) → wpAny W.M A (execs b env) Q E s

theorem ext_of {h h' : Heap} {L : Addr} (k : h.StaysIn h') : Heap.ExtBut L h h' := fun b o _ e => k b o e
theorem ext_trans {h h' h'' : Heap} {L : Addr} (k : Heap.ExtBut L h h') (k' : Heap.ExtBut L h' h'') : Heap.ExtBut L h h'' := k.trans k'

def andThen (f : Option Fl) (g : St → Option Fl) : Option Fl :=
  match f with
  | some (.nxt ρ) => g ρ
  | some (.ret d) => some (.ret d)
  | none => none

theorem SSem.no {st} : SSem W n sc tab st (fun _ => none) := by
  intro A as env s ρ fl Q E R O F e
  cases e
theorem BSem.nil : BSem W n sc tab [] (fun ρ => some (.nxt ρ)) := by
  intro A as env s ρ fl Q E R O F e h1 h2
  cases e
  exact wpAny_execs_nil (h1 _ _ s.toks rfl F (ext_of stays_refl))
theorem BSem.cons {st rest f g} (hs : SSem W n sc tab st f) (hr : BSem W n sc tab rest g) : BSem W n sc tab (st :: rest) (fun ρ => andThen (f ρ) g) := by
  intro A as env s ρ fl Q E R O F e h1 h2
  have e : andThen (f ρ) g = some fl := e
  unfold andThen at e
  refine wpAny_execs_cons ?_
  split at e
  · rename_i ρ' e₁
    refine hs R O F e₁ (fun ρ₂ h tk q F₂ k => ?_) (fun d v h tk q => by cases q)
    cases q
    exact hr R O F₂ e (fun ρ₃ h' tk' q F₃ k' => h1 _ _ _ q F₃ (k.trans k')) fun d v h' tk' q k' r => h2 _ _ _ _ q (k.trans k') r
  · rename_i d e₁
    cases e
    refine hs R O F e₁ (fun ρ₂ h tk q => by cases q) fun d v h tk q k r => ?_
    cases q
    exact h2 _ _ _ _ rfl k r
  · cases e
theorem BSem.le {m b g} (x : BSem W n sc tab b g) (h : n ≤ m) : BSem W m sc tab b g := fun r => x (r.le h)
theorem SSem.le {m b g} (x : SSem W n sc tab b g) (h : n ≤ m) : SSem W m sc tab b g := fun r => x (r.le h)

theorem SSem.ret {e f pos} (he : ESem W n sc tab e f) : SSem W n sc tab (.Return (some e) pos) (fun ρ => (f ρ).map Fl.ret) := by
  intro A as env s ρ fl Q E R O F e h1 h2
  obtain ⟨d, e₁, rfl⟩ := Option.map_eq_some_iff.mp e
  exact wpAny_Return_some (he R O F e₁ fun v h tk k r => h2 _ _ _ _ rfl (ext_of k) r)
theorem SSem.ife {t b o f g k pos} (ht : TSem W n sc tab t f) (hb : BSem W n sc tab b g) (ho : BSem W n sc tab o k) : SSem W n sc tab (.If t b o pos) (fun ρ => (f ρ).bind fun c => if c then g ρ else k ρ) := by
  intro A as env s ρ fl Q E R O F e h1 h2
  obtain ⟨c, e₁, e⟩ := Option.bind_eq_some_iff.mp e
  refine wpAny_If (ht R O F e₁ fun h tk k₁ => ?_)
  cases c with
  | true => exact hb R O (F.keeps k₁) e (fun ρ₃ h' tk' q F₃ k' => h1 _ _ _ q F₃ ((ext_of k₁).trans k')) fun d v h' tk' q k' r => h2 _ _ _ _ q ((ext_of k₁).trans k') r
  | false => exact ho R O (F.keeps k₁) e (fun ρ₃ h' tk' q F₃ k' => h1 _ _ _ q F₃ ((ext_of k₁).trans k')) fun d v h' tk' q k' r => h2 _ _ _ _ q ((ext_of k₁).trans k') r
theorem SSem.asrt {t f pos} (ht : TSem W n sc tab t f) : SSem W n sc tab (.Assert t none pos) (fun ρ => (f ρ).bind fun c => if c then some (.nxt ρ) else none) := by
  intro A as env s ρ fl Q E R O F e h1 h2
  obtain ⟨c, e₁, e⟩ := Option.bind_eq_some_iff.mp e
  cases c with
  | false => cases e
  | true =>
    cases e
    exact wpAny_Assert_new R.handled (ht R O F e₁ fun h tk k₁ => h1 _ _ _ rfl (F.keeps k₁) (ext_of k₁))

theorem FrOk.ns {env as h ρ} (F : FrOk W env tab as h ρ) : ∃ m, (V as h).Ns env.locals m := let ⟨_, _, m, _, F, _⟩ := F; ⟨m, F.ns⟩
theorem Rep.ext {env as h h' ρ v d} (F : FrOk W env tab as h ρ) (r : Rep as h v d) (k : Heap.ExtBut env.locals h h') : Rep as h' v d := let ⟨_, n⟩ := F.ns; r.seqs (Seqs.of_extBut n (V_ext k))
theorem RepAll.ext {env as h h' ρ v d} (F : FrOk W env tab as h ρ) (r : RepAll as h v d) (k : Heap.ExtBut env.locals h h') : RepAll as h' v d := let ⟨_, n⟩ := F.ns; r.seqs (Seqs.of_extBut n (V_ext k))

theorem SSem.set {x e f p pos} (i : Nat) (he : ESem W n sc tab e f) (hn : tab.Nodup) (hi : tab[i]? = some x := by rfl) (hx : sc.names.lookup x = some .local := by rfl)
    (hs : ∀ env, swapsWith e (some (.Name x p)) pos.line env = pure false := by intro _; rfl) :
    SSem W n sc tab (.Assign [.Name x p] e pos) (fun ρ => (f ρ).map fun d => .nxt (up ρ i d)) := by
  intro A as env s ρ fl Q E R O F e h1 h2
  obtain ⟨d, e₁, rfl⟩ := Option.map_eq_some_iff.mp e
  exact wpAny_Assign_Name (he R O F e₁ fun v h tk k r => store_ok O (F.keeps k) r hi hn hx fun h' tk' F' k' => h1 _ _ _ rfl F' ((ext_of k).trans k')) (hs env)
theorem SSem.set2 {x y e f p q pos} (i j : Nat) (he : ESem W n sc tab e f) (hn : tab.Nodup) (hi : tab[i]? = some x := by rfl) (hx : sc.names.lookup x = some .local := by rfl) (hj : tab[j]? = some y := by rfl) (hy : sc.names.lookup y = some .local := by rfl)
    (hw : ∀ env, swappedStores [.Name x p, .Name y q] e env = pure none := by intro _; rfl) :
    SSem W n sc tab (.Assign [.Name x p, .Name y q] e pos) (fun ρ => (f ρ).map fun d => .nxt (up (up ρ i d) j d)) := by
  intro A as env s ρ fl Q E R O F e h1 h2
  obtain ⟨d, e₁, rfl⟩ := Option.map_eq_some_iff.mp e
  refine wpAny_Assign_two (he R O F e₁ fun v h tk k r => wpAny_assign_Name (store_ok O (F.keeps k) r hi hn hx fun h' tk' F' k' => ?_)) (hw := hw env)
  exact wpAny_assign_Name (store_ok O F' (r.ext (F.keeps k) k') hj hn hy fun h'' tk'' F'' k'' => h1 _ _ _ rfl F'' ((ext_of k).trans (k'.trans k'')))

/-! targets -/
def ups (ρ : St) : List Nat → List D → St
  | i :: is, d :: ds => ups (up ρ i d) is ds
  | _, _ => ρ
inductive Tgts (sc : Scope) (tab : List Str) : List Expr → List Nat → Prop
  | nil : Tgts sc tab [] []
  | cons {x p es is} (i : Nat) (hi : tab[i]? = some x) (hx : sc.names.lookup x = some .local) (r : Tgts sc tab es is) : Tgts sc tab (.Name x p :: es) (i :: is)
theorem assignEach_name (x p es env) : assignEach (.Name x p :: es) env = (false, assign (.Name x p) env) :: assignEach es env := rfl
theorem Tgts.length {es is env} (t : Tgts sc tab es is) : (assignEach es env).length = is.length := by
  induction t with
  | nil => rfl
  | cons i hi hx r ih => rw [assignEach_name, List.length_cons, List.length_cons, ih]
theorem Tgts.star {es is env} (t : Tgts sc tab es is) : (assignEach es env).findIdx? (·.1) = none := by
  induction t with
  | nil => rfl
  | cons i hi hx r ih => rw [assignEach_name, List.findIdx?_cons]; simp [ih]
theorem Tgts.run {A as env E} {es is} (t : Tgts sc tab es is) (O : EnvOk sc env) (hn : tab.Nodup) : ∀ {s ρ vs ds} {Q : Unit → Shared → Prop}, FrOk W env tab as s.heap ρ → RepAll as s.heap vs ds → vs.length = is.length →
    (∀ h tk, FrOk W env tab as h (ups ρ is ds) → Heap.ExtBut env.locals s.heap h → Q () { s with heap := h, toks := tk }) → wpAny W.M A (assignInOrder ((assignEach es env).map (·.2)) vs) Q E s := by
  induction t with
  | nil => intro s ρ vs ds Q F r hl h; exact assignInOrder_nil (h _ s.toks (by cases r <;> exact F) (ext_of stays_refl))
  | cons i hi hx r ih =>
    intro s ρ vs ds Q F ra hl h
    cases ra with
    | nil => simp at hl
    | cons a ra =>
      rw [assignEach_name, List.map_cons]
      refine assignInOrder_cons (wpAny_assign_Name (store_ok O F a hi hn hx fun h' tk' F' k' => ?_))
      exact ih F' (ra.ext F k') (by simpa using hl) fun h'' tk'' F'' k'' => h _ _ F'' (k'.trans k'')

def dUnpack (ρ : St) (is : List Nat) : D → Option St
  | .tup l => if l.length = is.length then some (ups ρ is l) else none
  | _ => none
theorem SSem.unpack {es k tp e f pos is} (t : Tgts sc tab es is) (he : ESem W n sc tab e f) (hn : tab.Nodup)
    (hs : ∀ env, swapsWithSole [.Tuple es k tp] e pos.line env = pure false := by intro _; rfl) (hw : ∀ env, env.scope = sc → swappedStores [.Tuple es k tp] e env = pure none := by intro _ _; rfl) :
    SSem W n sc tab (.Assign [.Tuple es k tp] e pos) (fun ρ => (f ρ).bind fun d => (dUnpack ρ is d).map Fl.nxt) := by
  intro A as env s ρ fl Q E R O F e h1 h2
  obtain ⟨d, e₁, e⟩ := Option.bind_eq_some_iff.mp e
  obtain ⟨ρ', e, rfl⟩ := Option.map_eq_some_iff.mp e
  refine PyProof.Rows.Assign_Tuple (he R O F e₁ fun v h tk kk r => ?_) (hs env) (hw env O.scope)
  cases d <;> (first | (cases e; done) | skip)
  simp only [dUnpack] at e
  split at e
  · rename_i c
    cases e
    obtain ⟨a, vs, rfl, ht, ra⟩ := r.asTup
    have hl : vs.size = is.length := by rw [← Array.length_toList, ra.length, c]
    refine assign_Tuple_tuple R.handled ht (t.length.trans hl.symm) t.star fun h' he' => ?_
    have F' := F.keeps kk
    have k' : h.StaysIn h' := fun b o e => he' b o (Nat.ne_of_lt (Heap.lt_size e)) e
    refine t.run O hn (F'.keeps k') (ra.keeps k') (by rw [ra.length, c]) fun h'' tk'' F'' k'' => ?_
    exact h1 _ _ _ rfl F'' ((ext_of (stays_trans kk k')).trans k'')
  · cases e
/-- t1, t2 = (e1, e2): the stores go backwards -/
theorem stores_rev {A as env E} : ∀ {names : List Str} {is : List Nat} {s ρ vs ds} {Q : Unit → Shared → Prop}, EnvOk sc env → tab.Nodup → (∀ (k : Nat) (x : Str), names[k]? = some x → ∃ i : Nat, is[k]? = some i ∧ tab[i]? = some x ∧ sc.names.lookup x = some .local) → FrOk W env tab as s.heap ρ → RepAll as s.heap vs ds → vs.length = names.length → names.length = is.length →
    (∀ h tk, FrOk W env tab as h (ups ρ is ds) → Heap.ExtBut env.locals s.heap h → Q () { s with heap := h, toks := tk }) → wpAny W.M A (assignInOrder (names.map fun n => bindName env n) vs) Q E s
  | [], is, s, ρ, vs, ds, Q, _, _, _, F, r, hl, hl', h => by
    cases is with
    | nil => exact assignInOrder_nil (h _ s.toks (by cases r <;> exact F) (ext_of stays_refl))
    | cons _ _ => simp at hl'
  | x :: names, is, s, ρ, vs, ds, Q, O, hn, hx, F, r, hl, hl', h => by
    cases r with
    | nil => simp at hl
    | cons a ra =>
      cases is with
      | nil => simp at hl'
      | cons i is =>
        obtain ⟨j, hj, hj', hx'⟩ := hx 0 x rfl
        simp at hj
        subst hj
        refine assignInOrder_cons (bindName_ (store_ok O F a hj' hn hx' fun h' tk' F' k' => ?_))
        exact stores_rev O hn (fun k y e => hx (k + 1) y (by simpa using e)) F' (ra.ext F k') (by simpa using hl) (by simpa using hl') fun h'' tk'' F'' k'' => h _ _ F'' (k'.trans k'')
def dUnpackR (ρ : St) (is : List Nat) : D → Option St
  | .tup l => if l.length = is.length then some (ups ρ is.reverse l.reverse) else none
  | _ => none
theorem RepAll.reverse {as : List Addr} {h : Heap} {ds : List D} : ∀ {vs}, RepAll as h vs ds → RepAll as h vs.reverse ds.reverse := by
  induction ds with
  | nil => intro vs r; cases r; exact .nil
  | cons d ds ih =>
    intro vs r
    cases r with
    | cons a r => rw [List.reverse_cons, List.reverse_cons]; exact (ih r).append (.cons a .nil)
theorem SSem.unpackR {es k tp e f pos} {names : List Str} {is : List Nat} (hx : ∀ (k : Nat) (x : Str), names.reverse[k]? = some x → ∃ i : Nat, is.reverse[k]? = some i ∧ tab[i]? = some x ∧ sc.names.lookup x = some .local) (hl : names.length = is.length) (he : ESem W n sc tab e f) (hn : tab.Nodup)
    (hs : ∀ env, swapsWithSole [.Tuple es k tp] e pos.line env = pure false := by intro _; rfl) (hw : ∀ env, env.scope = sc → swappedStores [.Tuple es k tp] e env = pure (some names)) :
    SSem W n sc tab (.Assign [.Tuple es k tp] e pos) (fun ρ => (f ρ).bind fun d => (dUnpackR ρ is d).map Fl.nxt) := by
  intro A as env s ρ fl Q E R O F e h1 h2
  obtain ⟨d, e₁, e⟩ := Option.bind_eq_some_iff.mp e
  obtain ⟨ρ', e, rfl⟩ := Option.map_eq_some_iff.mp e
  refine PyProof.Rows.Assign_Tuple_swapped (he R O F e₁ fun v h tk kk r => ?_) (hs env) (hw env O.scope)
  cases d <;> (first | (cases e; done) | skip)
  simp only [dUnpackR] at e
  split at e
  · rename_i c
    cases e
    obtain ⟨a, vs, rfl, ht, ra⟩ := r.asTup
    have hl2 : vs.size = names.length := by rw [← Array.length_toList, ra.length, c, hl]
    rw [← hl2]
    refine PyProof.Rows.unpackItems_tuple R.handled ht fun h' he' => ?_
    have F' := F.keeps kk
    have k' : h.StaysIn h' := fun b o e => he' b o (Nat.ne_of_lt (Heap.lt_size e)) e
    refine stores_rev O hn hx (F'.keeps k') (ra.reverse.keeps k') (by rw [List.length_reverse, ra.length, c, List.length_reverse, hl]) (by rw [List.length_reverse, List.length_reverse, hl]) fun h'' tk'' F'' k'' => ?_
    exact h1 _ _ _ rfl F'' ((ext_of (stays_trans kk k')).trans k'')
  · cases e

/-! x op= e -/
def dInt2 (op : Operator) (a b : D) : Option D :=
  match a, b with
  | .int _, .int _ => dBin op a b
  | _, _ => none
theorem aug_ok {op : Operator} {A as s v₁ v₂ d₁ d₂ d} {Q : Value → Shared → Prop} {E : Value → Shared → Prop} (r₁ : Rep as s.heap v₁ d₁) (r₂ : Rep as s.heap v₂ d₂) (e : dInt2 op d₁ d₂ = some d)
    (h : ∀ v tk, Rep as s.heap v d → Q v { s with toks := tk }) : wpAny W.M A (inplaceOp op v₁ v₂) Q E s := by
  have hi : ∀ x tk, d = .int x → Q (.int x tk) { s with toks := s.toks + 1 } := fun x tk q => h _ _ (q ▸ .int _ _)
  cases r₁ <;> cases r₂ <;> (first | (simp only [dInt2] at e; cases e; done) | skip)
  cases op <;> simp only [dInt2, dBin] at e
  case Add => cases e; exact iadd_int (hi _ _ rfl)
  case Sub => cases e; exact isub_int (hi _ _ rfl)
  case Mult => obtain ⟨c, e⟩ := bnd_some e; exact imul_int (hi _ _ e.symm) (mulOk c)
  case FloorDiv => obtain ⟨c, e⟩ := bnd_some e; exact ifloordiv_int c.1 (hi _ _ e.symm) (.inl (PyProof.noPylong_of_log2 c.2))
  case Mod => obtain ⟨c, e⟩ := bnd_some e; exact imod_int c (hi _ _ e.symm)
  case Pow => obtain ⟨c, e⟩ := bnd_some e; exact ipow_int c.1 (by exact c.2) (hi _ _ e.symm)
  case LShift => obtain ⟨c, e⟩ := bnd_some e; exact ilshift_int c.1 (by exact c.2) (hi _ _ e.symm)
  case RShift => obtain ⟨c, e⟩ := bnd_some e; exact irshift_int c (hi _ _ e.symm)
  case BitAnd => cases e; exact iand_int (hi _ _ rfl)
  case BitOr => cases e; exact ior_int (hi _ _ rfl)
  case BitXor => cases e; exact ixor_int (hi _ _ rfl)
  all_goals (cases e)
theorem load_ok {A as env s ρ d x} {i : Nat} {Q : Value → Shared → Prop} {E : Value → Shared → Prop} (O : EnvOk sc env) (F : FrOk W env tab as s.heap ρ) (hi : tab[i]? = some x) (e : gt ρ i = some d)
    (h : ∀ v, Rep as s.heap v d → Q v s) : wpAny W.M A (loadName env x) Q E s := by
  obtain ⟨_, h₀, m, g, F, v⟩ := F
  obtain ⟨v, r, hv⟩ := v i x d hi e
  have hk : env.scope.kind = .function := O.scope ▸ O.kind
  rcases hv with ⟨k, hv⟩ | ⟨k, c, hc, hv⟩
  · exact wpAny_loadName_local hk k (F.ns.keeps V_sub) hv (h _ r)
  · exact wpAny_loadName_cell hk k hc (let ⟨o, a, b⟩ := hv; ⟨o, V_sub _ _ a, b⟩) (h _ r)
theorem SSem.aug {x p op e f pos} (i : Nat) (he : ESem W n sc tab e f) (hn : tab.Nodup) (hi : tab[i]? = some x := by rfl) (hx : sc.names.lookup x = some .local := by rfl) :
    SSem W n sc tab (.AugAssign (.Name x p) op e pos) (fun ρ => (gt ρ i).bind fun a => (f ρ).bind fun b => (dInt2 op a b).map fun d => .nxt (up ρ i d)) := by
  intro A as env s ρ fl Q E R O F e h1 h2
  obtain ⟨a, e₁, e⟩ := Option.bind_eq_some_iff.mp e
  obtain ⟨b, e₂, e⟩ := Option.bind_eq_some_iff.mp e
  obtain ⟨d, e₃, rfl⟩ := Option.map_eq_some_iff.mp e
  refine wpAny_AugAssign_Name (load_ok O F hi e₁ fun v r => he R O F e₂ fun v₂ h tk k r₂ => aug_ok (r.keeps k) r₂ e₃ fun v₃ tk₃ r₃ => ?_)
  exact store_ok O (F.keeps k) r₃ hi hn hx fun h' tk' F' k' => h1 _ _ _ rfl F' ((ext_of k).trans k')

/-! while -/
def wloop (t : St → Option Bool) (b : St → Option Fl) : Nat → St → Option Fl
  | 0, _ => none
  | n + 1, ρ => (t ρ).bind fun c => if c then andThen (b ρ) (wloop t b n) else some (.nxt ρ)
theorem SSem.whl {t b f g pos} (N : Nat) (ht : TSem W n sc tab t f) (hb : BSem W n sc tab b g) : SSem W n sc tab (.While t b [] pos) (wloop f g N) := by
  intro A as env s ρ fl Q E R O F e h1 h2
  refine wpAny_While ?_
  refine codeAny_whileLoop (fun k s' => ∃ ρ' h tk, s' = { s with heap := h, toks := tk } ∧ FrOk W env tab as h ρ' ∧ Heap.ExtBut env.locals s.heap h ∧ wloop f g k ρ' = some fl) ?_ N ⟨ρ, s.heap, s.toks, rfl, F, ext_of stays_refl, e⟩
  rintro k s' ⟨ρ', h, tk, rfl, F', kx, e'⟩
  cases k with
  | zero => cases e'
  | succ k =>
    obtain ⟨c, e₁, e₂⟩ := Option.bind_eq_some_iff.mp e'
    refine ht R O F' e₁ fun h' tk' k' => ?_
    cases c with
    | false =>
      cases e₂
      exact wpAny_execs_nil (h1 _ _ _ rfl (F'.keeps k') (kx.trans (ext_of k')))
    | true =>
      simp only [if_true] at e₂ ⊢
      unfold andThen at e₂
      split at e₂
      · rename_i ρ₂ e₃
        refine hb R O (F'.keeps k') e₃ (fun ρ₃ h₃ tk₃ q F₃ k₃ => ?_) (fun d v h tk q => by cases q)
        cases q
        exact ⟨k, Nat.lt_succ_self _, _, h₃, tk₃, rfl, F₃, kx.trans ((ext_of k').trans k₃), e₂⟩
      · rename_i d e₃
        cases e₂
        refine hb R O (F'.keeps k') e₃ (fun ρ₃ h₃ tk₃ q => by cases q) fun d v h₃ tk₃ q k₃ r => ?_
        cases q
        exact h2 _ _ _ _ rfl (kx.trans ((ext_of k').trans k₃)) r
      · cases e₂

/-! try whose body does not raise -/
theorem SSem.tryOk {b h₀ hs g pos} (hb : BSem W n sc tab b g) : SSem W n sc tab (.Try b (h₀ :: hs) [] [] pos) g := by
  intro A as env s ρ fl Q E R O F e h1 h2
  refine wpAny_Try_except (hb R O F e (fun ρ₃ h' tk' q F₃ k' => wpAny_execs_nil (h1 _ _ _ q F₃ k')) fun d v h' tk' q k' r => h2 _ _ _ _ q k' r)
end
end Mine

namespace Mine
set_option autoImplicit false

/-! iterators over lists and tuples -/
def SeqIs (tp : Bool) (h : Heap) (a : Addr) (items : Array Value) : Prop := if tp = true then IsTup h a items else h.IsList a items
def IterIs (tp : Bool) (h : Heap) (it a : Addr) (j : Nat) : Prop := if tp = true then IsTupIter h it a j else h.IsListIter it a j

section
variable {W : Wd} {n : Nat} {sc : Scope} {tab : List Str}

theorem SeqIs.ext {tp h h' a b items} (x : SeqIs tp h a items) (k : Heap.ExtBut b h h') (hab : a ≠ b) : SeqIs tp h' a items := by
  cases tp with
  | true => exact IsTup.extBut (show IsTup h a items from x) k hab
  | false => exact Heap.IsList.extBut (show h.IsList a items from x) k hab
theorem SeqIs.seq {tp h a items} (x : SeqIs tp h a items) : ∃ o n, h.get? a = some o ∧ o.data = .seq items n := by
  cases tp with
  | true => obtain ⟨o, e, _, n, d⟩ := (show IsTup h a items from x); exact ⟨o, n, e, d⟩
  | false => obtain ⟨o, e, _, n, d⟩ := (show h.IsList a items from x); exact ⟨o, n, e, d⟩
theorem IterIs.fields {tp h it a j} (x : IterIs tp h it a j) : ∃ o vs, h.get? it = some o ∧ o.data = .fields vs := by
  cases tp with
  | true => obtain ⟨o, e, _, d⟩ := (show IsTupIter h it a j from x); exact ⟨o, _, e, d⟩
  | false => obtain ⟨o, e, _, d⟩ := (show h.IsListIter it a j from x); exact ⟨o, _, e, d⟩
theorem IterIs.ext {tp h h' it a b j} (x : IterIs tp h it a j) (k : Heap.ExtBut b h h') (hab : it ≠ b) : IterIs tp h' it a j := by
  cases tp with
  | true => obtain ⟨o, e, r⟩ := (show IsTupIter h it a j from x); exact ⟨o, k _ _ hab e, r⟩
  | false => exact Heap.IsListIter.extBut (show h.IsListIter it a j from x) k hab
theorem iter_seq {tp A s a items} {Q : Value → Shared → Prop} {E : Value → Shared → Prop} (x : SeqIs tp s.heap a items)
    (h : ∀ o, o.isFreed = false → IterIs tp (s.heap.push o) s.heap.objs.size a 0 → Q (.ref s.heap.objs.size) { s with heap := s.heap.push o }) : wpAny W.M A (pyIter (.ref a)) Q E s := by
  cases tp with
  | true => exact iter_tuple (show IsTup s.heap a items from x) (h _ rfl ⟨_, Heap.get?_push_size _ rfl, rfl, rfl⟩)
  | false => exact wpAny_pyIter_list (show s.heap.IsList a items from x) (h _ rfl ⟨_, Heap.get?_push_size _ rfl, rfl, rfl⟩)
theorem iter_again {tp A s it a j} {Q : Value → Shared → Prop} {E : Value → Shared → Prop} (x : IterIs tp s.heap it a j) (h : Q (.ref it) s) : wpAny W.M A (pyIter (.ref it)) Q E s := by
  cases tp with
  | true => exact wpAny_pyIter_tupleiter (show IsTupIter s.heap it a j from x) h
  | false => exact wpAny_pyIter_listiter (show s.heap.IsListIter it a j from x) h
theorem next_item {tp A s it a j items x} {Q : Option Value → Shared → Prop} {E : Value → Shared → Prop} (hit : IterIs tp s.heap it a j) (ht : SeqIs tp s.heap a items) (hx : items[j]? = some x)
    (h : ∀ h', IterIs tp h' it a (j + 1) → Heap.SameBut it s.heap h' → Q (some x) { s with heap := h' }) : wpAny W.M A (pyNext (.ref it)) Q E s := by
  cases tp with
  | true => exact next_tuple_item (show IsTupIter s.heap it a j from hit) (show IsTup s.heap a items from ht) hx h
  | false => exact wpAny_pyNext_list_item (show s.heap.IsListIter it a j from hit) (show s.heap.IsList a items from ht) hx h
theorem next_end {tp A s it a j items} {Q : Option Value → Shared → Prop} {E : Value → Shared → Prop} (hh : A.handled = none) (hit : IterIs tp s.heap it a j) (ht : SeqIs tp s.heap a items) (hx : items[j]? = none)
    (h : ∀ h', Heap.ExtBut it s.heap h' → Q none { s with heap := h' }) : wpAny W.M A (pyNext (.ref it)) Q E s := by
  cases tp with
  | true => exact next_tuple_end hh (show IsTupIter s.heap it a j from hit) (show IsTup s.heap a items from ht) hx h
  | false => exact wpAny_pyNext_list_end hh (show s.heap.IsListIter it a j from hit) (show s.heap.IsList a items from ht) hx h

/-! more or fewer things hidden -/
theorem V_mono {as as' : List Addr} {h : Heap} (k : ∀ a, a ∈ as → a ∈ as') : (V as' h).StaysIn (V as h) := fun b _ e => V_in (V_sub _ _ e) fun m => V_not e (k b m)
theorem V_at {as : List Addr} {h h' : Heap} {a : Addr} (ha : a ∈ as) (k : Heap.ExtBut a h h') : (V as h).StaysIn (V as h') := fun b _ e => V_in (k _ _ (fun q => V_not e (q ▸ ha)) (V_sub _ _ e)) (V_not e)
theorem V_cons {as : List Addr} {h h' : Heap} {a : Addr} (k : h.StaysIn h') (ha : h.get? a = none) : (V as h).StaysIn (V (a :: as) h') := fun b _ e => V_in (k _ _ (V_sub _ _ e)) fun m => by
  rcases List.mem_cons.mp m with rfl | m
  · rw [V_sub _ _ e] at ha; cases ha
  · exact V_not e m
theorem Rep.view {as as' : List Addr} {h h' : Heap} {v d} (r : Rep as h v d) (k : (V as h).StaysIn (V as' h')) : Rep as' h' v d := r.seqs (Seqs.of_stays k)
theorem RepAll.view {as as' : List Addr} {h h' : Heap} {v d} (r : RepAll as h v d) (k : (V as h).StaysIn (V as' h')) : RepAll as' h' v d := r.seqs (Seqs.of_stays k)
theorem FrOk.view {env as as' h h' ρ} (F : FrOk W env tab as h ρ) (k : (V as h).StaysIn (V as' h')) (ha : As as' h') : FrOk W env tab as' h' ρ := by
  obtain ⟨_, h₀, m, g, F, v⟩ := F
  refine ⟨ha, h₀, m, g, F.keeps k, fun i x d e1 e2 => ?_⟩
  obtain ⟨v, r, hv⟩ := v i x d e1 e2
  exact ⟨v, r.view k, hv.imp id fun ⟨a, c, b, o, ho, hd⟩ => ⟨a, c, b, o, k _ _ ho, hd⟩⟩
theorem As.cons {as : List Addr} {h h' : Heap} {a : Addr} (x : As as h) (k : h.StaysIn h') (ha : ∃ o, h'.get? a = some o) : As (a :: as) h' := fun b m => by
  rcases List.mem_cons.mp m with rfl | m
  · exact ha
  · exact x.keeps k b m
theorem As.tail {as : List Addr} {h : Heap} {a : Addr} (x : As (a :: as) h) : As as h := fun b m => x b (.tail _ m)
theorem As.at {as : List Addr} {h h' : Heap} {a : Addr} (x : As as h) (k : Heap.ExtBut a h h') (ha : ∃ o, h'.get? a = some o) : As as h' := fun b m => by
  by_cases q : b = a
  · subst q; exact ha
  · obtain ⟨o, e⟩ := x b m; exact ⟨o, k _ _ q e⟩
theorem get_none_size {h : Heap} : h.get? h.objs.size = none := by
  cases e : h.get? h.objs.size with
  | none => rfl
  | some o => exact absurd (Heap.lt_size e) (Nat.lt_irrefl _)
theorem FrOk.real {env as h ρ} (F : FrOk W env tab as h ρ) : ∃ o es ep, h.get? env.locals = some o ∧ o.data = .dict es ep := let ⟨_, o, es, ep, e, d, _⟩ := F.ns; ⟨o, es, ep, V_sub _ _ e, d⟩

/-! for -/
def floop (i : Nat) (b : St → Option Fl) : List D → St → Option Fl
  | [], ρ => some (.nxt ρ)
  | d :: r, ρ => andThen (b (up ρ i d)) (floop i b r)
def dFor (i : Nat) (b : St → Option Fl) (ρ : St) : D → Option Fl
  | .lst l => floop i b l ρ
  | _ => none
theorem SSem.for {x p iter f b g pos} (i : Nat) (hi : ESem W n sc tab iter f) (hb : BSem W n sc tab b g) (hn : tab.Nodup) (hx : tab[i]? = some x := by rfl) (hl : sc.names.lookup x = some .local := by rfl)
    (hs : ∀ env x, foldedSetIterable iter env x = pure x := by intro _ _; rfl) :
    SSem W n sc tab (.For (.Name x p) iter b [] pos) (fun ρ => (f ρ).bind (dFor i g ρ)) := by
  intro A as env s ρ fl Q E R O F e h1 h2
  obtain ⟨d, e₁, e⟩ := Option.bind_eq_some_iff.mp e
  refine wpAny_For (hi R O F e₁ fun v h tk k r => ?_) (hs env)
  cases d <;> (first | (cases e; done) | skip)
  rename_i ds
  have e : floop i g ds ρ = some fl := e
  obtain ⟨ax, items, rfl, hl', ra⟩ := r.asList
  have F₀ := F.keeps k
  have hne : ax ≠ env.locals := by
    rintro rfl
    obtain ⟨o, es, ep, e1, e2⟩ := F₀.real
    obtain ⟨o', e3, _, _, e4⟩ := hl'
    rw [e1] at e3; cases e3; rw [e2] at e4; cases e4
  have hlt : ax < h.objs.size := by obtain ⟨_, e, _⟩ := hl'; exact Heap.lt_size e
  refine iter_seq (tp := false) (s := { s with heap := h, toks := tk }) hl' fun o hf hit => ?_
  have kp : h.StaysIn (h.push o) := stays_push o
  have kv : (V as h).StaysIn (V (h.objs.size :: as) (h.push o)) := V_cons kp get_none_size
  have F₁ : FrOk W env tab (h.objs.size :: as) (h.push o) ρ := F₀.view kv (F₀.as.cons kp ⟨_, Heap.get?_push_size _ hf⟩)
  have hIL : h.objs.size ≠ env.locals := by
    obtain ⟨o, es, ep, e1, e2⟩ := F₀.real
    exact Nat.ne_of_gt (Heap.lt_size e1)
  refine codeAny_forLoop (fun c s' => ∃ ρ' h' tk j ds', s' = { s with heap := h', toks := tk } ∧ FrOk W env tab (h.objs.size :: as) h' ρ' ∧ IterIs false h' h.objs.size ax j ∧ SeqIs false h' ax items ∧ RepAll (h.objs.size :: as) h' (items.toList.drop j) ds' ∧
      (∀ b o, b ≠ env.locals → b ≠ h.objs.size → h.get? b = some o → h'.get? b = some o) ∧ floop i g ds' ρ' = some fl ∧ c = ds'.length) ?_ ds.length
      ⟨ρ, _, tk, 0, ds, rfl, F₁, hit, hl'.push _, by rw [List.drop_zero]; exact ra.view kv, fun b o _ _ e => kp _ _ e, e, rfl⟩
  rintro c s' ⟨ρ', h', tk', j, ds', rfl, F', hit', hl2, ra', kx, e', rfl⟩
  cases hds : items.toList.drop j with
  | nil =>
    rw [hds] at ra'
    cases ra'
    cases e'
    refine next_end (tp := false) R.handled hit' hl2 (by rw [← Array.getElem?_toList]; simpa using hds) fun h₁ he₁ => wpAny_execs_nil ?_
    refine h1 _ _ tk' rfl (F'.view (fun b o e => V_in (he₁ _ _ (fun q => V_not e (q ▸ .head _)) (V_sub _ _ e)) fun m => V_not e (.tail _ m)) ?_) fun b o hb e => ?_
    · intro b m
      obtain ⟨o, e⟩ := F₀.as b m
      have hb : b ≠ h.objs.size := Nat.ne_of_lt (Heap.lt_size e)
      have hbL : b ≠ env.locals := by
        rintro rfl
        obtain ⟨m', n'⟩ := F₀.ns
        exact Ns_not n' m
      exact ⟨o, he₁ _ _ hb (kx b o hbL hb e)⟩
    · have e := k _ _ e
      have hb' : b ≠ h.objs.size := Nat.ne_of_lt (Heap.lt_size e)
      exact he₁ _ _ hb' (kx b o hb hb' e)
  | cons v vs =>
    rw [hds] at ra'
    cases ra' with
    | cons a ra' =>
      have hj : items[j]? = some v := by
        rw [← Array.getElem?_toList]
        have := congrArg (·[0]?) hds
        simpa using this
      have hd2 : items.toList.drop (j + 1) = vs := by rw [← List.drop_drop, hds]; rfl
      refine next_item (tp := false) hit' hl2 hj fun h₁ hit₁ hs₁ => ?_
      have kv₁ : (V (h.objs.size :: as) h').StaysIn (V (h.objs.size :: as) h₁) := V_at (.head _) hs₁.extBut
      have A₁ : As (h.objs.size :: as) h₁ := F'.as.at hs₁.extBut (let ⟨o, _, e, _⟩ := hit₁.fields; ⟨o, e⟩)
      refine wpAny_assign_Name (store_ok O (F'.view kv₁ A₁) (a.view kv₁) hx hn hl fun h₂ tk₂ F₂ k₂ => ?_)
      have e' : andThen (g (up ρ' i _)) (floop i g _) = some fl := e'
      have ra₂ := (ra'.view kv₁).ext (F'.view kv₁ A₁) k₂
      have kx₂ : ∀ b o, b ≠ env.locals → b ≠ h.objs.size → h.get? b = some o → h₂.get? b = some o := fun b o hb hb' e => k₂ _ _ hb (hs₁.extBut _ _ hb' (kx b o hb hb' e))
      have l₁ : SeqIs false h₁ ax items := hl2.ext hs₁.extBut (Nat.ne_of_lt hlt)
      unfold andThen at e'
      split at e'
      · rename_i ρ₂ e₃
        refine hb R O F₂ e₃ (fun ρ₃ h₃ tk₃ q F₃ k₃ => ?_) (fun d v h tk q => by cases q)
        cases q
        refine ⟨_, Nat.lt_succ_self _, _, h₃, tk₃, j + 1, _, rfl, F₃, (hit₁.ext k₂ hIL).ext k₃ hIL, (l₁.ext k₂ hne).ext k₃ hne, hd2 ▸ ra₂.ext F₂ k₃, fun b o hb hb' e => k₃ _ _ hb (kx₂ b o hb hb' e), e', rfl⟩
      · rename_i d e₃
        cases e'
        refine hb R O F₂ e₃ (fun ρ₃ h₃ tk₃ q => by cases q) fun d v h₃ tk₃ q k₃ r => ?_
        cases q
        refine h2 _ _ _ _ rfl (fun b o hb e => ?_) (r.view (V_mono fun a m => .tail _ m))
        have e := k _ _ e
        exact k₃ _ _ hb (kx₂ b o hb (Nat.ne_of_lt (Heap.lt_size e)) e)
      · cases e'
end
end Mine

namespace Mine
set_option autoImplicit false

structure ASem (W : Wd) (n : Nat) (sc : Scope) (tab : List Str) (tgt : Expr) (asg : St → D → Option St) : Prop where
  go : ∀ {tp A as s it a j v ρ d ρ'} {Q : Unit → Shared → Prop} {E : Value → Shared → Prop}, IterIs tp s.heap it a j → Rep as s.heap v d → asg ρ d = some ρ' → Q () s → wpAny W.M A (letOwnedTupleGo tgt (.ref it) v) Q E s
  run : ∀ {A as env s v ρ d ρ'} {Q : Unit → Shared → Prop} {E : Value → Shared → Prop}, Room n A → EnvOk sc env → FrOk W env tab as s.heap ρ → Rep as s.heap v d → asg ρ d = some ρ' →
    (∀ h tk, FrOk W env tab as h ρ' → Heap.ExtBut env.locals s.heap h → Q () { s with heap := h, toks := tk }) → wpAny W.M A (assign tgt env v) Q E s

section
variable {W : Wd} {n : Nat} {sc : Scope} {tab : List Str}

theorem ASem.name {x p} (i : Nat) (hn : tab.Nodup) (hi : tab[i]? = some x := by rfl) (hx : sc.names.lookup x = some .local := by rfl) : ASem W n sc tab (.Name x p) (fun ρ d => some (up ρ i d)) where
  go := by
    intro tp A as s it a j v ρ d ρ' Q E hit r e h
    exact wpAny_pure h
  run := by
    intro A as env s v ρ d ρ' Q E R O F r e h
    cases e
    exact wpAny_assign_Name (store_ok O F r hi hn hx h)

theorem go_tup {tp A s it a j t} {elts : List Expr} {k : Nat} {pos : Pos} {Q : Unit → Shared → Prop} {E : Value → Shared → Prop} (hit : IterIs tp s.heap it a j) (h : Q () s) : wpAny W.M A (letOwnedTupleGo (.Tuple elts k pos) (.ref it) (.ref t)) Q E s := by
  cases tp with
  | false => exact wpAny_letOwnedTupleGo_listiter (show s.heap.IsListIter it a j from hit) h
  | true =>
    obtain ⟨o, ho, hc, hd⟩ := (show IsTupIter s.heap it a j from hit)
    unfold letOwnedTupleGo
    refine wpAny_bind (wpAny_load ho ?_)
    rw [hc, hd]
    show wpAny _ A (if (["enumerate", "zip", "dict_itemiterator", "dict_reverseitemiterator", "odict_iterator", "itertools.zip_longest", "itertools.pairwise"].contains "tuple_iterator" &&
      (#[.ref a, .int j 0] : Array Value)[0]? == some (rawInt t)) = true then _ else _) Q E s
    rw [if_neg (by
      intro h
      rw [show (["enumerate", "zip", "dict_itemiterator", "dict_reverseitemiterator", "odict_iterator", "itertools.zip_longest", "itertools.pairwise"].contains "tuple_iterator") = false from by decide, Bool.false_and] at h
      cases h)]
    exact wpAny_pure h

theorem ASem.tup {es k p is} (t : Tgts sc tab es is) (hn : tab.Nodup) : ASem W n sc tab (.Tuple es k p) (fun ρ d => dUnpack ρ is d) where
  go := by
    intro tp A as s it a j v ρ d ρ' Q E hit r e h
    cases r <;> (first | (cases e; done) | skip)
    exact go_tup hit h
  run := by
    intro A as env s v ρ d ρ' Q E R O F r e h
    cases d <;> (first | (cases e; done) | skip)
    simp only [dUnpack] at e
    split at e
    · rename_i c
      cases e
      obtain ⟨a, vs, rfl, ht, ra⟩ := r.asTup
      have hl : vs.size = is.length := by rw [← Array.length_toList, ra.length, c]
      refine assign_Tuple_tuple R.handled ht (t.length.trans hl.symm) t.star fun h' he' => ?_
      have k' : s.heap.StaysIn h' := fun b o e => he' b o (Nat.ne_of_lt (Heap.lt_size e)) e
      refine t.run O hn (F.keeps k') (ra.keeps k') (by rw [ra.length, c]) fun h'' tk'' F'' k'' => ?_
      exact h _ _ F'' ((ext_of k').trans k'')
    · cases e

def cloop (asg : St → D → Option St) (g : St → Option D) : List D → St → Option (List D × St)
  | [], ρ => some ([], ρ)
  | d :: r, ρ => (asg ρ d).bind fun ρ' => (g ρ').bind fun e => (cloop asg g r ρ').map fun p => (e :: p.1, p.2)

/-- the last clause's loop -/
theorem comp_last {A R s env elt tgt gens scope pos dp tp It acc ax as asg g ρ ρ' ds dys items ys out} {ipos : Pos}
    (heq : ∀ it acc, compTurn (.ListComp elt gens scope pos) dp it acc env = (standAt ipos >>= fun _ => pyNext it >>= fun r => match r with
      | none => pure (.done .next)
      | some v => letOwnedTupleGo tgt it v >>= fun _ => assign tgt env v >>= fun _ =>
        (eval elt env >>= fun x => call (.builtin "list.append") [acc, x] >>= fun _ => pure ()) >>= fun _ =>
          again (.compLoop (.ListComp elt gens scope pos) dp it acc env)))
    (Rm : Room n A) (O : EnvOk sc env) (hE : ESem W n sc tab elt g) (hA : ASem W n sc tab tgt asg)
    (F : FrOk W env tab (It :: as) s.heap ρ) (hit : IterIs tp s.heap It ax 0) (hsrc : SeqIs tp s.heap ax items) (hd1 : ax ≠ It) (hd2 : ax ≠ acc) (hd3 : acc ≠ It) (hacc : acc ∈ as) (hni : It ∉ as)
    (ra : RepAll (It :: as) s.heap items.toList ds) (hl : s.heap.IsList acc ys) (ry : RepAll (It :: as) s.heap ys.toList dys) (e : cloop asg g ds ρ = some (out, ρ')) (hsz : dys.length + ds.length ≤ 10000)
    (h : ∀ h tk ys', FrOk W env tab as h ρ' → h.IsList acc ys' → RepAll as h ys'.toList (dys ++ out) → (∀ b o, b ≠ It → b ≠ acc → b ≠ env.locals → s.heap.get? b = some o → h.get? b = some o) → R (.ok .next) { s with heap := h, toks := tk }) :
    codeAny W.M A (.compLoop (.ListComp elt gens scope pos) dp (.ref It) (.ref acc) env) R s := by
  have hL : It ≠ env.locals ∧ acc ≠ env.locals ∧ ax ≠ env.locals := by
    obtain ⟨o, es, ep, e1, e2⟩ := F.real
    refine ⟨?_, ?_, ?_⟩
    · rintro rfl
      obtain ⟨o', vs, e3, e4⟩ := hit.fields
      rw [e1] at e3; cases e3; rw [e2] at e4; cases e4
    · rintro rfl
      obtain ⟨o', e3, _, _, e4⟩ := hl
      rw [e1] at e3; cases e3; rw [e2] at e4; cases e4
    · rintro rfl
      obtain ⟨o', _, e3, e4⟩ := hsrc.seq
      rw [e1] at e3; cases e3; rw [e2] at e4; cases e4
  refine codeAny_loop rfl (fun c s' => ∃ ρ₁ h' tk j ds' dys' ys' out', s' = { s with heap := h', toks := tk } ∧ FrOk W env tab (It :: as) h' ρ₁ ∧ IterIs tp h' It ax j ∧ SeqIs tp h' ax items ∧ RepAll (It :: as) h' (items.toList.drop j) ds' ∧
      h'.IsList acc ys' ∧ RepAll (It :: as) h' ys'.toList dys' ∧ cloop asg g ds' ρ₁ = some (out', ρ') ∧ dys' ++ out' = dys ++ out ∧ dys'.length + ds'.length ≤ 10000 ∧
      (∀ b o, b ≠ It → b ≠ acc → b ≠ env.locals → s.heap.get? b = some o → h'.get? b = some o) ∧ c = ds'.length) ?_ ds.length
      ⟨ρ, _, s.toks, 0, ds, dys, ys, out, rfl, F, hit, hsrc, by rw [List.drop_zero]; exact ra, hl, ry, e, rfl, hsz, fun b o _ _ _ e => e, rfl⟩
  rintro c s' ⟨ρ₁, h', tk', j, ds', dys', ys', out', rfl, F', hit', hl2, ra', hlst, ry', e', hout, hsz', kx, rfl⟩
  show wpAny _ A ((compTurn (.ListComp elt gens scope pos) dp (.ref It) (.ref acc) env).onRaise (fun x => do noteFrame x env; theTreesLotGoes x)) _ _ _
  refine wpAny_noted ?_
  rw [heq]
  refine wpAny_bind (wpAny_standAt (wpAny_bind ?_))
  cases hds : items.toList.drop j with
  | nil =>
    rw [hds] at ra'
    cases ra'
    cases e'
    refine next_end Rm.handled hit' hl2 (by rw [← Array.getElem?_toList]; simpa using hds) fun h₁ he₁ => wpAny_pure ?_
    have kv : (V (It :: as) h').StaysIn (V as h₁) := fun b o e => V_in (he₁ _ _ (fun q => V_not e (q ▸ .head _)) (V_sub _ _ e)) fun m => V_not e (.tail _ m)
    rw [List.append_nil] at hout
    subst hout
    refine h _ tk' ys' (F'.view kv ?_) (hlst.extBut he₁ hd3) (ry'.view kv) fun b o hb hb' hb'' e => he₁ _ _ hb (kx b o hb hb' hb'' e)
    intro b m
    obtain ⟨o, e⟩ := F'.as b (.tail _ m)
    exact ⟨o, he₁ _ _ (fun q => hni (q ▸ m)) e⟩
  | cons v vs =>
    rw [hds] at ra'
    cases ra' with
    | cons a ra' =>
      rename_i d₁ ds₁
      have hj : items[j]? = some v := by
        rw [← Array.getElem?_toList]
        have := congrArg (·[0]?) hds
        simpa using this
      have hd2' : items.toList.drop (j + 1) = vs := by rw [← List.drop_drop, hds]; rfl
      obtain ⟨ρ₂, e₁, e'⟩ := Option.bind_eq_some_iff.mp e'
      obtain ⟨y, e₂, e'⟩ := Option.bind_eq_some_iff.mp e'
      obtain ⟨⟨out₁, ρ₃⟩, e₃, e'⟩ := Option.map_eq_some_iff.mp e'
      cases e'
      refine next_item hit' hl2 hj fun h₁ hit₁ hs₁ => ?_
      have kv₁ : (V (It :: as) h').StaysIn (V (It :: as) h₁) := V_at (.head _) hs₁.extBut
      have A₁ : As (It :: as) h₁ := F'.as.at hs₁.extBut (let ⟨o, _, e, _⟩ := hit₁.fields; ⟨o, e⟩)
      have F₁ := F'.view kv₁ A₁
      refine wpAny_bind (hA.go hit₁ (a.view kv₁) e₁ ?_)
      refine wpAny_bind (hA.run Rm O F₁ (a.view kv₁) e₁ fun h₂ tk₂ F₂ k₂ => ?_)
      refine wpAny_bind (wpAny_bind (hE Rm O F₂ e₂ fun x h₃ tk₃ k₃ r₃ => wpAny_bind ?_))
      have l₃ : h₃.IsList acc ys' := ((hlst.extBut hs₁.extBut hd3).extBut k₂ hL.2.1).at fun o e => k₃ _ _ e
      have ryl := ry'.length
      refine wpAny_list_append l₃ (fun h₄ hl₄ hs₄ => wpAny_pure (wpAny_pure ⟨rfl, ds₁.length, Nat.lt_succ_self _, ?_⟩)) (by rw [sizeLine_eq]; rw [Array.length_toList] at ryl; simp only [List.length_cons] at hsz'; omega)
      have kv₃ : (V (It :: as) h₃).StaysIn (V (It :: as) h₄) := V_at (.tail _ hacc) hs₄.extBut
      have F₃ := F₂.keeps k₃
      have A₄ : As (It :: as) h₄ := F₃.as.at hs₄.extBut (let ⟨o, e, _⟩ := hl₄; ⟨o, e⟩)
      refine ⟨ρ₂, h₄, tk₃, j + 1, ds₁, dys' ++ [y], ys'.push x, out₁, rfl, F₃.view kv₃ A₄, ?_, ?_, ?_, hl₄, ?_, e₃, by rw [← hout]; simp, by simp only [List.length_append, List.length_cons, List.length_nil] at hsz' ⊢; omega, ?_, rfl⟩
      · exact ((hit₁.ext k₂ hL.1).ext (ext_of (L := env.locals) k₃) hL.1).ext hs₄.extBut (Ne.symm hd3)
      · exact (((hl2.ext hs₁.extBut hd1).ext k₂ hL.2.2).ext (ext_of (L := env.locals) k₃) hL.2.2).ext hs₄.extBut hd2
      · rw [hd2']
        exact (((ra'.view kv₁).ext F₁ k₂).keeps k₃).view kv₃
      · rw [Array.toList_push]
        exact ((((ry'.view kv₁).ext F₁ k₂).keeps k₃).view kv₃).append (.cons (r₃.view kv₃) .nil)
      · intro b o hb hb' hb'' e
        exact hs₄.extBut _ _ hb' (k₃ _ _ (k₂ _ _ hb'' (hs₁.extBut _ _ hb (kx b o hb hb' hb'' e))))

theorem Rep.hideNs {as h C m v d} (n : Heap.Ns h C m) (r : Rep as h v d) : Rep (C :: as) h v d := r.seqs fun a o vs c e q => V_in (V_sub _ _ e) fun mm => by
  rcases List.mem_cons.mp mm with rfl | mm
  · obtain ⟨o', es, ep, e', d', _⟩ := n
    rw [V_sub _ _ e] at e'; cases e'; rw [q] at d'; cases d'
  · exact V_not e mm

def dSeq : D → Option (List D)
  | .lst l => some l
  | .tup l => some l
  | _ => none
theorem Rep.asSeq {as h v src ds} (r : Rep as h v src) (e : dSeq src = some ds) : ∃ tp a items, v = .ref a ∧ SeqIs tp h a items ∧ RepAll as h items.toList ds := by
  cases src <;> (first | (cases e; done) | skip)
  · cases e
    obtain ⟨a, vs, rfl, h, r⟩ := r.asTup
    exact ⟨true, _, _, rfl, h, r⟩
  · cases e
    obtain ⟨a, vs, rfl, h, r⟩ := r.asList
    exact ⟨false, _, _, rfl, h, r⟩

/-- what stands when a comprehension's own frame has been made -/
structure CompIn (W : Wd) (sc' : Scope) (tab' : List Str) (as : List Addr) (h₀ h : Heap) (cenv : Env) (It acc : Addr) (tp : Bool) (ax : Addr) (items : Array Value) (ds : List D) (ρ₀ : St) : Prop where
  env : EnvOk sc' cenv
  fr : FrOk W cenv tab' (It :: acc :: as) h ρ₀
  it : IterIs tp h It ax 0
  src : SeqIs tp h ax items
  d1 : ax ≠ It
  d2 : ax ≠ acc
  d3 : acc ≠ It
  d4 : It ≠ cenv.locals ∧ acc ≠ cenv.locals ∧ ax ≠ cenv.locals
  ra : RepAll (It :: acc :: as) h items.toList ds
  lst : h.IsList acc #[]
  stays : h₀.StaysIn h
  ni : It ∉ as
  na : acc ∉ as
  f1 : h₀.get? It = none
  f2 : h₀.get? acc = none
  f3 : h₀.get? cenv.locals = none
  ax : ∃ o, h₀.get? ax = some o

theorem comp_enter {A env as s ρ v src ds elt tgt iter rest scope pos cl sc' tab' ρ₀} {E : Value → Shared → Prop} {RR : Value → Addr → Result → Shared → Prop}
    (O : EnvOk sc env) (F : FrOk W env tab as s.heap ρ) (r : Rep as s.heap v src) (hsrc : dSeq src = some ds)
    (hrl : ∀ env, env.scope = sc → relabel scope env = sc') (hk : scope.kind = .function) (hk' : sc'.kind = .function) (hcell : ∀ x ∈ scope.names, x.2 ≠ .cell)
    (hinit : ∀ i x d, tab'[i]? = some x → gt ρ₀ i = some d → sc'.names.lookup x = some .cell ∧ ∃ v c, cl.lookup x = some c ∧ (V as s.heap).IsCell c (some v) ∧ Rep as s.heap v d)
    (h : ∀ h tk It acc tp ax items C, CompIn W sc' tab' as s.heap h (compEnvC scope cl C env) It acc tp ax items ds ρ₀ →
      codeAny W.M A (.compLoop (.ListComp elt (⟨tgt, iter, [], 0⟩ :: rest) scope pos) 0 (.ref It) (.ref acc) (compEnvC scope cl C env)) (RR (.ref acc) C) { s with heap := h, toks := tk }) :
    wpAny W.M A (pyIter v) (fun it s₂ => wpAny W.M A (newList []) (fun acc s₃ => wpAny W.M A (newFunctionEnv scope env.globals cl [] env.qual none .none (some env)) (fun cenv s₄ =>
      codeAny W.M A (.compStart (.ListComp elt (⟨tgt, iter, [], 0⟩ :: rest) scope pos) 0 it acc { cenv with scope := relabel scope env }) (RR acc cenv.locals) s₄) E s₃) E s₂) E s := by
  obtain ⟨tp, ax, items, rfl, hsq, ra⟩ := r.asSeq hsrc
  obtain ⟨oax, _, eax, _⟩ := hsq.seq
  have hax := ltN (Heap.lt_size eax)
  refine iter_seq hsq fun o hf hit => ?_
  refine wpAny_newObj_type (wpAny_newFunctionEnv hcell (by intro y hy; simp at hy) (fun h₁ hns₁ hsb₁ => ?_) hk)
  dsimp only at hns₁ hsb₁ ⊢
  generalize hH1 : s.heap.push o = H1 at hns₁ hsb₁ hit ⊢
  have z1 : H1.objs.size = s.heap.objs.size + 1 := by rw [← hH1, Heap.size_push]
  generalize hH2 : H1.push { cls := .type "list", dict := none, data := .seq ([] : List Value).toArray } = H2 at hns₁ hsb₁ ⊢
  have z2 : H2.objs.size = s.heap.objs.size + 2 := by rw [← hH2, Heap.size_push, z1]
  have k1 : s.heap.StaysIn H1 := hH1 ▸ stays_push o
  have k2 : H1.StaysIn H2 := hH2 ▸ stays_push _
  have k3 : H2.StaysIn h₁ := fun b x e => hsb₁.extBut b x (Nat.ne_of_lt (Heap.lt_size e)) (Heap.get?_push_of_some _ e)
  have k : s.heap.StaysIn h₁ := stays_trans k1 (stays_trans k2 k3)
  have eIt : ∃ o, H1.get? s.heap.objs.size = some o := ⟨o, hH1 ▸ Heap.get?_push_size _ hf⟩
  have n1 : s.heap.objs.size ∉ as := fun m => by obtain ⟨x, e⟩ := F.as _ m; exact Nat.lt_irrefl _ (Heap.lt_size e)
  have n2 : H1.objs.size ∉ as := fun m => by obtain ⟨x, e⟩ := F.as _ m; have := ltN (Heap.lt_size e); omega
  have n3 : H2.objs.size ∉ as := fun m => by obtain ⟨x, e⟩ := F.as _ m; have := ltN (Heap.lt_size e); omega
  have g1 : s.heap.get? H1.objs.size = none := by
    cases e : s.heap.get? H1.objs.size with
    | none => rfl
    | some x => have := ltN (Heap.lt_size e); omega
  have g2 : s.heap.get? H2.objs.size = none := by
    cases e : s.heap.get? H2.objs.size with
    | none => rfl
    | some x => have := ltN (Heap.lt_size e); omega
  have kv : (V as s.heap).StaysIn (V (s.heap.objs.size :: H1.objs.size :: as) h₁) := fun b x e => V_in (k _ _ (V_sub _ _ e)) fun m => by
    have hb := ltN (Heap.lt_size (V_sub _ _ e))
    rcases List.mem_cons.mp m with q | m
    · exact absurd q (neN (by omega))
    · rcases List.mem_cons.mp m with q | m
      · exact absurd q (neN (by omega))
      · exact V_not e m
  have hacc : h₁.IsList H1.objs.size #[] := ⟨_, k3 _ _ (hH2 ▸ Heap.get?_push_size H1 rfl), rfl, _, rfl⟩
  have hit' : IterIs tp h₁ s.heap.objs.size ax 0 := (hit.ext (b := H2.objs.size) (ext_of k2) (neN (by omega))).ext (b := H2.objs.size) (ext_of k3) (neN (by omega))
  have hO : EnvOk sc' (compEnvC scope cl H2.objs.size env) := ⟨hrl env O.scope, hk', O.globals, O.builtins⟩
  have hF : FrOk W (compEnvC scope cl H2.objs.size env) tab' (s.heap.objs.size :: H1.objs.size :: as) h₁ ρ₀ := by
    refine ⟨fun b m => ?_, V as s.heap, _, F.gd, ⟨Ns_V hns₁ fun m => ?_, kv, ?_⟩, fun i x d e1 e2 => ?_⟩
    · rcases List.mem_cons.mp m with rfl | m
      · obtain ⟨x, e⟩ := eIt; exact ⟨x, k3 _ _ (k2 _ _ e)⟩
      · rcases List.mem_cons.mp m with rfl | m
        · obtain ⟨x, e, _⟩ := hacc; exact ⟨x, e⟩
        · exact F.as.keeps k b m
    · have m : H2.objs.size ∈ s.heap.objs.size :: H1.objs.size :: as := m
      rcases List.mem_cons.mp m with e | m
      · exact absurd e (neN (by omega))
      · rcases List.mem_cons.mp m with e | m
        · exact absurd e (neN (by omega))
        · exact n3 m
    · show (V as s.heap).objs.size ≤ H2.objs.size
      rw [hideAll_size, z2]; omega
    · obtain ⟨q1, v, c, q2, q3, q4⟩ := hinit i x d e1 e2
      obtain ⟨oc, q3, q3'⟩ := q3
      exact ⟨v, q4.view kv, .inr ⟨by show (relabel scope env).names.lookup x = _; rw [hrl env O.scope]; exact q1, c, q2, oc, kv _ _ q3, q3'⟩⟩
  have fin := h h₁ (s.toks + ([] : List (Str × Value)).length) s.heap.objs.size H1.objs.size tp ax items H2.objs.size
    ⟨hO, hF, hit', ((hsq.ext (b := H2.objs.size) (ext_of k1) (neN (by omega))).ext (b := H2.objs.size) (ext_of k2) (neN (by omega))).ext (b := H2.objs.size) (ext_of k3) (neN (by omega)), neN (by omega), neN (by omega), neN (by omega), ⟨by show _ ≠ H2.objs.size; exact neN (by omega), by show _ ≠ H2.objs.size; exact neN (by omega), by show _ ≠ H2.objs.size; exact neN (by omega)⟩,
      ra.view kv, hacc, k, n1, n2, get_none_size, g1, g2, ⟨_, eax⟩⟩
  exact codeAny_compStart_list fin (iter_again hit' fin)
end
end Mine

namespace Mine
set_option autoImplicit false
section
variable {W : Wd} {n : Nat} {sc : Scope} {tab : List Str}

/-- what stands when the comprehension's list is made -/
structure CompOut (as : List Addr) (h₀ : Heap) (C B : Addr) (out : List D) (h : Heap) : Prop where
  ns : ∃ m, h.Ns C m
  stays : h₀.StaysIn h
  rep : Rep as h (.ref B) (.lst out)
  fresh : h₀.get? C = none

theorem CompOut.after {as h₀ C B out h h'} (x : CompOut as h₀ C B out h) (hs : Heap.SameBut C h h') : h₀.StaysIn h' ∧ Rep as h' (.ref B) (.lst out) := by
  obtain ⟨⟨m, n⟩, k, r, f⟩ := x
  refine ⟨fun b o e => hs.extBut b o (fun q => ?_) (k b o e), ?_⟩
  · subst q; rw [f] at e; cases e
  · exact ((r.hideNs n).view (V_at (.head _) hs.extBut)).view (V_mono fun a q => .tail _ q)

theorem comp_out {as h₀ h cenv It acc tp ax items ds ρ₀ h' ρ' ys out sc' tab'} (x : CompIn W sc' tab' as h₀ h cenv It acc tp ax items ds ρ₀)
    (F : FrOk W cenv tab' (acc :: as) h' ρ') (hl : h'.IsList acc ys) (r : RepAll (acc :: as) h' ys.toList out) (k : ∀ b o, b ≠ It → b ≠ acc → b ≠ cenv.locals → h.get? b = some o → h'.get? b = some o) : CompOut as h₀ cenv.locals acc out h' := by
  obtain ⟨m, n⟩ := F.ns
  refine ⟨⟨m, n.keeps V_sub⟩, fun b o e => k b o (fun q => ?_) (fun q => ?_) (fun q => ?_) (x.stays _ _ e), ?_, x.f3⟩
  · rw [q, x.f1] at e; cases e
  · rw [q, x.f2] at e; cases e
  · rw [q, x.f3] at e; cases e
  · obtain ⟨o, e, c, nn, d⟩ := hl
    exact .lst (V_in e x.na) c d (r.view (V_mono fun a q => .tail _ q))

/-! one clause -/
theorem comp1_run {A s env elt tgt iter scope pos It acc tp ax as h₀ items ds ρ₀ sc' tab' asg g out ρ'} {R : Result → Shared → Prop} (Rm : Room n A)
    (x : CompIn W sc' tab' as h₀ s.heap env It acc tp ax items ds ρ₀) (hE : ESem W n sc' tab' elt g) (hA : ASem W n sc' tab' tgt asg) (e : cloop asg g ds ρ₀ = some (out, ρ')) (hsz : ds.length ≤ 10000)
    (h : ∀ h tk, CompOut as h₀ env.locals acc out h → R (.ok .next) { s with heap := h, toks := tk }) :
    codeAny W.M A (.compLoop (.ListComp elt [⟨tgt, iter, [], 0⟩] scope pos) 0 (.ref It) (.ref acc) env) R s :=
  comp_last (ipos := iter.pos) (dys := []) (fun _ _ => by rfl) Rm x.env hE hA x.fr x.it x.src x.d1 x.d2 x.d3 (.head _) (fun m => by
    rcases List.mem_cons.mp m with q | m
    · exact x.d3 q.symm
    · exact x.ni m) x.ra x.lst .nil e (by simpa using hsz) fun h' tk ys F hl r k => h h' tk (comp_out x F hl (by simpa using r) k)

def Clos (W : Wd) (sc : Scope) (tab : List Str) (scope sc' : Scope) (tab' : List Str) (pre : St → Option St) : Prop :=
  ∀ {as env h ρ ρ₀}, EnvOk sc env → FrOk W env tab as h ρ → pre ρ = some ρ₀ → ∃ cl, closureFor scope env = pure cl ∧
    ∀ i x d, tab'[i]? = some x → gt ρ₀ i = some d → sc'.names.lookup x = some .cell ∧ ∃ v c, cl.lookup x = some c ∧ (V as h).IsCell c (some v) ∧ Rep as h v d
theorem gt_replicate (k i : Nat) : gt (List.replicate k none) i = none := by
  unfold gt
  rw [List.getElem?_replicate]
  split <;> rfl
theorem Clos.no {scope sc' : Scope} {tab' : List Str} (k : Nat) (hf : ∀ x ∈ scope.names, x.2 ≠ .free) : Clos W sc tab scope sc' tab' (fun _ => some (List.replicate k none)) := by
  intro as env h ρ ρ₀ O F e
  cases e
  exact ⟨[], closureFor_none hf, fun i x d _ q => by rw [gt_replicate] at q; cases q⟩
theorem Clos.one {scope sc' : Scope} {tab' : List Str} {x : Str} (i j : Nat) (k : Nat) (hi : tab[i]? = some x) (hj : tab'[j]? = some x) (hc : sc.names.lookup x = some .cell) (hc' : sc'.names.lookup x = some .cell)
    (hcl : ∀ (env : Env) c, env.cells.lookup x = some c → closureFor scope env = pure [(x, c)]) :
    Clos W sc tab scope sc' tab' (fun ρ => (gt ρ i).map fun d => (List.replicate k none).set j (some d)) := by
  intro as env h ρ ρ₀ O F e
  obtain ⟨d, e₁, rfl⟩ := Option.map_eq_some_iff.mp e
  obtain ⟨_, h₀, m, g, F, v⟩ := F
  obtain ⟨v, r, hv⟩ := v i x d hi e₁
  rcases hv with ⟨q, _⟩ | ⟨_, c, q, hv⟩
  · have : env.scope.names.lookup x = some .local := q
    rw [O.scope, hc] at this; cases this
  · refine ⟨[(x, c)], hcl env c q, fun i' y d' q1 q2 => ?_⟩
    rcases gt_up q2 with ⟨rfl, rfl⟩ | ⟨_, q2⟩
    · rw [hj] at q1; cases q1
      exact ⟨hc', v, c, by simp [List.lookup], hv, r⟩
    · rw [gt_replicate] at q2; cases q2

def dComp (asg : St → D → Option St) (g : St → Option D) (ρ₀ : St) (src : D) : Option D :=
  (dSeq src).bind fun ds => if ds.length ≤ 10000 then (cloop asg g ds ρ₀).map fun p => .lst p.1 else none

theorem ESem.comp1 {elt tgt iter scope pos f asg g sc' tab' pre} (hi : ESem W n sc tab iter f) (hE : ESem W n sc' tab' elt g) (hA : ASem W n sc' tab' tgt asg)
    (hC : Clos W sc tab scope sc' tab' pre) (hrl : ∀ env, env.scope = sc → relabel scope env = sc') (hk : scope.kind = .function) (hk' : sc'.kind = .function) (hcell : ∀ x ∈ scope.names, x.2 ≠ .cell)
    (hnames : ∀ x ∈ scope.names, x.2 = .local → scope.names.lookup x.1 = some .local) (hs : ∀ env x, foldedSetIterable iter env x = pure x := by intro _ _; rfl) :
    ESem W n sc tab (.ListComp elt [⟨tgt, iter, [], 0⟩] scope pos) (fun ρ => (pre ρ).bind fun ρ₀ => (f ρ).bind (dComp asg g ρ₀)) := by
  intro A as env s ρ d Q E R O F e h
  obtain ⟨ρ₀, e₀, e⟩ := Option.bind_eq_some_iff.mp e
  obtain ⟨src, e₁, e⟩ := Option.bind_eq_some_iff.mp e
  obtain ⟨ds, e₂, e⟩ := Option.bind_eq_some_iff.mp e
  split at e
  · rename_i hsz
    obtain ⟨⟨out, ρ'⟩, e₃, rfl⟩ := Option.map_eq_some_iff.mp e
    obtain ⟨cl, hcl, _⟩ := hC O F e₀
    rw [eval_ListComp]
    refine wpAny_comprehension_free (use := none) rfl (hs env) hcl hk hnames (hi R O F e₁ fun v h₁ tk k r => ?_)
    obtain ⟨cl', hcl', hinit⟩ := hC O (F.keeps k) e₀
    have hq : cl' = cl := by
      have := hcl'.symm.trans hcl
      injection this
    subst hq
    refine comp_enter (RR := fun acc C => compPost W.M A E none Q acc C) O (F.keeps k) r e₂ hrl hk hk' hcell hinit fun h₂ tk It acc tp ax items C x => ?_
    refine comp1_run (s := { s with heap := h₂, toks := tk }) R x hE hA e₃ hsz fun h₃ tk z => ?_
    refine ⟨z.ns.choose, z.ns.choose_spec, fun h₄ hs₄ => ?_⟩
    obtain ⟨k₄, r₄⟩ := z.after hs₄
    exact h _ _ tk (stays_trans k k₄) r₄
  · cases e

/-- y = [..]: the store comes before the comprehension's names go -/
theorem SSem.comp1 {elt tgt iter scope pos spos y py f asg g sc' tab' pre} (i : Nat) (hi : ESem W n sc tab iter f) (hE : ESem W n sc' tab' elt g) (hA : ASem W n sc' tab' tgt asg)
    (hC : Clos W sc tab scope sc' tab' pre) (hrl : ∀ env, env.scope = sc → relabel scope env = sc') (hk : scope.kind = .function) (hk' : sc'.kind = .function) (hcell : ∀ x ∈ scope.names, x.2 ≠ .cell)
    (hnames : ∀ x ∈ scope.names, x.2 = .local → scope.names.lookup x.1 = some .local) (hn : tab.Nodup)
    (hsw : ∀ env, env.scope = sc → swapsWith (.ListComp elt [⟨tgt, iter, [], 0⟩] scope pos) (some (.Name y py)) spos.line env = pure true)
    (hx : tab[i]? = some y := by rfl) (hl : sc.names.lookup y = some .local := by rfl) (hs : ∀ env x, foldedSetIterable iter env x = pure x := by intro _ _; rfl) :
    SSem W n sc tab (.Assign [.Name y py] (.ListComp elt [⟨tgt, iter, [], 0⟩] scope pos) spos) (fun ρ => (pre ρ).bind fun ρ₀ => (f ρ).bind fun src => (dComp asg g ρ₀ src).map fun d => .nxt (up ρ i d)) := by
  intro A as env s ρ fl Q E R O F e h1 h2
  obtain ⟨ρ₀, e₀, e⟩ := Option.bind_eq_some_iff.mp e
  obtain ⟨src, e₁, e⟩ := Option.bind_eq_some_iff.mp e
  obtain ⟨dd, e', rfl⟩ := Option.map_eq_some_iff.mp e
  obtain ⟨ds, e₂, e⟩ := Option.bind_eq_some_iff.mp e'
  split at e
  · rename_i hsz
    obtain ⟨⟨out, ρ'⟩, e₃, rfl⟩ := Option.map_eq_some_iff.mp e
    obtain ⟨cl, hcl, _⟩ := hC O F e₀
    rw [exec_Assign_Name_used _ _ _ _ (hsw env O.scope)]
    refine wpAny_bind (wpAny_standAt (wpAny_bind ?_))
    show wpAny _ A (do let _ ← comprehension (.ListComp elt [⟨tgt, iter, [], 0⟩] scope pos) scope env _ (newList []) false (eval iter env) (some (assign (.Name y py) env))) _ _ s
    refine wpAny_bind (wpAny_mono (wpAny_comprehension_free (use := some (assign (.Name y py) env)) (Q := fun _ s' => Q .next s') rfl (hs env) hcl hk hnames (hi R O F e₁ fun v h₁ tk k r => ?_)) (fun _ s' hq => wpAny_pure (wpAny_pure hq)) fun _ _ e => e)
    obtain ⟨cl', hcl', hinit⟩ := hC O (F.keeps k) e₀
    have hq : cl' = cl := by
      have := hcl'.symm.trans hcl
      injection this
    subst hq
    refine comp_enter (RR := fun acc C => compPost W.M A E (some (assign (.Name y py) env)) (fun _ s' => Q .next s') acc C) O (F.keeps k) r e₂ hrl hk hk' hcell hinit fun h₂ tk It acc tp ax items C x => ?_
    refine comp1_run (s := { s with heap := h₂, toks := tk }) R x hE hA e₃ hsz fun h₃ tk z => ?_
    show wpAny _ A (assign (.Name y py) env (.ref acc)) _ _ _
    obtain ⟨m, nn⟩ := z.ns
    have nn : h₃.Ns C m := nn
    have zf := z.fresh
    have zf : Heap.get? _ C = none := zf
    have Fk := F.keeps k
    have hC' : C ∉ as := fun q => by
      obtain ⟨o, e⟩ := Fk.as _ q
      rw [zf] at e; cases e
    have F₃ : FrOk W env tab (C :: as) h₃ ρ := Fk.view (V_cons z.stays zf) (Fk.as.cons z.stays (let ⟨o, _, _, e, _⟩ := nn; ⟨o, e⟩))
    refine wpAny_assign_Name (store_ok (s := { s with heap := h₃, toks := tk }) O F₃ (z.rep.hideNs nn) hx hn hl fun h₄ tk₄ F₄ k₄ => ?_)
    have hne : C ≠ env.locals := by
      rintro rfl
      obtain ⟨o, es, ep, q, _⟩ := Fk.real
      rw [zf] at q; cases q
    refine ⟨m, nn.extBut k₄ hne, fun h₅ hs₅ => ?_⟩
    refine h1 _ _ tk₄ rfl (F₄.view (stays_trans (V_at (.head _) hs₅.extBut) (V_mono fun a q => .tail _ q)) (F₄.as.tail.ext hs₅.extBut hC')) fun b o hb q => ?_
    have q := k _ _ q
    exact hs₅.extBut _ _ (fun e => by rw [e, zf] at q; cases q) (k₄ _ _ hb (z.stays _ _ q))
  · cases e
end
end Mine

namespace Mine
set_option autoImplicit false
section
variable {W : Wd} {n : Nat} {sc : Scope} {tab : List Str}

def cloop2 (asg : St → D → Option St) (f2 : St → Option D) (asg2 : St → D → Option St) (g : St → Option D) : List D → St → Option (List D × St)
  | [], ρ => some ([], ρ)
  | d :: r, ρ => (asg ρ d).bind fun ρ₁ => (f2 ρ₁).bind fun src => (dSeq src).bind fun l => (cloop asg2 g l ρ₁).bind fun p =>
      (cloop2 asg f2 asg2 g r p.2).map fun q => (p.1 ++ q.1, q.2)

theorem compTurn_two (elt t1 i1 t2 i2 : Expr) (scope : Scope) (pos : Pos) (it acc : Value) (env : Env) :
    compTurn (.ListComp elt [⟨t1, i1, [], 0⟩, ⟨t2, i2, [], 0⟩] scope pos) 0 it acc env = (standAt i1.pos >>= fun _ => pyNext it >>= fun r => match r with
      | none => pure (.done .next)
      | some v => letOwnedTupleGo t1 it v >>= fun _ => assign t1 env v >>= fun _ => eval i2 env >>= fun x => standAt i2.pos >>= fun _ => foldedSetIterable i2 env x >>= fun x =>
        holding [x] (pyIter x) >>= fun it2 => runOwn (.compStart (.ListComp elt [⟨t1, i1, [], 0⟩, ⟨t2, i2, [], 0⟩] scope pos) 1 it2 acc env) env >>= fun _ =>
          again (.compLoop (.ListComp elt [⟨t1, i1, [], 0⟩, ⟨t2, i2, [], 0⟩] scope pos) 0 it acc env)) := by rfl

theorem compStart_two {A E s elt t1 i1 t2 i2 scope pos it acc env} {R : Result → Shared → Prop}
    (h0 : codeAny W.M A (.compLoop (.ListComp elt [⟨t1, i1, [], 0⟩, ⟨t2, i2, [], 0⟩] scope pos) 1 it acc env) R s)
    (h : wpAny W.M A (pyIter it) (fun it' s' => codeAny W.M A (.compLoop (.ListComp elt [⟨t1, i1, [], 0⟩, ⟨t2, i2, [], 0⟩] scope pos) 1 it' acc env) R s') E s)
    (hE : ∀ e s, E e s → notedBy W.M A env (fun x s' => R (.error x) s') e s) :
    codeAny W.M A (.compStart (.ListComp elt [⟨t1, i1, [], 0⟩, ⟨t2, i2, [], 0⟩] scope pos) 1 it acc env) R s := by
  refine codeAny_of_tree ?_
  show wpAny _ _ ((compStart (.ListComp elt [⟨t1, i1, [], 0⟩, ⟨t2, i2, [], 0⟩] scope pos) 1 it acc env).onRaise (fun x => do noteFrame x env; standAt theWindowsPlace)) _ _ s
  refine wpAny_notedAt ?_
  unfold compStart
  show wpAny _ _ (ask >>= _) _ _ s
  refine wpAny_bind (wpAny_askSetting (wpAny_ite ?_))
  split
  · exact wpAny_bind (wpAny_pure (wpAny_pure (And.intro rfl h0)))
  · refine wpAny_bind (wpAny_rule ?_)
    show wpAny _ _ (standAt i2.pos >>= _) _ _ s
    exact wpAny_bind (wpAny_standAt (wpAny_bind (wpAny_mono h (fun it' s' h' => wpAny_pure (And.intro rfl h')) hE)))

theorem cloop_length {asg : St → D → Option St} {g : St → Option D} : ∀ {ds : List D} {ρ : St} {out ρ'}, cloop asg g ds ρ = some (out, ρ') → out.length = ds.length
  | [], _, _, _, e => by cases e; rfl
  | d :: r, ρ, out, ρ', e => by
    obtain ⟨ρ₂, _, e⟩ := Option.bind_eq_some_iff.mp e
    obtain ⟨y, _, e⟩ := Option.bind_eq_some_iff.mp e
    obtain ⟨⟨o, ρ₃⟩, e₃, e⟩ := Option.map_eq_some_iff.mp e
    cases e
    rw [List.length_cons, List.length_cons, cloop_length e₃]
theorem IterIs.at {tp h h' it a j} (x : IterIs tp h it a j) (k : ∀ o, h.get? it = some o → h'.get? it = some o) : IterIs tp h' it a j := by
  cases tp with
  | true => obtain ⟨o, e, r⟩ := (show IsTupIter h it a j from x); exact ⟨o, k _ e, r⟩
  | false => obtain ⟨o, e, r⟩ := (show h.IsListIter it a j from x); exact ⟨o, k _ e, r⟩
theorem SeqIs.at {tp h h' a items} (x : SeqIs tp h a items) (k : ∀ o, h.get? a = some o → h'.get? a = some o) : SeqIs tp h' a items := by
  cases tp with
  | true => obtain ⟨o, e, r⟩ := (show IsTup h a items from x); exact ⟨o, k _ e, r⟩
  | false => obtain ⟨o, e, r⟩ := (show h.IsList a items from x); exact ⟨o, k _ e, r⟩
theorem Rep.notMem {as h a d} (r : Rep as h (.ref a) d) : a ∉ as := by
  cases r with
  | lst e => exact V_not e
  | tup e => exact V_not e

theorem comp2_run {A s env elt t1 i1 t2 i2 scope pos It acc tp ax as h₀ items ds ρ₀ sc' tab' asg f2 asg2 g out ρ'} {R : Result → Shared → Prop} (Rm : Room n A)
    (x : CompIn W sc' tab' as h₀ s.heap env It acc tp ax items ds ρ₀) (hE : ESem W n sc' tab' elt g) (hA : ASem W n sc' tab' t1 asg) (h2 : ESem W n sc' tab' i2 f2) (hA2 : ASem W n sc' tab' t2 asg2)
    (hs : ∀ env x, foldedSetIterable i2 env x = pure x) (e : cloop2 asg f2 asg2 g ds ρ₀ = some (out, ρ')) (hsz : out.length ≤ 1000)
    (h : ∀ h tk, CompOut as h₀ env.locals acc out h → R (.ok .next) { s with heap := h, toks := tk }) :
    codeAny W.M A (.compLoop (.ListComp elt [⟨t1, i1, [], 0⟩, ⟨t2, i2, [], 0⟩] scope pos) 0 (.ref It) (.ref acc) env) R s := by
  have hL := x.d4
  refine codeAny_loop rfl (fun c s' => ∃ ρ₁ h' tk j ds' dys' ys' out', s' = { s with heap := h', toks := tk } ∧ FrOk W env tab' (It :: acc :: as) h' ρ₁ ∧ IterIs tp h' It ax j ∧ SeqIs tp h' ax items ∧ RepAll (It :: acc :: as) h' (items.toList.drop j) ds' ∧
      h'.IsList acc ys' ∧ RepAll (It :: acc :: as) h' ys'.toList dys' ∧ cloop2 asg f2 asg2 g ds' ρ₁ = some (out', ρ') ∧ dys' ++ out' = out ∧
      (∀ b o, b ≠ It → b ≠ acc → b ≠ env.locals → s.heap.get? b = some o → h'.get? b = some o) ∧ c = ds'.length) ?_ ds.length
      ⟨ρ₀, _, s.toks, 0, ds, [], #[], out, rfl, x.fr, x.it, x.src, by rw [List.drop_zero]; exact x.ra, x.lst, .nil, e, rfl, fun b o _ _ _ e => e, rfl⟩
  rintro c s' ⟨ρ₁, h', tk', j, ds', dys', ys', out', rfl, F', hit', hl2, ra', hlst, ry', e', hout, kx, rfl⟩
  show wpAny _ A ((compTurn (.ListComp elt [⟨t1, i1, [], 0⟩, ⟨t2, i2, [], 0⟩] scope pos) 0 (.ref It) (.ref acc) env).onRaise (fun x => do noteFrame x env; theTreesLotGoes x)) _ _ _
  refine wpAny_noted ?_
  rw [compTurn_two]
  refine wpAny_bind (wpAny_standAt (wpAny_bind ?_))
  cases hds : items.toList.drop j with
  | nil =>
    rw [hds] at ra'
    cases ra'
    cases e'
    refine next_end Rm.handled hit' hl2 (by rw [← Array.getElem?_toList]; simpa using hds) fun h₁ he₁ => wpAny_pure ?_
    have kv : (V (It :: acc :: as) h').StaysIn (V (acc :: as) h₁) := fun b o e => V_in (he₁ _ _ (fun q => V_not e (q ▸ .head _)) (V_sub _ _ e)) fun m => V_not e (.tail _ m)
    rw [List.append_nil] at hout
    subst hout
    refine h _ tk' (comp_out x (F'.view kv ?_) (hlst.extBut he₁ x.d3) (ry'.view kv) fun b o hb hb' hb'' e => he₁ _ _ hb (kx b o hb hb' hb'' e))
    intro b m
    obtain ⟨o, e⟩ := F'.as b (.tail _ m)
    refine ⟨o, he₁ _ _ (fun q => ?_) e⟩
    rcases List.mem_cons.mp m with q' | m
    · exact x.d3 (q'.symm.trans q)
    · exact x.ni (q ▸ m)
  | cons v vs =>
    rw [hds] at ra'
    cases ra' with
    | cons a ra' =>
      rename_i d₁ ds₁
      have hj : items[j]? = some v := by
        rw [← Array.getElem?_toList]
        have := congrArg (·[0]?) hds
        simpa using this
      have hd2' : items.toList.drop (j + 1) = vs := by rw [← List.drop_drop, hds]; rfl
      obtain ⟨ρ₂, e₁, e'⟩ := Option.bind_eq_some_iff.mp e'
      obtain ⟨src, e₂, e'⟩ := Option.bind_eq_some_iff.mp e'
      obtain ⟨l, e₃, e'⟩ := Option.bind_eq_some_iff.mp e'
      obtain ⟨⟨o1, ρ₃⟩, e₄, e'⟩ := Option.bind_eq_some_iff.mp e'
      obtain ⟨⟨o2, ρ₄⟩, e₅, e'⟩ := Option.map_eq_some_iff.mp e'
      cases e'
      refine next_item hit' hl2 hj fun h₁ hit₁ hs₁ => ?_
      have kv₁ : (V (It :: acc :: as) h').StaysIn (V (It :: acc :: as) h₁) := V_at (.head _) hs₁.extBut
      have A₁ : As (It :: acc :: as) h₁ := F'.as.at hs₁.extBut (let ⟨o, _, e, _⟩ := hit₁.fields; ⟨o, e⟩)
      have F₁ := F'.view kv₁ A₁
      refine wpAny_bind (hA.go hit₁ (a.view kv₁) e₁ ?_)
      refine wpAny_bind (hA.run Rm x.env F₁ (a.view kv₁) e₁ fun h₂ tk₂ F₂ k₂ => ?_)
      refine wpAny_bind (h2 Rm x.env F₂ e₂ fun v₂ h₃ tk₃ k₃ r₃ => ?_)
      refine wpAny_bind (wpAny_standAt (wpAny_bind (wpAny_of_eq (hs _ _) (wpAny_bind (wpAny_holding ?_)))))
      have F₃ := F₂.keeps k₃
      obtain ⟨tp2, ax2, items2, rfl, hsq2, ra2⟩ := r₃.asSeq e₃
      obtain ⟨oax, nax, eax, dax⟩ := hsq2.seq
      have ll := ra2.length
      refine iter_seq (s := { s with heap := h₃, toks := tk₃ }) hsq2 fun o hf hit2 => ?_
      have k₄ : h₃.StaysIn (h₃.push o) := stays_push o
      have kv₄ : (V (It :: acc :: as) h₃).StaysIn (V (h₃.objs.size :: It :: acc :: as) (h₃.push o)) := V_cons k₄ get_none_size
      have F₄ : FrOk W env tab' (h₃.objs.size :: It :: acc :: as) (h₃.push o) ρ₂ := F₃.view kv₄ (F₃.as.cons k₄ ⟨_, Heap.get?_push_size _ hf⟩)
      have hlst₄ : (h₃.push o).IsList acc ys' := (((hlst.extBut hs₁.extBut x.d3).extBut k₂ hL.2.1).at fun o e => k₃ _ _ e).push _
      have ry₄ : RepAll (h₃.objs.size :: It :: acc :: as) (h₃.push o) ys'.toList dys' := ((((ry'.view kv₁).ext F₁ k₂).keeps k₃)).view kv₄
      have hIt₃ : ∃ o, h₃.get? It = some o := F₃.as It (.head _)
      have hacc₃ : ∃ o, h₃.get? acc = some o := F₃.as acc (.tail _ (.head _))
      have sIt : It < h₃.objs.size := let ⟨_, e⟩ := hIt₃; Heap.lt_size e
      have sacc : acc < h₃.objs.size := let ⟨_, e⟩ := hacc₃; Heap.lt_size e
      have hax2 : ax2 ≠ h₃.objs.size := Nat.ne_of_lt (Heap.lt_size eax)
      have hax2' : ax2 ≠ acc := fun q => r₃.notMem (q ▸ .tail _ (.head _))
      have hni : h₃.objs.size ∉ It :: acc :: as := fun m => by
        obtain ⟨o, e⟩ := F₃.as _ m
        exact Nat.lt_irrefl _ (Heap.lt_size e)
      have hlen : dys'.length + l.length ≤ 10000 := by
        have q1 := cloop_length e₄
        have q2 := congrArg List.length hout
        simp only [List.length_append] at q2
        omega
      refine wpAny_bind (wpAny_runOwn ?_)
      refine (fun fin => compStart_two (E := notedBy _ _ _ _) fin (iter_again (s := { s with heap := h₃.push o, toks := tk₃ }) hit2 fin) (fun _ _ h => h)) ?_
      refine comp_last (s := { s with heap := h₃.push o, toks := tk₃ }) (as := It :: acc :: as) (ipos := i2.pos) (dys := dys') (fun _ _ => by rfl) Rm x.env hE hA2 F₄ hit2 (hsq2.ext (b := h₃.objs.size) (ext_of k₄) hax2) hax2 hax2' (Nat.ne_of_lt sacc) (.tail _ (.head _)) hni (ra2.view kv₄) hlst₄ ry₄ e₄ hlen
        fun h₅ tk₅ ys₅ F₅ l₅ r₅ k₅ => ?_
      refine wpAny_pure ⟨rfl, ds₁.length, Nat.lt_succ_self _, ρ₃, h₅, tk₅, j + 1, ds₁, dys' ++ o1, ys₅, o2, rfl, F₅, ?_, ?_, ?_, l₅, r₅, e₅, by rw [← hout, List.append_assoc], ?_, rfl⟩
      · have i₃ : IterIs tp (h₃.push o) It ax (j + 1) := ((hit₁.ext k₂ hL.1).ext (ext_of (L := env.locals) k₃) hL.1).ext (ext_of (L := env.locals) k₄) hL.1
        exact i₃.at fun o e => k₅ _ _ (Nat.ne_of_lt sIt) (Ne.symm x.d3) hL.1 e
      · have i₃ : SeqIs tp (h₃.push o) ax items := (((hl2.ext hs₁.extBut x.d1).ext k₂ hL.2.2).ext (ext_of (L := env.locals) k₃) hL.2.2).ext (ext_of (L := env.locals) k₄) hL.2.2
        have i₃' : SeqIs tp h₃ ax items := ((hl2.ext hs₁.extBut x.d1).ext k₂ hL.2.2).ext (ext_of (L := env.locals) k₃) hL.2.2
        obtain ⟨_, _, ea, _⟩ := i₃'.seq
        exact i₃.at fun o e => k₅ _ _ (Nat.ne_of_lt (Heap.lt_size ea)) x.d2 hL.2.2 e
      · rw [hd2']
        have r4 := (((ra'.view kv₁).ext F₁ k₂).keeps k₃).view kv₄
        obtain ⟨oL, es, ep, eL, dL⟩ := F₄.real
        refine r4.seqs fun a o vs c e q => ?_
        have hm := V_not e
        refine V_in (k₅ _ _ (fun z => hm (z ▸ .head _)) (fun z => hm (z ▸ .tail _ (.tail _ (.head _)))) (fun z => ?_) (V_sub _ _ e)) fun z => hm (.tail _ z)
        subst z
        rw [V_sub _ _ e] at eL; cases eL; rw [q] at dL; cases dL
      · intro b o' hb hb' hb'' e
        have e1 := k₄ _ _ (k₃ _ _ (k₂ _ _ hb'' (hs₁.extBut _ _ hb (kx b o' hb hb' hb'' e))))
        exact k₅ _ _ (by
          rintro rfl
          have e1' := k₃ _ _ (k₂ _ _ hb'' (hs₁.extBut _ _ hb (kx _ o' hb hb' hb'' e)))
          exact Nat.lt_irrefl _ (Heap.lt_size e1')) hb' hb'' e1

def dComp2 (asg : St → D → Option St) (f2 : St → Option D) (asg2 : St → D → Option St) (g : St → Option D) (ρ₀ : St) (src : D) : Option D :=
  (dSeq src).bind fun ds => (cloop2 asg f2 asg2 g ds ρ₀).bind fun p => if p.1.length ≤ 1000 then some (.lst p.1) else none

theorem ESem.comp2 {elt t1 i1 t2 i2 scope pos f asg f2 asg2 g sc' tab' pre} (hi : ESem W n sc tab i1 f) (hE : ESem W n sc' tab' elt g) (hA : ASem W n sc' tab' t1 asg) (h2 : ESem W n sc' tab' i2 f2) (hA2 : ASem W n sc' tab' t2 asg2)
    (hC : Clos W sc tab scope sc' tab' pre) (hrl : ∀ env, env.scope = sc → relabel scope env = sc') (hk : scope.kind = .function) (hk' : sc'.kind = .function) (hcell : ∀ x ∈ scope.names, x.2 ≠ .cell)
    (hnames : ∀ x ∈ scope.names, x.2 = .local → scope.names.lookup x.1 = some .local) (hs : ∀ env x, foldedSetIterable i1 env x = pure x := by intro _ _; rfl) (hs2 : ∀ env x, foldedSetIterable i2 env x = pure x := by intro _ _; rfl) :
    ESem W n sc tab (.ListComp elt [⟨t1, i1, [], 0⟩, ⟨t2, i2, [], 0⟩] scope pos) (fun ρ => (pre ρ).bind fun ρ₀ => (f ρ).bind (dComp2 asg f2 asg2 g ρ₀)) := by
  intro A as env s ρ d Q E R O F e h
  obtain ⟨ρ₀, e₀, e⟩ := Option.bind_eq_some_iff.mp e
  obtain ⟨src, e₁, e⟩ := Option.bind_eq_some_iff.mp e
  obtain ⟨ds, e₂, e⟩ := Option.bind_eq_some_iff.mp e
  obtain ⟨⟨out, ρ'⟩, e₃, e⟩ := Option.bind_eq_some_iff.mp e
  split at e
  · rename_i hsz
    cases e
    obtain ⟨cl, hcl, _⟩ := hC O F e₀
    rw [eval_ListComp]
    refine wpAny_comprehension_free (use := none) rfl (hs env) hcl hk hnames (hi R O F e₁ fun v h₁ tk k r => ?_)
    obtain ⟨cl', hcl', hinit⟩ := hC O (F.keeps k) e₀
    have hq : cl' = cl := by
      have := hcl'.symm.trans hcl
      injection this
    subst hq
    refine comp_enter (RR := fun acc C => compPost W.M A E none Q acc C) O (F.keeps k) r e₂ hrl hk hk' hcell hinit fun h₂ tk It acc tp ax items C x => ?_
    refine comp2_run (s := { s with heap := h₂, toks := tk }) R x hE hA h2 hA2 hs2 e₃ hsz fun h₃ tk z => ?_
    refine ⟨z.ns.choose, z.ns.choose_spec, fun h₄ hs₄ => ?_⟩
    obtain ⟨k₄, r₄⟩ := z.after hs₄
    exact h _ _ tk (stays_trans k k₄) r₄
  · cases e
end
end Mine

namespace Mine
set_option autoImplicit false

theorem bindL_not {k : Str → Option NameKind} : ∀ {b : List (Str × Value)} {m : Str → Option Value} {x : Str}, x ∉ b.map (·.1) → bindL k b m x = m x
  | [], _, _, _ => rfl
  | (y, v) :: r, m, x, h => by
    simp only [List.map_cons, List.mem_cons, not_or] at h
    show bindL k r _ x = m x
    rw [bindL_not h.2]
    split
    · exact if_neg h.1
    · rfl
theorem bindC_not {k : Str → Option NameKind} : ∀ {b : List (Str × Value)} {m : Str → Option Value} {x : Str}, x ∉ b.map (·.1) → bindC k b m x = m x
  | [], _, _, _ => rfl
  | (y, v) :: r, m, x, h => by
    simp only [List.map_cons, List.mem_cons, not_or] at h
    show bindC k r _ x = m x
    rw [bindC_not h.2]
    split
    · rfl
    · exact if_neg h.1
theorem bindL_get {k : Str → Option NameKind} : ∀ {b : List (Str × Value)} {m : Str → Option Value} {x : Str} {v : Value}, (b.map (·.1)).Nodup → (x, v) ∈ b → k x = some .local → bindL k b m x = some v
  | (y, w) :: r, m, x, v, hn, hm, hk => by
    rw [List.map_cons, List.nodup_cons] at hn
    show bindL k r _ x = some v
    rcases List.mem_cons.mp hm with e | hm
    · cases e
      rw [bindL_not hn.1, if_pos hk]; exact if_pos rfl
    · exact bindL_get hn.2 hm hk
theorem bindC_get {k : Str → Option NameKind} : ∀ {b : List (Str × Value)} {m : Str → Option Value} {x : Str} {v : Value}, (b.map (·.1)).Nodup → (x, v) ∈ b → k x = some .cell → bindC k b m x = some v
  | (y, w) :: r, m, x, v, hn, hm, hk => by
    rw [List.map_cons, List.nodup_cons] at hn
    show bindC k r _ x = some v
    rcases List.mem_cons.mp hm with e | hm
    · cases e
      rw [bindC_not hn.1, if_neg (by rw [hk]; decide)]; exact if_pos rfl
    · exact bindC_get hn.2 hm hk

def initSt (k m : Nat) (dd : List D) (ds : List D) : Option St := if ds.length = k then some ((ds ++ dd).map some ++ List.replicate m none) else none
def retOf : Option Fl → Option D
  | some (.ret d) => some d
  | _ => none
def defD (k m : Nat) (dd : List D) (g : St → Option Fl) (ds : List D) : Option D := (initSt k m dd ds).bind fun ρ => retOf (g ρ)

theorem gt_init {l : List D} {m i : Nat} {d : D} (e : gt (l.map some ++ List.replicate m none) i = some d) : l[i]? = some d := by
  unfold gt at e
  rw [List.getElem?_append] at e
  split at e
  · rw [List.getElem?_map] at e
    cases h : l[i]? with
    | none => rw [h] at e; simp at e
    | some x => rw [h] at e; simpa using e
  · rw [List.getElem?_replicate] at e
    split at e <;> simp at e

section
variable {W : Wd} {n : Nat} {sc : Scope} {tab : List Str}

theorem CSem.of_body {fa oc od osl fd body names k m dv dd g} (ho : W.K.lookup fa = some ⟨oc, od, .func fd, osl⟩) (hbody : fd.body = .stmts body) (hsc : fd.scope = sc) (hgl : fd.globals = mainGlobals) (hbu : fd.builtins = builtinsNs) (hclo : fd.closure = [])
    (hcd : codeIn W.K fd.code fd.qualname = true) (hk : sc.kind = .function) (hco : sc.isCoroutine = false) (hgen : sc.isGenerator = false)
    (hbind : ∀ (s : Shared) (vs : List Value), W.K.In s.heap → vs.length = k → BindsTo s fd ⟨vs, []⟩ (names.zip (vs ++ dv)))
    (hlen : names.length = k + dd.length) (hd : ∀ as h, RepAll as h dv dd) (htab : names = tab.take names.length) (hn : names.Nodup)
    (hkind : ∀ x ∈ names, sc.names.lookup x = some .local ∨ (sc.names.lookup x = some .cell ∧ ∀ a, ((cellsFrom a sc.names []).lookup x).isSome = true))
    (hb : BSem W n sc tab body g) : CSem W (n + 1) (.ref fa) (defD k m dd g) := by
  intro A as s vs ds d Q E R gd ha r e h
  obtain ⟨ρ₀, e₁, e⟩ := Option.bind_eq_some_iff.mp e
  unfold initSt at e₁
  by_cases hdl : ds.length = k
  · rw [if_pos hdl] at e₁
    cases e₁
    have gr : W.Gd s.heap := gd.keeps V_sub
    have rr : RepAll as s.heap (vs ++ dv) (ds ++ dd) := r.append (hd _ _)
    have hvl : vs.length = k := r.length.trans hdl
    have hzl : names.length = (vs ++ dv).length := by rw [rr.length, List.length_append, hdl, hlen]
    have hzm : (names.zip (vs ++ dv)).map (·.1) = names := by
      have := List.map_fst_zip (l₁ := names) (l₂ := vs ++ dv) (Nat.le_of_eq hzl)
      simpa using this
    subst hsc
    refine wpAny_call (codeAny_call_function (by have := R.depth; omega) (gr.k _ _ ho) rfl hco hgen hbody (codeRec_of gr.k hcd) (hbind _ _ gr.k hvl _ _ _ _ ?_))
    rw [hclo]
    refine wpAny_newFunctionEnv_cells hk (fun x hx => ?_) fun env he s₁ x => ?_
    · have hx1 : x.1 ∈ names := by rw [← hzm]; exact List.mem_map_of_mem hx
      exact (hkind _ hx1).imp id fun ⟨a, b⟩ => ⟨a, b _⟩
    subst he
    obtain ⟨h₁, tk, rfl, k₁⟩ := x.done
    refine ⟨gr.t.nolimit.keeps k₁, codeAny_func ?_⟩
    have O : EnvOk fd.scope (newEnv fd.scope s.heap.objs.size fd.globals (cellsFrom (s.heap.objs.size + 1) fd.scope.names []) (fd.qualname ++ ".<locals>.") (some fa) fd.code none fd.builtins) := ⟨rfl, hk, hgl, hbu⟩
    have hL : s.heap.objs.size ∉ as := fun m => by
      obtain ⟨o, e⟩ := ha _ m
      exact Nat.lt_irrefl _ (Heap.lt_size e)
    have F : FrOk W (newEnv fd.scope s.heap.objs.size fd.globals (cellsFrom (s.heap.objs.size + 1) fd.scope.names []) (fd.qualname ++ ".<locals>.") (some fa) fd.code none fd.builtins) tab as h₁ ((ds ++ dd).map some ++ List.replicate m none) := by
      refine ⟨ha.keeps k₁, V as s.heap, _, gd, ⟨Ns_V x.toInCall.ns hL, V_stays k₁, by rw [hideAll_size]; exact Nat.le_refl _⟩, fun i y d' e1 e2 => ?_⟩
      have e3 := gt_init e2
      obtain ⟨v, hv, rv⟩ := rr.get e3
      have hi : i < names.length := by
        rw [hzl]; exact (List.getElem?_eq_some_iff.mp hv).1
      have hy : names[i]? = some y := by
        rw [htab, List.getElem?_take_of_lt hi]; exact e1
      have hm : (y, v) ∈ names.zip (vs ++ dv) := by
        refine List.mem_of_getElem? (i := i) ?_
        rw [List.getElem?_zip_eq_some]
        exact ⟨hy, hv⟩
      have hnd : ((names.zip (vs ++ dv)).map (·.1)).Nodup := by rw [hzm]; exact hn
      have hyn : y ∈ names := List.mem_of_getElem? hy
      refine ⟨v, rv.keeps k₁, ?_⟩
      rcases hkind y hyn with hl | ⟨hl, hc⟩
      · exact .inl ⟨hl, bindL_get hnd hm hl⟩
      · obtain ⟨c, hc⟩ := Option.isSome_iff_exists.mp (hc (s.heap.objs.size + 1))
        refine .inr ⟨hl, c, hc, ?_⟩
        obtain ⟨o, ho, hd'⟩ := x.cell _ _ hc
        rw [show bindC _ (names.zip (vs ++ dv)) (fun _ => none) y = some v from bindC_get hnd hm hl] at hd'
        have hab := x.above y c (by
          have : (y, c) ∈ _ := mem_of_lookup hc
          exact this)
        refine ⟨o, V_in ho fun m => ?_, hd'⟩
        obtain ⟨o', e'⟩ := ha _ m
        have q1 := ltN (Heap.lt_size e')
        have q2 := ltN hab
        have q3 : (newEnv fd.scope s.heap.objs.size fd.globals (cellsFrom (s.heap.objs.size + 1) fd.scope.names []) (fd.qualname ++ ".<locals>.") (some fa) fd.code none fd.builtins).locals = s.heap.objs.size := rfl
        rw [q3] at q2
        omega
    have R' : Room n (A.deeper (newEnv fd.scope s.heap.objs.size fd.globals (cellsFrom (s.heap.objs.size + 1) fd.scope.names []) (fd.qualname ++ ".<locals>.") (some fa) fd.code none fd.builtins)) :=
      ⟨by have := R.depth; show A.depth + 1 + n < _; omega, by have := R.units; show A.units + 3 + 8 * n + 200 < _; omega, R.handled⟩
    unfold retOf at e
    split at e
    · rename_i d' eg
      cases e
      refine hb R' O F eg (fun ρ' h tk q => by cases q) fun d₂ v h₂ tk₂ q k₂ r₂ => ?_
      cases q
      refine h _ _ _ (fun b o e => k₂ _ _ (fun q => ?_) (k₁ _ _ e)) r₂
      have q1 := ltN (Heap.lt_size e)
      have q : b = s.heap.objs.size := q
      rw [q] at q1
      exact Nat.lt_irrefl _ q1
    · cases e
  · rw [if_neg hdl] at e₁; cases e₁
end
end Mine

namespace Mine
set_option autoImplicit false

/-! the words of a denotation -/
def eInt (i : Int) : St → Option D := fun _ => some (.int i)
def eBool (b : Bool) : St → Option D := fun _ => some (.bool b)
def eStr (x : Str) : St → Option D := fun _ => some (.str x)
def eVar (i : Nat) : St → Option D := fun ρ => gt ρ i
def eGlob (d : D) : St → Option D := fun _ => some d
def eNone : St → Option D := fun _ => none
def eBin (op : Operator) (f g : St → Option D) : St → Option D := fun ρ => (f ρ).bind fun a => (g ρ).bind fun c => dBin op a c
def eCmp (op : CmpOp) (f g : St → Option D) : St → Option D := fun ρ => (f ρ).bind fun a => (g ρ).bind fun c => (dCmp op a c).map D.bool
def eNot (f : St → Option D) : St → Option D := fun ρ => (f ρ).bind fun a => (dTruth a).map fun b => .bool !b
def eNeg (f : St → Option D) : St → Option D := fun ρ => (f ρ).bind dNeg
def eIte (t : St → Option Bool) (f g : St → Option D) : St → Option D := fun ρ => (t ρ).bind fun b => if b then f ρ else g ρ
def eAnd (f g : St → Option D) : St → Option D := fun ρ => (f ρ).bind fun a => (dTruth a).bind fun b => if b then g ρ else some a
def eOr (f g : St → Option D) : St → Option D := fun ρ => (f ρ).bind fun a => (dTruth a).bind fun b => if b then some a else g ρ
def lNil : St → Option (List D) := fun _ => some []
def lCons (f : St → Option D) (g : St → Option (List D)) : St → Option (List D) := fun ρ => (f ρ).bind fun a => (g ρ).bind fun l => some (a :: l)
def eTup (f : St → Option (List D)) : St → Option D := fun ρ => (f ρ).bind fun l => bnd (l.length ≤ 100) (.tup l)
def eLst (f : St → Option (List D)) : St → Option D := fun ρ => (f ρ).bind fun l => bnd (l.length ≤ 100) (.lst l)
def eSub (f g : St → Option D) : St → Option D := fun ρ => (f ρ).bind fun a => (g ρ).bind fun b => dItem a b
def eTail (i : Nat) : St → Option D := fun ρ => (gt ρ i).bind dTail
def eCall (F : List D → Option D) (f : St → Option (List D)) : St → Option D := fun ρ => (f ρ).bind F
def eIsInt (f : St → Option D) : St → Option D := fun ρ => (f ρ).bind dIsInt
def eBits (f : St → Option D) : St → Option D := fun ρ => (f ρ).bind dBits
def eShift (f : St → Option D) : St → Option D := fun ρ => (f ρ).bind dShift
where dShift : D → Option D
  | .str k => if k = Str.ofString "f" then some (.tup [.int 1, .int 0]) else if k = Str.ofString "c" then some (.tup [.int 0, .int 1]) else none
  | _ => none
def eComp (pre : St → Option St) (f : St → Option D) (asg : St → D → Option St) (g : St → Option D) : St → Option D := fun ρ => (pre ρ).bind fun ρ₀ => (f ρ).bind (dComp asg g ρ₀)
def eComp2 (pre : St → Option St) (f : St → Option D) (asg : St → D → Option St) (f2 : St → Option D) (asg2 : St → D → Option St) (g : St → Option D) : St → Option D := fun ρ => (pre ρ).bind fun ρ₀ => (f ρ).bind (dComp2 asg f2 asg2 g ρ₀)
def aName (i : Nat) : St → D → Option St := fun ρ d => some (up ρ i d)
def aTup (is : List Nat) : St → D → Option St := fun ρ d => dUnpack ρ is d
def pNo (k : Nat) : St → Option St := fun _ => some (List.replicate k none)
def pOne (i j k : Nat) : St → Option St := fun ρ => (gt ρ i).map fun d => (List.replicate k none).set j (some d)
def tE (f : St → Option D) : St → Option Bool := fun ρ => (f ρ).bind dTruth
def tCmp (op : CmpOp) (f g : St → Option D) : St → Option Bool := fun ρ => (f ρ).bind fun a => (g ρ).bind fun c => dCmp op a c
def tChain (op op' : CmpOp) (f g g' : St → Option D) : St → Option Bool := fun ρ => (f ρ).bind fun a => (g ρ).bind fun c => (dCmp op a c).bind fun t => if t then (g' ρ).bind fun c' => dCmp op' c c' else some false
def tNot (t : St → Option Bool) : St → Option Bool := fun ρ => (t ρ).map (!·)
def tTrue : St → Option Bool := fun _ => some true
def tFalse : St → Option Bool := fun _ => some false
def tAnd (t g : St → Option Bool) : St → Option Bool := fun ρ => (t ρ).bind fun b => if b then g ρ else some false
def tOr (t g : St → Option Bool) : St → Option Bool := fun ρ => (t ρ).bind fun b => if b then some true else g ρ
def sNil : St → Option Fl := fun ρ => some (.nxt ρ)
def sCons (f g : St → Option Fl) : St → Option Fl := fun ρ => andThen (f ρ) g
def sNone : St → Option Fl := fun _ => none
def sRet (f : St → Option D) : St → Option Fl := fun ρ => (f ρ).map Fl.ret
def sIf (t : St → Option Bool) (g k : St → Option Fl) : St → Option Fl := fun ρ => (t ρ).bind fun c => if c then g ρ else k ρ
def sAsrt (t : St → Option Bool) : St → Option Fl := fun ρ => (t ρ).bind fun c => if c then some (.nxt ρ) else none
def sSet (i : Nat) (f : St → Option D) : St → Option Fl := fun ρ => (f ρ).map fun d => .nxt (up ρ i d)
def sSet2 (i j : Nat) (f : St → Option D) : St → Option Fl := fun ρ => (f ρ).map fun d => .nxt (up (up ρ i d) j d)
def sUnpack (is : List Nat) (f : St → Option D) : St → Option Fl := fun ρ => (f ρ).bind fun d => (dUnpack ρ is d).map Fl.nxt
def sUnpackR (is : List Nat) (f : St → Option D) : St → Option Fl := fun ρ => (f ρ).bind fun d => (dUnpackR ρ is d).map Fl.nxt
def sAug (i : Nat) (op : Operator) (f : St → Option D) : St → Option Fl := fun ρ => (gt ρ i).bind fun a => (f ρ).bind fun b => (dInt2 op a b).map fun d => .nxt (up ρ i d)
def sWhile (N : Nat) (t : St → Option Bool) (b : St → Option Fl) : St → Option Fl := wloop t b N
def sFor (i : Nat) (f : St → Option D) (g : St → Option Fl) : St → Option Fl := fun ρ => (f ρ).bind (dFor i g ρ)
def sComp (i : Nat) (pre : St → Option St) (f : St → Option D) (asg : St → D → Option St) (g : St → Option D) : St → Option Fl := fun ρ => (pre ρ).bind fun ρ₀ => (f ρ).bind fun src => (dComp asg g ρ₀ src).map fun d => .nxt (up ρ i d)

section
variable {W : Wd} {n : Nat} {sc : Scope} {tab : List Str}

theorem shift_ok {A as s a v d d'} {value slice : Expr} {Q : Value → Shared → Prop} {E : Value → Shared → Prop} (T : KTD.TextTab (V as s.heap) a
      [(Str.ofString "f", .tup [.int 1, .int 0]), (Str.ofString "c", .tup [.int 0, .int 1]), (Str.ofString "d", .tup [.int 1, .int 1]), (Str.ofString "u", .tup [.int 0, .int 0])])
    (r : Rep as s.heap v d) (e : eShift.dShift d = some d') (h : ∀ v tk, Rep as s.heap v d' → Q v { s with toks := tk })
    (hs : ∀ a k u, subscripted slice false (.ref a) (.str k u) = operate [.ref a, .str k u] (getItem (.ref a) (.str k u))) (hg : ∀ a r, letTemporaryGo value (.ref a) r = pure ()) :
    wpAny W.M A (subscriptTail value slice (.ref a) v) Q E s := by
  cases r <;> (first | (cases e; done) | skip)
  rename_i k t
  have hf : ∀ (a' : Addr) (vs : List Value) (x y : Int), IsTup (V as s.heap) a' vs.toArray → KTD.Flats vs [.int x, .int y] → Rep as s.heap (.ref a') (.tup [.int x, .int y]) := fun a' vs x y ht hv => by
    obtain ⟨o, e1, e2, nn, e3⟩ := ht
    cases hv with
    | cons h1 r => cases r with
      | cons h2 r => cases r with
        | nil =>
          obtain ⟨t1, rfl⟩ := h1.int_inv
          obtain ⟨t2, rfl⟩ := h2.int_inv
          exact .tup e1 e2 e3 (.cons (.int _ _) (.cons (.int _ _) .nil))
  refine KTD.item_text (h₀ := V as s.heap) ⟨T, V_sub⟩ ?_ ?_ (hs _ _ _) (fun _ => hg _ _)
  · simp only [eShift.dShift] at e
    split at e
    · rename_i q; subst q; decide +kernel
    · split at e
      · rename_i q; subst q; decide +kernel
      · cases e
  · simp only [eShift.dShift] at e
    split at e
    · rename_i q; subst q
      cases e
      exact KTD.eachL_hit rfl (KTD.opened_tup fun a' vs ht hv => h _ _ (hf a' vs 1 0 ht hv))
    · split at e
      · rename_i q q'; subst q'
        cases e
        exact KTD.eachL_miss q (KTD.eachL_hit rfl (KTD.opened_tup fun a' vs ht hv => h _ _ (hf a' vs 0 1 ht hv)))
      · cases e

theorem ESem.shift {x a p e f pos} (hg : nsIn W.K mainGlobals x = some (some (.ref a))) (hT : ∀ h, W.K.In h → KTD.TextTab h a
      [(Str.ofString "f", .tup [.int 1, .int 0]), (Str.ofString "c", .tup [.int 0, .int 1]), (Str.ofString "d", .tup [.int 1, .int 1]), (Str.ofString "u", .tup [.int 0, .int 0])])
    (he : ESem W n sc tab e f) (hx : sc.names.lookup x = some .globalImplicit := by rfl) (hd : (x == ("__debug__" : Str)) = false := by decide)
    (hs : ∀ a k u, subscripted e false (.ref a) (.str k u) = operate [.ref a, .str k u] (getItem (.ref a) (.str k u)) := by intro _ _ _; with_unfolding_all rfl) :
    ESem W n sc tab (.Subscript (.Name x p) e pos) (eShift f) := by
  intro A as env s ρ d Q E R O F e h
  obtain ⟨d₁, e₁, e⟩ := Option.bind_eq_some_iff.mp e
  refine PyProof.Rows.Subscript_ (glob_name O F hg hx hd (he R O F e₁ fun v₁ h₁ tk k₁ r₁ => ?_))
  exact shift_ok (s := { s with heap := h₁, toks := tk }) (hT _ (F.keeps k₁).gd.k) r₁ e (fun v tk r => h _ _ _ k₁ r) hs fun _ _ => rfl
end
end Mine

namespace Mine
set_option autoImplicit false
section
variable {W : Wd} {n : Nat} {sc : Scope} {tab : List Str}

/-! the targets of t1, t2 = (e1, e2), backwards -/
inductive NIs (sc : Scope) (tab : List Str) : List Str → List Nat → Prop
  | nil : NIs sc tab [] []
  | cons {x ns is} (i : Nat) (hi : tab[i]? = some x) (hx : sc.names.lookup x = some .local) (r : NIs sc tab ns is) : NIs sc tab (x :: ns) (i :: is)
theorem NIs.get {ns is} (t : NIs sc tab ns is) : ∀ (k : Nat) (x : Str), ns[k]? = some x → ∃ i : Nat, is[k]? = some i ∧ tab[i]? = some x ∧ sc.names.lookup x = some .local := by
  induction t with
  | nil => intro k x e; simp at e
  | cons i hi hx r ih =>
    intro k x e
    cases k with
    | zero => simp at e; subst e; exact ⟨i, rfl, hi, hx⟩
    | succ k => simpa using ih k x (by simpa using e)
theorem SSem.unpackN {es k tp e f pos} {names rn : List Str} {is ri : List Nat} (t : NIs sc tab rn ri) (h1 : names.reverse = rn) (h2 : is.reverse = ri) (hl : names.length = is.length) (he : ESem W n sc tab e f) (hn : tab.Nodup)
    (hw : ∀ env, env.scope = sc → swappedStores [.Tuple es k tp] e env = pure (some names)) (hs : ∀ env, swapsWithSole [.Tuple es k tp] e pos.line env = pure false := by intro _; rfl) :
    SSem W n sc tab (.Assign [.Tuple es k tp] e pos) (sUnpackR is f) := SSem.unpackR (names := names) (is := is) (by rw [h1, h2]; exact t.get) hl he hn hs hw

theorem relab_no {scope : Scope} (h : (scope.names.all fun p => p.2 != .free) = true) (env : Env) : relabel scope env = scope := by
  unfold relabel
  rw [map_eq_self (l := scope.names) (fun x hx => by
    obtain ⟨n, k⟩ := x
    have := List.all_eq_true.mp h _ hx
    have : (k == NameKind.free) = false := by simpa using this
    simp [this])]
def relab (scope : Scope) : Scope := { scope with names := scope.names.map fun p => if p.2 == .free then (p.1, .cell) else p }
theorem relab_one {scope : Scope} (hk : sc.kind = .function) (h : ∀ p ∈ scope.names, p.2 = .free → sc.names.lookup p.1 = some .cell) (env : Env) (he : env.scope = sc) : relabel scope env = relab scope := by
  unfold relabel relab
  congr 1
  refine List.map_congr_left fun p hp => ?_
  obtain ⟨n, k⟩ := p
  by_cases q : k = .free
  · subst q
    have h' := h _ hp rfl
    have : env.kindOf n = some .cell := by show env.scope.names.lookup n = _; rw [he]; exact h'
    simp [this, he, hk]
  · have : (k == NameKind.free) = false := by simpa using q
    simp [this]

theorem ESem.comp1N {elt tgt iter scope pos f asg g} {tab' : List Str} (k : Nat) (hi : ESem W n sc tab iter f) (hE : ESem W n scope tab' elt g) (hA : ASem W n scope tab' tgt asg)
    (hf : (scope.names.all fun p => p.2 != .free) = true := by decide +kernel) (hk : scope.kind = .function := by rfl) (hcell : ∀ x ∈ scope.names, x.2 ≠ .cell := by decide +kernel)
    (hnames : ∀ x ∈ scope.names, x.2 = .local → scope.names.lookup x.1 = some .local := by decide +kernel) (hs : ∀ env x, foldedSetIterable iter env x = pure x := by intro _ _; rfl) :
    ESem W n sc tab (.ListComp elt [⟨tgt, iter, [], 0⟩] scope pos) (eComp (pNo k) f asg g) :=
  ESem.comp1 hi hE hA (Clos.no k fun x hx => by simpa using List.all_eq_true.mp hf x hx) (fun env _ => relab_no hf env) hk hk hcell hnames hs
theorem SSem.comp1N {elt tgt iter scope pos spos y py f asg g} {tab' : List Str} (i k : Nat) (hi : ESem W n sc tab iter f) (hE : ESem W n scope tab' elt g) (hA : ASem W n scope tab' tgt asg) (hn : tab.Nodup)
    (hsw : ∀ env, env.scope = sc → swapsWith (.ListComp elt [⟨tgt, iter, [], 0⟩] scope pos) (some (.Name y py)) spos.line env = pure true)
    (hf : (scope.names.all fun p => p.2 != .free) = true := by decide +kernel) (hk : scope.kind = .function := by rfl) (hcell : ∀ x ∈ scope.names, x.2 ≠ .cell := by decide +kernel)
    (hnames : ∀ x ∈ scope.names, x.2 = .local → scope.names.lookup x.1 = some .local := by decide +kernel)
    (hx : tab[i]? = some y := by rfl) (hl : sc.names.lookup y = some .local := by rfl) (hs : ∀ env x, foldedSetIterable iter env x = pure x := by intro _ _; rfl) :
    SSem W n sc tab (.Assign [.Name y py] (.ListComp elt [⟨tgt, iter, [], 0⟩] scope pos) spos) (sComp i (pNo k) f asg g) :=
  SSem.comp1 i hi hE hA (Clos.no k fun x hx => by simpa using List.all_eq_true.mp hf x hx) (fun env _ => relab_no hf env) hk hk hcell hnames hn hsw hx hl hs
theorem ESem.comp1F {elt tgt iter scope pos f asg g} {tab' : List Str} {x : Str} (i j k : Nat) (hi : ESem W n sc tab iter f) (hE : ESem W n (relab scope) tab' elt g) (hA : ASem W n (relab scope) tab' tgt asg)
    (hcl : ∀ (env : Env) c, env.cells.lookup x = some c → closureFor scope env = pure [(x, c)])
    (hi' : tab[i]? = some x := by rfl) (hj : tab'[j]? = some x := by rfl) (hc : sc.names.lookup x = some .cell := by rfl) (hc' : (relab scope).names.lookup x = some .cell := by rfl) (hsk : sc.kind = .function := by rfl)
    (hf : ∀ p ∈ scope.names, p.2 = .free → sc.names.lookup p.1 = some .cell := by decide +kernel) (hk : scope.kind = .function := by rfl) (hcell : ∀ x ∈ scope.names, x.2 ≠ .cell := by decide +kernel)
    (hnames : ∀ x ∈ scope.names, x.2 = .local → scope.names.lookup x.1 = some .local := by decide +kernel) (hs : ∀ env x, foldedSetIterable iter env x = pure x := by intro _ _; rfl) :
    ESem W n sc tab (.ListComp elt [⟨tgt, iter, [], 0⟩] scope pos) (eComp (pOne i j k) f asg g) :=
  ESem.comp1 hi hE hA (Clos.one i j k hi' hj hc hc' hcl) (relab_one hsk hf) hk hk hcell hnames hs
theorem ESem.comp2F {elt t1 i1 t2 i2 scope pos f asg f2 asg2 g} {tab' : List Str} {x : Str} (i j k : Nat) (hi : ESem W n sc tab i1 f) (hE : ESem W n (relab scope) tab' elt g) (hA : ASem W n (relab scope) tab' t1 asg) (h2 : ESem W n (relab scope) tab' i2 f2) (hA2 : ASem W n (relab scope) tab' t2 asg2)
    (hcl : ∀ (env : Env) c, env.cells.lookup x = some c → closureFor scope env = pure [(x, c)])
    (hi' : tab[i]? = some x := by rfl) (hj : tab'[j]? = some x := by rfl) (hc : sc.names.lookup x = some .cell := by rfl) (hc' : (relab scope).names.lookup x = some .cell := by rfl) (hsk : sc.kind = .function := by rfl)
    (hf : ∀ p ∈ scope.names, p.2 = .free → sc.names.lookup p.1 = some .cell := by decide +kernel) (hk : scope.kind = .function := by rfl) (hcell : ∀ x ∈ scope.names, x.2 ≠ .cell := by decide +kernel)
    (hnames : ∀ x ∈ scope.names, x.2 = .local → scope.names.lookup x.1 = some .local := by decide +kernel) (hs : ∀ env x, foldedSetIterable i1 env x = pure x := by intro _ _; rfl) (hs2 : ∀ env x, foldedSetIterable i2 env x = pure x := by intro _ _; rfl) :
    ESem W n sc tab (.ListComp elt [⟨t1, i1, [], 0⟩, ⟨t2, i2, [], 0⟩] scope pos) (eComp2 (pOne i j k) f asg f2 asg2 g) :=
  ESem.comp2 hi hE hA h2 hA2 (Clos.one i j k hi' hj hc hc' hcl) (relab_one hsk hf) hk hk hcell hnames hs hs2
end
end Mine

namespace Mine
set_option autoImplicit false
/-! a raise through three calls -/
section
variable {W : Wd} {n : Nat} {sc : Scope} {tab : List Str}
theorem call_enter {fa oc od osl fd body names k m dv dd} (ho : W.K.lookup fa = some ⟨oc, od, .func fd, osl⟩) (hbody : fd.body = .stmts body) (hsc : fd.scope = sc) (hgl : fd.globals = mainGlobals) (hbu : fd.builtins = builtinsNs) (hclo : fd.closure = [])
    (hcd : codeIn W.K fd.code fd.qualname = true) (hk : sc.kind = .function) (hco : sc.isCoroutine = false) (hgen : sc.isGenerator = false)
    (hbind : ∀ (s : Shared) (vs : List Value), W.K.In s.heap → vs.length = k → BindsTo s fd ⟨vs, []⟩ (names.zip (vs ++ dv)))
    (hlen : names.length = k + dd.length) (hd : ∀ as h, RepAll as h dv dd) (htab : names = tab.take names.length) (hn : names.Nodup)
    (hkind : ∀ x ∈ names, sc.names.lookup x = some .local) (hcells : ∀ a, cellsFrom a sc.names [] = [])
    {A : Around} {s : Shared} {vs : List Value} {ds : List D} {ρ₀ : St} {Q : Value → Shared → Prop} {E : Value → Shared → Prop} (R : Room (n + 1) A) (gr : W.Gd s.heap) (r : RepAll [] s.heap vs ds) (e₁ : initSt k m dd ds = some ρ₀)
    (h : ∀ L h₁ tk mm, Fr s.heap L h₁ mm → FrOk W (envOf fd.qualname sc L fa fd.code) tab [] h₁ ρ₀ → EnvOk sc (envOf fd.qualname sc L fa fd.code) → s.heap.StaysIn h₁ → Room n (A.deeper (envOf fd.qualname sc L fa fd.code)) → (∀ y v, (y, v) ∈ names.zip (vs ++ dv) → mm y = some v) →
      wpAny W.M (A.deeper (envOf fd.qualname sc L fa fd.code)) (execs body (envOf fd.qualname sc L fa fd.code)) (fun f s' => Q (match f with | .ret v => v | _ => .none) s')
        (fun e s' => wpAny W.M (A.deeper (envOf fd.qualname sc L fa fd.code)) (leaving (envOf fd.qualname sc L fa fd.code) e) (fun _ s'' => E e s'') (fun e' s'' => E e' s'') s') { s with heap := h₁, toks := tk }) :
    wpAny W.M A (call (.ref fa) vs) Q E s := by
  unfold initSt at e₁
  by_cases hdl : ds.length = k
  · rw [if_pos hdl] at e₁
    cases e₁
    have rr : RepAll [] s.heap (vs ++ dv) (ds ++ dd) := r.append (hd _ _)
    have hvl : vs.length = k := r.length.trans hdl
    have hzl : names.length = (vs ++ dv).length := by rw [rr.length, List.length_append, hdl, hlen]
    have hzm : (names.zip (vs ++ dv)).map (·.1) = names := by
      have := List.map_fst_zip (l₁ := names) (l₂ := vs ++ dv) (Nat.le_of_eq hzl)
      simpa using this
    subst hsc
    refine wpAny_call (codeAny_call_function (by have := R.depth; omega) (gr.k _ _ ho) rfl hco hgen hbody (codeRec_of gr.k hcd) (hbind _ _ gr.k hvl _ _ _ _ ?_))
    rw [hclo]
    refine wpAny_newFunctionEnv_cells hk (fun x hx => ?_) fun env he s₁ x => ?_
    · have hx1 : x.1 ∈ names := by rw [← hzm]; exact List.mem_map_of_mem hx
      exact .inl (hkind _ hx1)
    subst he
    obtain ⟨h₁, tk, rfl, k₁⟩ := x.done
    refine ⟨gr.t.nolimit.keeps k₁, codeAny_func ?_⟩
    have henv : newEnv fd.scope s.heap.objs.size fd.globals (cellsFrom (s.heap.objs.size + 1) fd.scope.names []) (fd.qualname ++ ".<locals>.") (some fa) fd.code none fd.builtins = envOf fd.qualname fd.scope s.heap.objs.size fa fd.code := by
      rw [hcells, hgl, hbu]; rfl
    have O : EnvOk fd.scope (envOf fd.qualname fd.scope s.heap.objs.size fa fd.code) := ⟨rfl, hk, rfl, rfl⟩
    have ns := x.toInCall.ns
    rw [henv] at ns ⊢
    refine h s.heap.objs.size h₁ tk _ ⟨ns, k₁, Nat.le_refl _⟩ ⟨(fun a m => by cases m), s.heap, _, gr, ⟨ns, k₁, Nat.le_refl _⟩, fun i y d' e1 e2 => ?_⟩ O k₁ ⟨by have := R.depth; show A.depth + 1 + n < _; omega, by have := R.units; show A.units + 3 + 8 * n + 200 < _; omega, R.handled⟩ fun y v hm => ?_
    rotate_left
    · have hnd : ((names.zip (vs ++ dv)).map (·.1)).Nodup := by rw [hzm]; exact hn
      exact bindL_get hnd hm (hkind y (by rw [← hzm]; exact List.mem_map_of_mem hm))
    have e3 := gt_init e2
    obtain ⟨v, hv, rv⟩ := rr.get e3
    have hi : i < names.length := by
      rw [hzl]; exact (List.getElem?_eq_some_iff.mp hv).1
    have hy : names[i]? = some y := by
      rw [htab, List.getElem?_take_of_lt hi]; exact e1
    have hm : (y, v) ∈ names.zip (vs ++ dv) := by
      refine List.mem_of_getElem? (i := i) ?_
      rw [List.getElem?_zip_eq_some]
      exact ⟨hy, hv⟩
    have hnd : ((names.zip (vs ++ dv)).map (·.1)).Nodup := by rw [hzm]; exact hn
    have hyn : y ∈ names := List.mem_of_getElem? hy
    exact ⟨v, rv.keeps k₁, .inl ⟨hkind y hyn, bindL_get hnd hm (hkind y hyn)⟩⟩
  · rw [if_neg hdl] at e₁; cases e₁
theorem exec_if_true {A : Around} {env : Env} {s : Shared} {ρ : St} {t : Expr} {b o : List Stmt} {pos : Pos} {f : St → Option Bool} {Q : Flow → Shared → Prop} {E : Value → Shared → Prop} (ht : TSem W n sc tab t f) (R : Room n A) (O : EnvOk sc env) (F : FrOk W env tab [] s.heap ρ) (e : f ρ = some true)
    (h : ∀ h tk, s.heap.StaysIn h → FrOk W env tab [] h ρ → wpAny W.M A (execs b env) Q E { s with heap := h, toks := tk }) : wpAny W.M A (exec (.If t b o pos) env) Q E s :=
  wpAny_If (ht R O F e fun h₁ tk k => by rw [if_pos rfl]; exact h _ _ k (F.keeps k))
theorem exec_next {A : Around} {env : Env} {s : Shared} {ρ ρ' : St} {st : Stmt} {rest : List Stmt} {g : St → Option Fl} {Q : Flow → Shared → Prop} {E : Value → Shared → Prop} (hs : SSem W n sc tab st g) (R : Room n A) (O : EnvOk sc env) (F : FrOk W env tab [] s.heap ρ) (e : g ρ = some (.nxt ρ'))
    (h : ∀ h tk, Heap.ExtBut env.locals s.heap h → FrOk W env tab [] h ρ' → wpAny W.M A (execs rest env) Q E { s with heap := h, toks := tk }) : wpAny W.M A (execs (st :: rest) env) Q E s :=
  wpAny_execs_cons (hs R O F e (fun ρ₂ h₁ tk q F₂ k => by cases q; exact h _ _ k F₂) (fun d v h₁ tk q => by cases q))
theorem refr {g h₁ h : Heap} {L : Addr} {m m' : Str → Option Value} (F : Fr g L h₁ m) (k : Heap.ExtBut L h₁ h) (n : h.Ns L m') : Fr g L h m' :=
  ⟨n, fun b o e => k b o (fun q => by
      have h1 := ltN (Heap.lt_size e)
      have h2 := F.above
      rw [q] at h1
      exact Nat.lt_irrefl _ (Nat.lt_of_lt_of_le h1 h2)) (F.keep b o e), F.above⟩
/-- the argument of a call that raises -/
theorem exec_call {A : Around} {env : Env} {s : Shared} {ρ : St} {x : Str} {p pos : Pos} {e : Expr} {es : List Expr} {fa : Addr} {G : St → Option (List D)} {ds : List D} {Q : Value → Shared → Prop} {E : Value → Shared → Prop}
    (hg : nsIn W.K mainGlobals x = some (some (.ref fa))) (hk : keepIn W.K (.ref fa) = true) (hG : LSem W n sc tab (e :: es) G) (R : Room n A) (O : EnvOk sc env) (Fr : FrOk W env tab [] s.heap ρ) (e₁ : G ρ = some ds)
    (h : ∀ vs h₁ tk, s.heap.StaysIn h₁ → FrOk W env tab [] h₁ ρ → RepAll [] h₁ vs ds → wpAny W.M A (call (.ref fa) vs) Q E { s with heap := h₁, toks := tk })
    (hx : sc.names.lookup x = some .globalImplicit := by rfl) (hd : (x == ("__debug__" : Str)) = false := by decide)
    (he : ∀ env, starEach (e :: es) env = (false, eval e env) :: starEach es env := by intro _; rfl) (hp : ∀ env, (backTo pos (starEach es env)).any (·.1) = false := by intro _; rfl) :
    wpAny W.M A (eval (.Call (.Name x p) (e :: es) [] pos) env) Q E s :=
  Call_ (glob_name O Fr hg hx hd (callWith_K (h₀ := s.heap) Fr.gdR.k hk (hG R O Fr e₁ fun vs h₁ tk k₁ r₁ => ⟨(Fr.keeps k₁).gdR.k, h _ _ _ k₁ (Fr.keeps k₁) r₁⟩) (he env) (hp env)))
end
end Mine

namespace Mine
set_option autoImplicit false
section
variable {W : Wd} {n : Nat} {sc : Scope} {tab : List Str}
/-- return x[0][0] < 0, wherever it stands -/
theorem lt_suite {A : Around} {env : Env} {s : Shared} {m : Str → Option Value} {v : Value} {x : Str} {a : Int} {l l2 : List D} {Q : Flow → Shared → Prop} {E : Value → Shared → Prop} {p1 p2 p3 p4 p5 p6 p7 p8 : Pos} {k1 k2 k3 : Nat}
    (hk : env.scope.kind = .function) (kx : env.kindOf x = some .local) (ns : s.heap.Ns env.locals m) (hv : m x = some v) (r : Rep [] s.heap v (.lst (.tup (.int a :: l) :: l2)))
    (h : ∀ tk, Q (.ret (.bool (decide (a < 0)))) { s with toks := tk }) (hd : (x == ("__debug__" : Str)) = false := by decide) :
    wpAny W.M A (execs [.Return (some (.Compare (.Subscript (.Subscript (.Name x p1) (.Constant (.int 0) k1 p2) p3) (.Constant (.int 0) k2 p4) p5) [.Lt] [.Constant (.int 0) k3 p6] p7)) p8] env) Q E s := by
  obtain ⟨b, vs, rfl, ht, ra⟩ := r.asList
  obtain ⟨v1, hx1, rv1⟩ := ra.get (i := 0) rfl
  obtain ⟨b2, vs2, rfl, ht2, ra2⟩ := rv1.asTup
  obtain ⟨v2, hx2, rv2⟩ := ra2.get (i := 0) rfl
  have hlt := (List.getElem?_eq_some_iff.mp hx2).1
  cases rv2
  refine wpAny_execs_cons (wpAny_Return_some (wpAny_Compare1 (Subscript_ (Subscript_ (wpAny_Name (wpAny_loadName_local hk kx ns hv (wpAny_Constant_int ?_)) hd) : _) : _) (by with_unfolding_all rfl)))
  refine item_list_any ht (by decide) (by decide) (by simpa using hx1) ?_ (by with_unfolding_all rfl)
  refine wpAny_Constant_int ?_
  refine item_tupleT (l := vs2.toList) (by simpa using ht2) (by decide) (by decide) (seqIdx (by decide) hlt) hx2 ?_ (by with_unfolding_all rfl)
  refine wpAny_Constant_int (lt_int ?_)
  exact h _
end
end Mine

namespace Mine
set_option autoImplicit false
/-! the law's own frame: what a call that catches may do to it -/
def Turn (L : Addr) (g h : Heap) : Prop := Heap.ExtBut L g h ∧ ∀ o, g.get? L = some o → ∃ sl, h.get? L = some { o with slots := sl }
theorem Turn.of_stays {L : Addr} {g h : Heap} (k : g.StaysIn h) : Turn L g h := ⟨ext_of k, fun o e => ⟨o.slots, k _ _ e⟩⟩
section
variable {W : Wd} {n : Nat} {sc : Scope} {tab : List Str} {base : Heap}
theorem Turn.ns {L : Addr} {g h : Heap} {m : Str → Option Value} (T : Turn L g h) (x : g.Ns L m) : h.Ns L m := by
  obtain ⟨o, es, ep, ho, hd, r⟩ := x
  obtain ⟨sl, hs⟩ := T.2 o ho
  exact ⟨_, es, ep, hs, hd, r⟩
theorem FrOk.turn {env : Env} {h h' : Heap} {ρ : St} (F : FrOk W env tab [] h ρ) (T : Turn env.locals h h') : FrOk W env tab [] h' ρ := by
  have F0 := F
  obtain ⟨_, h₀, m, g, f, var⟩ := F
  have f1 : Fr h₀ env.locals h m := f
  refine ⟨(fun a m => by cases m), h₀, m, g, refr f1 T.1 (T.ns f1.ns), fun i x d e1 e2 => ?_⟩
  obtain ⟨v, r, hv⟩ := var i x d e1 e2
  refine ⟨v, Rep.ext F0 r T.1, hv.imp id fun ⟨k, c, hc, o, ho, hd⟩ => ⟨k, c, hc, o, T.1 c o (fun q => ?_) ho, hd⟩⟩
  obtain ⟨o', es, ep, ho', hd', _⟩ := f1.ns
  have ho : h.get? c = some o := ho
  rw [← q, ho] at ho'
  cases ho'
  rw [hd] at hd'
  cases hd'
def LawIn (base : Heap) (A : Around) (env : Env) (h : Heap) : Prop := A.frames = some [env] ∧ env.frame = some env.locals ∧ ∃ m, Fr base env.locals h m
theorem LawIn.next {A : Around} {env : Env} {h h' : Heap} {ρ : St} (x : LawIn base A env h) (k : Heap.ExtBut env.locals h h') (F : FrOk W env tab [] h' ρ) : LawIn base A env h' := by
  obtain ⟨a, b, m, f⟩ := x
  obtain ⟨m', ns⟩ := F.ns
  exact ⟨a, b, m', refr f k ns⟩
theorem LawIn.below {A : Around} {env : Env} {h : Heap} (x : LawIn base A env h) (hk : env.scope.kind = .function) : Below A base [env] h := by
  obtain ⟨a, b, m, f⟩ := x
  exact ⟨a, f.keep, .cons (by rw [hk]; decide) b f.ns (kts_self f) trivial⟩

def CSemF (W : Wd) (base : Heap) (n : Nat) (fv : Value) (F : List D → Option D) : Prop :=
  ∀ {A s vs ds d L envL} {Q : Value → Shared → Prop} {E : Value → Shared → Prop}, Room n A → W.Gd s.heap → RepAll [] s.heap vs ds → Below A base [envL] s.heap → envL.frame = some L → (∃ m, s.heap.Ns L m) → F ds = some d →
    (∀ v h tk, Turn L s.heap h → Rep [] h v d → Q v { s with heap := h, toks := tk }) → wpAny W.M A (call fv vs) Q E s
def ESemF (W : Wd) (base : Heap) (n : Nat) (sc : Scope) (tab : List Str) (e : Expr) (f : St → Option D) : Prop :=
  ∀ {A env s ρ d} {Q : Value → Shared → Prop} {E : Value → Shared → Prop}, Room n A → EnvOk sc env → FrOk W env tab [] s.heap ρ → LawIn base A env s.heap → f ρ = some d →
    (∀ v h tk, Heap.ExtBut env.locals s.heap h → FrOk W env tab [] h ρ → Rep [] h v d → Q v { s with heap := h, toks := tk }) → wpAny W.M A (eval e env) Q E s
def TSemF (W : Wd) (base : Heap) (n : Nat) (sc : Scope) (tab : List Str) (e : Expr) (f : St → Option Bool) : Prop :=
  ∀ {A env s ρ b} {Q : Bool → Shared → Prop} {E : Value → Shared → Prop}, Room n A → EnvOk sc env → FrOk W env tab [] s.heap ρ → LawIn base A env s.heap → f ρ = some b →
    (∀ h tk, Heap.ExtBut env.locals s.heap h → FrOk W env tab [] h ρ → Q b { s with heap := h, toks := tk }) → wpAny W.M A (isTrue e env (eval e env)) Q E s
def SSemF (W : Wd) (base : Heap) (n : Nat) (sc : Scope) (tab : List Str) (st : Stmt) (g : St → Option Fl) : Prop :=
  ∀ {A env s ρ fl} {Q : Flow → Shared → Prop} {E : Value → Shared → Prop}, Room n A → EnvOk sc env → FrOk W env tab [] s.heap ρ → LawIn base A env s.heap → g ρ = some fl →
    (∀ ρ' h tk, fl = .nxt ρ' → FrOk W env tab [] h ρ' → Heap.ExtBut env.locals s.heap h → Q .next { s with heap := h, toks := tk }) →
    (∀ d v h tk, fl = .ret d → Heap.ExtBut env.locals s.heap h → Rep [] h v d → Q (.ret v) { s with heap := h, toks := tk }) → wpAny W.M A (exec st env) Q E s
def BSemF (W : Wd) (base : Heap) (n : Nat) (sc : Scope) (tab : List Str) (b : List Stmt) (g : St → Option Fl) : Prop :=
  ∀ {A env s ρ fl} {Q : Flow → Shared → Prop} {E : Value → Shared → Prop}, Room n A → EnvOk sc env → FrOk W env tab [] s.heap ρ → LawIn base A env s.heap → g ρ = some fl →
    (∀ ρ' h tk, fl = .nxt ρ' → FrOk W env tab [] h ρ' → Heap.ExtBut env.locals s.heap h → Q .next { s with heap := h, toks := tk }) →
    (∀ d v h tk, fl = .ret d → Heap.ExtBut env.locals s.heap h → Rep [] h v d → Q (.ret v) { s with heap := h, toks := tk }) → wpAny W.M A (execs b env) Q E s

theorem ESemF.call {x p pos e es fa F G} (hg : nsIn W.K mainGlobals x = some (some (.ref fa))) (hk : keepIn W.K (.ref fa) = true) (hF : CSemF W base n (.ref fa) F) (hG : LSem W n sc tab (e :: es) G)
    (hx : sc.names.lookup x = some .globalImplicit := by rfl) (hd : (x == ("__debug__" : Str)) = false := by decide)
    (he : ∀ env, starEach (e :: es) env = (false, eval e env) :: starEach es env := by intro _; rfl) (hp : ∀ env, (backTo pos (starEach es env)).any (·.1) = false := by intro _; rfl) :
    ESemF W base n sc tab (.Call (.Name x p) (e :: es) [] pos) (fun ρ => (G ρ).bind F) := by
  intro A env s ρ d Q E R O Fr LI e h
  obtain ⟨ds, e₁, e⟩ := Option.bind_eq_some_iff.mp e
  refine exec_call hg hk hG R O Fr e₁ (fun vs h₁ tk k₁ F₁ r₁ => ?_) hx hd he hp
  have LI₁ := LI.next (ext_of k₁) F₁
  exact hF R F₁.gd r₁ (LI₁.below (O.scope ▸ O.kind)) LI.2.1 F₁.ns e fun v h₂ tk T r => h _ _ _ ((ext_of k₁).trans T.1) (F₁.turn T) r
theorem TSemF.plain {e f} (he : ESemF W base n sc tab e f) (hp : ∀ env whole, isTrue e env whole = (do let v ← whole; standAt e.pos; holding [v] (truthy v)) := by intro _ _; rfl) :
    TSemF W base n sc tab e (fun ρ => (f ρ).bind dTruth) := by
  intro A env s ρ b Q E R O F LI e h
  obtain ⟨d₁, e₁, e⟩ := Option.bind_eq_some_iff.mp e
  exact isTrue_plain (he R O F LI e₁ fun v h₁ tk k F₁ r => truth_ok r e (h _ _ k F₁)) (hp _ _)
theorem TSemF.not {x f pos} (hx : TSemF W base n sc tab x f) : TSemF W base n sc tab (.UnaryOp .Not x pos) (fun ρ => (f ρ).map (!·)) := by
  intro A env s ρ b Q E R O F LI e h
  obtain ⟨d₁, e₁, rfl⟩ := Option.map_eq_some_iff.mp e
  exact isTrue_not (hx R O F LI e₁ fun h₁ tk k F₁ => h _ _ k F₁)
theorem TSemF.or0 {pos} : TSemF W base n sc tab (.BoolOp .Or [] pos) (fun _ => some false) := by
  intro A env s ρ b Q E R O F LI e h
  cases e
  exact isTrue_or_nil (h _ s.toks (ext_of stays_refl) F)
theorem TSemF.or1 {x rest f g pos} (hx : TSemF W base n sc tab x f) (hr : TSemF W base n sc tab (.BoolOp .Or rest pos) g) :
    TSemF W base n sc tab (.BoolOp .Or (x :: rest) pos) (fun ρ => (f ρ).bind fun b => if b then some true else g ρ) := by
  intro A env s ρ b Q E R O F LI e h
  obtain ⟨d₁, e₁, e⟩ := Option.bind_eq_some_iff.mp e
  refine isTrue_or (hx R O F LI e₁ fun h₁ tk k F₁ => ?_)
  cases d₁ with
  | true => cases e; exact h _ _ k F₁
  | false => exact hr R O F₁ (LI.next k F₁) e fun h₂ tk k₂ F₂ => h _ _ (k.trans k₂) F₂
theorem SSemF.ife {t b o f g k pos} (ht : TSemF W base n sc tab t f) (hb : BSem W n sc tab b g) (ho : BSem W n sc tab o k) : SSemF W base n sc tab (.If t b o pos) (fun ρ => (f ρ).bind fun c => if c then g ρ else k ρ) := by
  intro A env s ρ fl Q E R O F LI e h1 h2
  obtain ⟨c, e₁, e⟩ := Option.bind_eq_some_iff.mp e
  refine wpAny_If (ht R O F LI e₁ fun h tk k₁ F₁ => ?_)
  cases c with
  | true => exact hb R O F₁ e (fun ρ₃ h' tk' q F₃ k' => h1 _ _ _ q F₃ (k₁.trans k')) fun d v h' tk' q k' r => h2 _ _ _ _ q (k₁.trans k') r
  | false => exact ho R O F₁ e (fun ρ₃ h' tk' q F₃ k' => h1 _ _ _ q F₃ (k₁.trans k')) fun d v h' tk' q k' r => h2 _ _ _ _ q (k₁.trans k') r
theorem BSemF.cons {st rest f g} (hs : SSem W n sc tab st f) (hr : BSemF W base n sc tab rest g) : BSemF W base n sc tab (st :: rest) (fun ρ => andThen (f ρ) g) := by
  intro A env s ρ fl Q E R O F LI e h1 h2
  have e : andThen (f ρ) g = some fl := e
  unfold andThen at e
  refine wpAny_execs_cons ?_
  split at e
  · rename_i ρ' e₁
    refine hs R O F e₁ (fun ρ₂ h tk q F₂ k => ?_) (fun d v h tk q => by cases q)
    cases q
    exact hr R O F₂ (LI.next k F₂) e (fun ρ₃ h' tk' q F₃ k' => h1 _ _ _ q F₃ (k.trans k')) fun d v h' tk' q k' r => h2 _ _ _ _ q (k.trans k') r
  · rename_i d e₁
    cases e
    refine hs R O F e₁ (fun ρ₂ h tk q => by cases q) fun d v h tk q k r => ?_
    cases q
    exact h2 _ _ _ _ rfl k r
  · cases e
theorem BSemF.consF {st rest f g} (hs : SSemF W base n sc tab st f) (hr : BSem W n sc tab rest g) : BSemF W base n sc tab (st :: rest) (fun ρ => andThen (f ρ) g) := by
  intro A env s ρ fl Q E R O F LI e h1 h2
  have e : andThen (f ρ) g = some fl := e
  unfold andThen at e
  refine wpAny_execs_cons ?_
  split at e
  · rename_i ρ' e₁
    refine hs R O F LI e₁ (fun ρ₂ h tk q F₂ k => ?_) (fun d v h tk q => by cases q)
    cases q
    exact hr R O F₂ e (fun ρ₃ h' tk' q F₃ k' => h1 _ _ _ q F₃ (k.trans k')) fun d v h' tk' q k' r => h2 _ _ _ _ q (k.trans k') r
  · rename_i d e₁
    cases e
    refine hs R O F LI e₁ (fun ρ₂ h tk q => by cases q) fun d v h tk q k r => ?_
    cases q
    exact h2 _ _ _ _ rfl k r
  · cases e
end
end Mine

namespace Mine
open_top hd for PySem.Challenge.rw_ah5013_01
end Mine

namespace Mine
set_option autoImplicit false
def d_zi : D := .int 0
def d_oi : D := .int 1
def d_rn : D := .str (Str.ofString "n")
def d_rf : D := .str (Str.ofString "f")
def d_rc : D := .str (Str.ofString "c")
def d_ru : D := .str (Str.ofString "u")
def d_rd : D := .str (Str.ofString "d")
def d_rfast : D := .str (Str.ofString "d")
def d_fzero : D := .tup [.int 0, .int 0, .int 0, .int 0]
def d_fone : D := .tup [.int 0, .int 1, .int 0, .int 1]
def d_fnan : D := .tup [.int 0, .int 0, .int (-123), .int (-1)]
def d_finf : D := .tup [.int 0, .int 0, .int (-456), .int (-2)]
def d_fninf : D := .tup [.int 1, .int 0, .int (-789), .int (-3)]
def D_trailing : St → Option Fl := (sCons (sIf (tNot (tE (eVar 0))) (sCons (sRet (eInt 0)) sNil) sNil) (sCons (sRet (eBin .Sub (eBits (eBin .BitAnd (eVar 0) (eNeg (eVar 0)))) (eInt 1))) sNil))
def F_trailing : List D → Option D := defD 1 0 [] D_trailing
def D_isqrt_small : St → Option Fl := (sCons (sIf (tNot (tE (eVar 0))) (sCons (sRet (eVar 0)) sNil) sNil) (sCons (sSet 1 (eBin .LShift (eInt 1) (eBin .RShift (eBin .Add (eBits (eVar 0)) (eInt 1)) (eInt 1)))) (sCons (sWhile (2 ^ 3000) (tE (eInt 1)) (sCons (sSet 2 (eBin .RShift (eBin .Add (eVar 1) (eBin .FloorDiv (eVar 0) (eVar 1))) (eInt 1))) (sCons (sIf (tCmp .GtE (eVar 2) (eVar 1)) (sCons (sRet (eVar 1)) sNil) sNil) (sCons (sSet 1 (eVar 2)) sNil)))) sNil)))
def F_isqrt_small : List D → Option D := defD 1 2 [] D_isqrt_small
def D_sqrtrem : St → Option Fl := (sCons (sSet 1 (eCall F_isqrt_small (lCons (eVar 0) lNil))) (sCons (sRet (eTup (lCons (eVar 1) (lCons (eBin .Sub (eVar 0) (eBin .Mult (eVar 1) (eVar 1))) lNil)))) sNil))
def F_sqrtrem : List D → Option D := defD 1 1 [] D_sqrtrem
def D_isqrt : St → Option Fl := (sCons (sRet (eSub (eCall F_sqrtrem (lCons (eVar 0) lNil)) (eInt 0))) sNil)
def F_isqrt : List D → Option D := defD 1 0 [] D_isqrt
def D_nrm : St → Option Fl := (sCons (sIf (tNot (tE (eVar 1))) (sCons (sRet (eGlob d_fzero)) sNil) sNil) (sCons (sSet 6 (eBin .Sub (eVar 3) (eVar 4))) (sCons (sIf (tCmp .Gt (eVar 6) (eInt 0)) (sCons (sIf (tCmp .Eq (eVar 5) (eGlob d_rn)) (sCons (sSet 7 (eBin .RShift (eVar 1) (eBin .Sub (eVar 6) (eInt 1)))) (sCons (sIf (tAnd (tE (eBin .BitAnd (eVar 7) (eInt 1))) (tAnd (tOr (tE (eBin .BitAnd (eVar 7) (eInt 2))) (tOr (tE (eBin .BitAnd (eVar 1) (eBin .Sub (eBin .LShift (eGlob d_oi) (eBin .Sub (eVar 6) (eInt 1))) (eInt 1)))) tFalse)) tTrue)) (sCons (sSet 1 (eBin .Add (eBin .RShift (eVar 7) (eInt 1)) (eInt 1))) sNil) (sCons (sSet 1 (eBin .RShift (eVar 7) (eInt 1))) sNil)) sNil)) (sCons (sIf (tE (eSub (eShift (eVar 5)) (eVar 0))) (sCons (sAug 1 .RShift (eVar 6)) sNil) (sCons (sSet 1 (eNeg (eBin .RShift (eNeg (eVar 1)) (eVar 6)))) sNil)) sNil)) (sCons (sAug 2 .Add (eVar 6)) (sCons (sSet 3 (eVar 4)) sNil))) sNil) (sCons (sIf (tNot (tE (eBin .BitAnd (eVar 1) (eInt 1)))) (sCons (sSet 7 (eCall F_trailing (lCons (eVar 1) lNil))) (sCons (sAug 1 .RShift (eVar 7)) (sCons (sAug 2 .Add (eVar 7)) (sCons (sAug 3 .Sub (eVar 7)) sNil)))) sNil) (sCons (sIf (tCmp .Eq (eVar 1) (eInt 1)) (sCons (sSet 3 (eInt 1)) sNil) sNil) (sCons (sRet (eTup (lCons (eVar 0) (lCons (eVar 1) (lCons (eVar 2) (lCons (eVar 3) lNil)))))) sNil))))))
def F_nrm : List D → Option D := defD 6 2 [] D_nrm
def D_normalize : St → Option Fl := (sCons (sAsrt (tCmp .Eq (eVar 3) (eBits (eVar 1)))) (sCons (sAsrt (tCmp .GtE (eVar 1) (eInt 0))) (sCons (sRet (eCall F_nrm (lCons (eVar 0) (lCons (eVar 1) (lCons (eVar 2) (lCons (eVar 3) (lCons (eVar 4) (lCons (eVar 5) lNil)))))))) sNil)))
def F_normalize : List D → Option D := defD 6 0 [] D_normalize
def D_from_man_exp : St → Option Fl := (sCons (sIf (tNot (tE (eIsInt (eVar 0)))) (sCons sNone sNil) sNil) (sCons (sSet 4 (eInt 0)) (sCons (sIf (tCmp .Lt (eVar 0) (eInt 0)) (sCons (sSet 4 (eInt 1)) (sCons (sSet 0 (eNeg (eVar 0))) sNil)) sNil) (sCons (sSet 5 (eBits (eVar 0))) (sCons (sIf (tNot (tE (eVar 2))) (sCons (sIf (tNot (tE (eVar 0))) (sCons (sRet (eGlob d_fzero)) sNil) sNil) (sCons (sIf (tNot (tE (eBin .BitAnd (eVar 0) (eInt 1)))) (sCons (sIf (tE (eBin .BitAnd (eVar 0) (eInt 2))) (sCons (sRet (eTup (lCons (eVar 4) (lCons (eBin .RShift (eVar 0) (eInt 1)) (lCons (eBin .Add (eVar 1) (eInt 1)) (lCons (eBin .Sub (eVar 5) (eInt 1)) lNil)))))) sNil) sNil) (sCons (sSet 6 (eCall F_trailing (lCons (eVar 0) lNil))) (sCons (sAug 0 .RShift (eVar 6)) (sCons (sAug 1 .Add (eVar 6)) (sCons (sAug 5 .Sub (eVar 6)) sNil))))) sNil) (sCons (sRet (eTup (lCons (eVar 4) (lCons (eVar 0) (lCons (eVar 1) (lCons (eVar 5) lNil)))))) sNil))) sNil) (sCons (sRet (eCall F_normalize (lCons (eVar 4) (lCons (eVar 0) (lCons (eVar 1) (lCons (eVar 5) (lCons (eVar 2) (lCons (eVar 3) lNil)))))))) sNil))))))
def F_from_man_exp : List D → Option D := defD 4 3 [] D_from_man_exp
def D_mpf_neg : St → Option Fl := (sCons (sUnpack [3, 4, 5, 6] (eVar 0)) (sCons (sIf (tNot (tE (eVar 4))) (sCons (sIf (tE (eVar 5)) (sCons (sIf (tCmp .Eq (eVar 0) (eGlob d_finf)) (sCons (sRet (eGlob d_fninf)) sNil) sNil) (sCons (sIf (tCmp .Eq (eVar 0) (eGlob d_fninf)) (sCons (sRet (eGlob d_finf)) sNil) sNil) sNil)) sNil) (sCons (sRet (eVar 0)) sNil)) sNil) (sCons (sIf (tNot (tE (eVar 1))) (sCons (sRet (eTup (lCons (eBin .Sub (eInt 1) (eVar 3)) (lCons (eVar 4) (lCons (eVar 5) (lCons (eVar 6) lNil)))))) sNil) sNil) (sCons (sRet (eCall F_normalize (lCons (eBin .Sub (eInt 1) (eVar 3)) (lCons (eVar 4) (lCons (eVar 5) (lCons (eVar 6) (lCons (eVar 1) (lCons (eVar 2) lNil)))))))) sNil))))
def F_mpf_neg : List D → Option D := defD 3 4 [] D_mpf_neg
def F_mpf_neg_1 : List D → Option D := defD 1 4 [.int 0, .str (Str.ofString "d")] D_mpf_neg
def D_mpf_add : St → Option Fl := (sCons (sUnpack [5, 6, 7, 8] (eVar 0)) (sCons (sUnpack [9, 10, 11, 12] (eVar 1)) (sCons (sAug 9 .BitXor (eVar 4)) (sCons (sIf (tAnd (tE (eVar 6)) (tAnd (tE (eVar 10)) tTrue)) (sCons (sSet 13 (eBin .Sub (eVar 7) (eVar 11))) (sCons (sIf (tE (eVar 13)) (sCons (sIf (tCmp .Gt (eVar 13) (eInt 0)) (sCons (sIf (tAnd (tCmp .Gt (eVar 13) (eInt 100)) (tAnd (tE (eVar 2)) tTrue)) (sCons (sSet 14 (eBin .Sub (eBin .Sub (eBin .Add (eVar 8) (eVar 7)) (eVar 12)) (eVar 11))) (sCons (sIf (tCmp .Gt (eVar 14) (eBin .Add (eVar 2) (eInt 4))) (sCons (sSet 13 (eBin .Add (eVar 2) (eInt 4))) (sCons (sAug 6 .LShift (eVar 13)) (sCons (sIf (tCmp .Eq (eVar 9) (eVar 5)) (sCons (sAug 6 .Add (eInt 1)) sNil) (sCons (sAug 6 .Sub (eInt 1)) sNil)) (sCons (sRet (eCall F_normalize (lCons (eVar 5) (lCons (eVar 6) (lCons (eBin .Sub (eVar 7) (eVar 13)) (lCons (eBits (eVar 6)) (lCons (eVar 2) (lCons (eVar 3) lNil)))))))) sNil)))) sNil) sNil)) sNil) (sCons (sIf (tCmp .Eq (eVar 5) (eVar 9)) (sCons (sSet 15 (eBin .Add (eVar 10) (eBin .LShift (eVar 6) (eVar 13)))) sNil) (sCons (sIf (tE (eVar 5)) (sCons (sSet 15 (eBin .Sub (eVar 10) (eBin .LShift (eVar 6) (eVar 13)))) sNil) (sCons (sSet 15 (eBin .Sub (eBin .LShift (eVar 6) (eVar 13)) (eVar 10))) sNil)) (sCons (sIf (tCmp .GtE (eVar 15) (eInt 0)) (sCons (sSet 5 (eInt 0)) sNil) (sCons (sSet 15 (eNeg (eVar 15))) (sCons (sSet 5 (eInt 1)) sNil))) sNil))) (sCons (sSet 16 (eBits (eVar 15))) (sCons (sRet (eCall F_normalize (lCons (eVar 5) (lCons (eVar 15) (lCons (eVar 11) (lCons (eVar 16) (lCons (eOr (eVar 2) (eVar 16)) (lCons (eVar 3) lNil)))))))) sNil)))) (sCons (sIf (tCmp .Lt (eVar 13) (eInt 0)) (sCons (sIf (tAnd (tCmp .Lt (eVar 13) (eNeg (eInt 100))) (tAnd (tE (eVar 2)) tTrue)) (sCons (sSet 14 (eBin .Sub (eBin .Sub (eBin .Add (eVar 12) (eVar 11)) (eVar 8)) (eVar 7))) (sCons (sIf (tCmp .Gt (eVar 14) (eBin .Add (eVar 2) (eInt 4))) (sCons (sSet 13 (eBin .Add (eVar 2) (eInt 4))) (sCons (sAug 10 .LShift (eVar 13)) (sCons (sIf (tCmp .Eq (eVar 5) (eVar 9)) (sCons (sAug 10 .Add (eInt 1)) sNil) (sCons (sAug 10 .Sub (eInt 1)) sNil)) (sCons (sRet (eCall F_normalize (lCons (eVar 9) (lCons (eVar 10) (lCons (eBin .Sub (eVar 11) (eVar 13)) (lCons (eBits (eVar 10)) (lCons (eVar 2) (lCons (eVar 3) lNil)))))))) sNil)))) sNil) sNil)) sNil) (sCons (sIf (tCmp .Eq (eVar 5) (eVar 9)) (sCons (sSet 15 (eBin .Add (eVar 6) (eBin .LShift (eVar 10) (eNeg (eVar 13))))) sNil) (sCons (sIf (tE (eVar 9)) (sCons (sSet 15 (eBin .Sub (eVar 6) (eBin .LShift (eVar 10) (eNeg (eVar 13))))) sNil) (sCons (sSet 15 (eBin .Sub (eBin .LShift (eVar 10) (eNeg (eVar 13))) (eVar 6))) sNil)) (sCons (sIf (tCmp .GtE (eVar 15) (eInt 0)) (sCons (sSet 5 (eInt 0)) sNil) (sCons (sSet 15 (eNeg (eVar 15))) (sCons (sSet 5 (eInt 1)) sNil))) sNil))) (sCons (sSet 16 (eBits (eVar 15))) (sCons (sRet (eCall F_normalize (lCons (eVar 5) (lCons (eVar 15) (lCons (eVar 7) (lCons (eVar 16) (lCons (eOr (eVar 2) (eVar 16)) (lCons (eVar 3) lNil)))))))) sNil)))) sNil) sNil)) sNil) sNil) (sCons (sIf (tCmp .Eq (eVar 5) (eVar 9)) (sCons (sSet 15 (eBin .Add (eVar 10) (eVar 6))) sNil) (sCons (sIf (tE (eVar 5)) (sCons (sSet 15 (eBin .Sub (eVar 10) (eVar 6))) sNil) (sCons (sSet 15 (eBin .Sub (eVar 6) (eVar 10))) sNil)) (sCons (sIf (tCmp .GtE (eVar 15) (eInt 0)) (sCons (sSet 5 (eInt 0)) sNil) (sCons (sSet 15 (eNeg (eVar 15))) (sCons (sSet 5 (eInt 1)) sNil))) sNil))) (sCons (sSet 16 (eBits (eVar 15))) (sCons (sRet (eCall F_normalize (lCons (eVar 5) (lCons (eVar 15) (lCons (eVar 11) (lCons (eVar 16) (lCons (eOr (eVar 2) (eVar 16)) (lCons (eVar 3) lNil)))))))) sNil))))) sNil) (sCons (sIf (tE (eVar 4)) (sCons (sSet 1 (eCall F_mpf_neg_1 (lCons (eVar 1) lNil))) sNil) sNil) (sCons (sIf (tNot (tE (eVar 6))) (sCons (sIf (tE (eVar 7)) (sCons (sIf (tOr (tCmp .Eq (eVar 0) (eVar 1)) (tOr (tE (eVar 10)) (tOr (tNot (tE (eVar 11))) tFalse))) (sCons (sRet (eVar 0)) sNil) sNil) (sCons (sRet (eGlob d_fnan)) sNil)) sNil) (sCons (sIf (tE (eVar 10)) (sCons (sRet (eCall F_normalize (lCons (eVar 9) (lCons (eVar 10) (lCons (eVar 11) (lCons (eVar 12) (lCons (eOr (eVar 2) (eVar 12)) (lCons (eVar 3) lNil)))))))) sNil) sNil) (sCons (sRet (eVar 1)) sNil))) sNil) (sCons (sIf (tE (eVar 11)) (sCons (sRet (eVar 1)) sNil) sNil) (sCons (sIf (tE (eVar 6)) (sCons (sRet (eCall F_normalize (lCons (eVar 5) (lCons (eVar 6) (lCons (eVar 7) (lCons (eVar 8) (lCons (eOr (eVar 2) (eVar 8)) (lCons (eVar 3) lNil)))))))) sNil) sNil) (sCons (sRet (eVar 0)) sNil)))))))))
def F_mpf_add : List D → Option D := defD 5 12 [] D_mpf_add
def D_mpf_sub : St → Option Fl := (sCons (sRet (eCall F_mpf_add (lCons (eVar 0) (lCons (eVar 1) (lCons (eVar 2) (lCons (eVar 3) (lCons (eInt 1) lNil))))))) sNil)
def F_mpf_sub : List D → Option D := defD 4 0 [] D_mpf_sub
def D_mpf_sign : St → Option Fl := (sCons (sUnpack [1, 2, 3, 4] (eVar 0)) (sCons (sIf (tNot (tE (eVar 2))) (sCons (sIf (tCmp .Eq (eVar 0) (eGlob d_finf)) (sCons (sRet (eInt 1)) sNil) sNil) (sCons (sIf (tCmp .Eq (eVar 0) (eGlob d_fninf)) (sCons (sRet (eNeg (eInt 1))) sNil) sNil) (sCons (sRet (eInt 0)) sNil))) sNil) (sCons (sRet (eBin .Pow (eNeg (eInt 1)) (eVar 1))) sNil)))
def F_mpf_sign : List D → Option D := defD 1 4 [] D_mpf_sign
def D_mpf_cmp : St → Option Fl := (sCons (sUnpack [2, 3, 4, 5] (eVar 0)) (sCons (sUnpack [6, 7, 8, 9] (eVar 1)) (sCons (sIf (tOr (tNot (tE (eVar 3))) (tOr (tNot (tE (eVar 7))) tFalse)) (sCons (sIf (tCmp .Eq (eVar 0) (eGlob d_fzero)) (sCons (sRet (eNeg (eCall F_mpf_sign (lCons (eVar 1) lNil)))) sNil) sNil) (sCons (sIf (tCmp .Eq (eVar 1) (eGlob d_fzero)) (sCons (sRet (eCall F_mpf_sign (lCons (eVar 0) lNil))) sNil) sNil) (sCons (sIf (tCmp .Eq (eVar 0) (eVar 1)) (sCons (sRet (eInt 0)) sNil) sNil) (sCons (sIf (tCmp .Eq (eVar 1) (eGlob d_fnan)) (sCons (sRet (eInt 1)) sNil) sNil) (sCons (sIf (tCmp .Eq (eVar 0) (eGlob d_finf)) (sCons (sRet (eInt 1)) sNil) sNil) (sCons (sIf (tCmp .Eq (eVar 1) (eGlob d_fninf)) (sCons (sRet (eInt 1)) sNil) sNil) (sCons (sRet (eNeg (eInt 1))) sNil))))))) sNil) (sCons (sIf (tCmp .NotEq (eVar 2) (eVar 6)) (sCons (sIf (tNot (tE (eVar 2))) (sCons (sRet (eInt 1)) sNil) sNil) (sCons (sRet (eNeg (eInt 1))) sNil)) sNil) (sCons (sIf (tCmp .Eq (eVar 4) (eVar 8)) (sCons (sIf (tCmp .Eq (eVar 3) (eVar 7)) (sCons (sRet (eInt 0)) sNil) sNil) (sCons (sIf (tCmp .Gt (eVar 3) (eVar 7)) (sCons (sIf (tE (eVar 2)) (sCons (sRet (eNeg (eInt 1))) sNil) (sCons (sRet (eInt 1)) sNil)) sNil) (sCons (sIf (tE (eVar 2)) (sCons (sRet (eInt 1)) sNil) (sCons (sRet (eNeg (eInt 1))) sNil)) sNil)) sNil)) sNil) (sCons (sSet 10 (eBin .Add (eVar 5) (eVar 4))) (sCons (sSet 11 (eBin .Add (eVar 9) (eVar 8))) (sCons (sIf (tE (eVar 2)) (sCons (sIf (tCmp .Lt (eVar 10) (eVar 11)) (sCons (sRet (eInt 1)) sNil) sNil) (sCons (sIf (tCmp .Gt (eVar 10) (eVar 11)) (sCons (sRet (eNeg (eInt 1))) sNil) sNil) sNil)) (sCons (sIf (tCmp .Lt (eVar 10) (eVar 11)) (sCons (sRet (eNeg (eInt 1))) sNil) sNil) (sCons (sIf (tCmp .Gt (eVar 10) (eVar 11)) (sCons (sRet (eInt 1)) sNil) sNil) sNil))) (sCons (sSet 12 (eCall F_mpf_sub (lCons (eVar 0) (lCons (eVar 1) (lCons (eInt 5) (lCons (eGlob d_rf) lNil)))))) (sCons (sIf (tE (eSub (eVar 12) (eInt 0))) (sCons (sRet (eNeg (eInt 1))) sNil) sNil) (sCons (sRet (eInt 1)) sNil)))))))))))
def F_mpf_cmp : List D → Option D := defD 2 11 [] D_mpf_cmp
def D_mpf_lt : St → Option Fl := (sCons (sIf (tOr (tCmp .Eq (eVar 0) (eGlob d_fnan)) (tOr (tCmp .Eq (eVar 1) (eGlob d_fnan)) tFalse)) (sCons (sRet (eBool false)) sNil) sNil) (sCons (sRet (eCmp .Lt (eCall F_mpf_cmp (lCons (eVar 0) (lCons (eVar 1) lNil))) (eInt 0))) sNil))
def F_mpf_lt : List D → Option D := defD 2 0 [] D_mpf_lt
def D_mpf_le : St → Option Fl := (sCons (sIf (tOr (tCmp .Eq (eVar 0) (eGlob d_fnan)) (tOr (tCmp .Eq (eVar 1) (eGlob d_fnan)) tFalse)) (sCons (sRet (eBool false)) sNil) sNil) (sCons (sRet (eCmp .LtE (eCall F_mpf_cmp (lCons (eVar 0) (lCons (eVar 1) lNil))) (eInt 0))) sNil))
def F_mpf_le : List D → Option D := defD 2 0 [] D_mpf_le
def D_mpf_gt : St → Option Fl := (sCons (sIf (tOr (tCmp .Eq (eVar 0) (eGlob d_fnan)) (tOr (tCmp .Eq (eVar 1) (eGlob d_fnan)) tFalse)) (sCons (sRet (eBool false)) sNil) sNil) (sCons (sRet (eCmp .Gt (eCall F_mpf_cmp (lCons (eVar 0) (lCons (eVar 1) lNil))) (eInt 0))) sNil))
def F_mpf_gt : List D → Option D := defD 2 0 [] D_mpf_gt
def D_mpf_ge : St → Option Fl := (sCons (sIf (tOr (tCmp .Eq (eVar 0) (eGlob d_fnan)) (tOr (tCmp .Eq (eVar 1) (eGlob d_fnan)) tFalse)) (sCons (sRet (eBool false)) sNil) sNil) (sCons (sRet (eCmp .GtE (eCall F_mpf_cmp (lCons (eVar 0) (lCons (eVar 1) lNil))) (eInt 0))) sNil))
def F_mpf_ge : List D → Option D := defD 2 0 [] D_mpf_ge
def D_mpf_min_max : St → Option Fl := (sCons (sSet2 1 2 (eSub (eVar 0) (eInt 0))) (sCons (sFor 3 (eTail 0) (sCons (sIf (tE (eCall F_mpf_lt (lCons (eVar 3) (lCons (eVar 1) lNil)))) (sCons (sSet 1 (eVar 3)) sNil) sNil) (sCons (sIf (tE (eCall F_mpf_gt (lCons (eVar 3) (lCons (eVar 2) lNil)))) (sCons (sSet 2 (eVar 3)) sNil) sNil) sNil))) (sCons (sRet (eTup (lCons (eVar 1) (lCons (eVar 2) lNil)))) sNil)))
def F_mpf_min_max : List D → Option D := defD 1 3 [] D_mpf_min_max
def D_mpf_mul : St → Option Fl := (sCons (sUnpack [4, 5, 6, 7] (eVar 0)) (sCons (sUnpack [8, 9, 10, 11] (eVar 1)) (sCons (sSet 12 (eBin .BitXor (eVar 4) (eVar 8))) (sCons (sSet 13 (eBin .Mult (eVar 5) (eVar 9))) (sCons (sIf (tE (eVar 13)) (sCons (sSet 14 (eBits (eVar 13))) (sCons (sIf (tE (eVar 2)) (sCons (sRet (eCall F_normalize (lCons (eVar 12) (lCons (eVar 13) (lCons (eBin .Add (eVar 6) (eVar 10)) (lCons (eVar 14) (lCons (eVar 2) (lCons (eVar 3) lNil)))))))) sNil) (sCons (sRet (eTup (lCons (eVar 12) (lCons (eVar 13) (lCons (eBin .Add (eVar 6) (eVar 10)) (lCons (eVar 14) lNil)))))) sNil)) sNil)) sNil) (sCons (sSet 15 (eAnd (eNot (eVar 5)) (eVar 6))) (sCons (sSet 16 (eAnd (eNot (eVar 9)) (eVar 10))) (sCons (sIf (tAnd (tNot (tE (eVar 15))) (tAnd (tNot (tE (eVar 16))) tTrue)) (sCons (sRet (eGlob d_fzero)) sNil) sNil) (sCons (sIf (tCmp .In (eGlob d_fnan) (eTup (lCons (eVar 0) (lCons (eVar 1) lNil)))) (sCons (sRet (eGlob d_fnan)) sNil) sNil) (sCons (sIf (tAnd (tNot (tE (eVar 9))) (tAnd (tE (eVar 10)) tTrue)) (sCons (sUnpackR [0, 1] (eTup (lCons (eVar 1) (lCons (eVar 0) lNil)))) sNil) sNil) (sCons (sIf (tCmp .Eq (eVar 1) (eGlob d_fzero)) (sCons (sRet (eGlob d_fnan)) sNil) sNil) (sCons (sRet eNone) sNil))))))))))))
def F_mpf_mul : List D → Option D := defD 4 13 [] D_mpf_mul
def D_mpf_div : St → Option Fl := (sCons (sUnpack [4, 5, 6, 7] (eVar 0)) (sCons (sUnpack [8, 9, 10, 11] (eVar 1)) (sCons (sIf (tOr (tNot (tE (eVar 5))) (tOr (tNot (tE (eVar 9))) tFalse)) (sCons (sIf (tCmp .Eq (eVar 0) (eGlob d_fzero)) (sCons (sIf (tCmp .Eq (eVar 1) (eGlob d_fzero)) (sCons sNone sNil) sNil) (sCons (sIf (tCmp .Eq (eVar 1) (eGlob d_fnan)) (sCons (sRet (eGlob d_fnan)) sNil) sNil) (sCons (sRet (eGlob d_fzero)) sNil))) sNil) (sCons (sIf (tCmp .Eq (eVar 1) (eGlob d_fzero)) (sCons sNone sNil) sNil) (sCons (sSet 12 (eAnd (eNot (eVar 5)) (eVar 6))) (sCons (sSet 13 (eAnd (eNot (eVar 9)) (eVar 10))) (sCons (sIf (tAnd (tE (eVar 12)) (tAnd (tE (eVar 13)) tTrue)) (sCons (sRet (eGlob d_fnan)) sNil) sNil) (sCons (sIf (tOr (tCmp .Eq (eVar 0) (eGlob d_fnan)) (tOr (tCmp .Eq (eVar 1) (eGlob d_fnan)) tFalse)) (sCons (sRet (eGlob d_fnan)) sNil) sNil) (sCons (sIf (tNot (tE (eVar 13))) (sCons (sIf (tCmp .Eq (eVar 1) (eGlob d_fzero)) (sCons (sRet (eGlob d_fnan)) sNil) sNil) (sCons (sRet eNone) sNil)) sNil) (sCons (sRet (eGlob d_fzero)) sNil)))))))) sNil) (sCons (sSet 14 (eBin .BitXor (eVar 4) (eVar 8))) (sCons (sIf (tCmp .Eq (eVar 9) (eInt 1)) (sCons (sRet (eCall F_normalize (lCons (eVar 14) (lCons (eVar 5) (lCons (eBin .Sub (eVar 6) (eVar 10)) (lCons (eVar 7) (lCons (eVar 2) (lCons (eVar 3) lNil)))))))) sNil) sNil) (sCons (sIf (tNot (tE (eVar 2))) (sCons (sSet 15 (eBin .Add (eBin .Add (eBin .Sub (eCall dMax (lCons (eVar 7) (lCons (eVar 11) lNil))) (eVar 7)) (eVar 11)) (eInt 5))) sNil) (sCons (sSet 15 (eBin .Add (eBin .Add (eBin .Sub (eVar 2) (eVar 7)) (eVar 11)) (eInt 5))) sNil)) (sCons (sIf (tCmp .Lt (eVar 15) (eInt 5)) (sCons (sSet 15 (eInt 5)) sNil) sNil) (sCons (sUnpack [16, 17] (eCall dDivmod (lCons (eBin .LShift (eVar 5) (eVar 15)) (lCons (eVar 9) lNil)))) (sCons (sIf (tE (eVar 17)) (sCons (sSet 16 (eBin .Add (eBin .LShift (eVar 16) (eInt 1)) (eInt 1))) (sCons (sAug 15 .Add (eInt 1)) sNil)) sNil) (sCons (sSet 18 (eBits (eVar 16))) (sCons (sRet (eCall F_normalize (lCons (eVar 14) (lCons (eVar 16) (lCons (eBin .Sub (eBin .Sub (eVar 6) (eVar 10)) (eVar 15)) (lCons (eVar 18) (lCons (eOr (eVar 2) (eVar 18)) (lCons (eVar 3) lNil)))))))) sNil)))))))))))
def F_mpf_div : List D → Option D := defD 4 15 [] D_mpf_div
def D_mpf_pow_int : St → Option Fl := (sCons (sUnpack [4, 5, 6, 7] (eVar 0)) (sCons (sIf (tAnd (tNot (tE (eVar 5))) (tAnd (tE (eVar 6)) tTrue)) (sCons (sIf (tCmp .Eq (eVar 0) (eGlob d_finf)) (sCons (sIf (tCmp .Gt (eVar 1) (eInt 0)) (sCons (sRet (eVar 0)) sNil) sNil) (sCons (sIf (tCmp .Eq (eVar 1) (eInt 0)) (sCons (sRet (eGlob d_fone)) sNil) sNil) (sCons (sRet (eGlob d_fzero)) sNil))) sNil) (sCons (sIf (tCmp .Eq (eVar 0) (eGlob d_fninf)) (sCons (sIf (tCmp .Gt (eVar 1) (eInt 0)) (sCons (sRet (eSub (eLst (lCons (eGlob d_finf) (lCons (eGlob d_fninf) lNil))) (eBin .BitAnd (eVar 1) (eInt 1)))) sNil) sNil) (sCons (sIf (tCmp .Eq (eVar 1) (eInt 0)) (sCons (sRet (eGlob d_fone)) sNil) sNil) (sCons (sRet (eGlob d_fzero)) sNil))) sNil) (sCons (sIf (tCmp .Eq (eVar 1) (eInt 0)) (sCons (sRet (eGlob d_fone)) sNil) sNil) (sCons (sRet (eGlob d_fnan)) sNil)))) sNil) (sCons (sSet 1 (eCall dInt (lCons (eVar 1) lNil))) (sCons (sIf (tCmp .Eq (eVar 1) (eInt 0)) (sCons (sRet (eGlob d_fone)) sNil) sNil) (sCons (sIf (tCmp .Eq (eVar 1) (eInt 1)) (sCons (sRet eNone) sNil) sNil) (sCons (sIf (tCmp .Eq (eVar 1) (eInt 2)) (sCons (sUnpack [8, 5, 6, 7] (eVar 0)) (sCons (sIf (tNot (tE (eVar 5))) (sCons (sRet (eGlob d_fzero)) sNil) sNil) (sCons (sSet 5 (eBin .Mult (eVar 5) (eVar 5))) (sCons (sIf (tCmp .Eq (eVar 5) (eInt 1)) (sCons (sRet (eTup (lCons (eInt 0) (lCons (eGlob d_oi) (lCons (eBin .Add (eVar 6) (eVar 6)) (lCons (eInt 1) lNil)))))) sNil) sNil) (sCons (sSet 7 (eBin .Sub (eBin .Add (eVar 7) (eVar 7)) (eInt 2))) (sCons (sAug 7 .Add (eBits (eBin .RShift (eVar 5) (eVar 7)))) (sCons (sRet (eCall F_normalize (lCons (eInt 0) (lCons (eVar 5) (lCons (eBin .Add (eVar 6) (eVar 6)) (lCons (eVar 7) (lCons (eVar 2) (lCons (eVar 3) lNil)))))))) sNil))))))) sNil) (sCons (sIf (tCmp .Eq (eVar 1) (eNeg (eInt 1))) (sCons (sRet eNone) sNil) sNil) (sCons (sIf (tCmp .Lt (eVar 1) (eInt 0)) (sCons (sSet 9 eNone) (sCons (sRet eNone) sNil)) sNil) (sCons (sSet 10 (eBin .BitAnd (eVar 4) (eVar 1))) (sCons (sIf (tCmp .Eq (eVar 5) (eInt 1)) (sCons (sRet (eTup (lCons (eVar 10) (lCons (eGlob d_oi) (lCons (eBin .Mult (eVar 6) (eVar 1)) (lCons (eInt 1) lNil)))))) sNil) sNil) (sCons (sIf (tCmp .Lt (eBin .Mult (eVar 7) (eVar 1)) (eInt 1000)) (sCons (sAug 5 .Pow (eVar 1)) (sCons (sRet (eCall F_normalize (lCons (eVar 10) (lCons (eVar 5) (lCons (eBin .Mult (eVar 6) (eVar 1)) (lCons (eBits (eVar 5)) (lCons (eVar 2) (lCons (eVar 3) lNil)))))))) sNil)) sNil) (sCons (sSet 11 (eOr (eCmp .Eq (eVar 3) (eGlob d_rn)) (eSub (eShift (eVar 3)) (eVar 10)))) (sCons (sSet 12 (eBin .Add (eBin .Add (eVar 2) (eBin .Mult (eInt 4) (eBits (eVar 1)))) (eInt 4))) (sCons (sUnpack [8, 13, 14, 15] (eGlob d_fone)) (sCons (sWhile (2 ^ 3000) (tE (eInt 1)) (sCons (sIf (tE (eBin .BitAnd (eVar 1) (eInt 1))) (sCons (sSet 13 (eBin .Mult (eVar 13) (eVar 5))) (sCons (sSet 14 (eBin .Add (eVar 14) (eVar 6))) (sCons (sAug 15 .Add (eBin .Sub (eVar 7) (eInt 2))) (sCons (sSet 15 (eBin .Add (eVar 15) (eBits (eBin .RShift (eVar 13) (eVar 15))))) (sCons (sIf (tCmp .Gt (eVar 15) (eVar 12)) (sCons (sIf (tE (eVar 11)) (sCons (sSet 13 (eBin .RShift (eVar 13) (eBin .Sub (eVar 15) (eVar 12)))) sNil) (sCons (sSet 13 (eNeg (eBin .RShift (eNeg (eVar 13)) (eBin .Sub (eVar 15) (eVar 12))))) sNil)) (sCons (sAug 14 .Add (eBin .Sub (eVar 15) (eVar 12))) (sCons (sSet 15 (eVar 12)) sNil))) sNil) (sCons (sAug 1 .Sub (eInt 1)) (sCons (sIf (tNot (tE (eVar 1))) (sCons sNone sNil) sNil) sNil))))))) sNil) (sCons (sSet 5 (eBin .Mult (eVar 5) (eVar 5))) (sCons (sSet 6 (eBin .Add (eVar 6) (eVar 6))) (sCons (sSet 7 (eBin .Sub (eBin .Add (eVar 7) (eVar 7)) (eInt 2))) (sCons (sSet 7 (eBin .Add (eVar 7) (eBits (eBin .RShift (eVar 5) (eVar 7))))) (sCons (sIf (tCmp .Gt (eVar 7) (eVar 12)) (sCons (sIf (tE (eVar 11)) (sCons (sSet 5 (eBin .RShift (eVar 5) (eBin .Sub (eVar 7) (eVar 12)))) sNil) (sCons (sSet 5 (eNeg (eBin .RShift (eNeg (eVar 5)) (eBin .Sub (eVar 7) (eVar 12))))) sNil)) (sCons (sAug 6 .Add (eBin .Sub (eVar 7) (eVar 12))) (sCons (sSet 7 (eVar 12)) sNil))) sNil) (sCons (sSet 1 (eBin .FloorDiv (eVar 1) (eInt 2))) sNil)))))))) (sCons (sRet (eCall F_normalize (lCons (eVar 10) (lCons (eVar 13) (lCons (eVar 14) (lCons (eVar 15) (lCons (eVar 2) (lCons (eVar 3) lNil)))))))) sNil))))))))))))))))
def F_mpf_pow_int : List D → Option D := defD 4 12 [] D_mpf_pow_int
def D_mpf_sqrt : St → Option Fl := (sCons (sUnpack [3, 4, 5, 6] (eVar 0)) (sCons (sIf (tE (eVar 3)) (sCons sNone sNil) sNil) (sCons (sIf (tNot (tE (eVar 4))) (sCons (sRet (eVar 0)) sNil) sNil) (sCons (sIf (tE (eBin .BitAnd (eVar 5) (eInt 1))) (sCons (sAug 5 .Sub (eInt 1)) (sCons (sAug 4 .LShift (eInt 1)) (sCons (sAug 6 .Add (eInt 1)) sNil))) (sCons (sIf (tCmp .Eq (eVar 4) (eInt 1)) (sCons (sRet (eCall F_normalize (lCons (eVar 3) (lCons (eVar 4) (lCons (eBin .FloorDiv (eVar 5) (eInt 2)) (lCons (eVar 6) (lCons (eVar 1) (lCons (eVar 2) lNil)))))))) sNil) sNil) sNil)) (sCons (sSet 7 (eCall dMax (lCons (eInt 4) (lCons (eBin .Add (eBin .Sub (eBin .Mult (eInt 2) (eVar 1)) (eVar 6)) (eInt 4)) lNil)))) (sCons (sAug 7 .Add (eBin .BitAnd (eVar 7) (eInt 1))) (sCons (sIf (tCmp .In (eVar 2) (eStr (Str.ofString "fd"))) (sCons (sSet 4 (eCall F_isqrt (lCons (eBin .LShift (eVar 4) (eVar 7)) lNil))) sNil) (sCons (sUnpack [4, 8] (eCall F_sqrtrem (lCons (eBin .LShift (eVar 4) (eVar 7)) lNil))) (sCons (sIf (tE (eVar 8)) (sCons (sSet 4 (eBin .Add (eBin .LShift (eVar 4) (eInt 1)) (eInt 1))) (sCons (sAug 7 .Add (eInt 2)) sNil)) sNil) sNil))) (sCons (sRet (eCall F_from_man_exp (lCons (eVar 4) (lCons (eBin .FloorDiv (eBin .Sub (eVar 5) (eVar 7)) (eInt 2)) (lCons (eVar 1) (lCons (eVar 2) lNil)))))) sNil))))))))
def F_mpf_sqrt : List D → Option D := defD 3 6 [] D_mpf_sqrt
def D_mpi_neg : St → Option Fl := (sCons (sUnpack [2, 3] (eVar 0)) (sCons (sSet 4 (eCall F_mpf_neg (lCons (eVar 3) (lCons (eVar 1) (lCons (eGlob d_rf) lNil))))) (sCons (sSet 5 (eCall F_mpf_neg (lCons (eVar 2) (lCons (eVar 1) (lCons (eGlob d_rc) lNil))))) (sCons (sRet (eTup (lCons (eVar 4) (lCons (eVar 5) lNil)))) sNil))))
def F_mpi_neg : List D → Option D := defD 2 4 [] D_mpi_neg
def F_mpi_neg_1 : List D → Option D := defD 1 4 [.int 0] D_mpi_neg
def D_mpi_square : St → Option Fl := (sCons (sUnpack [2, 3] (eVar 0)) (sCons (sIf (tE (eCall F_mpf_ge (lCons (eVar 2) (lCons (eGlob d_fzero) lNil)))) (sCons (sSet 4 (eCall F_mpf_mul (lCons (eVar 2) (lCons (eVar 2) (lCons (eVar 1) (lCons (eGlob d_rf) lNil)))))) (sCons (sSet 5 (eCall F_mpf_mul (lCons (eVar 3) (lCons (eVar 3) (lCons (eVar 1) (lCons (eGlob d_rc) lNil)))))) sNil)) (sCons (sIf (tE (eCall F_mpf_le (lCons (eVar 3) (lCons (eGlob d_fzero) lNil)))) (sCons (sSet 4 (eCall F_mpf_mul (lCons (eVar 3) (lCons (eVar 3) (lCons (eVar 1) (lCons (eGlob d_rf) lNil)))))) (sCons (sSet 5 (eCall F_mpf_mul (lCons (eVar 2) (lCons (eVar 2) (lCons (eVar 1) (lCons (eGlob d_rc) lNil)))))) sNil)) (sCons (sSet 2 (eCall F_mpf_neg_1 (lCons (eVar 2) lNil))) (sCons (sUnpack [2, 3] (eCall F_mpf_min_max (lCons (eLst (lCons (eVar 2) (lCons (eVar 3) lNil))) lNil))) (sCons (sSet 4 (eGlob d_fzero)) (sCons (sSet 5 (eCall F_mpf_mul (lCons (eVar 3) (lCons (eVar 3) (lCons (eVar 1) (lCons (eGlob d_rc) lNil)))))) sNil))))) sNil)) (sCons (sRet (eTup (lCons (eVar 4) (lCons (eVar 5) lNil)))) sNil)))
def F_mpi_square : List D → Option D := defD 2 4 [] D_mpi_square
def D_mpi_div0 : St → Option Fl := (sCons (sUnpack [3, 4] (eVar 0)) (sCons (sUnpack [5, 6] (eVar 1)) (sCons (sSet 7 (eCall F_mpf_sign (lCons (eVar 3) lNil))) (sCons (sSet 8 (eCall F_mpf_sign (lCons (eVar 4) lNil))) (sCons (sSet 9 (eCall F_mpf_sign (lCons (eVar 5) lNil))) (sCons (sSet 10 (eCall F_mpf_sign (lCons (eVar 6) lNil))) (sCons (sIf (tChain .Eq .Eq (eVar 7) (eVar 8) (eInt 0)) (sCons (sIf (tOr (tAnd (tCmp .Lt (eVar 9) (eInt 0)) (tAnd (tCmp .Gt (eVar 10) (eInt 0)) tTrue)) (tOr (tOr (tCmp .Eq (eVar 9) (eInt 0)) (tOr (tCmp .Eq (eVar 10) (eInt 0)) tFalse)) tFalse)) (sCons (sRet (eTup (lCons (eGlob d_fninf) (lCons (eGlob d_finf) lNil)))) sNil) sNil) (sCons (sRet (eTup (lCons (eGlob d_fzero) (lCons (eGlob d_fzero) lNil)))) sNil)) sNil) (sCons (sIf (tAnd (tCmp .Lt (eVar 9) (eInt 0)) (tAnd (tCmp .Gt (eVar 10) (eInt 0)) tTrue)) (sCons (sRet (eTup (lCons (eGlob d_fninf) (lCons (eGlob d_finf) lNil)))) sNil) sNil) (sCons (sIf (tCmp .Lt (eVar 9) (eInt 0)) (sCons (sRet eNone) sNil) sNil) (sCons (sIf (tCmp .Eq (eVar 9) (eInt 0)) (sCons (sIf (tAnd (tCmp .Lt (eVar 7) (eInt 0)) (tAnd (tCmp .Gt (eVar 8) (eInt 0)) tTrue)) (sCons (sRet (eTup (lCons (eGlob d_fninf) (lCons (eGlob d_finf) lNil)))) sNil) sNil) (sCons (sIf (tCmp .Eq (eVar 9) (eVar 10)) (sCons (sRet (eTup (lCons (eGlob d_fninf) (lCons (eGlob d_finf) lNil)))) sNil) sNil) (sCons (sIf (tCmp .GtE (eVar 7) (eInt 0)) (sCons (sSet 11 (eCall F_mpf_div (lCons (eVar 3) (lCons (eVar 6) (lCons (eVar 2) (lCons (eGlob d_rf) lNil)))))) (sCons (sSet 12 (eGlob d_finf)) sNil)) sNil) (sCons (sIf (tCmp .LtE (eVar 8) (eInt 0)) (sCons (sSet 11 (eGlob d_fninf)) (sCons (sSet 12 (eCall F_mpf_div (lCons (eVar 4) (lCons (eVar 6) (lCons (eVar 2) (lCons (eGlob d_rc) lNil)))))) sNil)) sNil) sNil)))) (sCons (sIf (tCmp .GtE (eVar 7) (eInt 0)) (sCons (sSet 11 (eCall F_mpf_div (lCons (eVar 3) (lCons (eVar 6) (lCons (eVar 2) (lCons (eGlob d_rf) lNil)))))) (sCons (sSet 12 (eCall F_mpf_div (lCons (eVar 4) (lCons (eVar 5) (lCons (eVar 2) (lCons (eGlob d_rc) lNil)))))) (sCons (sIf (tCmp .Eq (eVar 11) (eGlob d_fnan)) (sCons (sSet 11 (eGlob d_fzero)) sNil) sNil) (sCons (sIf (tCmp .Eq (eVar 12) (eGlob d_fnan)) (sCons (sSet 12 (eGlob d_finf)) sNil) sNil) sNil)))) (sCons (sIf (tCmp .LtE (eVar 8) (eInt 0)) (sCons (sSet 11 (eCall F_mpf_div (lCons (eVar 3) (lCons (eVar 5) (lCons (eVar 2) (lCons (eGlob d_rf) lNil)))))) (sCons (sSet 12 (eCall F_mpf_div (lCons (eVar 4) (lCons (eVar 6) (lCons (eVar 2) (lCons (eGlob d_rc) lNil)))))) (sCons (sIf (tCmp .Eq (eVar 11) (eGlob d_fnan)) (sCons (sSet 11 (eGlob d_fninf)) sNil) sNil) (sCons (sIf (tCmp .Eq (eVar 12) (eGlob d_fnan)) (sCons (sSet 12 (eGlob d_fzero)) sNil) sNil) sNil)))) (sCons (sSet 11 (eCall F_mpf_div (lCons (eVar 3) (lCons (eVar 5) (lCons (eVar 2) (lCons (eGlob d_rf) lNil)))))) (sCons (sSet 12 (eCall F_mpf_div (lCons (eVar 4) (lCons (eVar 5) (lCons (eVar 2) (lCons (eGlob d_rc) lNil)))))) (sCons (sIf (tCmp .Eq (eVar 11) (eGlob d_fnan)) (sCons (sSet 11 (eGlob d_fninf)) sNil) sNil) (sCons (sIf (tCmp .Eq (eVar 12) (eGlob d_fnan)) (sCons (sSet 12 (eGlob d_finf)) sNil) sNil) sNil))))) sNil)) sNil)) (sCons (sRet (eTup (lCons (eVar 11) (lCons (eVar 12) lNil)))) sNil)))))))))))
def F_mpi_div0 : List D → Option D := defD 3 10 [] D_mpi_div0
def D_mpi_div : St → Option Fl := (sCons (sUnpack [3, 4] (eVar 0)) (sCons (sUnpack [5, 6] (eVar 1)) (sCons (sSet 7 (eCall F_mpf_sign (lCons (eVar 3) lNil))) (sCons (sSet 8 (eCall F_mpf_sign (lCons (eVar 4) lNil))) (sCons (sSet 9 (eCall F_mpf_sign (lCons (eVar 5) lNil))) (sCons (sSet 10 (eCall F_mpf_sign (lCons (eVar 6) lNil))) (sCons (sIf (tChain .Eq .Eq (eVar 7) (eVar 8) (eInt 0)) (sCons (sIf (tOr (tAnd (tCmp .Lt (eVar 9) (eInt 0)) (tAnd (tCmp .Gt (eVar 10) (eInt 0)) tTrue)) (tOr (tOr (tCmp .Eq (eVar 9) (eInt 0)) (tOr (tCmp .Eq (eVar 10) (eInt 0)) tFalse)) tFalse)) (sCons (sRet (eTup (lCons (eGlob d_fninf) (lCons (eGlob d_finf) lNil)))) sNil) sNil) (sCons (sRet (eTup (lCons (eGlob d_fzero) (lCons (eGlob d_fzero) lNil)))) sNil)) sNil) (sCons (sIf (tAnd (tCmp .Lt (eVar 9) (eInt 0)) (tAnd (tCmp .Gt (eVar 10) (eInt 0)) tTrue)) (sCons (sRet (eTup (lCons (eGlob d_fninf) (lCons (eGlob d_finf) lNil)))) sNil) sNil) (sCons (sIf (tCmp .Lt (eVar 9) (eInt 0)) (sCons (sRet (eCall F_mpi_div0 (lCons (eCall F_mpi_neg_1 (lCons (eVar 0) lNil)) (lCons (eCall F_mpi_neg_1 (lCons (eVar 1) lNil)) (lCons (eVar 2) lNil))))) sNil) sNil) (sCons (sIf (tCmp .Eq (eVar 9) (eInt 0)) (sCons (sIf (tAnd (tCmp .Lt (eVar 7) (eInt 0)) (tAnd (tCmp .Gt (eVar 8) (eInt 0)) tTrue)) (sCons (sRet (eTup (lCons (eGlob d_fninf) (lCons (eGlob d_finf) lNil)))) sNil) sNil) (sCons (sIf (tCmp .Eq (eVar 9) (eVar 10)) (sCons (sRet (eTup (lCons (eGlob d_fninf) (lCons (eGlob d_finf) lNil)))) sNil) sNil) (sCons (sIf (tCmp .GtE (eVar 7) (eInt 0)) (sCons (sSet 11 (eCall F_mpf_div (lCons (eVar 3) (lCons (eVar 6) (lCons (eVar 2) (lCons (eGlob d_rf) lNil)))))) (sCons (sSet 12 (eGlob d_finf)) sNil)) sNil) (sCons (sIf (tCmp .LtE (eVar 8) (eInt 0)) (sCons (sSet 11 (eGlob d_fninf)) (sCons (sSet 12 (eCall F_mpf_div (lCons (eVar 4) (lCons (eVar 6) (lCons (eVar 2) (lCons (eGlob d_rc) lNil)))))) sNil)) sNil) sNil)))) (sCons (sIf (tCmp .GtE (eVar 7) (eInt 0)) (sCons (sSet 11 (eCall F_mpf_div (lCons (eVar 3) (lCons (eVar 6) (lCons (eVar 2) (lCons (eGlob d_rf) lNil)))))) (sCons (sSet 12 (eCall F_mpf_div (lCons (eVar 4) (lCons (eVar 5) (lCons (eVar 2) (lCons (eGlob d_rc) lNil)))))) (sCons (sIf (tCmp .Eq (eVar 11) (eGlob d_fnan)) (sCons (sSet 11 (eGlob d_fzero)) sNil) sNil) (sCons (sIf (tCmp .Eq (eVar 12) (eGlob d_fnan)) (sCons (sSet 12 (eGlob d_finf)) sNil) sNil) sNil)))) (sCons (sIf (tCmp .LtE (eVar 8) (eInt 0)) (sCons (sSet 11 (eCall F_mpf_div (lCons (eVar 3) (lCons (eVar 5) (lCons (eVar 2) (lCons (eGlob d_rf) lNil)))))) (sCons (sSet 12 (eCall F_mpf_div (lCons (eVar 4) (lCons (eVar 6) (lCons (eVar 2) (lCons (eGlob d_rc) lNil)))))) (sCons (sIf (tCmp .Eq (eVar 11) (eGlob d_fnan)) (sCons (sSet 11 (eGlob d_fninf)) sNil) sNil) (sCons (sIf (tCmp .Eq (eVar 12) (eGlob d_fnan)) (sCons (sSet 12 (eGlob d_fzero)) sNil) sNil) sNil)))) (sCons (sSet 11 (eCall F_mpf_div (lCons (eVar 3) (lCons (eVar 5) (lCons (eVar 2) (lCons (eGlob d_rf) lNil)))))) (sCons (sSet 12 (eCall F_mpf_div (lCons (eVar 4) (lCons (eVar 5) (lCons (eVar 2) (lCons (eGlob d_rc) lNil)))))) (sCons (sIf (tCmp .Eq (eVar 11) (eGlob d_fnan)) (sCons (sSet 11 (eGlob d_fninf)) sNil) sNil) (sCons (sIf (tCmp .Eq (eVar 12) (eGlob d_fnan)) (sCons (sSet 12 (eGlob d_finf)) sNil) sNil) sNil))))) sNil)) sNil)) (sCons (sRet (eTup (lCons (eVar 11) (lCons (eVar 12) lNil)))) sNil)))))))))))
def F_mpi_div : List D → Option D := defD 3 10 [] D_mpi_div
def D_mpi_sqrt : St → Option Fl := (sCons (sUnpack [2, 3] (eVar 0)) (sCons (sSet 4 (eCall F_mpf_sqrt (lCons (eVar 2) (lCons (eVar 1) (lCons (eGlob d_rf) lNil))))) (sCons (sSet 5 (eCall F_mpf_sqrt (lCons (eVar 3) (lCons (eVar 1) (lCons (eGlob d_rc) lNil))))) (sCons (sRet (eTup (lCons (eVar 4) (lCons (eVar 5) lNil)))) sNil))))
def F_mpi_sqrt : List D → Option D := defD 2 4 [] D_mpi_sqrt
def D_mpi_pow_int0 : St → Option Fl := (sCons (sUnpack [3, 4] (eVar 0)) (sCons (sIf (tCmp .Lt (eVar 1) (eInt 0)) (sCons (sRet (eCall F_mpi_div (lCons (eTup (lCons (eGlob d_fone) (lCons (eGlob d_fone) lNil))) (lCons eNone (lCons (eVar 2) lNil))))) sNil) sNil) (sCons (sIf (tCmp .Eq (eVar 1) (eInt 0)) (sCons (sRet (eTup (lCons (eGlob d_fone) (lCons (eGlob d_fone) lNil)))) sNil) sNil) (sCons (sIf (tCmp .Eq (eVar 1) (eInt 1)) (sCons (sRet (eVar 0)) sNil) sNil) (sCons (sIf (tCmp .Eq (eVar 1) (eInt 2)) (sCons (sRet (eCall F_mpi_square (lCons (eVar 0) (lCons (eVar 2) lNil)))) sNil) sNil) (sCons (sIf (tE (eBin .BitAnd (eVar 1) (eInt 1))) (sCons (sSet 5 (eCall F_mpf_pow_int (lCons (eVar 3) (lCons (eVar 1) (lCons (eVar 2) (lCons (eGlob d_rf) lNil)))))) (sCons (sSet 6 (eCall F_mpf_pow_int (lCons (eVar 4) (lCons (eVar 1) (lCons (eVar 2) (lCons (eGlob d_rc) lNil)))))) sNil)) (sCons (sSet 7 (eCall F_mpf_sign (lCons (eVar 3) lNil))) (sCons (sSet 8 (eCall F_mpf_sign (lCons (eVar 4) lNil))) (sCons (sIf (tCmp .GtE (eVar 7) (eInt 0)) (sCons (sSet 5 (eCall F_mpf_pow_int (lCons (eVar 3) (lCons (eVar 1) (lCons (eVar 2) (lCons (eGlob d_rf) lNil)))))) (sCons (sSet 6 (eCall F_mpf_pow_int (lCons (eVar 4) (lCons (eVar 1) (lCons (eVar 2) (lCons (eGlob d_rc) lNil)))))) sNil)) (sCons (sIf (tCmp .LtE (eVar 8) (eInt 0)) (sCons (sSet 5 (eCall F_mpf_pow_int (lCons (eVar 4) (lCons (eVar 1) (lCons (eVar 2) (lCons (eGlob d_rf) lNil)))))) (sCons (sSet 6 (eCall F_mpf_pow_int (lCons (eVar 3) (lCons (eVar 1) (lCons (eVar 2) (lCons (eGlob d_rc) lNil)))))) sNil)) (sCons (sSet 5 (eGlob d_fzero)) (sCons (sSet 3 (eCall F_mpf_neg_1 (lCons (eVar 3) lNil))) (sCons (sIf (tE (eCall F_mpf_ge (lCons (eVar 3) (lCons (eVar 4) lNil)))) (sCons (sSet 6 (eCall F_mpf_pow_int (lCons (eVar 3) (lCons (eVar 1) (lCons (eVar 2) (lCons (eGlob d_rc) lNil)))))) sNil) (sCons (sSet 6 (eCall F_mpf_pow_int (lCons (eVar 4) (lCons (eVar 1) (lCons (eVar 2) (lCons (eGlob d_rc) lNil)))))) sNil)) sNil)))) sNil)) sNil)))) (sCons (sRet (eTup (lCons (eVar 5) (lCons (eVar 6) lNil)))) sNil)))))))
def F_mpi_pow_int0 : List D → Option D := defD 3 6 [] D_mpi_pow_int0
def D_mpi_pow_int : St → Option Fl := (sCons (sUnpack [3, 4] (eVar 0)) (sCons (sIf (tCmp .Lt (eVar 1) (eInt 0)) (sCons (sRet (eCall F_mpi_div (lCons (eTup (lCons (eGlob d_fone) (lCons (eGlob d_fone) lNil))) (lCons (eCall F_mpi_pow_int0 (lCons (eVar 0) (lCons (eNeg (eVar 1)) (lCons (eBin .Add (eVar 2) (eInt 20)) lNil)))) (lCons (eVar 2) lNil))))) sNil) sNil) (sCons (sIf (tCmp .Eq (eVar 1) (eInt 0)) (sCons (sRet (eTup (lCons (eGlob d_fone) (lCons (eGlob d_fone) lNil)))) sNil) sNil) (sCons (sIf (tCmp .Eq (eVar 1) (eInt 1)) (sCons (sRet (eVar 0)) sNil) sNil) (sCons (sIf (tCmp .Eq (eVar 1) (eInt 2)) (sCons (sRet (eCall F_mpi_square (lCons (eVar 0) (lCons (eVar 2) lNil)))) sNil) sNil) (sCons (sIf (tE (eBin .BitAnd (eVar 1) (eInt 1))) (sCons (sSet 5 (eCall F_mpf_pow_int (lCons (eVar 3) (lCons (eVar 1) (lCons (eVar 2) (lCons (eGlob d_rf) lNil)))))) (sCons (sSet 6 (eCall F_mpf_pow_int (lCons (eVar 4) (lCons (eVar 1) (lCons (eVar 2) (lCons (eGlob d_rc) lNil)))))) sNil)) (sCons (sSet 7 (eCall F_mpf_sign (lCons (eVar 3) lNil))) (sCons (sSet 8 (eCall F_mpf_sign (lCons (eVar 4) lNil))) (sCons (sIf (tCmp .GtE (eVar 7) (eInt 0)) (sCons (sSet 5 (eCall F_mpf_pow_int (lCons (eVar 3) (lCons (eVar 1) (lCons (eVar 2) (lCons (eGlob d_rf) lNil)))))) (sCons (sSet 6 (eCall F_mpf_pow_int (lCons (eVar 4) (lCons (eVar 1) (lCons (eVar 2) (lCons (eGlob d_rc) lNil)))))) sNil)) (sCons (sIf (tCmp .LtE (eVar 8) (eInt 0)) (sCons (sSet 5 (eCall F_mpf_pow_int (lCons (eVar 4) (lCons (eVar 1) (lCons (eVar 2) (lCons (eGlob d_rf) lNil)))))) (sCons (sSet 6 (eCall F_mpf_pow_int (lCons (eVar 3) (lCons (eVar 1) (lCons (eVar 2) (lCons (eGlob d_rc) lNil)))))) sNil)) (sCons (sSet 5 (eGlob d_fzero)) (sCons (sSet 3 (eCall F_mpf_neg_1 (lCons (eVar 3) lNil))) (sCons (sIf (tE (eCall F_mpf_ge (lCons (eVar 3) (lCons (eVar 4) lNil)))) (sCons (sSet 6 (eCall F_mpf_pow_int (lCons (eVar 3) (lCons (eVar 1) (lCons (eVar 2) (lCons (eGlob d_rc) lNil)))))) sNil) (sCons (sSet 6 (eCall F_mpf_pow_int (lCons (eVar 4) (lCons (eVar 1) (lCons (eVar 2) (lCons (eGlob d_rc) lNil)))))) sNil)) sNil)))) sNil)) sNil)))) (sCons (sRet (eTup (lCons (eVar 5) (lCons (eVar 6) lNil)))) sNil)))))))
def F_mpi_pow_int : List D → Option D := defD 3 6 [] D_mpi_pow_int
def D_law_mixed : St → Option Fl := (sCons (sSet 2 (eIte (tCmp .Lt (eVar 1) (eCall dLen (lCons (eVar 0) lNil))) (eSub (eVar 0) (eVar 1)) (eInt 0))) (sCons (sIf (tCmp .GtE (eVar 2) (eBin .Pow (eInt 2) (eInt 64))) (sCons (sRet (eVar 2)) sNil) sNil) (sCons (sRet (eBin .Mod (eBin .Add (eBin .Mult (eVar 2) (eInt 6364136223846793005)) (eBin .Mult (eBin .Add (eVar 1) (eInt 1)) (eInt 1442695040888963407))) (eBin .Pow (eInt 2) (eInt 190)))) sNil)))
def F_law_mixed : List D → Option D := defD 2 1 [] D_law_mixed
def D_law_raw : St → Option Fl := (sCons (sUnpackR [3, 4, 5] (eTup (lCons (eBin .Mod (eBin .FloorDiv (eVar 0) (eInt 2)) (eInt 8)) (lCons (eBin .Sub (eBin .Mod (eBin .FloorDiv (eVar 0) (eInt 16)) (eBin .Add (eBin .Mult (eInt 2) (eVar 2)) (eInt 1))) (eVar 2)) (lCons (eBin .FloorDiv (eVar 0) (eBin .Pow (eInt 2) (eInt 16))) lNil))))) (sCons (sIf (tCmp .Eq (eVar 3) (eInt 0)) (sCons (sRet (eTup (lCons (eInt 0) (lCons (eInt 0) (lCons (eInt 0) (lCons (eInt 0) lNil)))))) sNil) sNil) (sCons (sSet 6 (eBin .Add (eBin .Mult (eBin .FloorDiv (eBin .Mod (eVar 5) (eBin .Pow (eInt 2) (eBin .Add (eInt 1) (eBin .Mod (eVar 5) (eVar 1))))) (eInt 2)) (eInt 2)) (eInt 1))) (sCons (sIf (tCmp .Eq (eVar 3) (eInt 1)) (sCons (sSet 6 (eInt 1)) sNil) (sCons (sIf (tCmp .Eq (eVar 3) (eInt 2)) (sCons (sSet 6 (eBin .Sub (eBin .Pow (eInt 2) (eBin .Add (eInt 1) (eBin .Mod (eVar 5) (eVar 1)))) (eInt 1))) sNil) (sCons (sIf (tAnd (tCmp .Eq (eVar 3) (eInt 3)) (tAnd (tCmp .Gt (eVar 1) (eInt 1)) tTrue)) (sCons (sSet 6 (eBin .Add (eBin .Pow (eInt 2) (eBin .Add (eInt 1) (eBin .Mod (eVar 5) (eBin .Sub (eVar 1) (eInt 1))))) (eInt 1))) sNil) sNil) sNil)) sNil)) (sCons (sRet (eTup (lCons (eBin .Mod (eVar 0) (eInt 2)) (lCons (eVar 6) (lCons (eVar 4) (lCons (eBits (eVar 6)) lNil)))))) sNil)))))
def F_law_raw : List D → Option D := defD 3 4 [] D_law_raw
def D_law_worth : St → Option Fl := (sCons (sSet 1 (eIte (tCmp .Eq (eSub (eVar 0) (eInt 0)) (eInt 1)) (eNeg (eSub (eVar 0) (eInt 1))) (eSub (eVar 0) (eInt 1)))) (sCons (sRet (eIte (tCmp .GtE (eSub (eVar 0) (eInt 2)) (eInt 0)) (eTup (lCons (eBin .Mult (eVar 1) (eBin .Pow (eInt 2) (eSub (eVar 0) (eInt 2)))) (lCons (eInt 1) lNil))) (eTup (lCons (eVar 1) (lCons (eBin .Pow (eInt 2) (eNeg (eSub (eVar 0) (eInt 2)))) lNil))))) sNil))
def F_law_worth : List D → Option D := defD 1 1 [] D_law_worth
def D_law_rounded : St → Option Fl := (sCons (sIf (tCmp .Eq (eVar 0) (eInt 0)) (sCons (sRet (eTup (lCons (eInt 0) (lCons (eInt 0) (lCons (eInt 0) (lCons (eInt 0) lNil)))))) sNil) sNil) (sCons (sUnpack [4, 5] (eIte (tCmp .Lt (eVar 0) (eInt 0)) (eTup (lCons (eInt 1) (lCons (eNeg (eVar 0)) lNil))) (eTup (lCons (eInt 0) (lCons (eVar 0) lNil))))) (sCons (sSet 6 (eBin .Sub (eBin .Sub (eBin .Sub (eBits (eVar 5)) (eBits (eVar 1))) (eVar 2)) (eInt 1))) (sCons (sUnpackR [7, 8, 9] (eTup (lCons (eBin .Pow (eInt 2) (eVar 2)) (lCons (eInt 0) (lCons (eInt 1) lNil))))) (sCons (sWhile (2 ^ 3000) (tCmp .GtE (eVar 7) (eBin .Pow (eInt 2) (eVar 2))) (sCons (sAug 6 .Add (eInt 1)) (sCons (sSet 9 (eIte (tCmp .Gt (eVar 6) (eInt 0)) (eBin .Mult (eVar 1) (eBin .Pow (eInt 2) (eVar 6))) (eVar 1))) (sCons (sUnpack [7, 8] (eCall dDivmod (lCons (eIte (tCmp .Lt (eVar 6) (eInt 0)) (eBin .Mult (eVar 5) (eBin .Pow (eInt 2) (eNeg (eVar 6)))) (eVar 5)) (lCons (eVar 9) lNil)))) sNil)))) (sCons (sSet 10 (eOr (eCmp .Eq (eVar 3) (eStr (Str.ofString "u"))) (eOr (eAnd (eCmp .Eq (eVar 3) (eStr (Str.ofString "c"))) (eCmp .Eq (eVar 4) (eInt 0))) (eAnd (eCmp .Eq (eVar 3) (eStr (Str.ofString "f"))) (eCmp .Eq (eVar 4) (eInt 1)))))) (sCons (sIf (tCmp .Eq (eVar 3) (eStr (Str.ofString "n"))) (sCons (sSet 10 (eOr (eCmp .Gt (eBin .Mult (eInt 2) (eVar 8)) (eVar 9)) (eAnd (eCmp .Eq (eBin .Mult (eInt 2) (eVar 8)) (eVar 9)) (eCmp .Eq (eBin .Mod (eVar 7) (eInt 2)) (eInt 1))))) sNil) sNil) (sCons (sIf (tAnd (tE (eVar 10)) (tAnd (tCmp .Gt (eVar 8) (eInt 0)) tTrue)) (sCons (sAug 7 .Add (eInt 1)) sNil) sNil) (sCons (sWhile (2 ^ 3000) (tCmp .Eq (eBin .Mod (eVar 7) (eInt 2)) (eInt 0)) (sCons (sUnpackR [7, 6] (eTup (lCons (eBin .FloorDiv (eVar 7) (eInt 2)) (lCons (eBin .Add (eVar 6) (eInt 1)) lNil)))) sNil)) (sCons (sRet (eTup (lCons (eVar 4) (lCons (eVar 7) (lCons (eVar 6) (lCons (eBits (eVar 7)) lNil)))))) sNil))))))))))
def F_law_rounded : List D → Option D := defD 4 7 [] D_law_rounded
def D_law_span : St → Option Fl := (sCons (sSet 4 (eCall F_law_mixed (lCons (eVar 0) (lCons (eBin .Add (eVar 1) (eInt 2)) lNil)))) (sCons (sUnpackR [5, 6] (eTup (lCons (eCall F_law_raw (lCons (eCall F_law_mixed (lCons (eVar 0) (lCons (eVar 1) lNil))) (lCons (eVar 2) (lCons (eVar 3) lNil)))) (lCons (eCall F_law_raw (lCons (eCall F_law_mixed (lCons (eVar 0) (lCons (eBin .Add (eVar 1) (eInt 1)) lNil))) (lCons (eVar 2) (lCons (eVar 3) lNil)))) lNil)))) (sCons (sIf (tCmp .Eq (eBin .Mod (eVar 4) (eInt 6)) (eInt 0)) (sCons (sSet 6 (eVar 5)) sNil) sNil) (sCons (sIf (tCmp .Eq (eBin .Mod (eVar 4) (eInt 6)) (eInt 1)) (sCons (sUnpackR [5, 6] (eTup (lCons (eTup (lCons (eInt 0) (lCons (eInt 0) (lCons (eInt 0) (lCons (eInt 0) lNil))))) (lCons (eTup (lCons (eInt 0) (lCons (eSub (eVar 6) (eInt 1)) (lCons (eSub (eVar 6) (eInt 2)) (lCons (eSub (eVar 6) (eInt 3)) lNil))))) lNil)))) sNil) sNil) (sCons (sUnpackR [7, 8] (eTup (lCons (eCall F_law_worth (lCons (eVar 5) lNil)) (lCons (eCall F_law_worth (lCons (eVar 6) lNil)) lNil)))) (sCons (sRet (eIte (tCmp .LtE (eBin .Mult (eSub (eVar 7) (eInt 0)) (eSub (eVar 8) (eInt 1))) (eBin .Mult (eSub (eVar 8) (eInt 0)) (eSub (eVar 7) (eInt 1)))) (eTup (lCons (eVar 5) (lCons (eVar 6) lNil))) (eTup (lCons (eVar 6) (lCons (eVar 5) lNil))))) sNil))))))
def F_law_span : List D → Option D := defD 4 5 [] D_law_span
def D_law_times : St → Option Fl := (sCons (sRet (eTup (lCons (eBin .Mult (eSub (eVar 0) (eInt 0)) (eSub (eVar 1) (eInt 0))) (lCons (eBin .Mult (eSub (eVar 0) (eInt 1)) (eSub (eVar 1) (eInt 1))) lNil)))) sNil)
def F_law_times : List D → Option D := defD 2 0 [] D_law_times
def D_law_less : St → Option Fl := (sCons (sRet (eCmp .Lt (eBin .Mult (eSub (eVar 0) (eInt 0)) (eSub (eVar 1) (eInt 1))) (eBin .Mult (eSub (eVar 1) (eInt 0)) (eSub (eVar 0) (eInt 1))))) sNil)
def F_law_less : List D → Option D := defD 2 0 [] D_law_less
def D_law_ends : St → Option Fl := (sCons (sUnpackR [1, 2] (eTup (lCons (eSub (eVar 0) (eInt 0)) (lCons (eSub (eVar 0) (eInt 0)) lNil)))) (sCons (sFor 3 (eVar 0) (sCons (sSet 1 (eIte (tE (eCall F_law_less (lCons (eVar 3) (lCons (eVar 1) lNil)))) (eVar 3) (eVar 1))) (sCons (sSet 2 (eIte (tE (eCall F_law_less (lCons (eVar 2) (lCons (eVar 3) lNil)))) (eVar 3) (eVar 2))) sNil))) (sCons (sRet (eTup (lCons (eVar 1) (lCons (eVar 2) lNil)))) sNil)))
def F_law_ends : List D → Option D := defD 1 3 [] D_law_ends
def D_law_over : St → Option Fl := (sCons (sUnpackR [2, 3] (eTup (lCons (eBin .Mult (eSub (eVar 0) (eInt 0)) (eSub (eVar 1) (eInt 1))) (lCons (eBin .Mult (eSub (eVar 0) (eInt 1)) (eSub (eVar 1) (eInt 0))) lNil)))) (sCons (sRet (eIte (tCmp .Lt (eVar 3) (eInt 0)) (eTup (lCons (eNeg (eVar 2)) (lCons (eNeg (eVar 3)) lNil))) (eTup (lCons (eVar 2) (lCons (eVar 3) lNil))))) sNil))
def F_law_over : List D → Option D := defD 2 2 [] D_law_over
def D_law_held : St → Option Fl := (sCons (sRet (eCmp .Eq (eVar 0) (eTup (lCons (eCall F_law_rounded (lCons (eSub (eVar 1) (eInt 0)) (lCons (eSub (eVar 1) (eInt 1)) (lCons (eVar 3) (lCons (eStr (Str.ofString "f")) lNil))))) (lCons (eCall F_law_rounded (lCons (eSub (eVar 2) (eInt 0)) (lCons (eSub (eVar 2) (eInt 1)) (lCons (eVar 3) (lCons (eStr (Str.ofString "c")) lNil))))) lNil))))) sNil)
def F_law_held : List D → Option D := defD 4 0 [] D_law_held
def D_law_quotient_right : St → Option Fl := (sCons (sUnpackR [5, 6, 7] (eTup (lCons (eCall F_mpi_div (lCons (eVar 0) (lCons (eVar 1) (lCons (eVar 4) lNil)))) (lCons (eTup (lCons (eInt 1) (lCons (eInt 0) (lCons (eNeg (eInt 789)) (lCons (eNeg (eInt 3)) lNil))))) (lCons (eTup (lCons (eInt 0) (lCons (eInt 0) (lCons (eNeg (eInt 456)) (lCons (eNeg (eInt 2)) lNil))))) lNil))))) (sCons (sIf (tOr (tCmp .Gt (eSub (eSub (eVar 3) (eInt 0)) (eInt 0)) (eInt 0)) (tOr (tCmp .Lt (eSub (eSub (eVar 3) (eInt 1)) (eInt 0)) (eInt 0)) tFalse)) (sCons (sUnpack [8, 9] (eCall F_law_ends (lCons (eComp2 (pOne 3 2 3) (eVar 2) (aName 0) (eVar 2) (aName 1) (eCall F_law_over (lCons (eVar 0) (lCons (eVar 1) lNil)))) lNil))) (sCons (sRet (eCall F_law_held (lCons (eVar 5) (lCons (eVar 8) (lCons (eVar 9) (lCons (eVar 4) lNil)))))) sNil)) sNil) (sCons (sIf (tOr (tAnd (tCmp .Eq (eSub (eSub (eVar 3) (eInt 0)) (eInt 0)) (eInt 0)) (tAnd (tCmp .Gt (eSub (eSub (eVar 3) (eInt 1)) (eInt 0)) (eInt 0)) tTrue)) (tOr (tAnd (tCmp .Lt (eSub (eSub (eVar 3) (eInt 0)) (eInt 0)) (eInt 0)) (tAnd (tCmp .Eq (eSub (eSub (eVar 3) (eInt 1)) (eInt 0)) (eInt 0)) tTrue)) tFalse)) (sCons (sSet 10 (eIte (tCmp .Gt (eSub (eSub (eVar 3) (eInt 1)) (eInt 0)) (eInt 0)) (eSub (eVar 3) (eInt 1)) (eSub (eVar 3) (eInt 0)))) (sCons (sSet 11 (eLst (lCons (eCall F_law_over (lCons (eSub (eVar 2) (eInt 0)) (lCons (eVar 10) lNil))) (lCons (eCall F_law_over (lCons (eSub (eVar 2) (eInt 1)) (lCons (eVar 10) lNil))) lNil)))) (sCons (sUnpack [8, 9] (eCall F_law_ends (lCons (eVar 11) lNil))) (sCons (sIf (tOr (tAnd (tCmp .Eq (eSub (eSub (eVar 2) (eInt 0)) (eInt 0)) (eInt 0)) (tAnd (tCmp .Eq (eSub (eSub (eVar 2) (eInt 1)) (eInt 0)) (eInt 0)) tTrue)) (tOr (tAnd (tCmp .Lt (eSub (eSub (eVar 2) (eInt 0)) (eInt 0)) (eInt 0)) (tAnd (tCmp .Gt (eSub (eSub (eVar 2) (eInt 1)) (eInt 0)) (eInt 0)) tTrue)) tFalse)) (sCons (sRet (eCmp .Eq (eVar 5) (eTup (lCons (eVar 6) (lCons (eVar 7) lNil))))) sNil) sNil) (sCons (sIf (tCmp .GtE (eSub (eVar 8) (eInt 0)) (eInt 0)) (sCons (sRet (eCmp .Eq (eVar 5) (eTup (lCons (eCall F_law_rounded (lCons (eSub (eVar 8) (eInt 0)) (lCons (eSub (eVar 8) (eInt 1)) (lCons (eVar 4) (lCons (eStr (Str.ofString "f")) lNil))))) (lCons (eVar 7) lNil))))) sNil) sNil) (sCons (sRet (eCmp .Eq (eVar 5) (eTup (lCons (eVar 6) (lCons (eCall F_law_rounded (lCons (eSub (eVar 9) (eInt 0)) (lCons (eSub (eVar 9) (eInt 1)) (lCons (eVar 4) (lCons (eStr (Str.ofString "c")) lNil))))) lNil))))) sNil)))))) sNil) (sCons (sRet (eCmp .Eq (eVar 5) (eTup (lCons (eVar 6) (lCons (eVar 7) lNil))))) sNil))))
def F_law_quotient_right : List D → Option D := defD 5 7 [] D_law_quotient_right
def D_law_root_right : St → Option Fl := (sCons (sCons (sUnpack [3, 4] (eCall F_mpi_sqrt (lCons (eVar 0) (lCons (eVar 2) lNil)))) sNil) (sCons (sIf (tOr (tCmp .Lt (eSub (eSub (eVar 1) (eInt 0)) (eInt 0)) (eInt 0)) (tOr (tCmp .NotEq (eSub (eVar 3) (eInt 0)) (eInt 0)) (tOr (tCmp .NotEq (eSub (eVar 4) (eInt 0)) (eInt 0)) (tOr (tCmp .Gt (eSub (eVar 3) (eInt 3)) (eVar 2)) (tOr (tCmp .Gt (eSub (eVar 4) (eInt 3)) (eVar 2)) tFalse))))) (sCons (sRet (eBool false)) sNil) sNil) (sCons (sUnpackR [5, 6] (eTup (lCons (eCall F_law_worth (lCons (eVar 3) lNil)) (lCons (eCall F_law_worth (lCons (eVar 4) lNil)) lNil)))) (sCons (sIf (tOr (tE (eCall F_law_less (lCons (eSub (eVar 1) (eInt 0)) (lCons (eCall F_law_times (lCons (eVar 5) (lCons (eVar 5) lNil))) lNil)))) (tOr (tE (eCall F_law_less (lCons (eCall F_law_times (lCons (eVar 6) (lCons (eVar 6) lNil))) (lCons (eSub (eVar 1) (eInt 1)) lNil)))) tFalse)) (sCons (sRet (eBool false)) sNil) sNil) (sCons (sSet 7 (eBin .Pow (eInt 2) (eBin .Sub (eVar 2) (eSub (eVar 3) (eInt 3))))) (sCons (sSet 8 (eCall F_law_worth (lCons (eTup (lCons (eInt 0) (lCons (eBin .Add (eBin .Mult (eSub (eVar 3) (eInt 1)) (eVar 7)) (eInt 1)) (lCons (eBin .Add (eBin .Sub (eSub (eVar 3) (eInt 2)) (eVar 2)) (eSub (eVar 3) (eInt 3))) (lCons (eInt 0) lNil))))) lNil))) (sCons (sSet 9 (eIte (tCmp .Eq (eSub (eVar 4) (eInt 1)) (eInt 1)) (eBin .Add (eVar 2) (eInt 1)) (eVar 2))) (sCons (sSet 10 (eCall F_law_worth (lCons (eTup (lCons (eInt 0) (lCons (eBin .Sub (eBin .Mult (eSub (eVar 4) (eInt 1)) (eBin .Pow (eInt 2) (eBin .Sub (eVar 9) (eSub (eVar 4) (eInt 3))))) (eInt 1)) (lCons (eBin .Add (eBin .Sub (eSub (eVar 4) (eInt 2)) (eVar 9)) (eSub (eVar 4) (eInt 3))) (lCons (eInt 0) lNil))))) lNil))) (sCons (sIf (tAnd (tCmp .Gt (eSub (eSub (eVar 1) (eInt 0)) (eInt 0)) (eInt 0)) (tAnd (tNot (tE (eCall F_law_less (lCons (eSub (eVar 1) (eInt 0)) (lCons (eCall F_law_times (lCons (eVar 8) (lCons (eVar 8) lNil))) lNil))))) tTrue)) (sCons (sRet (eBool false)) sNil) sNil) (sCons (sRet (eOr (eAnd (eCmp .Eq (eSub (eSub (eVar 1) (eInt 1)) (eInt 0)) (eInt 0)) (eCmp .Eq (eSub (eVar 4) (eInt 1)) (eInt 0))) (eAnd (eCmp .Gt (eSub (eSub (eVar 1) (eInt 1)) (eInt 0)) (eInt 0)) (eCall F_law_less (lCons (eCall F_law_times (lCons (eVar 10) (lCons (eVar 10) lNil))) (lCons (eSub (eVar 1) (eInt 1)) lNil)))))) sNil))))))))))
def F_law_root_right : List D → Option D := defD 3 8 [] D_law_root_right
def D_law_power : St → Option Fl := (sCons (sRet (eTup (lCons (eBin .Pow (eSub (eVar 0) (eInt 0)) (eVar 1)) (lCons (eBin .Pow (eSub (eVar 0) (eInt 1)) (eVar 1)) lNil)))) sNil)
def F_law_power : List D → Option D := defD 2 0 [] D_law_power
def D_law_power_right : St → Option Fl := (sCons (sIf (tAnd (tCmp .Lt (eVar 2) (eInt 0)) (tAnd (tCmp .LtE (eSub (eSub (eVar 1) (eInt 0)) (eInt 0)) (eInt 0)) (tAnd (tCmp .GtE (eSub (eSub (eVar 1) (eInt 1)) (eInt 0)) (eInt 0)) tTrue))) (sCons (sRet (eBool true)) sNil) sNil) (sCons (sSet 4 (eCall F_mpi_pow_int (lCons (eVar 0) (lCons (eVar 2) (lCons (eVar 3) lNil))))) (sCons (sIf (tCmp .Eq (eVar 2) (eInt 1)) (sCons (sRet (eCmp .Eq (eVar 4) (eVar 0))) sNil) sNil) (sCons (sSet 5 (eLst (lCons (eCall F_law_power (lCons (eSub (eVar 1) (eInt 0)) (lCons (eCall dAbs (lCons (eVar 2) lNil)) lNil))) (lCons (eCall F_law_power (lCons (eSub (eVar 1) (eInt 1)) (lCons (eCall dAbs (lCons (eVar 2) lNil)) lNil))) lNil)))) (sCons (sIf (tAnd (tCmp .Eq (eBin .Mod (eVar 2) (eInt 2)) (eInt 0)) (tAnd (tCmp .Gt (eVar 2) (eInt 0)) (tAnd (tCmp .LtE (eSub (eSub (eVar 1) (eInt 0)) (eInt 0)) (eInt 0)) (tAnd (tCmp .GtE (eSub (eSub (eVar 1) (eInt 1)) (eInt 0)) (eInt 0)) tTrue)))) (sCons (sSet 5 (eBin .Add (eVar 5) (eLst (lCons (eTup (lCons (eInt 0) (lCons (eInt 1) lNil))) lNil)))) sNil) sNil) (sCons (sIf (tCmp .Lt (eVar 2) (eInt 0)) (sCons (sComp 5 (pNo 1) (eVar 5) (aName 0) (eCall F_law_over (lCons (eTup (lCons (eInt 1) (lCons (eInt 1) lNil))) (lCons (eVar 0) lNil)))) sNil) sNil) (sCons (sUnpack [6, 7] (eCall F_law_ends (lCons (eVar 5) lNil))) (sCons (sIf (tCmp .GtE (eVar 2) (eInt 0)) (sCons (sRet (eCall F_law_held (lCons (eVar 4) (lCons (eVar 6) (lCons (eVar 7) (lCons (eVar 3) lNil)))))) sNil) sNil) (sCons (sUnpackR [8, 9] (eTup (lCons (eCall F_law_worth (lCons (eSub (eVar 4) (eInt 0)) lNil)) (lCons (eCall F_law_worth (lCons (eSub (eVar 4) (eInt 1)) lNil)) lNil)))) (sCons (sIf (tOr (tE (eCall F_law_less (lCons (eVar 6) (lCons (eVar 8) lNil)))) (tOr (tE (eCall F_law_less (lCons (eVar 9) (lCons (eVar 7) lNil)))) tFalse)) (sCons (sRet (eBool false)) sNil) sNil) (sCons (sSet 10 (eLst (lCons (eTup (lCons (eBin .Sub (eBin .Mult (eSub (eVar 6) (eInt 0)) (eSub (eVar 8) (eInt 1))) (eBin .Mult (eSub (eVar 8) (eInt 0)) (eSub (eVar 6) (eInt 1)))) (lCons (eBin .Mult (eSub (eVar 6) (eInt 1)) (eSub (eVar 8) (eInt 1))) (lCons (eVar 6) lNil)))) (lCons (eTup (lCons (eBin .Sub (eBin .Mult (eSub (eVar 9) (eInt 0)) (eSub (eVar 7) (eInt 1))) (eBin .Mult (eSub (eVar 7) (eInt 0)) (eSub (eVar 9) (eInt 1)))) (lCons (eBin .Mult (eSub (eVar 7) (eInt 1)) (eSub (eVar 9) (eInt 1))) (lCons (eVar 7) lNil)))) lNil)))) (sCons (sRet (eCall dAll (lCons (eComp (pOne 3 3 4) (eVar 10) (aTup [0, 1, 2]) (eCmp .Lt (eBin .Mult (eBin .Mult (eVar 0) (eBin .Pow (eInt 2) (eVar 3))) (eSub (eVar 2) (eInt 1))) (eBin .Mult (eBin .Mult (eInt 8) (eVar 1)) (eCall dAbs (lCons (eSub (eVar 2) (eInt 0)) lNil))))) lNil))) sNil))))))))))))
def F_law_power_right : List D → Option D := defD 4 7 [] D_law_power_right
def D_law : St → Option Fl := (sCons (sSet 1 (eCall F_law_mixed (lCons (eVar 0) (lCons (eInt 0) lNil)))) (sCons (sUnpackR [2, 3] (eTup (lCons (eBin .Add (eInt 1) (eBin .Mod (eVar 1) (eInt 90))) (lCons (eBin .Sub (eBin .Mod (eBin .FloorDiv (eVar 1) (eInt 90)) (eInt 14)) (eInt 4)) lNil)))) (sCons (sUnpackR [4, 5] (eTup (lCons (eCall F_law_span (lCons (eVar 0) (lCons (eInt 1) (lCons (eInt 30) (lCons (eInt 30) lNil))))) (lCons (eCall F_law_span (lCons (eVar 0) (lCons (eInt 4) (lCons (eInt 30) (lCons (eInt 30) lNil))))) lNil)))) (sCons (sUnpackR [6, 7] (eTup (lCons (eComp (pNo 1) (eVar 4) (aName 0) (eCall F_law_worth (lCons (eVar 0) lNil))) (lCons (eComp (pNo 1) (eVar 5) (aName 0) (eCall F_law_worth (lCons (eVar 0) lNil))) lNil)))) (sCons (sIf (tOr (tNot (tE (eCall F_law_quotient_right (lCons (eVar 4) (lCons (eVar 5) (lCons (eVar 6) (lCons (eVar 7) (lCons (eVar 2) lNil)))))))) (tOr (tNot (tE (eCall F_law_quotient_right (lCons (eVar 5) (lCons (eVar 4) (lCons (eVar 7) (lCons (eVar 6) (lCons (eVar 2) lNil)))))))) tFalse)) (sCons (sRet (eBool false)) sNil) sNil) (sCons (sIf (tOr (tNot (tE (eCall F_law_root_right (lCons (eVar 4) (lCons (eVar 6) (lCons (eVar 2) lNil)))))) (tOr (tNot (tE (eCall F_law_root_right (lCons (eVar 5) (lCons (eVar 7) (lCons (eVar 2) lNil)))))) tFalse)) (sCons (sRet (eBool false)) sNil) sNil) (sCons (sRet (eAnd (eCall F_law_power_right (lCons (eVar 4) (lCons (eVar 6) (lCons (eVar 3) (lCons (eVar 2) lNil))))) (eCall F_law_power_right (lCons (eVar 5) (lCons (eVar 7) (lCons (eVar 3) (lCons (eVar 2) lNil))))))) sNil)))))))
def F_law : List D → Option D := defD 1 7 [] D_law
end Mine

namespace Mine
set_option autoImplicit false

theorem CSem.of_bodyL {W : Wd} {n : Nat} {sc : Scope} {tab : List Str} {fa oc od osl fd body names k m dv dd g} (ho : W.K.lookup fa = some ⟨oc, od, .func fd, osl⟩) (hbody : fd.body = .stmts body) (hsc : fd.scope = sc) (hgl : fd.globals = mainGlobals) (hbu : fd.builtins = builtinsNs) (hclo : fd.closure = [])
    (hcd : codeIn W.K fd.code fd.qualname = true) (hk : sc.kind = .function) (hco : sc.isCoroutine = false) (hgen : sc.isGenerator = false)
    (hbind : ∀ (s : Shared) (vs : List Value), W.K.In s.heap → vs.length = k → BindsTo s fd ⟨vs, []⟩ (names.zip (vs ++ dv)))
    (hlen : names.length = k + dd.length) (hd : ∀ as h, RepAll as h dv dd) (htab : names = tab.take names.length) (hn : names.Nodup)
    (hkind : ∀ x ∈ names, sc.names.lookup x = some .local)
    (hb : BSem W n sc tab body g) : CSem W (n + 1) (.ref fa) (defD k m dd g) :=
  CSem.of_body ho hbody hsc hgl hbu hclo hcd hk hco hgen hbind hlen hd htab hn (fun x hx => .inl (hkind x hx)) hb
noncomputable def WW (w : World) (mg mb : Str → Option Value) : Wd := { prog := PySem.Challenge.pw_ah5013_01, w := w, K := hd.heap_39 w.params, p := hd.view_39, loose := (looseW hd.view_39 [Str.ofString "round_fast", Str.ofString "fzero", Str.ofString "fone", Str.ofString "fnan", Str.ofString "finf", Str.ofString "fninf", Str.ofString "shifts_down", Str.ofString "from_man_exp", Str.ofString "mpf_pos", Str.ofString "mpf_neg", Str.ofString "mpf_add", Str.ofString "mpf_sub", Str.ofString "mpf_mul", Str.ofString "mpf_div", Str.ofString "reciprocal_rnd", Str.ofString "mpf_pow_int", Str.ofString "mpf_sqrt", Str.ofString "mpi_neg", Str.ofString "mpi_square"]), mg := mg, mb := mb }

theorem hv_zi {w mg mb} : nsIn (WW w mg mb).K mainGlobals (Str.ofString "MPZ_ZERO") = some (some (.int 0 187)) := by kernel_rfl
theorem hr_zi {w mg mb} : ∀ as h, (WW w mg mb).K.In (V as h) → Rep as h (.int 0 187) d_zi := fun _ _ _ => .int _ _
theorem hv_oi {w mg mb} : nsIn (WW w mg mb).K mainGlobals (Str.ofString "MPZ_ONE") = some (some (.int 1 189)) := by kernel_rfl
theorem hr_oi {w mg mb} : ∀ as h, (WW w mg mb).K.In (V as h) → Rep as h (.int 1 189) d_oi := fun _ _ _ => .int _ _
theorem hv_rn {w mg mb} : nsIn (WW w mg mb).K mainGlobals (Str.ofString "round_nearest") = some (some (.str (Str.ofString "n") 244)) := by kernel_rfl
theorem hr_rn {w mg mb} : ∀ as h, (WW w mg mb).K.In (V as h) → Rep as h (.str (Str.ofString "n") 244) d_rn := fun _ _ _ => .str _ _
theorem hv_rf {w mg mb} : nsIn (WW w mg mb).K mainGlobals (Str.ofString "round_floor") = some (some (.str (Str.ofString "f") 246)) := by kernel_rfl
theorem hr_rf {w mg mb} : ∀ as h, (WW w mg mb).K.In (V as h) → Rep as h (.str (Str.ofString "f") 246) d_rf := fun _ _ _ => .str _ _
theorem hv_rc {w mg mb} : nsIn (WW w mg mb).K mainGlobals (Str.ofString "round_ceiling") = some (some (.str (Str.ofString "c") 248)) := by kernel_rfl
theorem hr_rc {w mg mb} : ∀ as h, (WW w mg mb).K.In (V as h) → Rep as h (.str (Str.ofString "c") 248) d_rc := fun _ _ _ => .str _ _
theorem hv_ru {w mg mb} : nsIn (WW w mg mb).K mainGlobals (Str.ofString "round_up") = some (some (.str (Str.ofString "u") 250)) := by kernel_rfl
theorem hr_ru {w mg mb} : ∀ as h, (WW w mg mb).K.In (V as h) → Rep as h (.str (Str.ofString "u") 250) d_ru := fun _ _ _ => .str _ _
theorem hv_rd {w mg mb} : nsIn (WW w mg mb).K mainGlobals (Str.ofString "round_down") = some (some (.str (Str.ofString "d") 252)) := by kernel_rfl
theorem hr_rd {w mg mb} : ∀ as h, (WW w mg mb).K.In (V as h) → Rep as h (.str (Str.ofString "d") 252) d_rd := fun _ _ _ => .str _ _
theorem hv_rfast {w mg mb} : nsIn (WW w mg mb).K mainGlobals (Str.ofString "round_fast") = some (some (.str (Str.ofString "d") 252)) := by kernel_rfl
theorem hr_rfast {w mg mb} : ∀ as h, (WW w mg mb).K.In (V as h) → Rep as h (.str (Str.ofString "d") 252) d_rfast := fun _ _ _ => .str _ _
theorem hv_fzero {w mg mb} : nsIn (WW w mg mb).K mainGlobals (Str.ofString "fzero") = some (some (.ref 56)) := by kernel_rfl
theorem hr_fzero {w mg mb} : ∀ as h, (WW w mg mb).K.In (V as h) → Rep as h (.ref 56) d_fzero := fun _ _ x => .tup (x 56 _ (by rfl)) rfl rfl (.cons (.int _ _) (.cons (.int _ _) (.cons (.int _ _) (.cons (.int _ _) .nil))))
theorem hv_fone {w mg mb} : nsIn (WW w mg mb).K mainGlobals (Str.ofString "fone") = some (some (.ref 57)) := by kernel_rfl
theorem hr_fone {w mg mb} : ∀ as h, (WW w mg mb).K.In (V as h) → Rep as h (.ref 57) d_fone := fun _ _ x => .tup (x 57 _ (by rfl)) rfl rfl (.cons (.int _ _) (.cons (.int _ _) (.cons (.int _ _) (.cons (.int _ _) .nil))))
theorem hv_fnan {w mg mb} : nsIn (WW w mg mb).K mainGlobals (Str.ofString "fnan") = some (some (.ref 58)) := by kernel_rfl
theorem hr_fnan {w mg mb} : ∀ as h, (WW w mg mb).K.In (V as h) → Rep as h (.ref 58) d_fnan := fun _ _ x => .tup (x 58 _ (by rfl)) rfl rfl (.cons (.int _ _) (.cons (.int _ _) (.cons (.int _ _) (.cons (.int _ _) .nil))))
theorem hv_finf {w mg mb} : nsIn (WW w mg mb).K mainGlobals (Str.ofString "finf") = some (some (.ref 59)) := by kernel_rfl
theorem hr_finf {w mg mb} : ∀ as h, (WW w mg mb).K.In (V as h) → Rep as h (.ref 59) d_finf := fun _ _ x => .tup (x 59 _ (by rfl)) rfl rfl (.cons (.int _ _) (.cons (.int _ _) (.cons (.int _ _) (.cons (.int _ _) .nil))))
theorem hv_fninf {w mg mb} : nsIn (WW w mg mb).K mainGlobals (Str.ofString "fninf") = some (some (.ref 60)) := by kernel_rfl
theorem hr_fninf {w mg mb} : ∀ as h, (WW w mg mb).K.In (V as h) → Rep as h (.ref 60) d_fninf := fun _ _ x => .tup (x 60 _ (by rfl)) rfl rfl (.cons (.int _ _) (.cons (.int _ _) (.cons (.int _ _) (.cons (.int _ _) .nil))))
theorem hv_shifts {w mg mb} : nsIn (WW w mg mb).K mainGlobals (Str.ofString "shifts_down") = some (some (.ref 61)) := by kernel_rfl
theorem hT_shifts {w mg mb} : ∀ h, (WW w mg mb).K.In h → KTD.TextTab h 61 [(Str.ofString "f", .tup [.int 1, .int 0]), (Str.ofString "c", .tup [.int 0, .int 1]), (Str.ofString "d", .tup [.int 1, .int 1]), (Str.ofString "u", .tup [.int 0, .int 0])] := fun h X => kt_text_in X (by kernel_rfl)
theorem hn_isinstance {w mg mb} : nsIn (WW w mg mb).K mainGlobals (Str.ofString "isinstance") = some none := by kernel_rfl
theorem hn_int {w mg mb} : nsIn (WW w mg mb).K mainGlobals (Str.ofString "int") = some none := by kernel_rfl
theorem hn_len {w mg mb} : nsIn (WW w mg mb).K mainGlobals (Str.ofString "len") = some none := by kernel_rfl
theorem hn_abs {w mg mb} : nsIn (WW w mg mb).K mainGlobals (Str.ofString "abs") = some none := by kernel_rfl
theorem hn_max {w mg mb} : nsIn (WW w mg mb).K mainGlobals (Str.ofString "max") = some none := by kernel_rfl
theorem hn_divmod {w mg mb} : nsIn (WW w mg mb).K mainGlobals (Str.ofString "divmod") = some none := by kernel_rfl
theorem hn_all {w mg mb} : nsIn (WW w mg mb).K mainGlobals (Str.ofString "all") = some none := by kernel_rfl
theorem hv_trailing {w mg mb} : nsIn (WW w mg mb).K mainGlobals (Str.ofString "trailing") = some (some (.ref 21)) := by kernel_rfl
theorem hk_trailing {mg mb} (w : World) : keepIn (WW w mg mb).K (.ref 21) = true := by kernel_rfl
theorem hv_isqrt_small {w mg mb} : nsIn (WW w mg mb).K mainGlobals (Str.ofString "isqrt_small") = some (some (.ref 28)) := by kernel_rfl
theorem hk_isqrt_small {mg mb} (w : World) : keepIn (WW w mg mb).K (.ref 28) = true := by kernel_rfl
theorem hv_sqrtrem {w mg mb} : nsIn (WW w mg mb).K mainGlobals (Str.ofString "sqrtrem") = some (some (.ref 35)) := by kernel_rfl
theorem hk_sqrtrem {mg mb} (w : World) : keepIn (WW w mg mb).K (.ref 35) = true := by kernel_rfl
theorem hv_isqrt {w mg mb} : nsIn (WW w mg mb).K mainGlobals (Str.ofString "isqrt") = some (some (.ref 42)) := by kernel_rfl
theorem hk_isqrt {mg mb} (w : World) : keepIn (WW w mg mb).K (.ref 42) = true := by kernel_rfl
theorem hv_nrm {w mg mb} : nsIn (WW w mg mb).K mainGlobals (Str.ofString "_normalize") = some (some (.ref 72)) := by kernel_rfl
theorem hk_nrm {mg mb} (w : World) : keepIn (WW w mg mb).K (.ref 72) = true := by kernel_rfl
theorem hv_normalize {w mg mb} : nsIn (WW w mg mb).K mainGlobals (Str.ofString "normalize") = some (some (.ref 79)) := by kernel_rfl
theorem hk_normalize {mg mb} (w : World) : keepIn (WW w mg mb).K (.ref 79) = true := by kernel_rfl
theorem hv_from_man_exp {w mg mb} : nsIn (WW w mg mb).K mainGlobals (Str.ofString "from_man_exp") = some (some (.ref 87)) := by kernel_rfl
theorem hk_from_man_exp {mg mb} (w : World) : keepIn (WW w mg mb).K (.ref 87) = true := by kernel_rfl
theorem hv_mpf_cmp {w mg mb} : nsIn (WW w mg mb).K mainGlobals (Str.ofString "mpf_cmp") = some (some (.ref 94)) := by kernel_rfl
theorem hk_mpf_cmp {mg mb} (w : World) : keepIn (WW w mg mb).K (.ref 94) = true := by kernel_rfl
theorem hv_mpf_lt {w mg mb} : nsIn (WW w mg mb).K mainGlobals (Str.ofString "mpf_lt") = some (some (.ref 101)) := by kernel_rfl
theorem hk_mpf_lt {mg mb} (w : World) : keepIn (WW w mg mb).K (.ref 101) = true := by kernel_rfl
theorem hv_mpf_le {w mg mb} : nsIn (WW w mg mb).K mainGlobals (Str.ofString "mpf_le") = some (some (.ref 108)) := by kernel_rfl
theorem hk_mpf_le {mg mb} (w : World) : keepIn (WW w mg mb).K (.ref 108) = true := by kernel_rfl
theorem hv_mpf_gt {w mg mb} : nsIn (WW w mg mb).K mainGlobals (Str.ofString "mpf_gt") = some (some (.ref 115)) := by kernel_rfl
theorem hk_mpf_gt {mg mb} (w : World) : keepIn (WW w mg mb).K (.ref 115) = true := by kernel_rfl
theorem hv_mpf_ge {w mg mb} : nsIn (WW w mg mb).K mainGlobals (Str.ofString "mpf_ge") = some (some (.ref 122)) := by kernel_rfl
theorem hk_mpf_ge {mg mb} (w : World) : keepIn (WW w mg mb).K (.ref 122) = true := by kernel_rfl
theorem hv_mpf_min_max {w mg mb} : nsIn (WW w mg mb).K mainGlobals (Str.ofString "mpf_min_max") = some (some (.ref 129)) := by kernel_rfl
theorem hk_mpf_min_max {mg mb} (w : World) : keepIn (WW w mg mb).K (.ref 129) = true := by kernel_rfl
theorem hv_mpf_pos {w mg mb} : nsIn (WW w mg mb).K mainGlobals (Str.ofString "mpf_pos") = some (some (.ref 137)) := by kernel_rfl
theorem hk_mpf_pos {mg mb} (w : World) : keepIn (WW w mg mb).K (.ref 137) = true := by kernel_rfl
theorem hv_mpf_neg {w mg mb} : nsIn (WW w mg mb).K mainGlobals (Str.ofString "mpf_neg") = some (some (.ref 145)) := by kernel_rfl
theorem hk_mpf_neg {mg mb} (w : World) : keepIn (WW w mg mb).K (.ref 145) = true := by kernel_rfl
theorem hv_mpf_sign {w mg mb} : nsIn (WW w mg mb).K mainGlobals (Str.ofString "mpf_sign") = some (some (.ref 152)) := by kernel_rfl
theorem hk_mpf_sign {mg mb} (w : World) : keepIn (WW w mg mb).K (.ref 152) = true := by kernel_rfl
theorem hv_mpf_add {w mg mb} : nsIn (WW w mg mb).K mainGlobals (Str.ofString "mpf_add") = some (some (.ref 160)) := by kernel_rfl
theorem hk_mpf_add {mg mb} (w : World) : keepIn (WW w mg mb).K (.ref 160) = true := by kernel_rfl
theorem hv_mpf_sub {w mg mb} : nsIn (WW w mg mb).K mainGlobals (Str.ofString "mpf_sub") = some (some (.ref 168)) := by kernel_rfl
theorem hk_mpf_sub {mg mb} (w : World) : keepIn (WW w mg mb).K (.ref 168) = true := by kernel_rfl
theorem hv_mpf_mul {w mg mb} : nsIn (WW w mg mb).K mainGlobals (Str.ofString "mpf_mul") = some (some (.ref 176)) := by kernel_rfl
theorem hk_mpf_mul {mg mb} (w : World) : keepIn (WW w mg mb).K (.ref 176) = true := by kernel_rfl
theorem hv_mpf_div {w mg mb} : nsIn (WW w mg mb).K mainGlobals (Str.ofString "mpf_div") = some (some (.ref 184)) := by kernel_rfl
theorem hk_mpf_div {mg mb} (w : World) : keepIn (WW w mg mb).K (.ref 184) = true := by kernel_rfl
theorem hv_mpf_pow_int {w mg mb} : nsIn (WW w mg mb).K mainGlobals (Str.ofString "mpf_pow_int") = some (some (.ref 193)) := by kernel_rfl
theorem hk_mpf_pow_int {mg mb} (w : World) : keepIn (WW w mg mb).K (.ref 193) = true := by kernel_rfl
theorem hv_mpf_sqrt {w mg mb} : nsIn (WW w mg mb).K mainGlobals (Str.ofString "mpf_sqrt") = some (some (.ref 201)) := by kernel_rfl
theorem hk_mpf_sqrt {mg mb} (w : World) : keepIn (WW w mg mb).K (.ref 201) = true := by kernel_rfl
theorem hv_mpi_neg {w mg mb} : nsIn (WW w mg mb).K mainGlobals (Str.ofString "mpi_neg") = some (some (.ref 209)) := by kernel_rfl
theorem hk_mpi_neg {mg mb} (w : World) : keepIn (WW w mg mb).K (.ref 209) = true := by kernel_rfl
theorem hv_mpi_square {w mg mb} : nsIn (WW w mg mb).K mainGlobals (Str.ofString "mpi_square") = some (some (.ref 217)) := by kernel_rfl
theorem hk_mpi_square {mg mb} (w : World) : keepIn (WW w mg mb).K (.ref 217) = true := by kernel_rfl
theorem hv_mpi_div {w mg mb} : nsIn (WW w mg mb).K mainGlobals (Str.ofString "mpi_div") = some (some (.ref 224)) := by kernel_rfl
theorem hk_mpi_div {mg mb} (w : World) : keepIn (WW w mg mb).K (.ref 224) = true := by kernel_rfl
theorem hv_mpi_sqrt {w mg mb} : nsIn (WW w mg mb).K mainGlobals (Str.ofString "mpi_sqrt") = some (some (.ref 231)) := by kernel_rfl
theorem hk_mpi_sqrt {mg mb} (w : World) : keepIn (WW w mg mb).K (.ref 231) = true := by kernel_rfl
theorem hv_mpi_pow_int {w mg mb} : nsIn (WW w mg mb).K mainGlobals (Str.ofString "mpi_pow_int") = some (some (.ref 238)) := by kernel_rfl
theorem hk_mpi_pow_int {mg mb} (w : World) : keepIn (WW w mg mb).K (.ref 238) = true := by kernel_rfl
theorem hv_law_mixed {w mg mb} : nsIn (WW w mg mb).K mainGlobals (Str.ofString "_law_mixed") = some (some (.ref 245)) := by kernel_rfl
theorem hk_law_mixed {mg mb} (w : World) : keepIn (WW w mg mb).K (.ref 245) = true := by kernel_rfl
theorem hv_law_raw {w mg mb} : nsIn (WW w mg mb).K mainGlobals (Str.ofString "_law_raw") = some (some (.ref 252)) := by kernel_rfl
theorem hk_law_raw {mg mb} (w : World) : keepIn (WW w mg mb).K (.ref 252) = true := by kernel_rfl
theorem hv_law_worth {w mg mb} : nsIn (WW w mg mb).K mainGlobals (Str.ofString "_law_worth") = some (some (.ref 259)) := by kernel_rfl
theorem hk_law_worth {mg mb} (w : World) : keepIn (WW w mg mb).K (.ref 259) = true := by kernel_rfl
theorem hv_law_rounded {w mg mb} : nsIn (WW w mg mb).K mainGlobals (Str.ofString "_law_rounded") = some (some (.ref 266)) := by kernel_rfl
theorem hk_law_rounded {mg mb} (w : World) : keepIn (WW w mg mb).K (.ref 266) = true := by kernel_rfl
theorem hv_law_span {w mg mb} : nsIn (WW w mg mb).K mainGlobals (Str.ofString "_law_span") = some (some (.ref 273)) := by kernel_rfl
theorem hk_law_span {mg mb} (w : World) : keepIn (WW w mg mb).K (.ref 273) = true := by kernel_rfl
theorem hv_law_times {w mg mb} : nsIn (WW w mg mb).K mainGlobals (Str.ofString "_law_times") = some (some (.ref 280)) := by kernel_rfl
theorem hk_law_times {mg mb} (w : World) : keepIn (WW w mg mb).K (.ref 280) = true := by kernel_rfl
theorem hv_law_less {w mg mb} : nsIn (WW w mg mb).K mainGlobals (Str.ofString "_law_less") = some (some (.ref 287)) := by kernel_rfl
theorem hk_law_less {mg mb} (w : World) : keepIn (WW w mg mb).K (.ref 287) = true := by kernel_rfl
theorem hv_law_ends {w mg mb} : nsIn (WW w mg mb).K mainGlobals (Str.ofString "_law_ends") = some (some (.ref 294)) := by kernel_rfl
theorem hk_law_ends {mg mb} (w : World) : keepIn (WW w mg mb).K (.ref 294) = true := by kernel_rfl
theorem hv_law_over {w mg mb} : nsIn (WW w mg mb).K mainGlobals (Str.ofString "_law_over") = some (some (.ref 301)) := by kernel_rfl
theorem hk_law_over {mg mb} (w : World) : keepIn (WW w mg mb).K (.ref 301) = true := by kernel_rfl
theorem hv_law_held {w mg mb} : nsIn (WW w mg mb).K mainGlobals (Str.ofString "_law_held") = some (some (.ref 308)) := by kernel_rfl
theorem hk_law_held {mg mb} (w : World) : keepIn (WW w mg mb).K (.ref 308) = true := by kernel_rfl
theorem hv_law_quotient_right {w mg mb} : nsIn (WW w mg mb).K mainGlobals (Str.ofString "_law_quotient_right") = some (some (.ref 313)) := by kernel_rfl
theorem hk_law_quotient_right {mg mb} (w : World) : keepIn (WW w mg mb).K (.ref 313) = true := by kernel_rfl
theorem hv_law_root_right {w mg mb} : nsIn (WW w mg mb).K mainGlobals (Str.ofString "_law_root_right") = some (some (.ref 320)) := by kernel_rfl
theorem hk_law_root_right {mg mb} (w : World) : keepIn (WW w mg mb).K (.ref 320) = true := by kernel_rfl
theorem hv_law_power {w mg mb} : nsIn (WW w mg mb).K mainGlobals (Str.ofString "_law_power") = some (some (.ref 327)) := by kernel_rfl
theorem hk_law_power {mg mb} (w : World) : keepIn (WW w mg mb).K (.ref 327) = true := by kernel_rfl
theorem hv_law_power_right {w mg mb} : nsIn (WW w mg mb).K mainGlobals (Str.ofString "_law_power_right") = some (some (.ref 332)) := by kernel_rfl
theorem hk_law_power_right {mg mb} (w : World) : keepIn (WW w mg mb).K (.ref 332) = true := by kernel_rfl
theorem hv_law {w mg mb} : nsIn (WW w mg mb).K mainGlobals (Str.ofString "law") = some (some (.ref 337)) := by kernel_rfl
theorem hk_law {mg mb} (w : World) : keepIn (WW w mg mb).K (.ref 337) = true := by kernel_rfl
theorem c_trailing (w : World) (mg mb : Str → Option Value) : CSem (WW w mg mb) 1 (.ref 21) F_trailing :=
  have hnd : ([Str.ofString "n"] : List Str).Nodup := by decide +kernel
  CSem.of_bodyL (n := 0) (tab := [Str.ofString "n"]) (names := [Str.ofString "n"]) (k := 1) (m := 0) (dv := []) (dd := []) (by rfl) rfl rfl rfl rfl rfl (by kernel_rfl) rfl rfl rfl
    (fun s vs X hl => by
      match vs, hl with
      | [a0], _ => exact kp_binds X (fun S => by kernel_rfl))
    rfl (fun _ _ => .nil) rfl (by decide +kernel) (by decide +kernel)
    (BSem.cons (SSem.ife (TSem.not (TSem.plain (ESem.var 0))) (BSem.cons (SSem.ret ESem.int) BSem.nil) BSem.nil) (BSem.cons (SSem.ret (ESem.binop (ESem.bits (ESem.binop (ESem.var 0) (ESem.neg (ESem.var 0)))) ESem.int)) BSem.nil))
theorem c_isqrt_small (w : World) (mg mb : Str → Option Value) : CSem (WW w mg mb) 1 (.ref 28) F_isqrt_small :=
  have hnd : ([Str.ofString "x", Str.ofString "r", Str.ofString "y"] : List Str).Nodup := by decide +kernel
  CSem.of_bodyL (n := 0) (tab := [Str.ofString "x", Str.ofString "r", Str.ofString "y"]) (names := [Str.ofString "x"]) (k := 1) (m := 2) (dv := []) (dd := []) (by rfl) rfl rfl rfl rfl rfl (by kernel_rfl) rfl rfl rfl
    (fun s vs X hl => by
      match vs, hl with
      | [a0], _ => exact kp_binds X (fun S => by kernel_rfl))
    rfl (fun _ _ => .nil) rfl (by decide +kernel) (by decide +kernel)
    (BSem.cons (SSem.ife (TSem.not (TSem.plain (ESem.var 0))) (BSem.cons (SSem.ret (ESem.var 0)) BSem.nil) BSem.nil) (BSem.cons (SSem.set 1 (ESem.binop ESem.int (ESem.binop (ESem.binop (ESem.bits (ESem.var 0)) ESem.int) ESem.int)) hnd) (BSem.cons (SSem.whl (2 ^ 3000) (TSem.plain ESem.int) (BSem.cons (SSem.set 2 (ESem.binop (ESem.binop (ESem.var 1) (ESem.binop (ESem.var 0) (ESem.var 1))) ESem.int) hnd) (BSem.cons (SSem.ife (TSem.cmp (ESem.var 2) (ESem.var 1)) (BSem.cons (SSem.ret (ESem.var 1)) BSem.nil) BSem.nil) (BSem.cons (SSem.set 1 (ESem.var 2) hnd) BSem.nil)))) BSem.nil)))
theorem c_sqrtrem (w : World) (mg mb : Str → Option Value) : CSem (WW w mg mb) 2 (.ref 35) F_sqrtrem :=
  have hnd : ([Str.ofString "x", Str.ofString "y"] : List Str).Nodup := by decide +kernel
  CSem.of_bodyL (n := 1) (tab := [Str.ofString "x", Str.ofString "y"]) (names := [Str.ofString "x"]) (k := 1) (m := 1) (dv := []) (dd := []) (by rfl) rfl rfl rfl rfl rfl (by kernel_rfl) rfl rfl rfl
    (fun s vs X hl => by
      match vs, hl with
      | [a0], _ => exact kp_binds X (fun S => by kernel_rfl))
    rfl (fun _ _ => .nil) rfl (by decide +kernel) (by decide +kernel)
    (BSem.cons (SSem.set 1 (ESem.call hv_isqrt_small (hk_isqrt_small w) (CSem.le (c_isqrt_small w mg mb) (by decide)) (LSem.cons (ESem.var 0) LSem.nil)) hnd) (BSem.cons (SSem.ret (ESem.tuple (LSem.cons (ESem.var 1) (LSem.cons (ESem.binop (ESem.var 0) (ESem.binop (ESem.var 1) (ESem.var 1))) LSem.nil)))) BSem.nil))
theorem c_isqrt (w : World) (mg mb : Str → Option Value) : CSem (WW w mg mb) 3 (.ref 42) F_isqrt :=
  have hnd : ([Str.ofString "x"] : List Str).Nodup := by decide +kernel
  CSem.of_bodyL (n := 2) (tab := [Str.ofString "x"]) (names := [Str.ofString "x"]) (k := 1) (m := 0) (dv := []) (dd := []) (by rfl) rfl rfl rfl rfl rfl (by kernel_rfl) rfl rfl rfl
    (fun s vs X hl => by
      match vs, hl with
      | [a0], _ => exact kp_binds X (fun S => by kernel_rfl))
    rfl (fun _ _ => .nil) rfl (by decide +kernel) (by decide +kernel)
    (BSem.cons (SSem.ret (ESem.sub (ESem.call hv_sqrtrem (hk_sqrtrem w) (CSem.le (c_sqrtrem w mg mb) (by decide)) (LSem.cons (ESem.var 0) LSem.nil)) ESem.int)) BSem.nil)
theorem c_nrm (w : World) (mg mb : Str → Option Value) : CSem (WW w mg mb) 2 (.ref 72) F_nrm :=
  have hnd : ([Str.ofString "sign", Str.ofString "man", Str.ofString "exp", Str.ofString "bc", Str.ofString "prec", Str.ofString "rnd", Str.ofString "n", Str.ofString "t"] : List Str).Nodup := by decide +kernel
  CSem.of_bodyL (n := 1) (tab := [Str.ofString "sign", Str.ofString "man", Str.ofString "exp", Str.ofString "bc", Str.ofString "prec", Str.ofString "rnd", Str.ofString "n", Str.ofString "t"]) (names := [Str.ofString "sign", Str.ofString "man", Str.ofString "exp", Str.ofString "bc", Str.ofString "prec", Str.ofString "rnd"]) (k := 6) (m := 2) (dv := []) (dd := []) (by rfl) rfl rfl rfl rfl rfl (by kernel_rfl) rfl rfl rfl
    (fun s vs X hl => by
      match vs, hl with
      | [a0, a1, a2, a3, a4, a5], _ => exact kp_binds X (fun S => by kernel_rfl))
    rfl (fun _ _ => .nil) rfl (by decide +kernel) (by decide +kernel)
    (BSem.cons (SSem.ife (TSem.not (TSem.plain (ESem.var 1))) (BSem.cons (SSem.ret (ESem.glob hv_fzero hr_fzero)) BSem.nil) BSem.nil) (BSem.cons (SSem.set 6 (ESem.binop (ESem.var 3) (ESem.var 4)) hnd) (BSem.cons (SSem.ife (TSem.cmp (ESem.var 6) ESem.int) (BSem.cons (SSem.ife (TSem.cmp (ESem.var 5) (ESem.glob hv_rn hr_rn)) (BSem.cons (SSem.set 7 (ESem.binop (ESem.var 1) (ESem.binop (ESem.var 6) ESem.int)) hnd) (BSem.cons (SSem.ife (TSem.and1 (TSem.plain (ESem.binop (ESem.var 7) ESem.int)) (TSem.and1 (TSem.or1 (TSem.plain (ESem.binop (ESem.var 7) ESem.int)) (TSem.or1 (TSem.plain (ESem.binop (ESem.var 1) (ESem.binop (ESem.binop (ESem.glob hv_oi hr_oi) (ESem.binop (ESem.var 6) ESem.int)) ESem.int))) TSem.or0)) TSem.and0)) (BSem.cons (SSem.set 1 (ESem.binop (ESem.binop (ESem.var 7) ESem.int) ESem.int) hnd) BSem.nil) (BSem.cons (SSem.set 1 (ESem.binop (ESem.var 7) ESem.int) hnd) BSem.nil)) BSem.nil)) (BSem.cons (SSem.ife (TSem.plain (ESem.sub (ESem.shift hv_shifts hT_shifts (ESem.var 5)) (ESem.var 0))) (BSem.cons (SSem.aug 1 (ESem.var 6) hnd) BSem.nil) (BSem.cons (SSem.set 1 (ESem.neg (ESem.binop (ESem.neg (ESem.var 1)) (ESem.var 6))) hnd) BSem.nil)) BSem.nil)) (BSem.cons (SSem.aug 2 (ESem.var 6) hnd) (BSem.cons (SSem.set 3 (ESem.var 4) hnd) BSem.nil))) BSem.nil) (BSem.cons (SSem.ife (TSem.not (TSem.plain (ESem.binop (ESem.var 1) ESem.int))) (BSem.cons (SSem.set 7 (ESem.call hv_trailing (hk_trailing w) (CSem.le (c_trailing w mg mb) (by decide)) (LSem.cons (ESem.var 1) LSem.nil)) hnd) (BSem.cons (SSem.aug 1 (ESem.var 7) hnd) (BSem.cons (SSem.aug 2 (ESem.var 7) hnd) (BSem.cons (SSem.aug 3 (ESem.var 7) hnd) BSem.nil)))) BSem.nil) (BSem.cons (SSem.ife (TSem.cmp (ESem.var 1) ESem.int) (BSem.cons (SSem.set 3 ESem.int hnd) BSem.nil) BSem.nil) (BSem.cons (SSem.ret (ESem.tuple (LSem.cons (ESem.var 0) (LSem.cons (ESem.var 1) (LSem.cons (ESem.var 2) (LSem.cons (ESem.var 3) LSem.nil)))))) BSem.nil))))))
theorem c_normalize (w : World) (mg mb : Str → Option Value) : CSem (WW w mg mb) 3 (.ref 79) F_normalize :=
  have hnd : ([Str.ofString "sign", Str.ofString "man", Str.ofString "exp", Str.ofString "bc", Str.ofString "prec", Str.ofString "rnd"] : List Str).Nodup := by decide +kernel
  CSem.of_bodyL (n := 2) (tab := [Str.ofString "sign", Str.ofString "man", Str.ofString "exp", Str.ofString "bc", Str.ofString "prec", Str.ofString "rnd"]) (names := [Str.ofString "sign", Str.ofString "man", Str.ofString "exp", Str.ofString "bc", Str.ofString "prec", Str.ofString "rnd"]) (k := 6) (m := 0) (dv := []) (dd := []) (by rfl) rfl rfl rfl rfl rfl (by kernel_rfl) rfl rfl rfl
    (fun s vs X hl => by
      match vs, hl with
      | [a0, a1, a2, a3, a4, a5], _ => exact kp_binds X (fun S => by kernel_rfl))
    rfl (fun _ _ => .nil) rfl (by decide +kernel) (by decide +kernel)
    (BSem.cons (SSem.asrt (TSem.cmp (ESem.var 3) (ESem.bits (ESem.var 1)))) (BSem.cons (SSem.asrt (TSem.cmp (ESem.var 1) ESem.int)) (BSem.cons (SSem.ret (ESem.call hv_nrm (hk_nrm w) (CSem.le (c_nrm w mg mb) (by decide)) (LSem.cons (ESem.var 0) (LSem.cons (ESem.var 1) (LSem.cons (ESem.var 2) (LSem.cons (ESem.var 3) (LSem.cons (ESem.var 4) (LSem.cons (ESem.var 5) LSem.nil)))))))) BSem.nil)))
theorem c_from_man_exp (w : World) (mg mb : Str → Option Value) : CSem (WW w mg mb) 4 (.ref 87) F_from_man_exp :=
  have hnd : ([Str.ofString "man", Str.ofString "exp", Str.ofString "prec", Str.ofString "rnd", Str.ofString "sign", Str.ofString "bc", Str.ofString "t"] : List Str).Nodup := by decide +kernel
  CSem.of_bodyL (n := 3) (tab := [Str.ofString "man", Str.ofString "exp", Str.ofString "prec", Str.ofString "rnd", Str.ofString "sign", Str.ofString "bc", Str.ofString "t"]) (names := [Str.ofString "man", Str.ofString "exp", Str.ofString "prec", Str.ofString "rnd"]) (k := 4) (m := 3) (dv := []) (dd := []) (by rfl) rfl rfl rfl rfl rfl (by kernel_rfl) rfl rfl rfl
    (fun s vs X hl => by
      match vs, hl with
      | [a0, a1, a2, a3], _ => exact kp_binds X (fun S => by kernel_rfl))
    rfl (fun _ _ => .nil) rfl (by decide +kernel) (by decide +kernel)
    (BSem.cons (SSem.ife (TSem.not (TSem.plain (ESem.isInt hn_isinstance (by rfl) hn_int (by rfl) (ESem.var 0)))) (BSem.cons SSem.no BSem.nil) BSem.nil) (BSem.cons (SSem.set 4 ESem.int hnd) (BSem.cons (SSem.ife (TSem.cmp (ESem.var 0) ESem.int) (BSem.cons (SSem.set 4 ESem.int hnd) (BSem.cons (SSem.set 0 (ESem.neg (ESem.var 0)) hnd) BSem.nil)) BSem.nil) (BSem.cons (SSem.set 5 (ESem.bits (ESem.var 0)) hnd) (BSem.cons (SSem.ife (TSem.not (TSem.plain (ESem.var 2))) (BSem.cons (SSem.ife (TSem.not (TSem.plain (ESem.var 0))) (BSem.cons (SSem.ret (ESem.glob hv_fzero hr_fzero)) BSem.nil) BSem.nil) (BSem.cons (SSem.ife (TSem.not (TSem.plain (ESem.binop (ESem.var 0) ESem.int))) (BSem.cons (SSem.ife (TSem.plain (ESem.binop (ESem.var 0) ESem.int)) (BSem.cons (SSem.ret (ESem.tuple (LSem.cons (ESem.var 4) (LSem.cons (ESem.binop (ESem.var 0) ESem.int) (LSem.cons (ESem.binop (ESem.var 1) ESem.int) (LSem.cons (ESem.binop (ESem.var 5) ESem.int) LSem.nil)))))) BSem.nil) BSem.nil) (BSem.cons (SSem.set 6 (ESem.call hv_trailing (hk_trailing w) (CSem.le (c_trailing w mg mb) (by decide)) (LSem.cons (ESem.var 0) LSem.nil)) hnd) (BSem.cons (SSem.aug 0 (ESem.var 6) hnd) (BSem.cons (SSem.aug 1 (ESem.var 6) hnd) (BSem.cons (SSem.aug 5 (ESem.var 6) hnd) BSem.nil))))) BSem.nil) (BSem.cons (SSem.ret (ESem.tuple (LSem.cons (ESem.var 4) (LSem.cons (ESem.var 0) (LSem.cons (ESem.var 1) (LSem.cons (ESem.var 5) LSem.nil)))))) BSem.nil))) BSem.nil) (BSem.cons (SSem.ret (ESem.call hv_normalize (hk_normalize w) (CSem.le (c_normalize w mg mb) (by decide)) (LSem.cons (ESem.var 4) (LSem.cons (ESem.var 0) (LSem.cons (ESem.var 1) (LSem.cons (ESem.var 5) (LSem.cons (ESem.var 2) (LSem.cons (ESem.var 3) LSem.nil)))))))) BSem.nil))))))
theorem c_mpf_neg (w : World) (mg mb : Str → Option Value) : CSem (WW w mg mb) 4 (.ref 145) F_mpf_neg :=
  have hnd : ([Str.ofString "s", Str.ofString "prec", Str.ofString "rnd", Str.ofString "sign", Str.ofString "man", Str.ofString "exp", Str.ofString "bc"] : List Str).Nodup := by decide +kernel
  CSem.of_bodyL (n := 3) (tab := [Str.ofString "s", Str.ofString "prec", Str.ofString "rnd", Str.ofString "sign", Str.ofString "man", Str.ofString "exp", Str.ofString "bc"]) (names := [Str.ofString "s", Str.ofString "prec", Str.ofString "rnd"]) (k := 3) (m := 4) (dv := []) (dd := []) (by rfl) rfl rfl rfl rfl rfl (by kernel_rfl) rfl rfl rfl
    (fun s vs X hl => by
      match vs, hl with
      | [a0, a1, a2], _ => exact kp_binds X (fun S => by kernel_rfl))
    rfl (fun _ _ => .nil) rfl (by decide +kernel) (by decide +kernel)
    (BSem.cons (SSem.unpack (.cons 3 rfl rfl (.cons 4 rfl rfl (.cons 5 rfl rfl (.cons 6 rfl rfl .nil)))) (ESem.var 0) hnd) (BSem.cons (SSem.ife (TSem.not (TSem.plain (ESem.var 4))) (BSem.cons (SSem.ife (TSem.plain (ESem.var 5)) (BSem.cons (SSem.ife (TSem.cmp (ESem.var 0) (ESem.glob hv_finf hr_finf)) (BSem.cons (SSem.ret (ESem.glob hv_fninf hr_fninf)) BSem.nil) BSem.nil) (BSem.cons (SSem.ife (TSem.cmp (ESem.var 0) (ESem.glob hv_fninf hr_fninf)) (BSem.cons (SSem.ret (ESem.glob hv_finf hr_finf)) BSem.nil) BSem.nil) BSem.nil)) BSem.nil) (BSem.cons (SSem.ret (ESem.var 0)) BSem.nil)) BSem.nil) (BSem.cons (SSem.ife (TSem.not (TSem.plain (ESem.var 1))) (BSem.cons (SSem.ret (ESem.tuple (LSem.cons (ESem.binop ESem.int (ESem.var 3)) (LSem.cons (ESem.var 4) (LSem.cons (ESem.var 5) (LSem.cons (ESem.var 6) LSem.nil)))))) BSem.nil) BSem.nil) (BSem.cons (SSem.ret (ESem.call hv_normalize (hk_normalize w) (CSem.le (c_normalize w mg mb) (by decide)) (LSem.cons (ESem.binop ESem.int (ESem.var 3)) (LSem.cons (ESem.var 4) (LSem.cons (ESem.var 5) (LSem.cons (ESem.var 6) (LSem.cons (ESem.var 1) (LSem.cons (ESem.var 2) LSem.nil)))))))) BSem.nil))))
theorem c_mpf_neg_1 (w : World) (mg mb : Str → Option Value) : CSem (WW w mg mb) 4 (.ref 145) F_mpf_neg_1 :=
  have hnd : ([Str.ofString "s", Str.ofString "prec", Str.ofString "rnd", Str.ofString "sign", Str.ofString "man", Str.ofString "exp", Str.ofString "bc"] : List Str).Nodup := by decide +kernel
  CSem.of_bodyL (n := 3) (tab := [Str.ofString "s", Str.ofString "prec", Str.ofString "rnd", Str.ofString "sign", Str.ofString "man", Str.ofString "exp", Str.ofString "bc"]) (names := [Str.ofString "s", Str.ofString "prec", Str.ofString "rnd"]) (k := 1) (m := 4) (dv := [.int 0 409, .str (Str.ofString "d") 252]) (dd := [.int 0, .str (Str.ofString "d")]) (by rfl) rfl rfl rfl rfl rfl (by kernel_rfl) rfl rfl rfl
    (fun s vs X hl => by
      match vs, hl with
      | [a0], _ => exact kp_binds X (fun S => by kernel_rfl))
    rfl (fun _ _ => (.cons (.int _ _) (.cons (.str _ _) .nil))) rfl (by decide +kernel) (by decide +kernel)
    (BSem.cons (SSem.unpack (.cons 3 rfl rfl (.cons 4 rfl rfl (.cons 5 rfl rfl (.cons 6 rfl rfl .nil)))) (ESem.var 0) hnd) (BSem.cons (SSem.ife (TSem.not (TSem.plain (ESem.var 4))) (BSem.cons (SSem.ife (TSem.plain (ESem.var 5)) (BSem.cons (SSem.ife (TSem.cmp (ESem.var 0) (ESem.glob hv_finf hr_finf)) (BSem.cons (SSem.ret (ESem.glob hv_fninf hr_fninf)) BSem.nil) BSem.nil) (BSem.cons (SSem.ife (TSem.cmp (ESem.var 0) (ESem.glob hv_fninf hr_fninf)) (BSem.cons (SSem.ret (ESem.glob hv_finf hr_finf)) BSem.nil) BSem.nil) BSem.nil)) BSem.nil) (BSem.cons (SSem.ret (ESem.var 0)) BSem.nil)) BSem.nil) (BSem.cons (SSem.ife (TSem.not (TSem.plain (ESem.var 1))) (BSem.cons (SSem.ret (ESem.tuple (LSem.cons (ESem.binop ESem.int (ESem.var 3)) (LSem.cons (ESem.var 4) (LSem.cons (ESem.var 5) (LSem.cons (ESem.var 6) LSem.nil)))))) BSem.nil) BSem.nil) (BSem.cons (SSem.ret (ESem.call hv_normalize (hk_normalize w) (CSem.le (c_normalize w mg mb) (by decide)) (LSem.cons (ESem.binop ESem.int (ESem.var 3)) (LSem.cons (ESem.var 4) (LSem.cons (ESem.var 5) (LSem.cons (ESem.var 6) (LSem.cons (ESem.var 1) (LSem.cons (ESem.var 2) LSem.nil)))))))) BSem.nil))))
theorem c_mpf_add (w : World) (mg mb : Str → Option Value) : CSem (WW w mg mb) 5 (.ref 160) F_mpf_add :=
  have hnd : ([Str.ofString "s", Str.ofString "t", Str.ofString "prec", Str.ofString "rnd", Str.ofString "_sub", Str.ofString "ssign", Str.ofString "sman", Str.ofString "sexp", Str.ofString "sbc", Str.ofString "tsign", Str.ofString "tman", Str.ofString "texp", Str.ofString "tbc", Str.ofString "offset", Str.ofString "delta", Str.ofString "man", Str.ofString "bc"] : List Str).Nodup := by decide +kernel
  CSem.of_bodyL (n := 4) (tab := [Str.ofString "s", Str.ofString "t", Str.ofString "prec", Str.ofString "rnd", Str.ofString "_sub", Str.ofString "ssign", Str.ofString "sman", Str.ofString "sexp", Str.ofString "sbc", Str.ofString "tsign", Str.ofString "tman", Str.ofString "texp", Str.ofString "tbc", Str.ofString "offset", Str.ofString "delta", Str.ofString "man", Str.ofString "bc"]) (names := [Str.ofString "s", Str.ofString "t", Str.ofString "prec", Str.ofString "rnd", Str.ofString "_sub"]) (k := 5) (m := 12) (dv := []) (dd := []) (by rfl) rfl rfl rfl rfl rfl (by kernel_rfl) rfl rfl rfl
    (fun s vs X hl => by
      match vs, hl with
      | [a0, a1, a2, a3, a4], _ => exact kp_binds X (fun S => by kernel_rfl))
    rfl (fun _ _ => .nil) rfl (by decide +kernel) (by decide +kernel)
    (BSem.cons (SSem.unpack (.cons 5 rfl rfl (.cons 6 rfl rfl (.cons 7 rfl rfl (.cons 8 rfl rfl .nil)))) (ESem.var 0) hnd) (BSem.cons (SSem.unpack (.cons 9 rfl rfl (.cons 10 rfl rfl (.cons 11 rfl rfl (.cons 12 rfl rfl .nil)))) (ESem.var 1) hnd) (BSem.cons (SSem.aug 9 (ESem.var 4) hnd) (BSem.cons (SSem.ife (TSem.and1 (TSem.plain (ESem.var 6)) (TSem.and1 (TSem.plain (ESem.var 10)) TSem.and0)) (BSem.cons (SSem.set 13 (ESem.binop (ESem.var 7) (ESem.var 11)) hnd) (BSem.cons (SSem.ife (TSem.plain (ESem.var 13)) (BSem.cons (SSem.ife (TSem.cmp (ESem.var 13) ESem.int) (BSem.cons (SSem.ife (TSem.and1 (TSem.cmp (ESem.var 13) ESem.int) (TSem.and1 (TSem.plain (ESem.var 2)) TSem.and0)) (BSem.cons (SSem.set 14 (ESem.binop (ESem.binop (ESem.binop (ESem.var 8) (ESem.var 7)) (ESem.var 12)) (ESem.var 11)) hnd) (BSem.cons (SSem.ife (TSem.cmp (ESem.var 14) (ESem.binop (ESem.var 2) ESem.int)) (BSem.cons (SSem.set 13 (ESem.binop (ESem.var 2) ESem.int) hnd) (BSem.cons (SSem.aug 6 (ESem.var 13) hnd) (BSem.cons (SSem.ife (TSem.cmp (ESem.var 9) (ESem.var 5)) (BSem.cons (SSem.aug 6 ESem.int hnd) BSem.nil) (BSem.cons (SSem.aug 6 ESem.int hnd) BSem.nil)) (BSem.cons (SSem.ret (ESem.call hv_normalize (hk_normalize w) (CSem.le (c_normalize w mg mb) (by decide)) (LSem.cons (ESem.var 5) (LSem.cons (ESem.var 6) (LSem.cons (ESem.binop (ESem.var 7) (ESem.var 13)) (LSem.cons (ESem.bits (ESem.var 6)) (LSem.cons (ESem.var 2) (LSem.cons (ESem.var 3) LSem.nil)))))))) BSem.nil)))) BSem.nil) BSem.nil)) BSem.nil) (BSem.cons (SSem.ife (TSem.cmp (ESem.var 5) (ESem.var 9)) (BSem.cons (SSem.set 15 (ESem.binop (ESem.var 10) (ESem.binop (ESem.var 6) (ESem.var 13))) hnd) BSem.nil) (BSem.cons (SSem.ife (TSem.plain (ESem.var 5)) (BSem.cons (SSem.set 15 (ESem.binop (ESem.var 10) (ESem.binop (ESem.var 6) (ESem.var 13))) hnd) BSem.nil) (BSem.cons (SSem.set 15 (ESem.binop (ESem.binop (ESem.var 6) (ESem.var 13)) (ESem.var 10)) hnd) BSem.nil)) (BSem.cons (SSem.ife (TSem.cmp (ESem.var 15) ESem.int) (BSem.cons (SSem.set 5 ESem.int hnd) BSem.nil) (BSem.cons (SSem.set 15 (ESem.neg (ESem.var 15)) hnd) (BSem.cons (SSem.set 5 ESem.int hnd) BSem.nil))) BSem.nil))) (BSem.cons (SSem.set 16 (ESem.bits (ESem.var 15)) hnd) (BSem.cons (SSem.ret (ESem.call hv_normalize (hk_normalize w) (CSem.le (c_normalize w mg mb) (by decide)) (LSem.cons (ESem.var 5) (LSem.cons (ESem.var 15) (LSem.cons (ESem.var 11) (LSem.cons (ESem.var 16) (LSem.cons (ESem.or (ESem.var 2) (ESem.bop1 (ESem.var 16))) (LSem.cons (ESem.var 3) LSem.nil)))))))) BSem.nil)))) (BSem.cons (SSem.ife (TSem.cmp (ESem.var 13) ESem.int) (BSem.cons (SSem.ife (TSem.and1 (TSem.cmp (ESem.var 13) (ESem.neg ESem.int)) (TSem.and1 (TSem.plain (ESem.var 2)) TSem.and0)) (BSem.cons (SSem.set 14 (ESem.binop (ESem.binop (ESem.binop (ESem.var 12) (ESem.var 11)) (ESem.var 8)) (ESem.var 7)) hnd) (BSem.cons (SSem.ife (TSem.cmp (ESem.var 14) (ESem.binop (ESem.var 2) ESem.int)) (BSem.cons (SSem.set 13 (ESem.binop (ESem.var 2) ESem.int) hnd) (BSem.cons (SSem.aug 10 (ESem.var 13) hnd) (BSem.cons (SSem.ife (TSem.cmp (ESem.var 5) (ESem.var 9)) (BSem.cons (SSem.aug 10 ESem.int hnd) BSem.nil) (BSem.cons (SSem.aug 10 ESem.int hnd) BSem.nil)) (BSem.cons (SSem.ret (ESem.call hv_normalize (hk_normalize w) (CSem.le (c_normalize w mg mb) (by decide)) (LSem.cons (ESem.var 9) (LSem.cons (ESem.var 10) (LSem.cons (ESem.binop (ESem.var 11) (ESem.var 13)) (LSem.cons (ESem.bits (ESem.var 10)) (LSem.cons (ESem.var 2) (LSem.cons (ESem.var 3) LSem.nil)))))))) BSem.nil)))) BSem.nil) BSem.nil)) BSem.nil) (BSem.cons (SSem.ife (TSem.cmp (ESem.var 5) (ESem.var 9)) (BSem.cons (SSem.set 15 (ESem.binop (ESem.var 6) (ESem.binop (ESem.var 10) (ESem.neg (ESem.var 13)))) hnd) BSem.nil) (BSem.cons (SSem.ife (TSem.plain (ESem.var 9)) (BSem.cons (SSem.set 15 (ESem.binop (ESem.var 6) (ESem.binop (ESem.var 10) (ESem.neg (ESem.var 13)))) hnd) BSem.nil) (BSem.cons (SSem.set 15 (ESem.binop (ESem.binop (ESem.var 10) (ESem.neg (ESem.var 13))) (ESem.var 6)) hnd) BSem.nil)) (BSem.cons (SSem.ife (TSem.cmp (ESem.var 15) ESem.int) (BSem.cons (SSem.set 5 ESem.int hnd) BSem.nil) (BSem.cons (SSem.set 15 (ESem.neg (ESem.var 15)) hnd) (BSem.cons (SSem.set 5 ESem.int hnd) BSem.nil))) BSem.nil))) (BSem.cons (SSem.set 16 (ESem.bits (ESem.var 15)) hnd) (BSem.cons (SSem.ret (ESem.call hv_normalize (hk_normalize w) (CSem.le (c_normalize w mg mb) (by decide)) (LSem.cons (ESem.var 5) (LSem.cons (ESem.var 15) (LSem.cons (ESem.var 7) (LSem.cons (ESem.var 16) (LSem.cons (ESem.or (ESem.var 2) (ESem.bop1 (ESem.var 16))) (LSem.cons (ESem.var 3) LSem.nil)))))))) BSem.nil)))) BSem.nil) BSem.nil)) BSem.nil) BSem.nil) (BSem.cons (SSem.ife (TSem.cmp (ESem.var 5) (ESem.var 9)) (BSem.cons (SSem.set 15 (ESem.binop (ESem.var 10) (ESem.var 6)) hnd) BSem.nil) (BSem.cons (SSem.ife (TSem.plain (ESem.var 5)) (BSem.cons (SSem.set 15 (ESem.binop (ESem.var 10) (ESem.var 6)) hnd) BSem.nil) (BSem.cons (SSem.set 15 (ESem.binop (ESem.var 6) (ESem.var 10)) hnd) BSem.nil)) (BSem.cons (SSem.ife (TSem.cmp (ESem.var 15) ESem.int) (BSem.cons (SSem.set 5 ESem.int hnd) BSem.nil) (BSem.cons (SSem.set 15 (ESem.neg (ESem.var 15)) hnd) (BSem.cons (SSem.set 5 ESem.int hnd) BSem.nil))) BSem.nil))) (BSem.cons (SSem.set 16 (ESem.bits (ESem.var 15)) hnd) (BSem.cons (SSem.ret (ESem.call hv_normalize (hk_normalize w) (CSem.le (c_normalize w mg mb) (by decide)) (LSem.cons (ESem.var 5) (LSem.cons (ESem.var 15) (LSem.cons (ESem.var 11) (LSem.cons (ESem.var 16) (LSem.cons (ESem.or (ESem.var 2) (ESem.bop1 (ESem.var 16))) (LSem.cons (ESem.var 3) LSem.nil)))))))) BSem.nil))))) BSem.nil) (BSem.cons (SSem.ife (TSem.plain (ESem.var 4)) (BSem.cons (SSem.set 1 (ESem.call hv_mpf_neg (hk_mpf_neg w) (CSem.le (c_mpf_neg_1 w mg mb) (by decide)) (LSem.cons (ESem.var 1) LSem.nil)) hnd) BSem.nil) BSem.nil) (BSem.cons (SSem.ife (TSem.not (TSem.plain (ESem.var 6))) (BSem.cons (SSem.ife (TSem.plain (ESem.var 7)) (BSem.cons (SSem.ife (TSem.or1 (TSem.cmp (ESem.var 0) (ESem.var 1)) (TSem.or1 (TSem.plain (ESem.var 10)) (TSem.or1 (TSem.not (TSem.plain (ESem.var 11))) TSem.or0))) (BSem.cons (SSem.ret (ESem.var 0)) BSem.nil) BSem.nil) (BSem.cons (SSem.ret (ESem.glob hv_fnan hr_fnan)) BSem.nil)) BSem.nil) (BSem.cons (SSem.ife (TSem.plain (ESem.var 10)) (BSem.cons (SSem.ret (ESem.call hv_normalize (hk_normalize w) (CSem.le (c_normalize w mg mb) (by decide)) (LSem.cons (ESem.var 9) (LSem.cons (ESem.var 10) (LSem.cons (ESem.var 11) (LSem.cons (ESem.var 12) (LSem.cons (ESem.or (ESem.var 2) (ESem.bop1 (ESem.var 12))) (LSem.cons (ESem.var 3) LSem.nil)))))))) BSem.nil) BSem.nil) (BSem.cons (SSem.ret (ESem.var 1)) BSem.nil))) BSem.nil) (BSem.cons (SSem.ife (TSem.plain (ESem.var 11)) (BSem.cons (SSem.ret (ESem.var 1)) BSem.nil) BSem.nil) (BSem.cons (SSem.ife (TSem.plain (ESem.var 6)) (BSem.cons (SSem.ret (ESem.call hv_normalize (hk_normalize w) (CSem.le (c_normalize w mg mb) (by decide)) (LSem.cons (ESem.var 5) (LSem.cons (ESem.var 6) (LSem.cons (ESem.var 7) (LSem.cons (ESem.var 8) (LSem.cons (ESem.or (ESem.var 2) (ESem.bop1 (ESem.var 8))) (LSem.cons (ESem.var 3) LSem.nil)))))))) BSem.nil) BSem.nil) (BSem.cons (SSem.ret (ESem.var 0)) BSem.nil)))))))))
theorem c_mpf_sub (w : World) (mg mb : Str → Option Value) : CSem (WW w mg mb) 6 (.ref 168) F_mpf_sub :=
  have hnd : ([Str.ofString "s", Str.ofString "t", Str.ofString "prec", Str.ofString "rnd"] : List Str).Nodup := by decide +kernel
  CSem.of_bodyL (n := 5) (tab := [Str.ofString "s", Str.ofString "t", Str.ofString "prec", Str.ofString "rnd"]) (names := [Str.ofString "s", Str.ofString "t", Str.ofString "prec", Str.ofString "rnd"]) (k := 4) (m := 0) (dv := []) (dd := []) (by rfl) rfl rfl rfl rfl rfl (by kernel_rfl) rfl rfl rfl
    (fun s vs X hl => by
      match vs, hl with
      | [a0, a1, a2, a3], _ => exact kp_binds X (fun S => by kernel_rfl))
    rfl (fun _ _ => .nil) rfl (by decide +kernel) (by decide +kernel)
    (BSem.cons (SSem.ret (ESem.call hv_mpf_add (hk_mpf_add w) (CSem.le (c_mpf_add w mg mb) (by decide)) (LSem.cons (ESem.var 0) (LSem.cons (ESem.var 1) (LSem.cons (ESem.var 2) (LSem.cons (ESem.var 3) (LSem.cons ESem.int LSem.nil))))))) BSem.nil)
theorem c_mpf_sign (w : World) (mg mb : Str → Option Value) : CSem (WW w mg mb) 1 (.ref 152) F_mpf_sign :=
  have hnd : ([Str.ofString "s", Str.ofString "sign", Str.ofString "man", Str.ofString "exp", Str.ofString "bc"] : List Str).Nodup := by decide +kernel
  CSem.of_bodyL (n := 0) (tab := [Str.ofString "s", Str.ofString "sign", Str.ofString "man", Str.ofString "exp", Str.ofString "bc"]) (names := [Str.ofString "s"]) (k := 1) (m := 4) (dv := []) (dd := []) (by rfl) rfl rfl rfl rfl rfl (by kernel_rfl) rfl rfl rfl
    (fun s vs X hl => by
      match vs, hl with
      | [a0], _ => exact kp_binds X (fun S => by kernel_rfl))
    rfl (fun _ _ => .nil) rfl (by decide +kernel) (by decide +kernel)
    (BSem.cons (SSem.unpack (.cons 1 rfl rfl (.cons 2 rfl rfl (.cons 3 rfl rfl (.cons 4 rfl rfl .nil)))) (ESem.var 0) hnd) (BSem.cons (SSem.ife (TSem.not (TSem.plain (ESem.var 2))) (BSem.cons (SSem.ife (TSem.cmp (ESem.var 0) (ESem.glob hv_finf hr_finf)) (BSem.cons (SSem.ret ESem.int) BSem.nil) BSem.nil) (BSem.cons (SSem.ife (TSem.cmp (ESem.var 0) (ESem.glob hv_fninf hr_fninf)) (BSem.cons (SSem.ret (ESem.neg ESem.int)) BSem.nil) BSem.nil) (BSem.cons (SSem.ret ESem.int) BSem.nil))) BSem.nil) (BSem.cons (SSem.ret (ESem.binop (ESem.neg ESem.int) (ESem.var 1))) BSem.nil)))
theorem c_mpf_cmp (w : World) (mg mb : Str → Option Value) : CSem (WW w mg mb) 7 (.ref 94) F_mpf_cmp :=
  have hnd : ([Str.ofString "s", Str.ofString "t", Str.ofString "ssign", Str.ofString "sman", Str.ofString "sexp", Str.ofString "sbc", Str.ofString "tsign", Str.ofString "tman", Str.ofString "texp", Str.ofString "tbc", Str.ofString "a", Str.ofString "b", Str.ofString "delta"] : List Str).Nodup := by decide +kernel
  CSem.of_bodyL (n := 6) (tab := [Str.ofString "s", Str.ofString "t", Str.ofString "ssign", Str.ofString "sman", Str.ofString "sexp", Str.ofString "sbc", Str.ofString "tsign", Str.ofString "tman", Str.ofString "texp", Str.ofString "tbc", Str.ofString "a", Str.ofString "b", Str.ofString "delta"]) (names := [Str.ofString "s", Str.ofString "t"]) (k := 2) (m := 11) (dv := []) (dd := []) (by rfl) rfl rfl rfl rfl rfl (by kernel_rfl) rfl rfl rfl
    (fun s vs X hl => by
      match vs, hl with
      | [a0, a1], _ => exact kp_binds X (fun S => by kernel_rfl))
    rfl (fun _ _ => .nil) rfl (by decide +kernel) (by decide +kernel)
    (BSem.cons (SSem.unpack (.cons 2 rfl rfl (.cons 3 rfl rfl (.cons 4 rfl rfl (.cons 5 rfl rfl .nil)))) (ESem.var 0) hnd) (BSem.cons (SSem.unpack (.cons 6 rfl rfl (.cons 7 rfl rfl (.cons 8 rfl rfl (.cons 9 rfl rfl .nil)))) (ESem.var 1) hnd) (BSem.cons (SSem.ife (TSem.or1 (TSem.not (TSem.plain (ESem.var 3))) (TSem.or1 (TSem.not (TSem.plain (ESem.var 7))) TSem.or0)) (BSem.cons (SSem.ife (TSem.cmp (ESem.var 0) (ESem.glob hv_fzero hr_fzero)) (BSem.cons (SSem.ret (ESem.neg (ESem.call hv_mpf_sign (hk_mpf_sign w) (CSem.le (c_mpf_sign w mg mb) (by decide)) (LSem.cons (ESem.var 1) LSem.nil)))) BSem.nil) BSem.nil) (BSem.cons (SSem.ife (TSem.cmp (ESem.var 1) (ESem.glob hv_fzero hr_fzero)) (BSem.cons (SSem.ret (ESem.call hv_mpf_sign (hk_mpf_sign w) (CSem.le (c_mpf_sign w mg mb) (by decide)) (LSem.cons (ESem.var 0) LSem.nil))) BSem.nil) BSem.nil) (BSem.cons (SSem.ife (TSem.cmp (ESem.var 0) (ESem.var 1)) (BSem.cons (SSem.ret ESem.int) BSem.nil) BSem.nil) (BSem.cons (SSem.ife (TSem.cmp (ESem.var 1) (ESem.glob hv_fnan hr_fnan)) (BSem.cons (SSem.ret ESem.int) BSem.nil) BSem.nil) (BSem.cons (SSem.ife (TSem.cmp (ESem.var 0) (ESem.glob hv_finf hr_finf)) (BSem.cons (SSem.ret ESem.int) BSem.nil) BSem.nil) (BSem.cons (SSem.ife (TSem.cmp (ESem.var 1) (ESem.glob hv_fninf hr_fninf)) (BSem.cons (SSem.ret ESem.int) BSem.nil) BSem.nil) (BSem.cons (SSem.ret (ESem.neg ESem.int)) BSem.nil))))))) BSem.nil) (BSem.cons (SSem.ife (TSem.cmp (ESem.var 2) (ESem.var 6)) (BSem.cons (SSem.ife (TSem.not (TSem.plain (ESem.var 2))) (BSem.cons (SSem.ret ESem.int) BSem.nil) BSem.nil) (BSem.cons (SSem.ret (ESem.neg ESem.int)) BSem.nil)) BSem.nil) (BSem.cons (SSem.ife (TSem.cmp (ESem.var 4) (ESem.var 8)) (BSem.cons (SSem.ife (TSem.cmp (ESem.var 3) (ESem.var 7)) (BSem.cons (SSem.ret ESem.int) BSem.nil) BSem.nil) (BSem.cons (SSem.ife (TSem.cmp (ESem.var 3) (ESem.var 7)) (BSem.cons (SSem.ife (TSem.plain (ESem.var 2)) (BSem.cons (SSem.ret (ESem.neg ESem.int)) BSem.nil) (BSem.cons (SSem.ret ESem.int) BSem.nil)) BSem.nil) (BSem.cons (SSem.ife (TSem.plain (ESem.var 2)) (BSem.cons (SSem.ret ESem.int) BSem.nil) (BSem.cons (SSem.ret (ESem.neg ESem.int)) BSem.nil)) BSem.nil)) BSem.nil)) BSem.nil) (BSem.cons (SSem.set 10 (ESem.binop (ESem.var 5) (ESem.var 4)) hnd) (BSem.cons (SSem.set 11 (ESem.binop (ESem.var 9) (ESem.var 8)) hnd) (BSem.cons (SSem.ife (TSem.plain (ESem.var 2)) (BSem.cons (SSem.ife (TSem.cmp (ESem.var 10) (ESem.var 11)) (BSem.cons (SSem.ret ESem.int) BSem.nil) BSem.nil) (BSem.cons (SSem.ife (TSem.cmp (ESem.var 10) (ESem.var 11)) (BSem.cons (SSem.ret (ESem.neg ESem.int)) BSem.nil) BSem.nil) BSem.nil)) (BSem.cons (SSem.ife (TSem.cmp (ESem.var 10) (ESem.var 11)) (BSem.cons (SSem.ret (ESem.neg ESem.int)) BSem.nil) BSem.nil) (BSem.cons (SSem.ife (TSem.cmp (ESem.var 10) (ESem.var 11)) (BSem.cons (SSem.ret ESem.int) BSem.nil) BSem.nil) BSem.nil))) (BSem.cons (SSem.set 12 (ESem.call hv_mpf_sub (hk_mpf_sub w) (CSem.le (c_mpf_sub w mg mb) (by decide)) (LSem.cons (ESem.var 0) (LSem.cons (ESem.var 1) (LSem.cons ESem.int (LSem.cons (ESem.glob hv_rf hr_rf) LSem.nil))))) hnd) (BSem.cons (SSem.ife (TSem.plain (ESem.sub (ESem.var 12) ESem.int)) (BSem.cons (SSem.ret (ESem.neg ESem.int)) BSem.nil) BSem.nil) (BSem.cons (SSem.ret ESem.int) BSem.nil)))))))))))
theorem c_mpf_lt (w : World) (mg mb : Str → Option Value) : CSem (WW w mg mb) 8 (.ref 101) F_mpf_lt :=
  have hnd : ([Str.ofString "s", Str.ofString "t"] : List Str).Nodup := by decide +kernel
  CSem.of_bodyL (n := 7) (tab := [Str.ofString "s", Str.ofString "t"]) (names := [Str.ofString "s", Str.ofString "t"]) (k := 2) (m := 0) (dv := []) (dd := []) (by rfl) rfl rfl rfl rfl rfl (by kernel_rfl) rfl rfl rfl
    (fun s vs X hl => by
      match vs, hl with
      | [a0, a1], _ => exact kp_binds X (fun S => by kernel_rfl))
    rfl (fun _ _ => .nil) rfl (by decide +kernel) (by decide +kernel)
    (BSem.cons (SSem.ife (TSem.or1 (TSem.cmp (ESem.var 0) (ESem.glob hv_fnan hr_fnan)) (TSem.or1 (TSem.cmp (ESem.var 1) (ESem.glob hv_fnan hr_fnan)) TSem.or0)) (BSem.cons (SSem.ret ESem.bool) BSem.nil) BSem.nil) (BSem.cons (SSem.ret (ESem.cmp (ESem.call hv_mpf_cmp (hk_mpf_cmp w) (CSem.le (c_mpf_cmp w mg mb) (by decide)) (LSem.cons (ESem.var 0) (LSem.cons (ESem.var 1) LSem.nil))) ESem.int)) BSem.nil))
theorem c_mpf_le (w : World) (mg mb : Str → Option Value) : CSem (WW w mg mb) 8 (.ref 108) F_mpf_le :=
  have hnd : ([Str.ofString "s", Str.ofString "t"] : List Str).Nodup := by decide +kernel
  CSem.of_bodyL (n := 7) (tab := [Str.ofString "s", Str.ofString "t"]) (names := [Str.ofString "s", Str.ofString "t"]) (k := 2) (m := 0) (dv := []) (dd := []) (by rfl) rfl rfl rfl rfl rfl (by kernel_rfl) rfl rfl rfl
    (fun s vs X hl => by
      match vs, hl with
      | [a0, a1], _ => exact kp_binds X (fun S => by kernel_rfl))
    rfl (fun _ _ => .nil) rfl (by decide +kernel) (by decide +kernel)
    (BSem.cons (SSem.ife (TSem.or1 (TSem.cmp (ESem.var 0) (ESem.glob hv_fnan hr_fnan)) (TSem.or1 (TSem.cmp (ESem.var 1) (ESem.glob hv_fnan hr_fnan)) TSem.or0)) (BSem.cons (SSem.ret ESem.bool) BSem.nil) BSem.nil) (BSem.cons (SSem.ret (ESem.cmp (ESem.call hv_mpf_cmp (hk_mpf_cmp w) (CSem.le (c_mpf_cmp w mg mb) (by decide)) (LSem.cons (ESem.var 0) (LSem.cons (ESem.var 1) LSem.nil))) ESem.int)) BSem.nil))
theorem c_mpf_gt (w : World) (mg mb : Str → Option Value) : CSem (WW w mg mb) 8 (.ref 115) F_mpf_gt :=
  have hnd : ([Str.ofString "s", Str.ofString "t"] : List Str).Nodup := by decide +kernel
  CSem.of_bodyL (n := 7) (tab := [Str.ofString "s", Str.ofString "t"]) (names := [Str.ofString "s", Str.ofString "t"]) (k := 2) (m := 0) (dv := []) (dd := []) (by rfl) rfl rfl rfl rfl rfl (by kernel_rfl) rfl rfl rfl
    (fun s vs X hl => by
      match vs, hl with
      | [a0, a1], _ => exact kp_binds X (fun S => by kernel_rfl))
    rfl (fun _ _ => .nil) rfl (by decide +kernel) (by decide +kernel)
    (BSem.cons (SSem.ife (TSem.or1 (TSem.cmp (ESem.var 0) (ESem.glob hv_fnan hr_fnan)) (TSem.or1 (TSem.cmp (ESem.var 1) (ESem.glob hv_fnan hr_fnan)) TSem.or0)) (BSem.cons (SSem.ret ESem.bool) BSem.nil) BSem.nil) (BSem.cons (SSem.ret (ESem.cmp (ESem.call hv_mpf_cmp (hk_mpf_cmp w) (CSem.le (c_mpf_cmp w mg mb) (by decide)) (LSem.cons (ESem.var 0) (LSem.cons (ESem.var 1) LSem.nil))) ESem.int)) BSem.nil))
theorem c_mpf_ge (w : World) (mg mb : Str → Option Value) : CSem (WW w mg mb) 8 (.ref 122) F_mpf_ge :=
  have hnd : ([Str.ofString "s", Str.ofString "t"] : List Str).Nodup := by decide +kernel
  CSem.of_bodyL (n := 7) (tab := [Str.ofString "s", Str.ofString "t"]) (names := [Str.ofString "s", Str.ofString "t"]) (k := 2) (m := 0) (dv := []) (dd := []) (by rfl) rfl rfl rfl rfl rfl (by kernel_rfl) rfl rfl rfl
    (fun s vs X hl => by
      match vs, hl with
      | [a0, a1], _ => exact kp_binds X (fun S => by kernel_rfl))
    rfl (fun _ _ => .nil) rfl (by decide +kernel) (by decide +kernel)
    (BSem.cons (SSem.ife (TSem.or1 (TSem.cmp (ESem.var 0) (ESem.glob hv_fnan hr_fnan)) (TSem.or1 (TSem.cmp (ESem.var 1) (ESem.glob hv_fnan hr_fnan)) TSem.or0)) (BSem.cons (SSem.ret ESem.bool) BSem.nil) BSem.nil) (BSem.cons (SSem.ret (ESem.cmp (ESem.call hv_mpf_cmp (hk_mpf_cmp w) (CSem.le (c_mpf_cmp w mg mb) (by decide)) (LSem.cons (ESem.var 0) (LSem.cons (ESem.var 1) LSem.nil))) ESem.int)) BSem.nil))
theorem c_mpf_min_max (w : World) (mg mb : Str → Option Value) : CSem (WW w mg mb) 9 (.ref 129) F_mpf_min_max :=
  have hnd : ([Str.ofString "seq", Str.ofString "min", Str.ofString "max", Str.ofString "x"] : List Str).Nodup := by decide +kernel
  CSem.of_bodyL (n := 8) (tab := [Str.ofString "seq", Str.ofString "min", Str.ofString "max", Str.ofString "x"]) (names := [Str.ofString "seq"]) (k := 1) (m := 3) (dv := []) (dd := []) (by rfl) rfl rfl rfl rfl rfl (by kernel_rfl) rfl rfl rfl
    (fun s vs X hl => by
      match vs, hl with
      | [a0], _ => exact kp_binds X (fun S => by kernel_rfl))
    rfl (fun _ _ => .nil) rfl (by decide +kernel) (by decide +kernel)
    (BSem.cons (SSem.set2 1 2 (ESem.sub (ESem.var 0) ESem.int) hnd) (BSem.cons (SSem.for 3 (ESem.tail 0) (BSem.cons (SSem.ife (TSem.plain (ESem.call hv_mpf_lt (hk_mpf_lt w) (CSem.le (c_mpf_lt w mg mb) (by decide)) (LSem.cons (ESem.var 3) (LSem.cons (ESem.var 1) LSem.nil)))) (BSem.cons (SSem.set 1 (ESem.var 3) hnd) BSem.nil) BSem.nil) (BSem.cons (SSem.ife (TSem.plain (ESem.call hv_mpf_gt (hk_mpf_gt w) (CSem.le (c_mpf_gt w mg mb) (by decide)) (LSem.cons (ESem.var 3) (LSem.cons (ESem.var 2) LSem.nil)))) (BSem.cons (SSem.set 2 (ESem.var 3) hnd) BSem.nil) BSem.nil) BSem.nil)) hnd) (BSem.cons (SSem.ret (ESem.tuple (LSem.cons (ESem.var 1) (LSem.cons (ESem.var 2) LSem.nil)))) BSem.nil)))
theorem c_mpf_mul (w : World) (mg mb : Str → Option Value) : CSem (WW w mg mb) 4 (.ref 176) F_mpf_mul :=
  have hnd : ([Str.ofString "s", Str.ofString "t", Str.ofString "prec", Str.ofString "rnd", Str.ofString "ssign", Str.ofString "sman", Str.ofString "sexp", Str.ofString "sbc", Str.ofString "tsign", Str.ofString "tman", Str.ofString "texp", Str.ofString "tbc", Str.ofString "sign", Str.ofString "man", Str.ofString "bc", Str.ofString "s_special", Str.ofString "t_special"] : List Str).Nodup := by decide +kernel
  CSem.of_bodyL (n := 3) (tab := [Str.ofString "s", Str.ofString "t", Str.ofString "prec", Str.ofString "rnd", Str.ofString "ssign", Str.ofString "sman", Str.ofString "sexp", Str.ofString "sbc", Str.ofString "tsign", Str.ofString "tman", Str.ofString "texp", Str.ofString "tbc", Str.ofString "sign", Str.ofString "man", Str.ofString "bc", Str.ofString "s_special", Str.ofString "t_special"]) (names := [Str.ofString "s", Str.ofString "t", Str.ofString "prec", Str.ofString "rnd"]) (k := 4) (m := 13) (dv := []) (dd := []) (by rfl) rfl rfl rfl rfl rfl (by kernel_rfl) rfl rfl rfl
    (fun s vs X hl => by
      match vs, hl with
      | [a0, a1, a2, a3], _ => exact kp_binds X (fun S => by kernel_rfl))
    rfl (fun _ _ => .nil) rfl (by decide +kernel) (by decide +kernel)
    (BSem.cons (SSem.unpack (.cons 4 rfl rfl (.cons 5 rfl rfl (.cons 6 rfl rfl (.cons 7 rfl rfl .nil)))) (ESem.var 0) hnd) (BSem.cons (SSem.unpack (.cons 8 rfl rfl (.cons 9 rfl rfl (.cons 10 rfl rfl (.cons 11 rfl rfl .nil)))) (ESem.var 1) hnd) (BSem.cons (SSem.set 12 (ESem.binop (ESem.var 4) (ESem.var 8)) hnd) (BSem.cons (SSem.set 13 (ESem.binop (ESem.var 5) (ESem.var 9)) hnd) (BSem.cons (SSem.ife (TSem.plain (ESem.var 13)) (BSem.cons (SSem.set 14 (ESem.bits (ESem.var 13)) hnd) (BSem.cons (SSem.ife (TSem.plain (ESem.var 2)) (BSem.cons (SSem.ret (ESem.call hv_normalize (hk_normalize w) (CSem.le (c_normalize w mg mb) (by decide)) (LSem.cons (ESem.var 12) (LSem.cons (ESem.var 13) (LSem.cons (ESem.binop (ESem.var 6) (ESem.var 10)) (LSem.cons (ESem.var 14) (LSem.cons (ESem.var 2) (LSem.cons (ESem.var 3) LSem.nil)))))))) BSem.nil) (BSem.cons (SSem.ret (ESem.tuple (LSem.cons (ESem.var 12) (LSem.cons (ESem.var 13) (LSem.cons (ESem.binop (ESem.var 6) (ESem.var 10)) (LSem.cons (ESem.var 14) LSem.nil)))))) BSem.nil)) BSem.nil)) BSem.nil) (BSem.cons (SSem.set 15 (ESem.and (ESem.not (ESem.var 5)) (ESem.bop1 (ESem.var 6))) hnd) (BSem.cons (SSem.set 16 (ESem.and (ESem.not (ESem.var 9)) (ESem.bop1 (ESem.var 10))) hnd) (BSem.cons (SSem.ife (TSem.and1 (TSem.not (TSem.plain (ESem.var 15))) (TSem.and1 (TSem.not (TSem.plain (ESem.var 16))) TSem.and0)) (BSem.cons (SSem.ret (ESem.glob hv_fzero hr_fzero)) BSem.nil) BSem.nil) (BSem.cons (SSem.ife (TSem.cmp (ESem.glob hv_fnan hr_fnan) (ESem.tuple (LSem.cons (ESem.var 0) (LSem.cons (ESem.var 1) LSem.nil)))) (BSem.cons (SSem.ret (ESem.glob hv_fnan hr_fnan)) BSem.nil) BSem.nil) (BSem.cons (SSem.ife (TSem.and1 (TSem.not (TSem.plain (ESem.var 9))) (TSem.and1 (TSem.plain (ESem.var 10)) TSem.and0)) (BSem.cons (SSem.unpackN (names := [Str.ofString "s", Str.ofString "t"]) (rn := [Str.ofString "t", Str.ofString "s"]) (is := [0, 1]) (ri := [1, 0]) (.cons 1 rfl rfl (.cons 0 rfl rfl .nil)) rfl rfl rfl (ESem.tuple (LSem.cons (ESem.var 1) (LSem.cons (ESem.var 0) LSem.nil))) hnd (fun env h => by cases env; cases h; rfl)) BSem.nil) BSem.nil) (BSem.cons (SSem.ife (TSem.cmp (ESem.var 1) (ESem.glob hv_fzero hr_fzero)) (BSem.cons (SSem.ret (ESem.glob hv_fnan hr_fnan)) BSem.nil) BSem.nil) (BSem.cons (SSem.ret ESem.no) BSem.nil))))))))))))
theorem c_mpf_div (w : World) (mg mb : Str → Option Value) : CSem (WW w mg mb) 4 (.ref 184) F_mpf_div :=
  have hnd : ([Str.ofString "s", Str.ofString "t", Str.ofString "prec", Str.ofString "rnd", Str.ofString "ssign", Str.ofString "sman", Str.ofString "sexp", Str.ofString "sbc", Str.ofString "tsign", Str.ofString "tman", Str.ofString "texp", Str.ofString "tbc", Str.ofString "s_special", Str.ofString "t_special", Str.ofString "sign", Str.ofString "extra", Str.ofString "quot", Str.ofString "rem", Str.ofString "bc"] : List Str).Nodup := by decide +kernel
  CSem.of_bodyL (n := 3) (tab := [Str.ofString "s", Str.ofString "t", Str.ofString "prec", Str.ofString "rnd", Str.ofString "ssign", Str.ofString "sman", Str.ofString "sexp", Str.ofString "sbc", Str.ofString "tsign", Str.ofString "tman", Str.ofString "texp", Str.ofString "tbc", Str.ofString "s_special", Str.ofString "t_special", Str.ofString "sign", Str.ofString "extra", Str.ofString "quot", Str.ofString "rem", Str.ofString "bc"]) (names := [Str.ofString "s", Str.ofString "t", Str.ofString "prec", Str.ofString "rnd"]) (k := 4) (m := 15) (dv := []) (dd := []) (by rfl) rfl rfl rfl rfl rfl (by kernel_rfl) rfl rfl rfl
    (fun s vs X hl => by
      match vs, hl with
      | [a0, a1, a2, a3], _ => exact kp_binds X (fun S => by kernel_rfl))
    rfl (fun _ _ => .nil) rfl (by decide +kernel) (by decide +kernel)
    (BSem.cons (SSem.unpack (.cons 4 rfl rfl (.cons 5 rfl rfl (.cons 6 rfl rfl (.cons 7 rfl rfl .nil)))) (ESem.var 0) hnd) (BSem.cons (SSem.unpack (.cons 8 rfl rfl (.cons 9 rfl rfl (.cons 10 rfl rfl (.cons 11 rfl rfl .nil)))) (ESem.var 1) hnd) (BSem.cons (SSem.ife (TSem.or1 (TSem.not (TSem.plain (ESem.var 5))) (TSem.or1 (TSem.not (TSem.plain (ESem.var 9))) TSem.or0)) (BSem.cons (SSem.ife (TSem.cmp (ESem.var 0) (ESem.glob hv_fzero hr_fzero)) (BSem.cons (SSem.ife (TSem.cmp (ESem.var 1) (ESem.glob hv_fzero hr_fzero)) (BSem.cons SSem.no BSem.nil) BSem.nil) (BSem.cons (SSem.ife (TSem.cmp (ESem.var 1) (ESem.glob hv_fnan hr_fnan)) (BSem.cons (SSem.ret (ESem.glob hv_fnan hr_fnan)) BSem.nil) BSem.nil) (BSem.cons (SSem.ret (ESem.glob hv_fzero hr_fzero)) BSem.nil))) BSem.nil) (BSem.cons (SSem.ife (TSem.cmp (ESem.var 1) (ESem.glob hv_fzero hr_fzero)) (BSem.cons SSem.no BSem.nil) BSem.nil) (BSem.cons (SSem.set 12 (ESem.and (ESem.not (ESem.var 5)) (ESem.bop1 (ESem.var 6))) hnd) (BSem.cons (SSem.set 13 (ESem.and (ESem.not (ESem.var 9)) (ESem.bop1 (ESem.var 10))) hnd) (BSem.cons (SSem.ife (TSem.and1 (TSem.plain (ESem.var 12)) (TSem.and1 (TSem.plain (ESem.var 13)) TSem.and0)) (BSem.cons (SSem.ret (ESem.glob hv_fnan hr_fnan)) BSem.nil) BSem.nil) (BSem.cons (SSem.ife (TSem.or1 (TSem.cmp (ESem.var 0) (ESem.glob hv_fnan hr_fnan)) (TSem.or1 (TSem.cmp (ESem.var 1) (ESem.glob hv_fnan hr_fnan)) TSem.or0)) (BSem.cons (SSem.ret (ESem.glob hv_fnan hr_fnan)) BSem.nil) BSem.nil) (BSem.cons (SSem.ife (TSem.not (TSem.plain (ESem.var 13))) (BSem.cons (SSem.ife (TSem.cmp (ESem.var 1) (ESem.glob hv_fzero hr_fzero)) (BSem.cons (SSem.ret (ESem.glob hv_fnan hr_fnan)) BSem.nil) BSem.nil) (BSem.cons (SSem.ret ESem.no) BSem.nil)) BSem.nil) (BSem.cons (SSem.ret (ESem.glob hv_fzero hr_fzero)) BSem.nil)))))))) BSem.nil) (BSem.cons (SSem.set 14 (ESem.binop (ESem.var 4) (ESem.var 8)) hnd) (BSem.cons (SSem.ife (TSem.cmp (ESem.var 9) ESem.int) (BSem.cons (SSem.ret (ESem.call hv_normalize (hk_normalize w) (CSem.le (c_normalize w mg mb) (by decide)) (LSem.cons (ESem.var 14) (LSem.cons (ESem.var 5) (LSem.cons (ESem.binop (ESem.var 6) (ESem.var 10)) (LSem.cons (ESem.var 7) (LSem.cons (ESem.var 2) (LSem.cons (ESem.var 3) LSem.nil)))))))) BSem.nil) BSem.nil) (BSem.cons (SSem.ife (TSem.not (TSem.plain (ESem.var 2))) (BSem.cons (SSem.set 15 (ESem.binop (ESem.binop (ESem.binop (ESem.callB hn_max (by rfl) max_sem (LSem.cons (ESem.var 7) (LSem.cons (ESem.var 11) LSem.nil))) (ESem.var 7)) (ESem.var 11)) ESem.int) hnd) BSem.nil) (BSem.cons (SSem.set 15 (ESem.binop (ESem.binop (ESem.binop (ESem.var 2) (ESem.var 7)) (ESem.var 11)) ESem.int) hnd) BSem.nil)) (BSem.cons (SSem.ife (TSem.cmp (ESem.var 15) ESem.int) (BSem.cons (SSem.set 15 ESem.int hnd) BSem.nil) BSem.nil) (BSem.cons (SSem.unpack (.cons 16 rfl rfl (.cons 17 rfl rfl .nil)) (ESem.callB hn_divmod (by rfl) divmod_sem (LSem.cons (ESem.binop (ESem.var 5) (ESem.var 15)) (LSem.cons (ESem.var 9) LSem.nil))) hnd) (BSem.cons (SSem.ife (TSem.plain (ESem.var 17)) (BSem.cons (SSem.set 16 (ESem.binop (ESem.binop (ESem.var 16) ESem.int) ESem.int) hnd) (BSem.cons (SSem.aug 15 ESem.int hnd) BSem.nil)) BSem.nil) (BSem.cons (SSem.set 18 (ESem.bits (ESem.var 16)) hnd) (BSem.cons (SSem.ret (ESem.call hv_normalize (hk_normalize w) (CSem.le (c_normalize w mg mb) (by decide)) (LSem.cons (ESem.var 14) (LSem.cons (ESem.var 16) (LSem.cons (ESem.binop (ESem.binop (ESem.var 6) (ESem.var 10)) (ESem.var 15)) (LSem.cons (ESem.var 18) (LSem.cons (ESem.or (ESem.var 2) (ESem.bop1 (ESem.var 18))) (LSem.cons (ESem.var 3) LSem.nil)))))))) BSem.nil)))))))))))
theorem c_mpf_pow_int (w : World) (mg mb : Str → Option Value) : CSem (WW w mg mb) 4 (.ref 193) F_mpf_pow_int :=
  have hnd : ([Str.ofString "s", Str.ofString "n", Str.ofString "prec", Str.ofString "rnd", Str.ofString "sign", Str.ofString "man", Str.ofString "exp", Str.ofString "bc", Str.ofString "_", Str.ofString "inverse", Str.ofString "result_sign", Str.ofString "rounds_down", Str.ofString "workprec", Str.ofString "pm", Str.ofString "pe", Str.ofString "pbc"] : List Str).Nodup := by decide +kernel
  CSem.of_bodyL (n := 3) (tab := [Str.ofString "s", Str.ofString "n", Str.ofString "prec", Str.ofString "rnd", Str.ofString "sign", Str.ofString "man", Str.ofString "exp", Str.ofString "bc", Str.ofString "_", Str.ofString "inverse", Str.ofString "result_sign", Str.ofString "rounds_down", Str.ofString "workprec", Str.ofString "pm", Str.ofString "pe", Str.ofString "pbc"]) (names := [Str.ofString "s", Str.ofString "n", Str.ofString "prec", Str.ofString "rnd"]) (k := 4) (m := 12) (dv := []) (dd := []) (by rfl) rfl rfl rfl rfl rfl (by kernel_rfl) rfl rfl rfl
    (fun s vs X hl => by
      match vs, hl with
      | [a0, a1, a2, a3], _ => exact kp_binds X (fun S => by kernel_rfl))
    rfl (fun _ _ => .nil) rfl (by decide +kernel) (by decide +kernel)
    (BSem.cons (SSem.unpack (.cons 4 rfl rfl (.cons 5 rfl rfl (.cons 6 rfl rfl (.cons 7 rfl rfl .nil)))) (ESem.var 0) hnd) (BSem.cons (SSem.ife (TSem.and1 (TSem.not (TSem.plain (ESem.var 5))) (TSem.and1 (TSem.plain (ESem.var 6)) TSem.and0)) (BSem.cons (SSem.ife (TSem.cmp (ESem.var 0) (ESem.glob hv_finf hr_finf)) (BSem.cons (SSem.ife (TSem.cmp (ESem.var 1) ESem.int) (BSem.cons (SSem.ret (ESem.var 0)) BSem.nil) BSem.nil) (BSem.cons (SSem.ife (TSem.cmp (ESem.var 1) ESem.int) (BSem.cons (SSem.ret (ESem.glob hv_fone hr_fone)) BSem.nil) BSem.nil) (BSem.cons (SSem.ret (ESem.glob hv_fzero hr_fzero)) BSem.nil))) BSem.nil) (BSem.cons (SSem.ife (TSem.cmp (ESem.var 0) (ESem.glob hv_fninf hr_fninf)) (BSem.cons (SSem.ife (TSem.cmp (ESem.var 1) ESem.int) (BSem.cons (SSem.ret (ESem.sub (ESem.list (LSem.cons (ESem.glob hv_finf hr_finf) (LSem.cons (ESem.glob hv_fninf hr_fninf) LSem.nil))) (ESem.binop (ESem.var 1) ESem.int))) BSem.nil) BSem.nil) (BSem.cons (SSem.ife (TSem.cmp (ESem.var 1) ESem.int) (BSem.cons (SSem.ret (ESem.glob hv_fone hr_fone)) BSem.nil) BSem.nil) (BSem.cons (SSem.ret (ESem.glob hv_fzero hr_fzero)) BSem.nil))) BSem.nil) (BSem.cons (SSem.ife (TSem.cmp (ESem.var 1) ESem.int) (BSem.cons (SSem.ret (ESem.glob hv_fone hr_fone)) BSem.nil) BSem.nil) (BSem.cons (SSem.ret (ESem.glob hv_fnan hr_fnan)) BSem.nil)))) BSem.nil) (BSem.cons (SSem.set 1 (ESem.callInt hn_int (by rfl) (LSem.cons (ESem.var 1) LSem.nil)) hnd) (BSem.cons (SSem.ife (TSem.cmp (ESem.var 1) ESem.int) (BSem.cons (SSem.ret (ESem.glob hv_fone hr_fone)) BSem.nil) BSem.nil) (BSem.cons (SSem.ife (TSem.cmp (ESem.var 1) ESem.int) (BSem.cons (SSem.ret ESem.no) BSem.nil) BSem.nil) (BSem.cons (SSem.ife (TSem.cmp (ESem.var 1) ESem.int) (BSem.cons (SSem.unpack (.cons 8 rfl rfl (.cons 5 rfl rfl (.cons 6 rfl rfl (.cons 7 rfl rfl .nil)))) (ESem.var 0) hnd) (BSem.cons (SSem.ife (TSem.not (TSem.plain (ESem.var 5))) (BSem.cons (SSem.ret (ESem.glob hv_fzero hr_fzero)) BSem.nil) BSem.nil) (BSem.cons (SSem.set 5 (ESem.binop (ESem.var 5) (ESem.var 5)) hnd) (BSem.cons (SSem.ife (TSem.cmp (ESem.var 5) ESem.int) (BSem.cons (SSem.ret (ESem.tuple (LSem.cons ESem.int (LSem.cons (ESem.glob hv_oi hr_oi) (LSem.cons (ESem.binop (ESem.var 6) (ESem.var 6)) (LSem.cons ESem.int LSem.nil)))))) BSem.nil) BSem.nil) (BSem.cons (SSem.set 7 (ESem.binop (ESem.binop (ESem.var 7) (ESem.var 7)) ESem.int) hnd) (BSem.cons (SSem.aug 7 (ESem.bits (ESem.binop (ESem.var 5) (ESem.var 7))) hnd) (BSem.cons (SSem.ret (ESem.call hv_normalize (hk_normalize w) (CSem.le (c_normalize w mg mb) (by decide)) (LSem.cons ESem.int (LSem.cons (ESem.var 5) (LSem.cons (ESem.binop (ESem.var 6) (ESem.var 6)) (LSem.cons (ESem.var 7) (LSem.cons (ESem.var 2) (LSem.cons (ESem.var 3) LSem.nil)))))))) BSem.nil))))))) BSem.nil) (BSem.cons (SSem.ife (TSem.cmp (ESem.var 1) (ESem.neg ESem.int)) (BSem.cons (SSem.ret ESem.no) BSem.nil) BSem.nil) (BSem.cons (SSem.ife (TSem.cmp (ESem.var 1) ESem.int) (BSem.cons (SSem.set 9 ESem.no hnd) (BSem.cons (SSem.ret ESem.no) BSem.nil)) BSem.nil) (BSem.cons (SSem.set 10 (ESem.binop (ESem.var 4) (ESem.var 1)) hnd) (BSem.cons (SSem.ife (TSem.cmp (ESem.var 5) ESem.int) (BSem.cons (SSem.ret (ESem.tuple (LSem.cons (ESem.var 10) (LSem.cons (ESem.glob hv_oi hr_oi) (LSem.cons (ESem.binop (ESem.var 6) (ESem.var 1)) (LSem.cons ESem.int LSem.nil)))))) BSem.nil) BSem.nil) (BSem.cons (SSem.ife (TSem.cmp (ESem.binop (ESem.var 7) (ESem.var 1)) ESem.int) (BSem.cons (SSem.aug 5 (ESem.var 1) hnd) (BSem.cons (SSem.ret (ESem.call hv_normalize (hk_normalize w) (CSem.le (c_normalize w mg mb) (by decide)) (LSem.cons (ESem.var 10) (LSem.cons (ESem.var 5) (LSem.cons (ESem.binop (ESem.var 6) (ESem.var 1)) (LSem.cons (ESem.bits (ESem.var 5)) (LSem.cons (ESem.var 2) (LSem.cons (ESem.var 3) LSem.nil)))))))) BSem.nil)) BSem.nil) (BSem.cons (SSem.set 11 (ESem.or (ESem.cmp (ESem.var 3) (ESem.glob hv_rn hr_rn)) (ESem.bop1 (ESem.sub (ESem.shift hv_shifts hT_shifts (ESem.var 3)) (ESem.var 10)))) hnd) (BSem.cons (SSem.set 12 (ESem.binop (ESem.binop (ESem.var 2) (ESem.binop ESem.int (ESem.bits (ESem.var 1)))) ESem.int) hnd) (BSem.cons (SSem.unpack (.cons 8 rfl rfl (.cons 13 rfl rfl (.cons 14 rfl rfl (.cons 15 rfl rfl .nil)))) (ESem.glob hv_fone hr_fone) hnd) (BSem.cons (SSem.whl (2 ^ 3000) (TSem.plain ESem.int) (BSem.cons (SSem.ife (TSem.plain (ESem.binop (ESem.var 1) ESem.int)) (BSem.cons (SSem.set 13 (ESem.binop (ESem.var 13) (ESem.var 5)) hnd) (BSem.cons (SSem.set 14 (ESem.binop (ESem.var 14) (ESem.var 6)) hnd) (BSem.cons (SSem.aug 15 (ESem.binop (ESem.var 7) ESem.int) hnd) (BSem.cons (SSem.set 15 (ESem.binop (ESem.var 15) (ESem.bits (ESem.binop (ESem.var 13) (ESem.var 15)))) hnd) (BSem.cons (SSem.ife (TSem.cmp (ESem.var 15) (ESem.var 12)) (BSem.cons (SSem.ife (TSem.plain (ESem.var 11)) (BSem.cons (SSem.set 13 (ESem.binop (ESem.var 13) (ESem.binop (ESem.var 15) (ESem.var 12))) hnd) BSem.nil) (BSem.cons (SSem.set 13 (ESem.neg (ESem.binop (ESem.neg (ESem.var 13)) (ESem.binop (ESem.var 15) (ESem.var 12)))) hnd) BSem.nil)) (BSem.cons (SSem.aug 14 (ESem.binop (ESem.var 15) (ESem.var 12)) hnd) (BSem.cons (SSem.set 15 (ESem.var 12) hnd) BSem.nil))) BSem.nil) (BSem.cons (SSem.aug 1 ESem.int hnd) (BSem.cons (SSem.ife (TSem.not (TSem.plain (ESem.var 1))) (BSem.cons SSem.no BSem.nil) BSem.nil) BSem.nil))))))) BSem.nil) (BSem.cons (SSem.set 5 (ESem.binop (ESem.var 5) (ESem.var 5)) hnd) (BSem.cons (SSem.set 6 (ESem.binop (ESem.var 6) (ESem.var 6)) hnd) (BSem.cons (SSem.set 7 (ESem.binop (ESem.binop (ESem.var 7) (ESem.var 7)) ESem.int) hnd) (BSem.cons (SSem.set 7 (ESem.binop (ESem.var 7) (ESem.bits (ESem.binop (ESem.var 5) (ESem.var 7)))) hnd) (BSem.cons (SSem.ife (TSem.cmp (ESem.var 7) (ESem.var 12)) (BSem.cons (SSem.ife (TSem.plain (ESem.var 11)) (BSem.cons (SSem.set 5 (ESem.binop (ESem.var 5) (ESem.binop (ESem.var 7) (ESem.var 12))) hnd) BSem.nil) (BSem.cons (SSem.set 5 (ESem.neg (ESem.binop (ESem.neg (ESem.var 5)) (ESem.binop (ESem.var 7) (ESem.var 12)))) hnd) BSem.nil)) (BSem.cons (SSem.aug 6 (ESem.binop (ESem.var 7) (ESem.var 12)) hnd) (BSem.cons (SSem.set 7 (ESem.var 12) hnd) BSem.nil))) BSem.nil) (BSem.cons (SSem.set 1 (ESem.binop (ESem.var 1) ESem.int) hnd) BSem.nil)))))))) (BSem.cons (SSem.ret (ESem.call hv_normalize (hk_normalize w) (CSem.le (c_normalize w mg mb) (by decide)) (LSem.cons (ESem.var 10) (LSem.cons (ESem.var 13) (LSem.cons (ESem.var 14) (LSem.cons (ESem.var 15) (LSem.cons (ESem.var 2) (LSem.cons (ESem.var 3) LSem.nil)))))))) BSem.nil))))))))))))))))
theorem c_mpf_sqrt (w : World) (mg mb : Str → Option Value) : CSem (WW w mg mb) 5 (.ref 201) F_mpf_sqrt :=
  have hnd : ([Str.ofString "s", Str.ofString "prec", Str.ofString "rnd", Str.ofString "sign", Str.ofString "man", Str.ofString "exp", Str.ofString "bc", Str.ofString "shift", Str.ofString "rem"] : List Str).Nodup := by decide +kernel
  CSem.of_bodyL (n := 4) (tab := [Str.ofString "s", Str.ofString "prec", Str.ofString "rnd", Str.ofString "sign", Str.ofString "man", Str.ofString "exp", Str.ofString "bc", Str.ofString "shift", Str.ofString "rem"]) (names := [Str.ofString "s", Str.ofString "prec", Str.ofString "rnd"]) (k := 3) (m := 6) (dv := []) (dd := []) (by rfl) rfl rfl rfl rfl rfl (by kernel_rfl) rfl rfl rfl
    (fun s vs X hl => by
      match vs, hl with
      | [a0, a1, a2], _ => exact kp_binds X (fun S => by kernel_rfl))
    rfl (fun _ _ => .nil) rfl (by decide +kernel) (by decide +kernel)
    (BSem.cons (SSem.unpack (.cons 3 rfl rfl (.cons 4 rfl rfl (.cons 5 rfl rfl (.cons 6 rfl rfl .nil)))) (ESem.var 0) hnd) (BSem.cons (SSem.ife (TSem.plain (ESem.var 3)) (BSem.cons SSem.no BSem.nil) BSem.nil) (BSem.cons (SSem.ife (TSem.not (TSem.plain (ESem.var 4))) (BSem.cons (SSem.ret (ESem.var 0)) BSem.nil) BSem.nil) (BSem.cons (SSem.ife (TSem.plain (ESem.binop (ESem.var 5) ESem.int)) (BSem.cons (SSem.aug 5 ESem.int hnd) (BSem.cons (SSem.aug 4 ESem.int hnd) (BSem.cons (SSem.aug 6 ESem.int hnd) BSem.nil))) (BSem.cons (SSem.ife (TSem.cmp (ESem.var 4) ESem.int) (BSem.cons (SSem.ret (ESem.call hv_normalize (hk_normalize w) (CSem.le (c_normalize w mg mb) (by decide)) (LSem.cons (ESem.var 3) (LSem.cons (ESem.var 4) (LSem.cons (ESem.binop (ESem.var 5) ESem.int) (LSem.cons (ESem.var 6) (LSem.cons (ESem.var 1) (LSem.cons (ESem.var 2) LSem.nil)))))))) BSem.nil) BSem.nil) BSem.nil)) (BSem.cons (SSem.set 7 (ESem.callB hn_max (by rfl) max_sem (LSem.cons ESem.int (LSem.cons (ESem.binop (ESem.binop (ESem.binop ESem.int (ESem.var 1)) (ESem.var 6)) ESem.int) LSem.nil))) hnd) (BSem.cons (SSem.aug 7 (ESem.binop (ESem.var 7) ESem.int) hnd) (BSem.cons (SSem.ife (TSem.cmp (ESem.var 2) ESem.str) (BSem.cons (SSem.set 4 (ESem.call hv_isqrt (hk_isqrt w) (CSem.le (c_isqrt w mg mb) (by decide)) (LSem.cons (ESem.binop (ESem.var 4) (ESem.var 7)) LSem.nil)) hnd) BSem.nil) (BSem.cons (SSem.unpack (.cons 4 rfl rfl (.cons 8 rfl rfl .nil)) (ESem.call hv_sqrtrem (hk_sqrtrem w) (CSem.le (c_sqrtrem w mg mb) (by decide)) (LSem.cons (ESem.binop (ESem.var 4) (ESem.var 7)) LSem.nil)) hnd) (BSem.cons (SSem.ife (TSem.plain (ESem.var 8)) (BSem.cons (SSem.set 4 (ESem.binop (ESem.binop (ESem.var 4) ESem.int) ESem.int) hnd) (BSem.cons (SSem.aug 7 ESem.int hnd) BSem.nil)) BSem.nil) BSem.nil))) (BSem.cons (SSem.ret (ESem.call hv_from_man_exp (hk_from_man_exp w) (CSem.le (c_from_man_exp w mg mb) (by decide)) (LSem.cons (ESem.var 4) (LSem.cons (ESem.binop (ESem.binop (ESem.var 5) (ESem.var 7)) ESem.int) (LSem.cons (ESem.var 1) (LSem.cons (ESem.var 2) LSem.nil)))))) BSem.nil))))))))
theorem c_mpi_neg (w : World) (mg mb : Str → Option Value) : CSem (WW w mg mb) 5 (.ref 209) F_mpi_neg :=
  have hnd : ([Str.ofString "s", Str.ofString "prec", Str.ofString "sa", Str.ofString "sb", Str.ofString "a", Str.ofString "b"] : List Str).Nodup := by decide +kernel
  CSem.of_bodyL (n := 4) (tab := [Str.ofString "s", Str.ofString "prec", Str.ofString "sa", Str.ofString "sb", Str.ofString "a", Str.ofString "b"]) (names := [Str.ofString "s", Str.ofString "prec"]) (k := 2) (m := 4) (dv := []) (dd := []) (by rfl) rfl rfl rfl rfl rfl (by kernel_rfl) rfl rfl rfl
    (fun s vs X hl => by
      match vs, hl with
      | [a0, a1], _ => exact kp_binds X (fun S => by kernel_rfl))
    rfl (fun _ _ => .nil) rfl (by decide +kernel) (by decide +kernel)
    (BSem.cons (SSem.unpack (.cons 2 rfl rfl (.cons 3 rfl rfl .nil)) (ESem.var 0) hnd) (BSem.cons (SSem.set 4 (ESem.call hv_mpf_neg (hk_mpf_neg w) (CSem.le (c_mpf_neg w mg mb) (by decide)) (LSem.cons (ESem.var 3) (LSem.cons (ESem.var 1) (LSem.cons (ESem.glob hv_rf hr_rf) LSem.nil)))) hnd) (BSem.cons (SSem.set 5 (ESem.call hv_mpf_neg (hk_mpf_neg w) (CSem.le (c_mpf_neg w mg mb) (by decide)) (LSem.cons (ESem.var 2) (LSem.cons (ESem.var 1) (LSem.cons (ESem.glob hv_rc hr_rc) LSem.nil)))) hnd) (BSem.cons (SSem.ret (ESem.tuple (LSem.cons (ESem.var 4) (LSem.cons (ESem.var 5) LSem.nil)))) BSem.nil))))
theorem c_mpi_neg_1 (w : World) (mg mb : Str → Option Value) : CSem (WW w mg mb) 5 (.ref 209) F_mpi_neg_1 :=
  have hnd : ([Str.ofString "s", Str.ofString "prec", Str.ofString "sa", Str.ofString "sb", Str.ofString "a", Str.ofString "b"] : List Str).Nodup := by decide +kernel
  CSem.of_bodyL (n := 4) (tab := [Str.ofString "s", Str.ofString "prec", Str.ofString "sa", Str.ofString "sb", Str.ofString "a", Str.ofString "b"]) (names := [Str.ofString "s", Str.ofString "prec"]) (k := 1) (m := 4) (dv := [.int 0 564]) (dd := [.int 0]) (by rfl) rfl rfl rfl rfl rfl (by kernel_rfl) rfl rfl rfl
    (fun s vs X hl => by
      match vs, hl with
      | [a0], _ => exact kp_binds X (fun S => by kernel_rfl))
    rfl (fun _ _ => (.cons (.int _ _) .nil)) rfl (by decide +kernel) (by decide +kernel)
    (BSem.cons (SSem.unpack (.cons 2 rfl rfl (.cons 3 rfl rfl .nil)) (ESem.var 0) hnd) (BSem.cons (SSem.set 4 (ESem.call hv_mpf_neg (hk_mpf_neg w) (CSem.le (c_mpf_neg w mg mb) (by decide)) (LSem.cons (ESem.var 3) (LSem.cons (ESem.var 1) (LSem.cons (ESem.glob hv_rf hr_rf) LSem.nil)))) hnd) (BSem.cons (SSem.set 5 (ESem.call hv_mpf_neg (hk_mpf_neg w) (CSem.le (c_mpf_neg w mg mb) (by decide)) (LSem.cons (ESem.var 2) (LSem.cons (ESem.var 1) (LSem.cons (ESem.glob hv_rc hr_rc) LSem.nil)))) hnd) (BSem.cons (SSem.ret (ESem.tuple (LSem.cons (ESem.var 4) (LSem.cons (ESem.var 5) LSem.nil)))) BSem.nil))))
theorem c_mpi_square (w : World) (mg mb : Str → Option Value) : CSem (WW w mg mb) 10 (.ref 217) F_mpi_square :=
  have hnd : ([Str.ofString "s", Str.ofString "prec", Str.ofString "sa", Str.ofString "sb", Str.ofString "a", Str.ofString "b"] : List Str).Nodup := by decide +kernel
  CSem.of_bodyL (n := 9) (tab := [Str.ofString "s", Str.ofString "prec", Str.ofString "sa", Str.ofString "sb", Str.ofString "a", Str.ofString "b"]) (names := [Str.ofString "s", Str.ofString "prec"]) (k := 2) (m := 4) (dv := []) (dd := []) (by rfl) rfl rfl rfl rfl rfl (by kernel_rfl) rfl rfl rfl
    (fun s vs X hl => by
      match vs, hl with
      | [a0, a1], _ => exact kp_binds X (fun S => by kernel_rfl))
    rfl (fun _ _ => .nil) rfl (by decide +kernel) (by decide +kernel)
    (BSem.cons (SSem.unpack (.cons 2 rfl rfl (.cons 3 rfl rfl .nil)) (ESem.var 0) hnd) (BSem.cons (SSem.ife (TSem.plain (ESem.call hv_mpf_ge (hk_mpf_ge w) (CSem.le (c_mpf_ge w mg mb) (by decide)) (LSem.cons (ESem.var 2) (LSem.cons (ESem.glob hv_fzero hr_fzero) LSem.nil)))) (BSem.cons (SSem.set 4 (ESem.call hv_mpf_mul (hk_mpf_mul w) (CSem.le (c_mpf_mul w mg mb) (by decide)) (LSem.cons (ESem.var 2) (LSem.cons (ESem.var 2) (LSem.cons (ESem.var 1) (LSem.cons (ESem.glob hv_rf hr_rf) LSem.nil))))) hnd) (BSem.cons (SSem.set 5 (ESem.call hv_mpf_mul (hk_mpf_mul w) (CSem.le (c_mpf_mul w mg mb) (by decide)) (LSem.cons (ESem.var 3) (LSem.cons (ESem.var 3) (LSem.cons (ESem.var 1) (LSem.cons (ESem.glob hv_rc hr_rc) LSem.nil))))) hnd) BSem.nil)) (BSem.cons (SSem.ife (TSem.plain (ESem.call hv_mpf_le (hk_mpf_le w) (CSem.le (c_mpf_le w mg mb) (by decide)) (LSem.cons (ESem.var 3) (LSem.cons (ESem.glob hv_fzero hr_fzero) LSem.nil)))) (BSem.cons (SSem.set 4 (ESem.call hv_mpf_mul (hk_mpf_mul w) (CSem.le (c_mpf_mul w mg mb) (by decide)) (LSem.cons (ESem.var 3) (LSem.cons (ESem.var 3) (LSem.cons (ESem.var 1) (LSem.cons (ESem.glob hv_rf hr_rf) LSem.nil))))) hnd) (BSem.cons (SSem.set 5 (ESem.call hv_mpf_mul (hk_mpf_mul w) (CSem.le (c_mpf_mul w mg mb) (by decide)) (LSem.cons (ESem.var 2) (LSem.cons (ESem.var 2) (LSem.cons (ESem.var 1) (LSem.cons (ESem.glob hv_rc hr_rc) LSem.nil))))) hnd) BSem.nil)) (BSem.cons (SSem.set 2 (ESem.call hv_mpf_neg (hk_mpf_neg w) (CSem.le (c_mpf_neg_1 w mg mb) (by decide)) (LSem.cons (ESem.var 2) LSem.nil)) hnd) (BSem.cons (SSem.unpack (.cons 2 rfl rfl (.cons 3 rfl rfl .nil)) (ESem.call hv_mpf_min_max (hk_mpf_min_max w) (CSem.le (c_mpf_min_max w mg mb) (by decide)) (LSem.cons (ESem.list (LSem.cons (ESem.var 2) (LSem.cons (ESem.var 3) LSem.nil))) LSem.nil)) hnd) (BSem.cons (SSem.set 4 (ESem.glob hv_fzero hr_fzero) hnd) (BSem.cons (SSem.set 5 (ESem.call hv_mpf_mul (hk_mpf_mul w) (CSem.le (c_mpf_mul w mg mb) (by decide)) (LSem.cons (ESem.var 3) (LSem.cons (ESem.var 3) (LSem.cons (ESem.var 1) (LSem.cons (ESem.glob hv_rc hr_rc) LSem.nil))))) hnd) BSem.nil))))) BSem.nil)) (BSem.cons (SSem.ret (ESem.tuple (LSem.cons (ESem.var 4) (LSem.cons (ESem.var 5) LSem.nil)))) BSem.nil)))
theorem c_mpi_div0 (w : World) (mg mb : Str → Option Value) : CSem (WW w mg mb) 5 (.ref 224) F_mpi_div0 :=
  have hnd : ([Str.ofString "s", Str.ofString "t", Str.ofString "prec", Str.ofString "sa", Str.ofString "sb", Str.ofString "ta", Str.ofString "tb", Str.ofString "sas", Str.ofString "sbs", Str.ofString "tas", Str.ofString "tbs", Str.ofString "a", Str.ofString "b"] : List Str).Nodup := by decide +kernel
  CSem.of_bodyL (n := 4) (tab := [Str.ofString "s", Str.ofString "t", Str.ofString "prec", Str.ofString "sa", Str.ofString "sb", Str.ofString "ta", Str.ofString "tb", Str.ofString "sas", Str.ofString "sbs", Str.ofString "tas", Str.ofString "tbs", Str.ofString "a", Str.ofString "b"]) (names := [Str.ofString "s", Str.ofString "t", Str.ofString "prec"]) (k := 3) (m := 10) (dv := []) (dd := []) (by rfl) rfl rfl rfl rfl rfl (by kernel_rfl) rfl rfl rfl
    (fun s vs X hl => by
      match vs, hl with
      | [a0, a1, a2], _ => exact kp_binds X (fun S => by kernel_rfl))
    rfl (fun _ _ => .nil) rfl (by decide +kernel) (by decide +kernel)
    (BSem.cons (SSem.unpack (.cons 3 rfl rfl (.cons 4 rfl rfl .nil)) (ESem.var 0) hnd) (BSem.cons (SSem.unpack (.cons 5 rfl rfl (.cons 6 rfl rfl .nil)) (ESem.var 1) hnd) (BSem.cons (SSem.set 7 (ESem.call hv_mpf_sign (hk_mpf_sign w) (CSem.le (c_mpf_sign w mg mb) (by decide)) (LSem.cons (ESem.var 3) LSem.nil)) hnd) (BSem.cons (SSem.set 8 (ESem.call hv_mpf_sign (hk_mpf_sign w) (CSem.le (c_mpf_sign w mg mb) (by decide)) (LSem.cons (ESem.var 4) LSem.nil)) hnd) (BSem.cons (SSem.set 9 (ESem.call hv_mpf_sign (hk_mpf_sign w) (CSem.le (c_mpf_sign w mg mb) (by decide)) (LSem.cons (ESem.var 5) LSem.nil)) hnd) (BSem.cons (SSem.set 10 (ESem.call hv_mpf_sign (hk_mpf_sign w) (CSem.le (c_mpf_sign w mg mb) (by decide)) (LSem.cons (ESem.var 6) LSem.nil)) hnd) (BSem.cons (SSem.ife (TSem.chain2 (ESem.var 7) (ESem.var 8) ESem.int) (BSem.cons (SSem.ife (TSem.or1 (TSem.and1 (TSem.cmp (ESem.var 9) ESem.int) (TSem.and1 (TSem.cmp (ESem.var 10) ESem.int) TSem.and0)) (TSem.or1 (TSem.or1 (TSem.cmp (ESem.var 9) ESem.int) (TSem.or1 (TSem.cmp (ESem.var 10) ESem.int) TSem.or0)) TSem.or0)) (BSem.cons (SSem.ret (ESem.tuple (LSem.cons (ESem.glob hv_fninf hr_fninf) (LSem.cons (ESem.glob hv_finf hr_finf) LSem.nil)))) BSem.nil) BSem.nil) (BSem.cons (SSem.ret (ESem.tuple (LSem.cons (ESem.glob hv_fzero hr_fzero) (LSem.cons (ESem.glob hv_fzero hr_fzero) LSem.nil)))) BSem.nil)) BSem.nil) (BSem.cons (SSem.ife (TSem.and1 (TSem.cmp (ESem.var 9) ESem.int) (TSem.and1 (TSem.cmp (ESem.var 10) ESem.int) TSem.and0)) (BSem.cons (SSem.ret (ESem.tuple (LSem.cons (ESem.glob hv_fninf hr_fninf) (LSem.cons (ESem.glob hv_finf hr_finf) LSem.nil)))) BSem.nil) BSem.nil) (BSem.cons (SSem.ife (TSem.cmp (ESem.var 9) ESem.int) (BSem.cons (SSem.ret ESem.no) BSem.nil) BSem.nil) (BSem.cons (SSem.ife (TSem.cmp (ESem.var 9) ESem.int) (BSem.cons (SSem.ife (TSem.and1 (TSem.cmp (ESem.var 7) ESem.int) (TSem.and1 (TSem.cmp (ESem.var 8) ESem.int) TSem.and0)) (BSem.cons (SSem.ret (ESem.tuple (LSem.cons (ESem.glob hv_fninf hr_fninf) (LSem.cons (ESem.glob hv_finf hr_finf) LSem.nil)))) BSem.nil) BSem.nil) (BSem.cons (SSem.ife (TSem.cmp (ESem.var 9) (ESem.var 10)) (BSem.cons (SSem.ret (ESem.tuple (LSem.cons (ESem.glob hv_fninf hr_fninf) (LSem.cons (ESem.glob hv_finf hr_finf) LSem.nil)))) BSem.nil) BSem.nil) (BSem.cons (SSem.ife (TSem.cmp (ESem.var 7) ESem.int) (BSem.cons (SSem.set 11 (ESem.call hv_mpf_div (hk_mpf_div w) (CSem.le (c_mpf_div w mg mb) (by decide)) (LSem.cons (ESem.var 3) (LSem.cons (ESem.var 6) (LSem.cons (ESem.var 2) (LSem.cons (ESem.glob hv_rf hr_rf) LSem.nil))))) hnd) (BSem.cons (SSem.set 12 (ESem.glob hv_finf hr_finf) hnd) BSem.nil)) BSem.nil) (BSem.cons (SSem.ife (TSem.cmp (ESem.var 8) ESem.int) (BSem.cons (SSem.set 11 (ESem.glob hv_fninf hr_fninf) hnd) (BSem.cons (SSem.set 12 (ESem.call hv_mpf_div (hk_mpf_div w) (CSem.le (c_mpf_div w mg mb) (by decide)) (LSem.cons (ESem.var 4) (LSem.cons (ESem.var 6) (LSem.cons (ESem.var 2) (LSem.cons (ESem.glob hv_rc hr_rc) LSem.nil))))) hnd) BSem.nil)) BSem.nil) BSem.nil)))) (BSem.cons (SSem.ife (TSem.cmp (ESem.var 7) ESem.int) (BSem.cons (SSem.set 11 (ESem.call hv_mpf_div (hk_mpf_div w) (CSem.le (c_mpf_div w mg mb) (by decide)) (LSem.cons (ESem.var 3) (LSem.cons (ESem.var 6) (LSem.cons (ESem.var 2) (LSem.cons (ESem.glob hv_rf hr_rf) LSem.nil))))) hnd) (BSem.cons (SSem.set 12 (ESem.call hv_mpf_div (hk_mpf_div w) (CSem.le (c_mpf_div w mg mb) (by decide)) (LSem.cons (ESem.var 4) (LSem.cons (ESem.var 5) (LSem.cons (ESem.var 2) (LSem.cons (ESem.glob hv_rc hr_rc) LSem.nil))))) hnd) (BSem.cons (SSem.ife (TSem.cmp (ESem.var 11) (ESem.glob hv_fnan hr_fnan)) (BSem.cons (SSem.set 11 (ESem.glob hv_fzero hr_fzero) hnd) BSem.nil) BSem.nil) (BSem.cons (SSem.ife (TSem.cmp (ESem.var 12) (ESem.glob hv_fnan hr_fnan)) (BSem.cons (SSem.set 12 (ESem.glob hv_finf hr_finf) hnd) BSem.nil) BSem.nil) BSem.nil)))) (BSem.cons (SSem.ife (TSem.cmp (ESem.var 8) ESem.int) (BSem.cons (SSem.set 11 (ESem.call hv_mpf_div (hk_mpf_div w) (CSem.le (c_mpf_div w mg mb) (by decide)) (LSem.cons (ESem.var 3) (LSem.cons (ESem.var 5) (LSem.cons (ESem.var 2) (LSem.cons (ESem.glob hv_rf hr_rf) LSem.nil))))) hnd) (BSem.cons (SSem.set 12 (ESem.call hv_mpf_div (hk_mpf_div w) (CSem.le (c_mpf_div w mg mb) (by decide)) (LSem.cons (ESem.var 4) (LSem.cons (ESem.var 6) (LSem.cons (ESem.var 2) (LSem.cons (ESem.glob hv_rc hr_rc) LSem.nil))))) hnd) (BSem.cons (SSem.ife (TSem.cmp (ESem.var 11) (ESem.glob hv_fnan hr_fnan)) (BSem.cons (SSem.set 11 (ESem.glob hv_fninf hr_fninf) hnd) BSem.nil) BSem.nil) (BSem.cons (SSem.ife (TSem.cmp (ESem.var 12) (ESem.glob hv_fnan hr_fnan)) (BSem.cons (SSem.set 12 (ESem.glob hv_fzero hr_fzero) hnd) BSem.nil) BSem.nil) BSem.nil)))) (BSem.cons (SSem.set 11 (ESem.call hv_mpf_div (hk_mpf_div w) (CSem.le (c_mpf_div w mg mb) (by decide)) (LSem.cons (ESem.var 3) (LSem.cons (ESem.var 5) (LSem.cons (ESem.var 2) (LSem.cons (ESem.glob hv_rf hr_rf) LSem.nil))))) hnd) (BSem.cons (SSem.set 12 (ESem.call hv_mpf_div (hk_mpf_div w) (CSem.le (c_mpf_div w mg mb) (by decide)) (LSem.cons (ESem.var 4) (LSem.cons (ESem.var 5) (LSem.cons (ESem.var 2) (LSem.cons (ESem.glob hv_rc hr_rc) LSem.nil))))) hnd) (BSem.cons (SSem.ife (TSem.cmp (ESem.var 11) (ESem.glob hv_fnan hr_fnan)) (BSem.cons (SSem.set 11 (ESem.glob hv_fninf hr_fninf) hnd) BSem.nil) BSem.nil) (BSem.cons (SSem.ife (TSem.cmp (ESem.var 12) (ESem.glob hv_fnan hr_fnan)) (BSem.cons (SSem.set 12 (ESem.glob hv_finf hr_finf) hnd) BSem.nil) BSem.nil) BSem.nil))))) BSem.nil)) BSem.nil)) (BSem.cons (SSem.ret (ESem.tuple (LSem.cons (ESem.var 11) (LSem.cons (ESem.var 12) LSem.nil)))) BSem.nil)))))))))))
theorem c_mpi_div (w : World) (mg mb : Str → Option Value) : CSem (WW w mg mb) 6 (.ref 224) F_mpi_div :=
  have hnd : ([Str.ofString "s", Str.ofString "t", Str.ofString "prec", Str.ofString "sa", Str.ofString "sb", Str.ofString "ta", Str.ofString "tb", Str.ofString "sas", Str.ofString "sbs", Str.ofString "tas", Str.ofString "tbs", Str.ofString "a", Str.ofString "b"] : List Str).Nodup := by decide +kernel
  CSem.of_bodyL (n := 5) (tab := [Str.ofString "s", Str.ofString "t", Str.ofString "prec", Str.ofString "sa", Str.ofString "sb", Str.ofString "ta", Str.ofString "tb", Str.ofString "sas", Str.ofString "sbs", Str.ofString "tas", Str.ofString "tbs", Str.ofString "a", Str.ofString "b"]) (names := [Str.ofString "s", Str.ofString "t", Str.ofString "prec"]) (k := 3) (m := 10) (dv := []) (dd := []) (by rfl) rfl rfl rfl rfl rfl (by kernel_rfl) rfl rfl rfl
    (fun s vs X hl => by
      match vs, hl with
      | [a0, a1, a2], _ => exact kp_binds X (fun S => by kernel_rfl))
    rfl (fun _ _ => .nil) rfl (by decide +kernel) (by decide +kernel)
    (BSem.cons (SSem.unpack (.cons 3 rfl rfl (.cons 4 rfl rfl .nil)) (ESem.var 0) hnd) (BSem.cons (SSem.unpack (.cons 5 rfl rfl (.cons 6 rfl rfl .nil)) (ESem.var 1) hnd) (BSem.cons (SSem.set 7 (ESem.call hv_mpf_sign (hk_mpf_sign w) (CSem.le (c_mpf_sign w mg mb) (by decide)) (LSem.cons (ESem.var 3) LSem.nil)) hnd) (BSem.cons (SSem.set 8 (ESem.call hv_mpf_sign (hk_mpf_sign w) (CSem.le (c_mpf_sign w mg mb) (by decide)) (LSem.cons (ESem.var 4) LSem.nil)) hnd) (BSem.cons (SSem.set 9 (ESem.call hv_mpf_sign (hk_mpf_sign w) (CSem.le (c_mpf_sign w mg mb) (by decide)) (LSem.cons (ESem.var 5) LSem.nil)) hnd) (BSem.cons (SSem.set 10 (ESem.call hv_mpf_sign (hk_mpf_sign w) (CSem.le (c_mpf_sign w mg mb) (by decide)) (LSem.cons (ESem.var 6) LSem.nil)) hnd) (BSem.cons (SSem.ife (TSem.chain2 (ESem.var 7) (ESem.var 8) ESem.int) (BSem.cons (SSem.ife (TSem.or1 (TSem.and1 (TSem.cmp (ESem.var 9) ESem.int) (TSem.and1 (TSem.cmp (ESem.var 10) ESem.int) TSem.and0)) (TSem.or1 (TSem.or1 (TSem.cmp (ESem.var 9) ESem.int) (TSem.or1 (TSem.cmp (ESem.var 10) ESem.int) TSem.or0)) TSem.or0)) (BSem.cons (SSem.ret (ESem.tuple (LSem.cons (ESem.glob hv_fninf hr_fninf) (LSem.cons (ESem.glob hv_finf hr_finf) LSem.nil)))) BSem.nil) BSem.nil) (BSem.cons (SSem.ret (ESem.tuple (LSem.cons (ESem.glob hv_fzero hr_fzero) (LSem.cons (ESem.glob hv_fzero hr_fzero) LSem.nil)))) BSem.nil)) BSem.nil) (BSem.cons (SSem.ife (TSem.and1 (TSem.cmp (ESem.var 9) ESem.int) (TSem.and1 (TSem.cmp (ESem.var 10) ESem.int) TSem.and0)) (BSem.cons (SSem.ret (ESem.tuple (LSem.cons (ESem.glob hv_fninf hr_fninf) (LSem.cons (ESem.glob hv_finf hr_finf) LSem.nil)))) BSem.nil) BSem.nil) (BSem.cons (SSem.ife (TSem.cmp (ESem.var 9) ESem.int) (BSem.cons (SSem.ret (ESem.call hv_mpi_div (hk_mpi_div w) (CSem.le (c_mpi_div0 w mg mb) (by decide)) (LSem.cons (ESem.call hv_mpi_neg (hk_mpi_neg w) (CSem.le (c_mpi_neg_1 w mg mb) (by decide)) (LSem.cons (ESem.var 0) LSem.nil)) (LSem.cons (ESem.call hv_mpi_neg (hk_mpi_neg w) (CSem.le (c_mpi_neg_1 w mg mb) (by decide)) (LSem.cons (ESem.var 1) LSem.nil)) (LSem.cons (ESem.var 2) LSem.nil))))) BSem.nil) BSem.nil) (BSem.cons (SSem.ife (TSem.cmp (ESem.var 9) ESem.int) (BSem.cons (SSem.ife (TSem.and1 (TSem.cmp (ESem.var 7) ESem.int) (TSem.and1 (TSem.cmp (ESem.var 8) ESem.int) TSem.and0)) (BSem.cons (SSem.ret (ESem.tuple (LSem.cons (ESem.glob hv_fninf hr_fninf) (LSem.cons (ESem.glob hv_finf hr_finf) LSem.nil)))) BSem.nil) BSem.nil) (BSem.cons (SSem.ife (TSem.cmp (ESem.var 9) (ESem.var 10)) (BSem.cons (SSem.ret (ESem.tuple (LSem.cons (ESem.glob hv_fninf hr_fninf) (LSem.cons (ESem.glob hv_finf hr_finf) LSem.nil)))) BSem.nil) BSem.nil) (BSem.cons (SSem.ife (TSem.cmp (ESem.var 7) ESem.int) (BSem.cons (SSem.set 11 (ESem.call hv_mpf_div (hk_mpf_div w) (CSem.le (c_mpf_div w mg mb) (by decide)) (LSem.cons (ESem.var 3) (LSem.cons (ESem.var 6) (LSem.cons (ESem.var 2) (LSem.cons (ESem.glob hv_rf hr_rf) LSem.nil))))) hnd) (BSem.cons (SSem.set 12 (ESem.glob hv_finf hr_finf) hnd) BSem.nil)) BSem.nil) (BSem.cons (SSem.ife (TSem.cmp (ESem.var 8) ESem.int) (BSem.cons (SSem.set 11 (ESem.glob hv_fninf hr_fninf) hnd) (BSem.cons (SSem.set 12 (ESem.call hv_mpf_div (hk_mpf_div w) (CSem.le (c_mpf_div w mg mb) (by decide)) (LSem.cons (ESem.var 4) (LSem.cons (ESem.var 6) (LSem.cons (ESem.var 2) (LSem.cons (ESem.glob hv_rc hr_rc) LSem.nil))))) hnd) BSem.nil)) BSem.nil) BSem.nil)))) (BSem.cons (SSem.ife (TSem.cmp (ESem.var 7) ESem.int) (BSem.cons (SSem.set 11 (ESem.call hv_mpf_div (hk_mpf_div w) (CSem.le (c_mpf_div w mg mb) (by decide)) (LSem.cons (ESem.var 3) (LSem.cons (ESem.var 6) (LSem.cons (ESem.var 2) (LSem.cons (ESem.glob hv_rf hr_rf) LSem.nil))))) hnd) (BSem.cons (SSem.set 12 (ESem.call hv_mpf_div (hk_mpf_div w) (CSem.le (c_mpf_div w mg mb) (by decide)) (LSem.cons (ESem.var 4) (LSem.cons (ESem.var 5) (LSem.cons (ESem.var 2) (LSem.cons (ESem.glob hv_rc hr_rc) LSem.nil))))) hnd) (BSem.cons (SSem.ife (TSem.cmp (ESem.var 11) (ESem.glob hv_fnan hr_fnan)) (BSem.cons (SSem.set 11 (ESem.glob hv_fzero hr_fzero) hnd) BSem.nil) BSem.nil) (BSem.cons (SSem.ife (TSem.cmp (ESem.var 12) (ESem.glob hv_fnan hr_fnan)) (BSem.cons (SSem.set 12 (ESem.glob hv_finf hr_finf) hnd) BSem.nil) BSem.nil) BSem.nil)))) (BSem.cons (SSem.ife (TSem.cmp (ESem.var 8) ESem.int) (BSem.cons (SSem.set 11 (ESem.call hv_mpf_div (hk_mpf_div w) (CSem.le (c_mpf_div w mg mb) (by decide)) (LSem.cons (ESem.var 3) (LSem.cons (ESem.var 5) (LSem.cons (ESem.var 2) (LSem.cons (ESem.glob hv_rf hr_rf) LSem.nil))))) hnd) (BSem.cons (SSem.set 12 (ESem.call hv_mpf_div (hk_mpf_div w) (CSem.le (c_mpf_div w mg mb) (by decide)) (LSem.cons (ESem.var 4) (LSem.cons (ESem.var 6) (LSem.cons (ESem.var 2) (LSem.cons (ESem.glob hv_rc hr_rc) LSem.nil))))) hnd) (BSem.cons (SSem.ife (TSem.cmp (ESem.var 11) (ESem.glob hv_fnan hr_fnan)) (BSem.cons (SSem.set 11 (ESem.glob hv_fninf hr_fninf) hnd) BSem.nil) BSem.nil) (BSem.cons (SSem.ife (TSem.cmp (ESem.var 12) (ESem.glob hv_fnan hr_fnan)) (BSem.cons (SSem.set 12 (ESem.glob hv_fzero hr_fzero) hnd) BSem.nil) BSem.nil) BSem.nil)))) (BSem.cons (SSem.set 11 (ESem.call hv_mpf_div (hk_mpf_div w) (CSem.le (c_mpf_div w mg mb) (by decide)) (LSem.cons (ESem.var 3) (LSem.cons (ESem.var 5) (LSem.cons (ESem.var 2) (LSem.cons (ESem.glob hv_rf hr_rf) LSem.nil))))) hnd) (BSem.cons (SSem.set 12 (ESem.call hv_mpf_div (hk_mpf_div w) (CSem.le (c_mpf_div w mg mb) (by decide)) (LSem.cons (ESem.var 4) (LSem.cons (ESem.var 5) (LSem.cons (ESem.var 2) (LSem.cons (ESem.glob hv_rc hr_rc) LSem.nil))))) hnd) (BSem.cons (SSem.ife (TSem.cmp (ESem.var 11) (ESem.glob hv_fnan hr_fnan)) (BSem.cons (SSem.set 11 (ESem.glob hv_fninf hr_fninf) hnd) BSem.nil) BSem.nil) (BSem.cons (SSem.ife (TSem.cmp (ESem.var 12) (ESem.glob hv_fnan hr_fnan)) (BSem.cons (SSem.set 12 (ESem.glob hv_finf hr_finf) hnd) BSem.nil) BSem.nil) BSem.nil))))) BSem.nil)) BSem.nil)) (BSem.cons (SSem.ret (ESem.tuple (LSem.cons (ESem.var 11) (LSem.cons (ESem.var 12) LSem.nil)))) BSem.nil)))))))))))
theorem c_mpi_sqrt (w : World) (mg mb : Str → Option Value) : CSem (WW w mg mb) 6 (.ref 231) F_mpi_sqrt :=
  have hnd : ([Str.ofString "s", Str.ofString "prec", Str.ofString "sa", Str.ofString "sb", Str.ofString "a", Str.ofString "b"] : List Str).Nodup := by decide +kernel
  CSem.of_bodyL (n := 5) (tab := [Str.ofString "s", Str.ofString "prec", Str.ofString "sa", Str.ofString "sb", Str.ofString "a", Str.ofString "b"]) (names := [Str.ofString "s", Str.ofString "prec"]) (k := 2) (m := 4) (dv := []) (dd := []) (by rfl) rfl rfl rfl rfl rfl (by kernel_rfl) rfl rfl rfl
    (fun s vs X hl => by
      match vs, hl with
      | [a0, a1], _ => exact kp_binds X (fun S => by kernel_rfl))
    rfl (fun _ _ => .nil) rfl (by decide +kernel) (by decide +kernel)
    (BSem.cons (SSem.unpack (.cons 2 rfl rfl (.cons 3 rfl rfl .nil)) (ESem.var 0) hnd) (BSem.cons (SSem.set 4 (ESem.call hv_mpf_sqrt (hk_mpf_sqrt w) (CSem.le (c_mpf_sqrt w mg mb) (by decide)) (LSem.cons (ESem.var 2) (LSem.cons (ESem.var 1) (LSem.cons (ESem.glob hv_rf hr_rf) LSem.nil)))) hnd) (BSem.cons (SSem.set 5 (ESem.call hv_mpf_sqrt (hk_mpf_sqrt w) (CSem.le (c_mpf_sqrt w mg mb) (by decide)) (LSem.cons (ESem.var 3) (LSem.cons (ESem.var 1) (LSem.cons (ESem.glob hv_rc hr_rc) LSem.nil)))) hnd) (BSem.cons (SSem.ret (ESem.tuple (LSem.cons (ESem.var 4) (LSem.cons (ESem.var 5) LSem.nil)))) BSem.nil))))
theorem c_mpi_pow_int0 (w : World) (mg mb : Str → Option Value) : CSem (WW w mg mb) 11 (.ref 238) F_mpi_pow_int0 :=
  have hnd : ([Str.ofString "s", Str.ofString "n", Str.ofString "prec", Str.ofString "sa", Str.ofString "sb", Str.ofString "a", Str.ofString "b", Str.ofString "sas", Str.ofString "sbs"] : List Str).Nodup := by decide +kernel
  CSem.of_bodyL (n := 10) (tab := [Str.ofString "s", Str.ofString "n", Str.ofString "prec", Str.ofString "sa", Str.ofString "sb", Str.ofString "a", Str.ofString "b", Str.ofString "sas", Str.ofString "sbs"]) (names := [Str.ofString "s", Str.ofString "n", Str.ofString "prec"]) (k := 3) (m := 6) (dv := []) (dd := []) (by rfl) rfl rfl rfl rfl rfl (by kernel_rfl) rfl rfl rfl
    (fun s vs X hl => by
      match vs, hl with
      | [a0, a1, a2], _ => exact kp_binds X (fun S => by kernel_rfl))
    rfl (fun _ _ => .nil) rfl (by decide +kernel) (by decide +kernel)
    (BSem.cons (SSem.unpack (.cons 3 rfl rfl (.cons 4 rfl rfl .nil)) (ESem.var 0) hnd) (BSem.cons (SSem.ife (TSem.cmp (ESem.var 1) ESem.int) (BSem.cons (SSem.ret (ESem.call hv_mpi_div (hk_mpi_div w) (CSem.le (c_mpi_div w mg mb) (by decide)) (LSem.cons (ESem.tuple (LSem.cons (ESem.glob hv_fone hr_fone) (LSem.cons (ESem.glob hv_fone hr_fone) LSem.nil))) (LSem.cons ESem.no (LSem.cons (ESem.var 2) LSem.nil))))) BSem.nil) BSem.nil) (BSem.cons (SSem.ife (TSem.cmp (ESem.var 1) ESem.int) (BSem.cons (SSem.ret (ESem.tuple (LSem.cons (ESem.glob hv_fone hr_fone) (LSem.cons (ESem.glob hv_fone hr_fone) LSem.nil)))) BSem.nil) BSem.nil) (BSem.cons (SSem.ife (TSem.cmp (ESem.var 1) ESem.int) (BSem.cons (SSem.ret (ESem.var 0)) BSem.nil) BSem.nil) (BSem.cons (SSem.ife (TSem.cmp (ESem.var 1) ESem.int) (BSem.cons (SSem.ret (ESem.call hv_mpi_square (hk_mpi_square w) (CSem.le (c_mpi_square w mg mb) (by decide)) (LSem.cons (ESem.var 0) (LSem.cons (ESem.var 2) LSem.nil)))) BSem.nil) BSem.nil) (BSem.cons (SSem.ife (TSem.plain (ESem.binop (ESem.var 1) ESem.int)) (BSem.cons (SSem.set 5 (ESem.call hv_mpf_pow_int (hk_mpf_pow_int w) (CSem.le (c_mpf_pow_int w mg mb) (by decide)) (LSem.cons (ESem.var 3) (LSem.cons (ESem.var 1) (LSem.cons (ESem.var 2) (LSem.cons (ESem.glob hv_rf hr_rf) LSem.nil))))) hnd) (BSem.cons (SSem.set 6 (ESem.call hv_mpf_pow_int (hk_mpf_pow_int w) (CSem.le (c_mpf_pow_int w mg mb) (by decide)) (LSem.cons (ESem.var 4) (LSem.cons (ESem.var 1) (LSem.cons (ESem.var 2) (LSem.cons (ESem.glob hv_rc hr_rc) LSem.nil))))) hnd) BSem.nil)) (BSem.cons (SSem.set 7 (ESem.call hv_mpf_sign (hk_mpf_sign w) (CSem.le (c_mpf_sign w mg mb) (by decide)) (LSem.cons (ESem.var 3) LSem.nil)) hnd) (BSem.cons (SSem.set 8 (ESem.call hv_mpf_sign (hk_mpf_sign w) (CSem.le (c_mpf_sign w mg mb) (by decide)) (LSem.cons (ESem.var 4) LSem.nil)) hnd) (BSem.cons (SSem.ife (TSem.cmp (ESem.var 7) ESem.int) (BSem.cons (SSem.set 5 (ESem.call hv_mpf_pow_int (hk_mpf_pow_int w) (CSem.le (c_mpf_pow_int w mg mb) (by decide)) (LSem.cons (ESem.var 3) (LSem.cons (ESem.var 1) (LSem.cons (ESem.var 2) (LSem.cons (ESem.glob hv_rf hr_rf) LSem.nil))))) hnd) (BSem.cons (SSem.set 6 (ESem.call hv_mpf_pow_int (hk_mpf_pow_int w) (CSem.le (c_mpf_pow_int w mg mb) (by decide)) (LSem.cons (ESem.var 4) (LSem.cons (ESem.var 1) (LSem.cons (ESem.var 2) (LSem.cons (ESem.glob hv_rc hr_rc) LSem.nil))))) hnd) BSem.nil)) (BSem.cons (SSem.ife (TSem.cmp (ESem.var 8) ESem.int) (BSem.cons (SSem.set 5 (ESem.call hv_mpf_pow_int (hk_mpf_pow_int w) (CSem.le (c_mpf_pow_int w mg mb) (by decide)) (LSem.cons (ESem.var 4) (LSem.cons (ESem.var 1) (LSem.cons (ESem.var 2) (LSem.cons (ESem.glob hv_rf hr_rf) LSem.nil))))) hnd) (BSem.cons (SSem.set 6 (ESem.call hv_mpf_pow_int (hk_mpf_pow_int w) (CSem.le (c_mpf_pow_int w mg mb) (by decide)) (LSem.cons (ESem.var 3) (LSem.cons (ESem.var 1) (LSem.cons (ESem.var 2) (LSem.cons (ESem.glob hv_rc hr_rc) LSem.nil))))) hnd) BSem.nil)) (BSem.cons (SSem.set 5 (ESem.glob hv_fzero hr_fzero) hnd) (BSem.cons (SSem.set 3 (ESem.call hv_mpf_neg (hk_mpf_neg w) (CSem.le (c_mpf_neg_1 w mg mb) (by decide)) (LSem.cons (ESem.var 3) LSem.nil)) hnd) (BSem.cons (SSem.ife (TSem.plain (ESem.call hv_mpf_ge (hk_mpf_ge w) (CSem.le (c_mpf_ge w mg mb) (by decide)) (LSem.cons (ESem.var 3) (LSem.cons (ESem.var 4) LSem.nil)))) (BSem.cons (SSem.set 6 (ESem.call hv_mpf_pow_int (hk_mpf_pow_int w) (CSem.le (c_mpf_pow_int w mg mb) (by decide)) (LSem.cons (ESem.var 3) (LSem.cons (ESem.var 1) (LSem.cons (ESem.var 2) (LSem.cons (ESem.glob hv_rc hr_rc) LSem.nil))))) hnd) BSem.nil) (BSem.cons (SSem.set 6 (ESem.call hv_mpf_pow_int (hk_mpf_pow_int w) (CSem.le (c_mpf_pow_int w mg mb) (by decide)) (LSem.cons (ESem.var 4) (LSem.cons (ESem.var 1) (LSem.cons (ESem.var 2) (LSem.cons (ESem.glob hv_rc hr_rc) LSem.nil))))) hnd) BSem.nil)) BSem.nil)))) BSem.nil)) BSem.nil)))) (BSem.cons (SSem.ret (ESem.tuple (LSem.cons (ESem.var 5) (LSem.cons (ESem.var 6) LSem.nil)))) BSem.nil)))))))
theorem c_mpi_pow_int (w : World) (mg mb : Str → Option Value) : CSem (WW w mg mb) 12 (.ref 238) F_mpi_pow_int :=
  have hnd : ([Str.ofString "s", Str.ofString "n", Str.ofString "prec", Str.ofString "sa", Str.ofString "sb", Str.ofString "a", Str.ofString "b", Str.ofString "sas", Str.ofString "sbs"] : List Str).Nodup := by decide +kernel
  CSem.of_bodyL (n := 11) (tab := [Str.ofString "s", Str.ofString "n", Str.ofString "prec", Str.ofString "sa", Str.ofString "sb", Str.ofString "a", Str.ofString "b", Str.ofString "sas", Str.ofString "sbs"]) (names := [Str.ofString "s", Str.ofString "n", Str.ofString "prec"]) (k := 3) (m := 6) (dv := []) (dd := []) (by rfl) rfl rfl rfl rfl rfl (by kernel_rfl) rfl rfl rfl
    (fun s vs X hl => by
      match vs, hl with
      | [a0, a1, a2], _ => exact kp_binds X (fun S => by kernel_rfl))
    rfl (fun _ _ => .nil) rfl (by decide +kernel) (by decide +kernel)
    (BSem.cons (SSem.unpack (.cons 3 rfl rfl (.cons 4 rfl rfl .nil)) (ESem.var 0) hnd) (BSem.cons (SSem.ife (TSem.cmp (ESem.var 1) ESem.int) (BSem.cons (SSem.ret (ESem.call hv_mpi_div (hk_mpi_div w) (CSem.le (c_mpi_div w mg mb) (by decide)) (LSem.cons (ESem.tuple (LSem.cons (ESem.glob hv_fone hr_fone) (LSem.cons (ESem.glob hv_fone hr_fone) LSem.nil))) (LSem.cons (ESem.call hv_mpi_pow_int (hk_mpi_pow_int w) (CSem.le (c_mpi_pow_int0 w mg mb) (by decide)) (LSem.cons (ESem.var 0) (LSem.cons (ESem.neg (ESem.var 1)) (LSem.cons (ESem.binop (ESem.var 2) ESem.int) LSem.nil)))) (LSem.cons (ESem.var 2) LSem.nil))))) BSem.nil) BSem.nil) (BSem.cons (SSem.ife (TSem.cmp (ESem.var 1) ESem.int) (BSem.cons (SSem.ret (ESem.tuple (LSem.cons (ESem.glob hv_fone hr_fone) (LSem.cons (ESem.glob hv_fone hr_fone) LSem.nil)))) BSem.nil) BSem.nil) (BSem.cons (SSem.ife (TSem.cmp (ESem.var 1) ESem.int) (BSem.cons (SSem.ret (ESem.var 0)) BSem.nil) BSem.nil) (BSem.cons (SSem.ife (TSem.cmp (ESem.var 1) ESem.int) (BSem.cons (SSem.ret (ESem.call hv_mpi_square (hk_mpi_square w) (CSem.le (c_mpi_square w mg mb) (by decide)) (LSem.cons (ESem.var 0) (LSem.cons (ESem.var 2) LSem.nil)))) BSem.nil) BSem.nil) (BSem.cons (SSem.ife (TSem.plain (ESem.binop (ESem.var 1) ESem.int)) (BSem.cons (SSem.set 5 (ESem.call hv_mpf_pow_int (hk_mpf_pow_int w) (CSem.le (c_mpf_pow_int w mg mb) (by decide)) (LSem.cons (ESem.var 3) (LSem.cons (ESem.var 1) (LSem.cons (ESem.var 2) (LSem.cons (ESem.glob hv_rf hr_rf) LSem.nil))))) hnd) (BSem.cons (SSem.set 6 (ESem.call hv_mpf_pow_int (hk_mpf_pow_int w) (CSem.le (c_mpf_pow_int w mg mb) (by decide)) (LSem.cons (ESem.var 4) (LSem.cons (ESem.var 1) (LSem.cons (ESem.var 2) (LSem.cons (ESem.glob hv_rc hr_rc) LSem.nil))))) hnd) BSem.nil)) (BSem.cons (SSem.set 7 (ESem.call hv_mpf_sign (hk_mpf_sign w) (CSem.le (c_mpf_sign w mg mb) (by decide)) (LSem.cons (ESem.var 3) LSem.nil)) hnd) (BSem.cons (SSem.set 8 (ESem.call hv_mpf_sign (hk_mpf_sign w) (CSem.le (c_mpf_sign w mg mb) (by decide)) (LSem.cons (ESem.var 4) LSem.nil)) hnd) (BSem.cons (SSem.ife (TSem.cmp (ESem.var 7) ESem.int) (BSem.cons (SSem.set 5 (ESem.call hv_mpf_pow_int (hk_mpf_pow_int w) (CSem.le (c_mpf_pow_int w mg mb) (by decide)) (LSem.cons (ESem.var 3) (LSem.cons (ESem.var 1) (LSem.cons (ESem.var 2) (LSem.cons (ESem.glob hv_rf hr_rf) LSem.nil))))) hnd) (BSem.cons (SSem.set 6 (ESem.call hv_mpf_pow_int (hk_mpf_pow_int w) (CSem.le (c_mpf_pow_int w mg mb) (by decide)) (LSem.cons (ESem.var 4) (LSem.cons (ESem.var 1) (LSem.cons (ESem.var 2) (LSem.cons (ESem.glob hv_rc hr_rc) LSem.nil))))) hnd) BSem.nil)) (BSem.cons (SSem.ife (TSem.cmp (ESem.var 8) ESem.int) (BSem.cons (SSem.set 5 (ESem.call hv_mpf_pow_int (hk_mpf_pow_int w) (CSem.le (c_mpf_pow_int w mg mb) (by decide)) (LSem.cons (ESem.var 4) (LSem.cons (ESem.var 1) (LSem.cons (ESem.var 2) (LSem.cons (ESem.glob hv_rf hr_rf) LSem.nil))))) hnd) (BSem.cons (SSem.set 6 (ESem.call hv_mpf_pow_int (hk_mpf_pow_int w) (CSem.le (c_mpf_pow_int w mg mb) (by decide)) (LSem.cons (ESem.var 3) (LSem.cons (ESem.var 1) (LSem.cons (ESem.var 2) (LSem.cons (ESem.glob hv_rc hr_rc) LSem.nil))))) hnd) BSem.nil)) (BSem.cons (SSem.set 5 (ESem.glob hv_fzero hr_fzero) hnd) (BSem.cons (SSem.set 3 (ESem.call hv_mpf_neg (hk_mpf_neg w) (CSem.le (c_mpf_neg_1 w mg mb) (by decide)) (LSem.cons (ESem.var 3) LSem.nil)) hnd) (BSem.cons (SSem.ife (TSem.plain (ESem.call hv_mpf_ge (hk_mpf_ge w) (CSem.le (c_mpf_ge w mg mb) (by decide)) (LSem.cons (ESem.var 3) (LSem.cons (ESem.var 4) LSem.nil)))) (BSem.cons (SSem.set 6 (ESem.call hv_mpf_pow_int (hk_mpf_pow_int w) (CSem.le (c_mpf_pow_int w mg mb) (by decide)) (LSem.cons (ESem.var 3) (LSem.cons (ESem.var 1) (LSem.cons (ESem.var 2) (LSem.cons (ESem.glob hv_rc hr_rc) LSem.nil))))) hnd) BSem.nil) (BSem.cons (SSem.set 6 (ESem.call hv_mpf_pow_int (hk_mpf_pow_int w) (CSem.le (c_mpf_pow_int w mg mb) (by decide)) (LSem.cons (ESem.var 4) (LSem.cons (ESem.var 1) (LSem.cons (ESem.var 2) (LSem.cons (ESem.glob hv_rc hr_rc) LSem.nil))))) hnd) BSem.nil)) BSem.nil)))) BSem.nil)) BSem.nil)))) (BSem.cons (SSem.ret (ESem.tuple (LSem.cons (ESem.var 5) (LSem.cons (ESem.var 6) LSem.nil)))) BSem.nil)))))))
theorem c_law_mixed (w : World) (mg mb : Str → Option Value) : CSem (WW w mg mb) 1 (.ref 245) F_law_mixed :=
  have hnd : ([Str.ofString "script", Str.ofString "k", Str.ofString "n"] : List Str).Nodup := by decide +kernel
  CSem.of_bodyL (n := 0) (tab := [Str.ofString "script", Str.ofString "k", Str.ofString "n"]) (names := [Str.ofString "script", Str.ofString "k"]) (k := 2) (m := 1) (dv := []) (dd := []) (by rfl) rfl rfl rfl rfl rfl (by kernel_rfl) rfl rfl rfl
    (fun s vs X hl => by
      match vs, hl with
      | [a0, a1], _ => exact kp_binds X (fun S => by kernel_rfl))
    rfl (fun _ _ => .nil) rfl (by decide +kernel) (by decide +kernel)
    (BSem.cons (SSem.set 2 (ESem.ite (TSem.cmp (ESem.var 1) (ESem.callB hn_len (by rfl) len_sem (LSem.cons (ESem.var 0) LSem.nil))) (ESem.sub (ESem.var 0) (ESem.var 1)) ESem.int) hnd) (BSem.cons (SSem.ife (TSem.cmp (ESem.var 2) (ESem.binop ESem.int ESem.int)) (BSem.cons (SSem.ret (ESem.var 2)) BSem.nil) BSem.nil) (BSem.cons (SSem.ret (ESem.binop (ESem.binop (ESem.binop (ESem.var 2) ESem.int) (ESem.binop (ESem.binop (ESem.var 1) ESem.int) ESem.int)) (ESem.binop ESem.int ESem.int))) BSem.nil)))
theorem c_law_raw (w : World) (mg mb : Str → Option Value) : CSem (WW w mg mb) 1 (.ref 252) F_law_raw :=
  have hnd : ([Str.ofString "rich", Str.ofString "bits", Str.ofString "spread", Str.ofString "kind", Str.ofString "e", Str.ofString "m", Str.ofString "man"] : List Str).Nodup := by decide +kernel
  CSem.of_bodyL (n := 0) (tab := [Str.ofString "rich", Str.ofString "bits", Str.ofString "spread", Str.ofString "kind", Str.ofString "e", Str.ofString "m", Str.ofString "man"]) (names := [Str.ofString "rich", Str.ofString "bits", Str.ofString "spread"]) (k := 3) (m := 4) (dv := []) (dd := []) (by rfl) rfl rfl rfl rfl rfl (by kernel_rfl) rfl rfl rfl
    (fun s vs X hl => by
      match vs, hl with
      | [a0, a1, a2], _ => exact kp_binds X (fun S => by kernel_rfl))
    rfl (fun _ _ => .nil) rfl (by decide +kernel) (by decide +kernel)
    (BSem.cons (SSem.unpackN (names := [Str.ofString "kind", Str.ofString "e", Str.ofString "m"]) (rn := [Str.ofString "m", Str.ofString "e", Str.ofString "kind"]) (is := [3, 4, 5]) (ri := [5, 4, 3]) (.cons 5 rfl rfl (.cons 4 rfl rfl (.cons 3 rfl rfl .nil))) rfl rfl rfl (ESem.tuple (LSem.cons (ESem.binop (ESem.binop (ESem.var 0) ESem.int) ESem.int) (LSem.cons (ESem.binop (ESem.binop (ESem.binop (ESem.var 0) ESem.int) (ESem.binop (ESem.binop ESem.int (ESem.var 2)) ESem.int)) (ESem.var 2)) (LSem.cons (ESem.binop (ESem.var 0) (ESem.binop ESem.int ESem.int)) LSem.nil)))) hnd (fun env h => by cases env; cases h; rfl)) (BSem.cons (SSem.ife (TSem.cmp (ESem.var 3) ESem.int) (BSem.cons (SSem.ret (ESem.tuple (LSem.cons ESem.int (LSem.cons ESem.int (LSem.cons ESem.int (LSem.cons ESem.int LSem.nil)))))) BSem.nil) BSem.nil) (BSem.cons (SSem.set 6 (ESem.binop (ESem.binop (ESem.binop (ESem.binop (ESem.var 5) (ESem.binop ESem.int (ESem.binop ESem.int (ESem.binop (ESem.var 5) (ESem.var 1))))) ESem.int) ESem.int) ESem.int) hnd) (BSem.cons (SSem.ife (TSem.cmp (ESem.var 3) ESem.int) (BSem.cons (SSem.set 6 ESem.int hnd) BSem.nil) (BSem.cons (SSem.ife (TSem.cmp (ESem.var 3) ESem.int) (BSem.cons (SSem.set 6 (ESem.binop (ESem.binop ESem.int (ESem.binop ESem.int (ESem.binop (ESem.var 5) (ESem.var 1)))) ESem.int) hnd) BSem.nil) (BSem.cons (SSem.ife (TSem.and1 (TSem.cmp (ESem.var 3) ESem.int) (TSem.and1 (TSem.cmp (ESem.var 1) ESem.int) TSem.and0)) (BSem.cons (SSem.set 6 (ESem.binop (ESem.binop ESem.int (ESem.binop ESem.int (ESem.binop (ESem.var 5) (ESem.binop (ESem.var 1) ESem.int)))) ESem.int) hnd) BSem.nil) BSem.nil) BSem.nil)) BSem.nil)) (BSem.cons (SSem.ret (ESem.tuple (LSem.cons (ESem.binop (ESem.var 0) ESem.int) (LSem.cons (ESem.var 6) (LSem.cons (ESem.var 4) (LSem.cons (ESem.bits (ESem.var 6)) LSem.nil)))))) BSem.nil)))))
theorem c_law_worth (w : World) (mg mb : Str → Option Value) : CSem (WW w mg mb) 1 (.ref 259) F_law_worth :=
  have hnd : ([Str.ofString "s", Str.ofString "signed"] : List Str).Nodup := by decide +kernel
  CSem.of_bodyL (n := 0) (tab := [Str.ofString "s", Str.ofString "signed"]) (names := [Str.ofString "s"]) (k := 1) (m := 1) (dv := []) (dd := []) (by rfl) rfl rfl rfl rfl rfl (by kernel_rfl) rfl rfl rfl
    (fun s vs X hl => by
      match vs, hl with
      | [a0], _ => exact kp_binds X (fun S => by kernel_rfl))
    rfl (fun _ _ => .nil) rfl (by decide +kernel) (by decide +kernel)
    (BSem.cons (SSem.set 1 (ESem.ite (TSem.cmp (ESem.sub (ESem.var 0) ESem.int) ESem.int) (ESem.neg (ESem.sub (ESem.var 0) ESem.int)) (ESem.sub (ESem.var 0) ESem.int)) hnd) (BSem.cons (SSem.ret (ESem.ite (TSem.cmp (ESem.sub (ESem.var 0) ESem.int) ESem.int) (ESem.tuple (LSem.cons (ESem.binop (ESem.var 1) (ESem.binop ESem.int (ESem.sub (ESem.var 0) ESem.int))) (LSem.cons ESem.int LSem.nil))) (ESem.tuple (LSem.cons (ESem.var 1) (LSem.cons (ESem.binop ESem.int (ESem.neg (ESem.sub (ESem.var 0) ESem.int))) LSem.nil))))) BSem.nil))
theorem c_law_rounded (w : World) (mg mb : Str → Option Value) : CSem (WW w mg mb) 1 (.ref 266) F_law_rounded :=
  have hnd : ([Str.ofString "above", Str.ofString "below", Str.ofString "prec", Str.ofString "rnd", Str.ofString "sign", Str.ofString "size", Str.ofString "exp", Str.ofString "whole", Str.ofString "rest", Str.ofString "low", Str.ofString "away"] : List Str).Nodup := by decide +kernel
  CSem.of_bodyL (n := 0) (tab := [Str.ofString "above", Str.ofString "below", Str.ofString "prec", Str.ofString "rnd", Str.ofString "sign", Str.ofString "size", Str.ofString "exp", Str.ofString "whole", Str.ofString "rest", Str.ofString "low", Str.ofString "away"]) (names := [Str.ofString "above", Str.ofString "below", Str.ofString "prec", Str.ofString "rnd"]) (k := 4) (m := 7) (dv := []) (dd := []) (by rfl) rfl rfl rfl rfl rfl (by kernel_rfl) rfl rfl rfl
    (fun s vs X hl => by
      match vs, hl with
      | [a0, a1, a2, a3], _ => exact kp_binds X (fun S => by kernel_rfl))
    rfl (fun _ _ => .nil) rfl (by decide +kernel) (by decide +kernel)
    (BSem.cons (SSem.ife (TSem.cmp (ESem.var 0) ESem.int) (BSem.cons (SSem.ret (ESem.tuple (LSem.cons ESem.int (LSem.cons ESem.int (LSem.cons ESem.int (LSem.cons ESem.int LSem.nil)))))) BSem.nil) BSem.nil) (BSem.cons (SSem.unpack (.cons 4 rfl rfl (.cons 5 rfl rfl .nil)) (ESem.ite (TSem.cmp (ESem.var 0) ESem.int) (ESem.tuple (LSem.cons ESem.int (LSem.cons (ESem.neg (ESem.var 0)) LSem.nil))) (ESem.tuple (LSem.cons ESem.int (LSem.cons (ESem.var 0) LSem.nil)))) hnd) (BSem.cons (SSem.set 6 (ESem.binop (ESem.binop (ESem.binop (ESem.bits (ESem.var 5)) (ESem.bits (ESem.var 1))) (ESem.var 2)) ESem.int) hnd) (BSem.cons (SSem.unpackN (names := [Str.ofString "whole", Str.ofString "rest", Str.ofString "low"]) (rn := [Str.ofString "low", Str.ofString "rest", Str.ofString "whole"]) (is := [7, 8, 9]) (ri := [9, 8, 7]) (.cons 9 rfl rfl (.cons 8 rfl rfl (.cons 7 rfl rfl .nil))) rfl rfl rfl (ESem.tuple (LSem.cons (ESem.binop ESem.int (ESem.var 2)) (LSem.cons ESem.int (LSem.cons ESem.int LSem.nil)))) hnd (fun env h => by cases env; cases h; rfl)) (BSem.cons (SSem.whl (2 ^ 3000) (TSem.cmp (ESem.var 7) (ESem.binop ESem.int (ESem.var 2))) (BSem.cons (SSem.aug 6 ESem.int hnd) (BSem.cons (SSem.set 9 (ESem.ite (TSem.cmp (ESem.var 6) ESem.int) (ESem.binop (ESem.var 1) (ESem.binop ESem.int (ESem.var 6))) (ESem.var 1)) hnd) (BSem.cons (SSem.unpack (.cons 7 rfl rfl (.cons 8 rfl rfl .nil)) (ESem.callB hn_divmod (by rfl) divmod_sem (LSem.cons (ESem.ite (TSem.cmp (ESem.var 6) ESem.int) (ESem.binop (ESem.var 5) (ESem.binop ESem.int (ESem.neg (ESem.var 6)))) (ESem.var 5)) (LSem.cons (ESem.var 9) LSem.nil))) hnd) BSem.nil)))) (BSem.cons (SSem.set 10 (ESem.or (ESem.cmp (ESem.var 3) ESem.str) (ESem.or (ESem.and (ESem.cmp (ESem.var 3) ESem.str) (ESem.bop1 (ESem.cmp (ESem.var 4) ESem.int))) (ESem.bop1 (ESem.and (ESem.cmp (ESem.var 3) ESem.str) (ESem.bop1 (ESem.cmp (ESem.var 4) ESem.int)))))) hnd) (BSem.cons (SSem.ife (TSem.cmp (ESem.var 3) ESem.str) (BSem.cons (SSem.set 10 (ESem.or (ESem.cmp (ESem.binop ESem.int (ESem.var 8)) (ESem.var 9)) (ESem.bop1 (ESem.and (ESem.cmp (ESem.binop ESem.int (ESem.var 8)) (ESem.var 9)) (ESem.bop1 (ESem.cmp (ESem.binop (ESem.var 7) ESem.int) ESem.int))))) hnd) BSem.nil) BSem.nil) (BSem.cons (SSem.ife (TSem.and1 (TSem.plain (ESem.var 10)) (TSem.and1 (TSem.cmp (ESem.var 8) ESem.int) TSem.and0)) (BSem.cons (SSem.aug 7 ESem.int hnd) BSem.nil) BSem.nil) (BSem.cons (SSem.whl (2 ^ 3000) (TSem.cmp (ESem.binop (ESem.var 7) ESem.int) ESem.int) (BSem.cons (SSem.unpackN (names := [Str.ofString "whole", Str.ofString "exp"]) (rn := [Str.ofString "exp", Str.ofString "whole"]) (is := [7, 6]) (ri := [6, 7]) (.cons 6 rfl rfl (.cons 7 rfl rfl .nil)) rfl rfl rfl (ESem.tuple (LSem.cons (ESem.binop (ESem.var 7) ESem.int) (LSem.cons (ESem.binop (ESem.var 6) ESem.int) LSem.nil))) hnd (fun env h => by cases env; cases h; rfl)) BSem.nil)) (BSem.cons (SSem.ret (ESem.tuple (LSem.cons (ESem.var 4) (LSem.cons (ESem.var 7) (LSem.cons (ESem.var 6) (LSem.cons (ESem.bits (ESem.var 7)) LSem.nil)))))) BSem.nil))))))))))
theorem c_law_span (w : World) (mg mb : Str → Option Value) : CSem (WW w mg mb) 2 (.ref 273) F_law_span :=
  have hnd : ([Str.ofString "script", Str.ofString "k", Str.ofString "bits", Str.ofString "spread", Str.ofString "rich", Str.ofString "s", Str.ofString "t", Str.ofString "a", Str.ofString "b"] : List Str).Nodup := by decide +kernel
  CSem.of_bodyL (n := 1) (tab := [Str.ofString "script", Str.ofString "k", Str.ofString "bits", Str.ofString "spread", Str.ofString "rich", Str.ofString "s", Str.ofString "t", Str.ofString "a", Str.ofString "b"]) (names := [Str.ofString "script", Str.ofString "k", Str.ofString "bits", Str.ofString "spread"]) (k := 4) (m := 5) (dv := []) (dd := []) (by rfl) rfl rfl rfl rfl rfl (by kernel_rfl) rfl rfl rfl
    (fun s vs X hl => by
      match vs, hl with
      | [a0, a1, a2, a3], _ => exact kp_binds X (fun S => by kernel_rfl))
    rfl (fun _ _ => .nil) rfl (by decide +kernel) (by decide +kernel)
    (BSem.cons (SSem.set 4 (ESem.call hv_law_mixed (hk_law_mixed w) (CSem.le (c_law_mixed w mg mb) (by decide)) (LSem.cons (ESem.var 0) (LSem.cons (ESem.binop (ESem.var 1) ESem.int) LSem.nil))) hnd) (BSem.cons (SSem.unpackN (names := [Str.ofString "s", Str.ofString "t"]) (rn := [Str.ofString "t", Str.ofString "s"]) (is := [5, 6]) (ri := [6, 5]) (.cons 6 rfl rfl (.cons 5 rfl rfl .nil)) rfl rfl rfl (ESem.tuple (LSem.cons (ESem.call hv_law_raw (hk_law_raw w) (CSem.le (c_law_raw w mg mb) (by decide)) (LSem.cons (ESem.call hv_law_mixed (hk_law_mixed w) (CSem.le (c_law_mixed w mg mb) (by decide)) (LSem.cons (ESem.var 0) (LSem.cons (ESem.var 1) LSem.nil))) (LSem.cons (ESem.var 2) (LSem.cons (ESem.var 3) LSem.nil)))) (LSem.cons (ESem.call hv_law_raw (hk_law_raw w) (CSem.le (c_law_raw w mg mb) (by decide)) (LSem.cons (ESem.call hv_law_mixed (hk_law_mixed w) (CSem.le (c_law_mixed w mg mb) (by decide)) (LSem.cons (ESem.var 0) (LSem.cons (ESem.binop (ESem.var 1) ESem.int) LSem.nil))) (LSem.cons (ESem.var 2) (LSem.cons (ESem.var 3) LSem.nil)))) LSem.nil))) hnd (fun env h => by cases env; cases h; rfl)) (BSem.cons (SSem.ife (TSem.cmp (ESem.binop (ESem.var 4) ESem.int) ESem.int) (BSem.cons (SSem.set 6 (ESem.var 5) hnd) BSem.nil) BSem.nil) (BSem.cons (SSem.ife (TSem.cmp (ESem.binop (ESem.var 4) ESem.int) ESem.int) (BSem.cons (SSem.unpackN (names := [Str.ofString "s", Str.ofString "t"]) (rn := [Str.ofString "t", Str.ofString "s"]) (is := [5, 6]) (ri := [6, 5]) (.cons 6 rfl rfl (.cons 5 rfl rfl .nil)) rfl rfl rfl (ESem.tuple (LSem.cons (ESem.tuple (LSem.cons ESem.int (LSem.cons ESem.int (LSem.cons ESem.int (LSem.cons ESem.int LSem.nil))))) (LSem.cons (ESem.tuple (LSem.cons ESem.int (LSem.cons (ESem.sub (ESem.var 6) ESem.int) (LSem.cons (ESem.sub (ESem.var 6) ESem.int) (LSem.cons (ESem.sub (ESem.var 6) ESem.int) LSem.nil))))) LSem.nil))) hnd (fun env h => by cases env; cases h; rfl)) BSem.nil) BSem.nil) (BSem.cons (SSem.unpackN (names := [Str.ofString "a", Str.ofString "b"]) (rn := [Str.ofString "b", Str.ofString "a"]) (is := [7, 8]) (ri := [8, 7]) (.cons 8 rfl rfl (.cons 7 rfl rfl .nil)) rfl rfl rfl (ESem.tuple (LSem.cons (ESem.call hv_law_worth (hk_law_worth w) (CSem.le (c_law_worth w mg mb) (by decide)) (LSem.cons (ESem.var 5) LSem.nil)) (LSem.cons (ESem.call hv_law_worth (hk_law_worth w) (CSem.le (c_law_worth w mg mb) (by decide)) (LSem.cons (ESem.var 6) LSem.nil)) LSem.nil))) hnd (fun env h => by cases env; cases h; rfl)) (BSem.cons (SSem.ret (ESem.ite (TSem.cmp (ESem.binop (ESem.sub (ESem.var 7) ESem.int) (ESem.sub (ESem.var 8) ESem.int)) (ESem.binop (ESem.sub (ESem.var 8) ESem.int) (ESem.sub (ESem.var 7) ESem.int))) (ESem.tuple (LSem.cons (ESem.var 5) (LSem.cons (ESem.var 6) LSem.nil))) (ESem.tuple (LSem.cons (ESem.var 6) (LSem.cons (ESem.var 5) LSem.nil))))) BSem.nil))))))
theorem c_law_times (w : World) (mg mb : Str → Option Value) : CSem (WW w mg mb) 1 (.ref 280) F_law_times :=
  have hnd : ([Str.ofString "a", Str.ofString "b"] : List Str).Nodup := by decide +kernel
  CSem.of_bodyL (n := 0) (tab := [Str.ofString "a", Str.ofString "b"]) (names := [Str.ofString "a", Str.ofString "b"]) (k := 2) (m := 0) (dv := []) (dd := []) (by rfl) rfl rfl rfl rfl rfl (by kernel_rfl) rfl rfl rfl
    (fun s vs X hl => by
      match vs, hl with
      | [a0, a1], _ => exact kp_binds X (fun S => by kernel_rfl))
    rfl (fun _ _ => .nil) rfl (by decide +kernel) (by decide +kernel)
    (BSem.cons (SSem.ret (ESem.tuple (LSem.cons (ESem.binop (ESem.sub (ESem.var 0) ESem.int) (ESem.sub (ESem.var 1) ESem.int)) (LSem.cons (ESem.binop (ESem.sub (ESem.var 0) ESem.int) (ESem.sub (ESem.var 1) ESem.int)) LSem.nil)))) BSem.nil)
theorem c_law_less (w : World) (mg mb : Str → Option Value) : CSem (WW w mg mb) 1 (.ref 287) F_law_less :=
  have hnd : ([Str.ofString "a", Str.ofString "b"] : List Str).Nodup := by decide +kernel
  CSem.of_bodyL (n := 0) (tab := [Str.ofString "a", Str.ofString "b"]) (names := [Str.ofString "a", Str.ofString "b"]) (k := 2) (m := 0) (dv := []) (dd := []) (by rfl) rfl rfl rfl rfl rfl (by kernel_rfl) rfl rfl rfl
    (fun s vs X hl => by
      match vs, hl with
      | [a0, a1], _ => exact kp_binds X (fun S => by kernel_rfl))
    rfl (fun _ _ => .nil) rfl (by decide +kernel) (by decide +kernel)
    (BSem.cons (SSem.ret (ESem.cmp (ESem.binop (ESem.sub (ESem.var 0) ESem.int) (ESem.sub (ESem.var 1) ESem.int)) (ESem.binop (ESem.sub (ESem.var 1) ESem.int) (ESem.sub (ESem.var 0) ESem.int)))) BSem.nil)
theorem c_law_ends (w : World) (mg mb : Str → Option Value) : CSem (WW w mg mb) 2 (.ref 294) F_law_ends :=
  have hnd : ([Str.ofString "rows", Str.ofString "least", Str.ofString "most", Str.ofString "one"] : List Str).Nodup := by decide +kernel
  CSem.of_bodyL (n := 1) (tab := [Str.ofString "rows", Str.ofString "least", Str.ofString "most", Str.ofString "one"]) (names := [Str.ofString "rows"]) (k := 1) (m := 3) (dv := []) (dd := []) (by rfl) rfl rfl rfl rfl rfl (by kernel_rfl) rfl rfl rfl
    (fun s vs X hl => by
      match vs, hl with
      | [a0], _ => exact kp_binds X (fun S => by kernel_rfl))
    rfl (fun _ _ => .nil) rfl (by decide +kernel) (by decide +kernel)
    (BSem.cons (SSem.unpackN (names := [Str.ofString "least", Str.ofString "most"]) (rn := [Str.ofString "most", Str.ofString "least"]) (is := [1, 2]) (ri := [2, 1]) (.cons 2 rfl rfl (.cons 1 rfl rfl .nil)) rfl rfl rfl (ESem.tuple (LSem.cons (ESem.sub (ESem.var 0) ESem.int) (LSem.cons (ESem.sub (ESem.var 0) ESem.int) LSem.nil))) hnd (fun env h => by cases env; cases h; rfl)) (BSem.cons (SSem.for 3 (ESem.var 0) (BSem.cons (SSem.set 1 (ESem.ite (TSem.plain (ESem.call hv_law_less (hk_law_less w) (CSem.le (c_law_less w mg mb) (by decide)) (LSem.cons (ESem.var 3) (LSem.cons (ESem.var 1) LSem.nil)))) (ESem.var 3) (ESem.var 1)) hnd) (BSem.cons (SSem.set 2 (ESem.ite (TSem.plain (ESem.call hv_law_less (hk_law_less w) (CSem.le (c_law_less w mg mb) (by decide)) (LSem.cons (ESem.var 2) (LSem.cons (ESem.var 3) LSem.nil)))) (ESem.var 3) (ESem.var 2)) hnd) BSem.nil)) hnd) (BSem.cons (SSem.ret (ESem.tuple (LSem.cons (ESem.var 1) (LSem.cons (ESem.var 2) LSem.nil)))) BSem.nil)))
theorem c_law_over (w : World) (mg mb : Str → Option Value) : CSem (WW w mg mb) 1 (.ref 301) F_law_over :=
  have hnd : ([Str.ofString "a", Str.ofString "b", Str.ofString "above", Str.ofString "below"] : List Str).Nodup := by decide +kernel
  CSem.of_bodyL (n := 0) (tab := [Str.ofString "a", Str.ofString "b", Str.ofString "above", Str.ofString "below"]) (names := [Str.ofString "a", Str.ofString "b"]) (k := 2) (m := 2) (dv := []) (dd := []) (by rfl) rfl rfl rfl rfl rfl (by kernel_rfl) rfl rfl rfl
    (fun s vs X hl => by
      match vs, hl with
      | [a0, a1], _ => exact kp_binds X (fun S => by kernel_rfl))
    rfl (fun _ _ => .nil) rfl (by decide +kernel) (by decide +kernel)
    (BSem.cons (SSem.unpackN (names := [Str.ofString "above", Str.ofString "below"]) (rn := [Str.ofString "below", Str.ofString "above"]) (is := [2, 3]) (ri := [3, 2]) (.cons 3 rfl rfl (.cons 2 rfl rfl .nil)) rfl rfl rfl (ESem.tuple (LSem.cons (ESem.binop (ESem.sub (ESem.var 0) ESem.int) (ESem.sub (ESem.var 1) ESem.int)) (LSem.cons (ESem.binop (ESem.sub (ESem.var 0) ESem.int) (ESem.sub (ESem.var 1) ESem.int)) LSem.nil))) hnd (fun env h => by cases env; cases h; rfl)) (BSem.cons (SSem.ret (ESem.ite (TSem.cmp (ESem.var 3) ESem.int) (ESem.tuple (LSem.cons (ESem.neg (ESem.var 2)) (LSem.cons (ESem.neg (ESem.var 3)) LSem.nil))) (ESem.tuple (LSem.cons (ESem.var 2) (LSem.cons (ESem.var 3) LSem.nil))))) BSem.nil))
theorem c_law_held (w : World) (mg mb : Str → Option Value) : CSem (WW w mg mb) 2 (.ref 308) F_law_held :=
  have hnd : ([Str.ofString "told", Str.ofString "least", Str.ofString "most", Str.ofString "prec"] : List Str).Nodup := by decide +kernel
  CSem.of_bodyL (n := 1) (tab := [Str.ofString "told", Str.ofString "least", Str.ofString "most", Str.ofString "prec"]) (names := [Str.ofString "told", Str.ofString "least", Str.ofString "most", Str.ofString "prec"]) (k := 4) (m := 0) (dv := []) (dd := []) (by rfl) rfl rfl rfl rfl rfl (by kernel_rfl) rfl rfl rfl
    (fun s vs X hl => by
      match vs, hl with
      | [a0, a1, a2, a3], _ => exact kp_binds X (fun S => by kernel_rfl))
    rfl (fun _ _ => .nil) rfl (by decide +kernel) (by decide +kernel)
    (BSem.cons (SSem.ret (ESem.cmp (ESem.var 0) (ESem.tuple (LSem.cons (ESem.call hv_law_rounded (hk_law_rounded w) (CSem.le (c_law_rounded w mg mb) (by decide)) (LSem.cons (ESem.sub (ESem.var 1) ESem.int) (LSem.cons (ESem.sub (ESem.var 1) ESem.int) (LSem.cons (ESem.var 3) (LSem.cons ESem.str LSem.nil))))) (LSem.cons (ESem.call hv_law_rounded (hk_law_rounded w) (CSem.le (c_law_rounded w mg mb) (by decide)) (LSem.cons (ESem.sub (ESem.var 2) ESem.int) (LSem.cons (ESem.sub (ESem.var 2) ESem.int) (LSem.cons (ESem.var 3) (LSem.cons ESem.str LSem.nil))))) LSem.nil))))) BSem.nil)
theorem c_law_quotient_right (w : World) (mg mb : Str → Option Value) : CSem (WW w mg mb) 7 (.ref 313) F_law_quotient_right :=
  have hnd : ([Str.ofString "s", Str.ofString "t", Str.ofString "a", Str.ofString "b", Str.ofString "prec", Str.ofString "told", Str.ofString "less", Str.ofString "great", Str.ofString "least", Str.ofString "most", Str.ofString "far", Str.ofString "ends"] : List Str).Nodup := by decide +kernel
  CSem.of_body (n := 6) (tab := [Str.ofString "s", Str.ofString "t", Str.ofString "a", Str.ofString "b", Str.ofString "prec", Str.ofString "told", Str.ofString "less", Str.ofString "great", Str.ofString "least", Str.ofString "most", Str.ofString "far", Str.ofString "ends"]) (names := [Str.ofString "s", Str.ofString "t", Str.ofString "a", Str.ofString "b", Str.ofString "prec"]) (k := 5) (m := 7) (dv := []) (dd := []) (by rfl) rfl rfl rfl rfl rfl (by kernel_rfl) rfl rfl rfl
    (fun s vs X hl => by
      match vs, hl with
      | [a0, a1, a2, a3, a4], _ => exact kp_binds X (fun S => by kernel_rfl))
    rfl (fun _ _ => .nil) rfl (by decide +kernel) (by intro x hx; simp only [List.mem_cons, List.not_mem_nil, or_false] at hx; (repeat' (rcases hx with rfl | hx)) <;> first | exact .inl rfl | exact .inr ⟨rfl, fun _ => rfl⟩ | (subst hx; first | exact .inl rfl | exact .inr ⟨rfl, fun _ => rfl⟩))
    (BSem.cons (SSem.unpackN (names := [Str.ofString "told", Str.ofString "less", Str.ofString "great"]) (rn := [Str.ofString "great", Str.ofString "less", Str.ofString "told"]) (is := [5, 6, 7]) (ri := [7, 6, 5]) (.cons 7 rfl rfl (.cons 6 rfl rfl (.cons 5 rfl rfl .nil))) rfl rfl rfl (ESem.tuple (LSem.cons (ESem.call hv_mpi_div (hk_mpi_div w) (CSem.le (c_mpi_div w mg mb) (by decide)) (LSem.cons (ESem.var 0) (LSem.cons (ESem.var 1) (LSem.cons (ESem.var 4) LSem.nil)))) (LSem.cons (ESem.tuple (LSem.cons ESem.int (LSem.cons ESem.int (LSem.cons (ESem.neg ESem.int) (LSem.cons (ESem.neg ESem.int) LSem.nil))))) (LSem.cons (ESem.tuple (LSem.cons ESem.int (LSem.cons ESem.int (LSem.cons (ESem.neg ESem.int) (LSem.cons (ESem.neg ESem.int) LSem.nil))))) LSem.nil)))) hnd (fun env h => by cases env; cases h; rfl)) (BSem.cons (SSem.ife (TSem.or1 (TSem.cmp (ESem.sub (ESem.sub (ESem.var 3) ESem.int) ESem.int) ESem.int) (TSem.or1 (TSem.cmp (ESem.sub (ESem.sub (ESem.var 3) ESem.int) ESem.int) ESem.int) TSem.or0)) (BSem.cons (SSem.unpack (.cons 8 rfl rfl (.cons 9 rfl rfl .nil)) (ESem.call hv_law_ends (hk_law_ends w) (CSem.le (c_law_ends w mg mb) (by decide)) (LSem.cons (ESem.comp2F (tab' := [Str.ofString "x", Str.ofString "y", Str.ofString "b"]) (x := Str.ofString "b") 3 2 3 (ESem.var 2) (ESem.call hv_law_over (hk_law_over w) (CSem.le (c_law_over w mg mb) (by decide)) (LSem.cons (ESem.var 0) (LSem.cons (ESem.var 1) LSem.nil))) (ASem.name 0 (by decide)) (ESem.var 2) (ASem.name 1 (by decide)) (by intro env c hc; have hc' : cellOf env _ = pure c := (by unfold cellOf; rw [hc]); unfold closureFor; simp [hc'])) LSem.nil)) hnd) (BSem.cons (SSem.ret (ESem.call hv_law_held (hk_law_held w) (CSem.le (c_law_held w mg mb) (by decide)) (LSem.cons (ESem.var 5) (LSem.cons (ESem.var 8) (LSem.cons (ESem.var 9) (LSem.cons (ESem.var 4) LSem.nil)))))) BSem.nil)) BSem.nil) (BSem.cons (SSem.ife (TSem.or1 (TSem.and1 (TSem.cmp (ESem.sub (ESem.sub (ESem.var 3) ESem.int) ESem.int) ESem.int) (TSem.and1 (TSem.cmp (ESem.sub (ESem.sub (ESem.var 3) ESem.int) ESem.int) ESem.int) TSem.and0)) (TSem.or1 (TSem.and1 (TSem.cmp (ESem.sub (ESem.sub (ESem.var 3) ESem.int) ESem.int) ESem.int) (TSem.and1 (TSem.cmp (ESem.sub (ESem.sub (ESem.var 3) ESem.int) ESem.int) ESem.int) TSem.and0)) TSem.or0)) (BSem.cons (SSem.set 10 (ESem.ite (TSem.cmp (ESem.sub (ESem.sub (ESem.var 3) ESem.int) ESem.int) ESem.int) (ESem.sub (ESem.var 3) ESem.int) (ESem.sub (ESem.var 3) ESem.int)) hnd) (BSem.cons (SSem.set 11 (ESem.list (LSem.cons (ESem.call hv_law_over (hk_law_over w) (CSem.le (c_law_over w mg mb) (by decide)) (LSem.cons (ESem.sub (ESem.var 2) ESem.int) (LSem.cons (ESem.var 10) LSem.nil))) (LSem.cons (ESem.call hv_law_over (hk_law_over w) (CSem.le (c_law_over w mg mb) (by decide)) (LSem.cons (ESem.sub (ESem.var 2) ESem.int) (LSem.cons (ESem.var 10) LSem.nil))) LSem.nil))) hnd) (BSem.cons (SSem.unpack (.cons 8 rfl rfl (.cons 9 rfl rfl .nil)) (ESem.call hv_law_ends (hk_law_ends w) (CSem.le (c_law_ends w mg mb) (by decide)) (LSem.cons (ESem.var 11) LSem.nil)) hnd) (BSem.cons (SSem.ife (TSem.or1 (TSem.and1 (TSem.cmp (ESem.sub (ESem.sub (ESem.var 2) ESem.int) ESem.int) ESem.int) (TSem.and1 (TSem.cmp (ESem.sub (ESem.sub (ESem.var 2) ESem.int) ESem.int) ESem.int) TSem.and0)) (TSem.or1 (TSem.and1 (TSem.cmp (ESem.sub (ESem.sub (ESem.var 2) ESem.int) ESem.int) ESem.int) (TSem.and1 (TSem.cmp (ESem.sub (ESem.sub (ESem.var 2) ESem.int) ESem.int) ESem.int) TSem.and0)) TSem.or0)) (BSem.cons (SSem.ret (ESem.cmp (ESem.var 5) (ESem.tuple (LSem.cons (ESem.var 6) (LSem.cons (ESem.var 7) LSem.nil))))) BSem.nil) BSem.nil) (BSem.cons (SSem.ife (TSem.cmp (ESem.sub (ESem.var 8) ESem.int) ESem.int) (BSem.cons (SSem.ret (ESem.cmp (ESem.var 5) (ESem.tuple (LSem.cons (ESem.call hv_law_rounded (hk_law_rounded w) (CSem.le (c_law_rounded w mg mb) (by decide)) (LSem.cons (ESem.sub (ESem.var 8) ESem.int) (LSem.cons (ESem.sub (ESem.var 8) ESem.int) (LSem.cons (ESem.var 4) (LSem.cons ESem.str LSem.nil))))) (LSem.cons (ESem.var 7) LSem.nil))))) BSem.nil) BSem.nil) (BSem.cons (SSem.ret (ESem.cmp (ESem.var 5) (ESem.tuple (LSem.cons (ESem.var 6) (LSem.cons (ESem.call hv_law_rounded (hk_law_rounded w) (CSem.le (c_law_rounded w mg mb) (by decide)) (LSem.cons (ESem.sub (ESem.var 9) ESem.int) (LSem.cons (ESem.sub (ESem.var 9) ESem.int) (LSem.cons (ESem.var 4) (LSem.cons ESem.str LSem.nil))))) LSem.nil))))) BSem.nil)))))) BSem.nil) (BSem.cons (SSem.ret (ESem.cmp (ESem.var 5) (ESem.tuple (LSem.cons (ESem.var 6) (LSem.cons (ESem.var 7) LSem.nil))))) BSem.nil))))
theorem c_law_root_right (w : World) (mg mb : Str → Option Value) : CSem (WW w mg mb) 7 (.ref 320) F_law_root_right :=
  have hnd : ([Str.ofString "s", Str.ofString "a", Str.ofString "prec", Str.ofString "low", Str.ofString "high", Str.ofString "one", Str.ofString "other", Str.ofString "step", Str.ofString "more", Str.ofString "fine", Str.ofString "less"] : List Str).Nodup := by decide +kernel
  CSem.of_bodyL (n := 6) (tab := [Str.ofString "s", Str.ofString "a", Str.ofString "prec", Str.ofString "low", Str.ofString "high", Str.ofString "one", Str.ofString "other", Str.ofString "step", Str.ofString "more", Str.ofString "fine", Str.ofString "less"]) (names := [Str.ofString "s", Str.ofString "a", Str.ofString "prec"]) (k := 3) (m := 8) (dv := []) (dd := []) (by rfl) rfl rfl rfl rfl rfl (by kernel_rfl) rfl rfl rfl
    (fun s vs X hl => by
      match vs, hl with
      | [a0, a1, a2], _ => exact kp_binds X (fun S => by kernel_rfl))
    rfl (fun _ _ => .nil) rfl (by decide +kernel) (by decide +kernel)
    (BSem.cons (SSem.tryOk (BSem.cons (SSem.unpack (.cons 3 rfl rfl (.cons 4 rfl rfl .nil)) (ESem.call hv_mpi_sqrt (hk_mpi_sqrt w) (CSem.le (c_mpi_sqrt w mg mb) (by decide)) (LSem.cons (ESem.var 0) (LSem.cons (ESem.var 2) LSem.nil))) hnd) BSem.nil)) (BSem.cons (SSem.ife (TSem.or1 (TSem.cmp (ESem.sub (ESem.sub (ESem.var 1) ESem.int) ESem.int) ESem.int) (TSem.or1 (TSem.cmp (ESem.sub (ESem.var 3) ESem.int) ESem.int) (TSem.or1 (TSem.cmp (ESem.sub (ESem.var 4) ESem.int) ESem.int) (TSem.or1 (TSem.cmp (ESem.sub (ESem.var 3) ESem.int) (ESem.var 2)) (TSem.or1 (TSem.cmp (ESem.sub (ESem.var 4) ESem.int) (ESem.var 2)) TSem.or0))))) (BSem.cons (SSem.ret ESem.bool) BSem.nil) BSem.nil) (BSem.cons (SSem.unpackN (names := [Str.ofString "one", Str.ofString "other"]) (rn := [Str.ofString "other", Str.ofString "one"]) (is := [5, 6]) (ri := [6, 5]) (.cons 6 rfl rfl (.cons 5 rfl rfl .nil)) rfl rfl rfl (ESem.tuple (LSem.cons (ESem.call hv_law_worth (hk_law_worth w) (CSem.le (c_law_worth w mg mb) (by decide)) (LSem.cons (ESem.var 3) LSem.nil)) (LSem.cons (ESem.call hv_law_worth (hk_law_worth w) (CSem.le (c_law_worth w mg mb) (by decide)) (LSem.cons (ESem.var 4) LSem.nil)) LSem.nil))) hnd (fun env h => by cases env; cases h; rfl)) (BSem.cons (SSem.ife (TSem.or1 (TSem.plain (ESem.call hv_law_less (hk_law_less w) (CSem.le (c_law_less w mg mb) (by decide)) (LSem.cons (ESem.sub (ESem.var 1) ESem.int) (LSem.cons (ESem.call hv_law_times (hk_law_times w) (CSem.le (c_law_times w mg mb) (by decide)) (LSem.cons (ESem.var 5) (LSem.cons (ESem.var 5) LSem.nil))) LSem.nil)))) (TSem.or1 (TSem.plain (ESem.call hv_law_less (hk_law_less w) (CSem.le (c_law_less w mg mb) (by decide)) (LSem.cons (ESem.call hv_law_times (hk_law_times w) (CSem.le (c_law_times w mg mb) (by decide)) (LSem.cons (ESem.var 6) (LSem.cons (ESem.var 6) LSem.nil))) (LSem.cons (ESem.sub (ESem.var 1) ESem.int) LSem.nil)))) TSem.or0)) (BSem.cons (SSem.ret ESem.bool) BSem.nil) BSem.nil) (BSem.cons (SSem.set 7 (ESem.binop ESem.int (ESem.binop (ESem.var 2) (ESem.sub (ESem.var 3) ESem.int))) hnd) (BSem.cons (SSem.set 8 (ESem.call hv_law_worth (hk_law_worth w) (CSem.le (c_law_worth w mg mb) (by decide)) (LSem.cons (ESem.tuple (LSem.cons ESem.int (LSem.cons (ESem.binop (ESem.binop (ESem.sub (ESem.var 3) ESem.int) (ESem.var 7)) ESem.int) (LSem.cons (ESem.binop (ESem.binop (ESem.sub (ESem.var 3) ESem.int) (ESem.var 2)) (ESem.sub (ESem.var 3) ESem.int)) (LSem.cons ESem.int LSem.nil))))) LSem.nil)) hnd) (BSem.cons (SSem.set 9 (ESem.ite (TSem.cmp (ESem.sub (ESem.var 4) ESem.int) ESem.int) (ESem.binop (ESem.var 2) ESem.int) (ESem.var 2)) hnd) (BSem.cons (SSem.set 10 (ESem.call hv_law_worth (hk_law_worth w) (CSem.le (c_law_worth w mg mb) (by decide)) (LSem.cons (ESem.tuple (LSem.cons ESem.int (LSem.cons (ESem.binop (ESem.binop (ESem.sub (ESem.var 4) ESem.int) (ESem.binop ESem.int (ESem.binop (ESem.var 9) (ESem.sub (ESem.var 4) ESem.int)))) ESem.int) (LSem.cons (ESem.binop (ESem.binop (ESem.sub (ESem.var 4) ESem.int) (ESem.var 9)) (ESem.sub (ESem.var 4) ESem.int)) (LSem.cons ESem.int LSem.nil))))) LSem.nil)) hnd) (BSem.cons (SSem.ife (TSem.and1 (TSem.cmp (ESem.sub (ESem.sub (ESem.var 1) ESem.int) ESem.int) ESem.int) (TSem.and1 (TSem.not (TSem.plain (ESem.call hv_law_less (hk_law_less w) (CSem.le (c_law_less w mg mb) (by decide)) (LSem.cons (ESem.sub (ESem.var 1) ESem.int) (LSem.cons (ESem.call hv_law_times (hk_law_times w) (CSem.le (c_law_times w mg mb) (by decide)) (LSem.cons (ESem.var 8) (LSem.cons (ESem.var 8) LSem.nil))) LSem.nil))))) TSem.and0)) (BSem.cons (SSem.ret ESem.bool) BSem.nil) BSem.nil) (BSem.cons (SSem.ret (ESem.or (ESem.and (ESem.cmp (ESem.sub (ESem.sub (ESem.var 1) ESem.int) ESem.int) ESem.int) (ESem.bop1 (ESem.cmp (ESem.sub (ESem.var 4) ESem.int) ESem.int))) (ESem.bop1 (ESem.and (ESem.cmp (ESem.sub (ESem.sub (ESem.var 1) ESem.int) ESem.int) ESem.int) (ESem.bop1 (ESem.call hv_law_less (hk_law_less w) (CSem.le (c_law_less w mg mb) (by decide)) (LSem.cons (ESem.call hv_law_times (hk_law_times w) (CSem.le (c_law_times w mg mb) (by decide)) (LSem.cons (ESem.var 10) (LSem.cons (ESem.var 10) LSem.nil))) (LSem.cons (ESem.sub (ESem.var 1) ESem.int) LSem.nil)))))))) BSem.nil))))))))))
theorem c_law_power (w : World) (mg mb : Str → Option Value) : CSem (WW w mg mb) 1 (.ref 327) F_law_power :=
  have hnd : ([Str.ofString "a", Str.ofString "n"] : List Str).Nodup := by decide +kernel
  CSem.of_bodyL (n := 0) (tab := [Str.ofString "a", Str.ofString "n"]) (names := [Str.ofString "a", Str.ofString "n"]) (k := 2) (m := 0) (dv := []) (dd := []) (by rfl) rfl rfl rfl rfl rfl (by kernel_rfl) rfl rfl rfl
    (fun s vs X hl => by
      match vs, hl with
      | [a0, a1], _ => exact kp_binds X (fun S => by kernel_rfl))
    rfl (fun _ _ => .nil) rfl (by decide +kernel) (by decide +kernel)
    (BSem.cons (SSem.ret (ESem.tuple (LSem.cons (ESem.binop (ESem.sub (ESem.var 0) ESem.int) (ESem.var 1)) (LSem.cons (ESem.binop (ESem.sub (ESem.var 0) ESem.int) (ESem.var 1)) LSem.nil)))) BSem.nil)
theorem c_law_power_right (w : World) (mg mb : Str → Option Value) : CSem (WW w mg mb) 13 (.ref 332) F_law_power_right :=
  have hnd : ([Str.ofString "s", Str.ofString "a", Str.ofString "n", Str.ofString "prec", Str.ofString "told", Str.ofString "rows", Str.ofString "least", Str.ofString "most", Str.ofString "low", Str.ofString "high", Str.ofString "near"] : List Str).Nodup := by decide +kernel
  CSem.of_body (n := 12) (tab := [Str.ofString "s", Str.ofString "a", Str.ofString "n", Str.ofString "prec", Str.ofString "told", Str.ofString "rows", Str.ofString "least", Str.ofString "most", Str.ofString "low", Str.ofString "high", Str.ofString "near"]) (names := [Str.ofString "s", Str.ofString "a", Str.ofString "n", Str.ofString "prec"]) (k := 4) (m := 7) (dv := []) (dd := []) (by rfl) rfl rfl rfl rfl rfl (by kernel_rfl) rfl rfl rfl
    (fun s vs X hl => by
      match vs, hl with
      | [a0, a1, a2, a3], _ => exact kp_binds X (fun S => by kernel_rfl))
    rfl (fun _ _ => .nil) rfl (by decide +kernel) (by intro x hx; simp only [List.mem_cons, List.not_mem_nil, or_false] at hx; (repeat' (rcases hx with rfl | hx)) <;> first | exact .inl rfl | exact .inr ⟨rfl, fun _ => rfl⟩ | (subst hx; first | exact .inl rfl | exact .inr ⟨rfl, fun _ => rfl⟩))
    (BSem.cons (SSem.ife (TSem.and1 (TSem.cmp (ESem.var 2) ESem.int) (TSem.and1 (TSem.cmp (ESem.sub (ESem.sub (ESem.var 1) ESem.int) ESem.int) ESem.int) (TSem.and1 (TSem.cmp (ESem.sub (ESem.sub (ESem.var 1) ESem.int) ESem.int) ESem.int) TSem.and0))) (BSem.cons (SSem.ret ESem.bool) BSem.nil) BSem.nil) (BSem.cons (SSem.set 4 (ESem.call hv_mpi_pow_int (hk_mpi_pow_int w) (CSem.le (c_mpi_pow_int w mg mb) (by decide)) (LSem.cons (ESem.var 0) (LSem.cons (ESem.var 2) (LSem.cons (ESem.var 3) LSem.nil)))) hnd) (BSem.cons (SSem.ife (TSem.cmp (ESem.var 2) ESem.int) (BSem.cons (SSem.ret (ESem.cmp (ESem.var 4) (ESem.var 0))) BSem.nil) BSem.nil) (BSem.cons (SSem.set 5 (ESem.list (LSem.cons (ESem.call hv_law_power (hk_law_power w) (CSem.le (c_law_power w mg mb) (by decide)) (LSem.cons (ESem.sub (ESem.var 1) ESem.int) (LSem.cons (ESem.callB hn_abs (by rfl) abs_sem (LSem.cons (ESem.var 2) LSem.nil)) LSem.nil))) (LSem.cons (ESem.call hv_law_power (hk_law_power w) (CSem.le (c_law_power w mg mb) (by decide)) (LSem.cons (ESem.sub (ESem.var 1) ESem.int) (LSem.cons (ESem.callB hn_abs (by rfl) abs_sem (LSem.cons (ESem.var 2) LSem.nil)) LSem.nil))) LSem.nil))) hnd) (BSem.cons (SSem.ife (TSem.and1 (TSem.cmp (ESem.binop (ESem.var 2) ESem.int) ESem.int) (TSem.and1 (TSem.cmp (ESem.var 2) ESem.int) (TSem.and1 (TSem.cmp (ESem.sub (ESem.sub (ESem.var 1) ESem.int) ESem.int) ESem.int) (TSem.and1 (TSem.cmp (ESem.sub (ESem.sub (ESem.var 1) ESem.int) ESem.int) ESem.int) TSem.and0)))) (BSem.cons (SSem.set 5 (ESem.binop (ESem.var 5) (ESem.list (LSem.cons (ESem.tuple (LSem.cons ESem.int (LSem.cons ESem.int LSem.nil))) LSem.nil))) hnd) BSem.nil) BSem.nil) (BSem.cons (SSem.ife (TSem.cmp (ESem.var 2) ESem.int) (BSem.cons (SSem.comp1N (tab' := [Str.ofString "row"]) 5 1 (ESem.var 5) (ESem.call hv_law_over (hk_law_over w) (CSem.le (c_law_over w mg mb) (by decide)) (LSem.cons (ESem.tuple (LSem.cons ESem.int (LSem.cons ESem.int LSem.nil))) (LSem.cons (ESem.var 0) LSem.nil))) (ASem.name 0 (by decide)) hnd (fun env h => by cases env; cases h; rfl)) BSem.nil) BSem.nil) (BSem.cons (SSem.unpack (.cons 6 rfl rfl (.cons 7 rfl rfl .nil)) (ESem.call hv_law_ends (hk_law_ends w) (CSem.le (c_law_ends w mg mb) (by decide)) (LSem.cons (ESem.var 5) LSem.nil)) hnd) (BSem.cons (SSem.ife (TSem.cmp (ESem.var 2) ESem.int) (BSem.cons (SSem.ret (ESem.call hv_law_held (hk_law_held w) (CSem.le (c_law_held w mg mb) (by decide)) (LSem.cons (ESem.var 4) (LSem.cons (ESem.var 6) (LSem.cons (ESem.var 7) (LSem.cons (ESem.var 3) LSem.nil)))))) BSem.nil) BSem.nil) (BSem.cons (SSem.unpackN (names := [Str.ofString "low", Str.ofString "high"]) (rn := [Str.ofString "high", Str.ofString "low"]) (is := [8, 9]) (ri := [9, 8]) (.cons 9 rfl rfl (.cons 8 rfl rfl .nil)) rfl rfl rfl (ESem.tuple (LSem.cons (ESem.call hv_law_worth (hk_law_worth w) (CSem.le (c_law_worth w mg mb) (by decide)) (LSem.cons (ESem.sub (ESem.var 4) ESem.int) LSem.nil)) (LSem.cons (ESem.call hv_law_worth (hk_law_worth w) (CSem.le (c_law_worth w mg mb) (by decide)) (LSem.cons (ESem.sub (ESem.var 4) ESem.int) LSem.nil)) LSem.nil))) hnd (fun env h => by cases env; cases h; rfl)) (BSem.cons (SSem.ife (TSem.or1 (TSem.plain (ESem.call hv_law_less (hk_law_less w) (CSem.le (c_law_less w mg mb) (by decide)) (LSem.cons (ESem.var 6) (LSem.cons (ESem.var 8) LSem.nil)))) (TSem.or1 (TSem.plain (ESem.call hv_law_less (hk_law_less w) (CSem.le (c_law_less w mg mb) (by decide)) (LSem.cons (ESem.var 9) (LSem.cons (ESem.var 7) LSem.nil)))) TSem.or0)) (BSem.cons (SSem.ret ESem.bool) BSem.nil) BSem.nil) (BSem.cons (SSem.set 10 (ESem.list (LSem.cons (ESem.tuple (LSem.cons (ESem.binop (ESem.binop (ESem.sub (ESem.var 6) ESem.int) (ESem.sub (ESem.var 8) ESem.int)) (ESem.binop (ESem.sub (ESem.var 8) ESem.int) (ESem.sub (ESem.var 6) ESem.int))) (LSem.cons (ESem.binop (ESem.sub (ESem.var 6) ESem.int) (ESem.sub (ESem.var 8) ESem.int)) (LSem.cons (ESem.var 6) LSem.nil)))) (LSem.cons (ESem.tuple (LSem.cons (ESem.binop (ESem.binop (ESem.sub (ESem.var 9) ESem.int) (ESem.sub (ESem.var 7) ESem.int)) (ESem.binop (ESem.sub (ESem.var 7) ESem.int) (ESem.sub (ESem.var 9) ESem.int))) (LSem.cons (ESem.binop (ESem.sub (ESem.var 7) ESem.int) (ESem.sub (ESem.var 9) ESem.int)) (LSem.cons (ESem.var 7) LSem.nil)))) LSem.nil))) hnd) (BSem.cons (SSem.ret (ESem.callB hn_all (by rfl) all_sem (LSem.cons (ESem.comp1F (tab' := [Str.ofString "gap", Str.ofString "below", Str.ofString "row", Str.ofString "prec"]) (x := Str.ofString "prec") 3 3 4 (ESem.var 10) (ESem.cmp (ESem.binop (ESem.binop (ESem.var 0) (ESem.binop ESem.int (ESem.var 3))) (ESem.sub (ESem.var 2) ESem.int)) (ESem.binop (ESem.binop ESem.int (ESem.var 1)) (ESem.callB hn_abs (by rfl) abs_sem (LSem.cons (ESem.sub (ESem.var 2) ESem.int) LSem.nil)))) (ASem.tup (.cons 0 rfl rfl (.cons 1 rfl rfl (.cons 2 rfl rfl .nil))) (by decide)) (by intro env c hc; have hc' : cellOf env _ = pure c := (by unfold cellOf; rw [hc]); unfold closureFor; simp [hc'])) LSem.nil))) BSem.nil))))))))))))
theorem c_law (w : World) (mg mb : Str → Option Value) : CSem (WW w mg mb) 14 (.ref 337) F_law :=
  have hnd : ([Str.ofString "script", Str.ofString "first", Str.ofString "prec", Str.ofString "n", Str.ofString "s", Str.ofString "t", Str.ofString "a", Str.ofString "b"] : List Str).Nodup := by decide +kernel
  CSem.of_bodyL (n := 13) (tab := [Str.ofString "script", Str.ofString "first", Str.ofString "prec", Str.ofString "n", Str.ofString "s", Str.ofString "t", Str.ofString "a", Str.ofString "b"]) (names := [Str.ofString "script"]) (k := 1) (m := 7) (dv := []) (dd := []) (by rfl) rfl rfl rfl rfl rfl (by kernel_rfl) rfl rfl rfl
    (fun s vs X hl => by
      match vs, hl with
      | [a0], _ => exact kp_binds X (fun S => by kernel_rfl))
    rfl (fun _ _ => .nil) rfl (by decide +kernel) (by decide +kernel)
    (BSem.cons (SSem.set 1 (ESem.call hv_law_mixed (hk_law_mixed w) (CSem.le (c_law_mixed w mg mb) (by decide)) (LSem.cons (ESem.var 0) (LSem.cons ESem.int LSem.nil))) hnd) (BSem.cons (SSem.unpackN (names := [Str.ofString "prec", Str.ofString "n"]) (rn := [Str.ofString "n", Str.ofString "prec"]) (is := [2, 3]) (ri := [3, 2]) (.cons 3 rfl rfl (.cons 2 rfl rfl .nil)) rfl rfl rfl (ESem.tuple (LSem.cons (ESem.binop ESem.int (ESem.binop (ESem.var 1) ESem.int)) (LSem.cons (ESem.binop (ESem.binop (ESem.binop (ESem.var 1) ESem.int) ESem.int) ESem.int) LSem.nil))) hnd (fun env h => by cases env; cases h; rfl)) (BSem.cons (SSem.unpackN (names := [Str.ofString "s", Str.ofString "t"]) (rn := [Str.ofString "t", Str.ofString "s"]) (is := [4, 5]) (ri := [5, 4]) (.cons 5 rfl rfl (.cons 4 rfl rfl .nil)) rfl rfl rfl (ESem.tuple (LSem.cons (ESem.call hv_law_span (hk_law_span w) (CSem.le (c_law_span w mg mb) (by decide)) (LSem.cons (ESem.var 0) (LSem.cons ESem.int (LSem.cons ESem.int (LSem.cons ESem.int LSem.nil))))) (LSem.cons (ESem.call hv_law_span (hk_law_span w) (CSem.le (c_law_span w mg mb) (by decide)) (LSem.cons (ESem.var 0) (LSem.cons ESem.int (LSem.cons ESem.int (LSem.cons ESem.int LSem.nil))))) LSem.nil))) hnd (fun env h => by cases env; cases h; rfl)) (BSem.cons (SSem.unpackN (names := [Str.ofString "a", Str.ofString "b"]) (rn := [Str.ofString "b", Str.ofString "a"]) (is := [6, 7]) (ri := [7, 6]) (.cons 7 rfl rfl (.cons 6 rfl rfl .nil)) rfl rfl rfl (ESem.tuple (LSem.cons (ESem.comp1N (tab' := [Str.ofString "end"]) 1 (ESem.var 4) (ESem.call hv_law_worth (hk_law_worth w) (CSem.le (c_law_worth w mg mb) (by decide)) (LSem.cons (ESem.var 0) LSem.nil)) (ASem.name 0 (by decide)) ) (LSem.cons (ESem.comp1N (tab' := [Str.ofString "end"]) 1 (ESem.var 5) (ESem.call hv_law_worth (hk_law_worth w) (CSem.le (c_law_worth w mg mb) (by decide)) (LSem.cons (ESem.var 0) LSem.nil)) (ASem.name 0 (by decide)) ) LSem.nil))) hnd (fun env h => by cases env; cases h; rfl)) (BSem.cons (SSem.ife (TSem.or1 (TSem.not (TSem.plain (ESem.call hv_law_quotient_right (hk_law_quotient_right w) (CSem.le (c_law_quotient_right w mg mb) (by decide)) (LSem.cons (ESem.var 4) (LSem.cons (ESem.var 5) (LSem.cons (ESem.var 6) (LSem.cons (ESem.var 7) (LSem.cons (ESem.var 2) LSem.nil)))))))) (TSem.or1 (TSem.not (TSem.plain (ESem.call hv_law_quotient_right (hk_law_quotient_right w) (CSem.le (c_law_quotient_right w mg mb) (by decide)) (LSem.cons (ESem.var 5) (LSem.cons (ESem.var 4) (LSem.cons (ESem.var 7) (LSem.cons (ESem.var 6) (LSem.cons (ESem.var 2) LSem.nil)))))))) TSem.or0)) (BSem.cons (SSem.ret ESem.bool) BSem.nil) BSem.nil) (BSem.cons (SSem.ife (TSem.or1 (TSem.not (TSem.plain (ESem.call hv_law_root_right (hk_law_root_right w) (CSem.le (c_law_root_right w mg mb) (by decide)) (LSem.cons (ESem.var 4) (LSem.cons (ESem.var 6) (LSem.cons (ESem.var 2) LSem.nil)))))) (TSem.or1 (TSem.not (TSem.plain (ESem.call hv_law_root_right (hk_law_root_right w) (CSem.le (c_law_root_right w mg mb) (by decide)) (LSem.cons (ESem.var 5) (LSem.cons (ESem.var 7) (LSem.cons (ESem.var 2) LSem.nil)))))) TSem.or0)) (BSem.cons (SSem.ret ESem.bool) BSem.nil) BSem.nil) (BSem.cons (SSem.ret (ESem.and (ESem.call hv_law_power_right (hk_law_power_right w) (CSem.le (c_law_power_right w mg mb) (by decide)) (LSem.cons (ESem.var 4) (LSem.cons (ESem.var 6) (LSem.cons (ESem.var 3) (LSem.cons (ESem.var 2) LSem.nil))))) (ESem.bop1 (ESem.call hv_law_power_right (hk_law_power_right w) (CSem.le (c_law_power_right w mg mb) (by decide)) (LSem.cons (ESem.var 5) (LSem.cons (ESem.var 7) (LSem.cons (ESem.var 3) (LSem.cons (ESem.var 2) LSem.nil)))))))) BSem.nil)))))))
end Mine

namespace Mine
set_option autoImplicit false
theorem hx_cls {w mg mb} : nsIn (WW w mg mb).K mainGlobals (Str.ofString "ComplexResult") = some (some (.ref 52)) := by kernel_rfl
theorem hx_exc {w mg mb} : excIn (WW w mg mb).K 52 [.type "ValueError", .type "Exception", .type "BaseException", .type "object"] "ValueError.__new__" = true := by kernel_rfl

theorem raise_sqrt (w : World) (mg mb : Str → Option Value) {A : Around} {s : Shared} {vs : List Value} {Q : Value → Shared → Prop} {E : Value → Shared → Prop} {base : Heap} {outer : List Env} {m e b : Int} {p r : D}
    (R : Room 5 A) (gd : (WW w mg mb).Gd s.heap) (hr : RepAll [] s.heap vs [.tup [.int 1, .int m, .int e, .int b], p, r]) (B : Below A base outer s.heap)
    (hE : ∀ a t ws h' tk, RaisedS base s.heap outer a (.ref 52) t ws [] h' → s.heap.UpToSlots h' → E (.ref a) { s with heap := h', toks := tk }) : wpAny (WW w mg mb).M A (call (.ref 201) vs) Q E s := by
  have hnd : ([Str.ofString "s", Str.ofString "prec", Str.ofString "rnd", Str.ofString "sign", Str.ofString "man", Str.ofString "exp", Str.ofString "bc", Str.ofString "shift", Str.ofString "rem"] : List Str).Nodup := by decide +kernel
  refine call_enter (n := 4) (tab := [Str.ofString "s", Str.ofString "prec", Str.ofString "rnd", Str.ofString "sign", Str.ofString "man", Str.ofString "exp", Str.ofString "bc", Str.ofString "shift", Str.ofString "rem"]) (names := [Str.ofString "s", Str.ofString "prec", Str.ofString "rnd"]) (k := 3) (m := 6) (dv := []) (dd := []) (by rfl) rfl rfl rfl rfl rfl (by kernel_rfl) rfl rfl rfl
    (fun s vs X hl => by
      match vs, hl with
      | [a0, a1, a2], _ => exact kp_binds X (fun S => by kernel_rfl))
    rfl (fun _ _ => .nil) rfl (by decide +kernel) (by decide +kernel) (fun _ => rfl) R gd hr rfl (fun L h₁ tk mm F Fo O k₁ R' _ => ?_)
  refine exec_next (SSem.unpack (.cons 3 rfl rfl (.cons 4 rfl rfl (.cons 5 rfl rfl (.cons 6 rfl rfl .nil)))) (ESem.var 0) hnd) R' O Fo rfl (fun h₂ tk₂ k₂ F₂ => ?_)
  refine wpAny_execs_cons (exec_if_true (TSem.plain (ESem.var 3)) R' O F₂ rfl (fun h₃ tk₃ k₃ F₃' => ?_))
  obtain ⟨m₃, ns₃⟩ := F₃'.ns
  have F₃ := refr F (k₂.trans (ext_of k₃)) ns₃
  have gT : TopRead (WW w mg mb).p (WW w mg mb).loose mg mb s.heap := gd.t
  refine wpAny_execs_cons (Raise_own (C := 52) (bm := [.type "ValueError", .type "Exception", .type "BaseException", .type "object"]) (newId := "ValueError.__new__") F₃ gT.g (own_of_in gd.k gT hx_cls hx_exc) PySem.F.excBase_ValueError R'.handled ?_)
  refine spliced_more (wpAny_Constant_str (spliced_none ⟨(show (1 : Nat) ≤ sizeLine by decide), F₃.keep, fun h' a hx => ?_⟩))
  exact leave_raiseS B hx F₃ News.nil (fun h'' t' R'' _ U'' => hE _ _ _ _ _ R'' U'') rfl

theorem raise_mpi (w : World) (mg mb : Str → Option Value) {A : Around} {s : Shared} {vs : List Value} {Q : Value → Shared → Prop} {E : Value → Shared → Prop} {base : Heap} {outer : List Env} {m e b : Int} {y p : D}
    (R : Room 6 A) (gd : (WW w mg mb).Gd s.heap) (hr : RepAll [] s.heap vs [.tup [.tup [.int 1, .int m, .int e, .int b], y], p]) (B : Below A base outer s.heap)
    (hE : ∀ a t ws h' tk, RaisedS base s.heap outer a (.ref 52) t ws [] h' → s.heap.UpToSlots h' → E (.ref a) { s with heap := h', toks := tk }) : wpAny (WW w mg mb).M A (call (.ref 231) vs) Q E s := by
  have hnd : ([Str.ofString "s", Str.ofString "prec", Str.ofString "sa", Str.ofString "sb", Str.ofString "a", Str.ofString "b"] : List Str).Nodup := by decide +kernel
  refine call_enter (n := 5) (tab := [Str.ofString "s", Str.ofString "prec", Str.ofString "sa", Str.ofString "sb", Str.ofString "a", Str.ofString "b"]) (names := [Str.ofString "s", Str.ofString "prec"]) (k := 2) (m := 4) (dv := []) (dd := []) (by rfl) rfl rfl rfl rfl rfl (by kernel_rfl) rfl rfl rfl
    (fun s vs X hl => by
      match vs, hl with
      | [a0, a1], _ => exact kp_binds X (fun S => by kernel_rfl))
    rfl (fun _ _ => .nil) rfl (by decide +kernel) (by decide +kernel) (fun _ => rfl) R gd hr rfl (fun L h₁ tk mm F Fo O k₁ R' _ => ?_)
  refine exec_next (SSem.unpack (.cons 2 rfl rfl (.cons 3 rfl rfl .nil)) (ESem.var 0) hnd) R' O Fo rfl (fun h₂ tk₂ k₂ F₂ => ?_)
  refine wpAny_execs_cons (wpAny_Assign_Name (exec_call hv_mpf_sqrt (hk_mpf_sqrt w) (LSem.cons (ESem.var 2) (LSem.cons (ESem.var 1) (LSem.cons (ESem.glob hv_rf hr_rf) LSem.nil))) R' O F₂ rfl (fun vs' h₃ tk₃ k₃ F₃ r₃ => ?_)) rfl)
  obtain ⟨m₃, ns₃⟩ := F₃.ns
  have F₃' := refr F (k₂.trans (ext_of k₃)) ns₃
  refine raise_sqrt w mg mb R' F₃.gd r₃ (B.push F₃' rfl) (fun a t ws h' tk' R'' U'' => ?_)
  exact leave_onS B F₃' R'' U'' (fun h'' R3 _ U3 => hE _ _ _ _ _ R3 U3)

theorem hx_kts {w mg mb} : ktsIn (WW w mg mb).K 52 "BaseException" = true := by kernel_rfl
theorem raise_root (w : World) (mg mb : Str → Option Value) {A : Around} {s : Shared} {vs : List Value} {Q : Value → Shared → Prop} {E : Value → Shared → Prop} {base : Heap} {outer : List Env} {m e b a : Int} {y p : D} {l l2 : List D} {mean : ExcName → Option Value}
    (R : Room 7 A) (gd : (WW w mg mb).Gd s.heap) (hr : RepAll [] s.heap vs [.tup [.tup [.int 1, .int m, .int e, .int b], y], .lst (.tup (.int a :: l) :: l2), p]) (B : Below A base outer s.heap)
    (XB : (WW w mg mb).K.In base) (TB : Top (WW w mg mb).p (WW w mg mb).loose mean mg mb base) (D : KtsDicts (outer.filterMap (·.frame)) s.heap)
    (hQ : ∀ g' h' tk, KtsTurn (outer.filterMap (·.frame)) s.heap g' → g'.StaysIn h' → Q (.bool (decide (a < 0))) { s with heap := h', toks := tk }) : wpAny (WW w mg mb).M A (call (.ref 320) vs) Q E s := by
  have hnd : ([Str.ofString "s", Str.ofString "a", Str.ofString "prec", Str.ofString "low", Str.ofString "high", Str.ofString "one", Str.ofString "other", Str.ofString "step", Str.ofString "more", Str.ofString "fine", Str.ofString "less"] : List Str).Nodup := by decide +kernel
  have hr' := hr
  obtain ⟨va, ha, ra⟩ := hr'.get (i := 1) rfl
  refine call_enter (n := 6) (tab := [Str.ofString "s", Str.ofString "a", Str.ofString "prec", Str.ofString "low", Str.ofString "high", Str.ofString "one", Str.ofString "other", Str.ofString "step", Str.ofString "more", Str.ofString "fine", Str.ofString "less"]) (names := [Str.ofString "s", Str.ofString "a", Str.ofString "prec"]) (k := 3) (m := 8) (dv := []) (dd := []) (by rfl) rfl rfl rfl rfl rfl (by kernel_rfl) rfl rfl rfl
    (fun s vs X hl => by
      match vs, hl with
      | [a0, a1, a2], _ => exact kp_binds X (fun S => by kernel_rfl))
    rfl (fun _ _ => .nil) rfl (by decide +kernel) (by decide +kernel) (fun _ => rfl) R gd hr rfl (fun L h₁ tk mm F Fo O k₁ R' hb => ?_)
  have hma : mm (Str.ofString "a") = some va := hb _ _ (by
    refine List.mem_of_getElem? (i := 1) ?_
    rw [List.append_nil, List.getElem?_zip_eq_some]
    exact ⟨rfl, ha⟩)
  refine wpAny_execs_cons (wpAny_Try_except (wpAny_execs_cons (PyProof.Rows.Assign_Tuple (exec_call hv_mpi_sqrt (hk_mpi_sqrt w) (LSem.cons (ESem.var 0) (LSem.cons (ESem.var 2) LSem.nil)) R' O Fo rfl (fun vs' h₃ tk₃ k₃ F₃ r₃ => ?_)) rfl rfl)))
  have F₃' : Fr s.heap L h₃ mm := ⟨F.ns.keeps k₃, fun b o e => k₃ _ _ (F.keep b o e), F.above⟩
  refine raise_mpi w mg mb R' F₃.gd r₃ (B.push F₃' rfl) (fun x t ws h' tk' R'' U'' => ?_)
  refine caught_SO0 R'' F₃' B U'' XB TB D KtsTurn.refl hx_cls hx_kts (fun h'' g' news₂ T F' N G N' K' X' P' D' => ?_)
  refine lt_suite (a := a) (l := l) (l2 := l2) rfl rfl F'.ns hma ?_ (fun tk'' => hQ g' _ _ T F'.keep)
  have sq : Seqs (V [] s.heap) (V [] h'') := by
    intro b o vs n e d
    have e : s.heap.get? b = some o := e
    refine F'.keep _ _ (T.other b o e fun hm => ?_)
    obtain ⟨o', es, n', ho', hd'⟩ := D b hm
    rw [e] at ho'
    cases ho'
    rw [d] at hd'
    cases hd'
  exact ra.seqs sq
end Mine

namespace Mine
set_option autoImplicit false

/-! bit lengths -/
def bl (n : Nat) : Nat := if n = 0 then 0 else n.log2 + 1
theorem ib_nat (n : Nat) : ib (n : Int) = bl n := by
  unfold ib Builtin.Int.intBits bl
  by_cases h : n = 0
  · simp [h]
  · have : ¬ ((n : Int) = 0) := by omega
    simp [h]
theorem bl_lt (n : Nat) : n < 2 ^ bl n := by
  unfold bl
  split
  · subst_vars; decide
  · exact Nat.lt_log2_self
theorem bl_le {n k : Nat} (h : n < 2 ^ k) : bl n ≤ k := by
  unfold bl
  split
  · exact Nat.zero_le _
  · next q => exact (Nat.log2_lt q).mpr h
theorem bl_ge {n : Nat} (h : 0 < n) : 2 ^ (bl n - 1) ≤ n := by
  unfold bl
  rw [if_neg (by omega)]
  exact Nat.log2_self_le (by omega)
theorem bl_pos {n : Nat} (h : 0 < n) : 0 < bl n := by unfold bl; rw [if_neg (by omega)]; omega
theorem bl_zero : bl 0 = 0 := rfl
theorem bl_one : bl 1 = 1 := by decide
theorem lt_of_bl {n k : Nat} (h : bl n ≤ k) : n < 2 ^ k := Nat.lt_of_lt_of_le (bl_lt n) (Nat.pow_le_pow_right (by decide) h)
theorem bl_eq {n k : Nat} (h1 : 2 ^ k ≤ n) (h2 : n < 2 ^ (k + 1)) : bl n = k + 1 := by
  have a := bl_le h2
  have b : k < bl n := by
    refine Nat.lt_of_not_le fun q => ?_
    have := lt_of_bl q
    omega
  omega
theorem p2_pos (k : Nat) : 0 < 2 ^ k := Nat.pow_pos (by decide)
theorem bl_mul {n : Nat} (h : 0 < n) (t : Nat) : bl (n * 2 ^ t) = bl n + t := by
  have h1 := bl_ge h
  have h2 := bl_lt n
  have h3 := bl_pos h
  have : bl n + t = (bl n - 1 + t) + 1 := by omega
  rw [this]
  refine bl_eq ?_ ?_
  · rw [Nat.pow_add]; exact Nat.mul_le_mul_right _ h1
  · rw [show bl n - 1 + t + 1 = bl n + t by omega, Nat.pow_add]; exact Nat.mul_lt_mul_of_pos_right h2 (p2_pos t)

/-! odd times a power of two -/
theorem odd_dec : ∀ n : Nat, 0 < n → ∃ m t, m % 2 = 1 ∧ n = m * 2 ^ t := by
  intro n
  induction n using Nat.strongRecOn with
  | ind n ih =>
    intro h
    by_cases q : n % 2 = 1
    · exact ⟨n, 0, q, by simp⟩
    · obtain ⟨m, t, a, b⟩ := ih (n / 2) (by omega) (by omega)
      refine ⟨m, t + 1, a, ?_⟩
      rw [Nat.pow_succ]
      have : m * (2 ^ t * 2) = m * 2 ^ t * 2 := by rw [Nat.mul_assoc]
      omega
theorem odd_pow_ge {m m' t t' : Nat} (h : m % 2 = 1) (h' : m' % 2 = 1) (e : m * 2 ^ t = m' * 2 ^ t') : t ≤ t' := by
  refine Nat.le_of_not_lt fun q => ?_
  obtain ⟨d, rfl⟩ : ∃ d, t = t' + (d + 1) := ⟨t - t' - 1, by omega⟩
  have e' : m * 2 ^ (d + 1) = m' := by
    refine Nat.eq_of_mul_eq_mul_right (p2_pos t') ?_
    rw [← e, Nat.mul_assoc, ← Nat.pow_add, Nat.add_comm]
  rw [Nat.pow_succ, ← Nat.mul_assoc] at e'
  omega
theorem odd_unique {m m' t t' : Nat} (h : m % 2 = 1) (h' : m' % 2 = 1) (e : m * 2 ^ t = m' * 2 ^ t') : m = m' ∧ t = t' := by
  have : t = t' := Nat.le_antisymm (odd_pow_ge h h' e) (odd_pow_ge h' h e.symm)
  subst this
  exact ⟨Nat.eq_of_mul_eq_mul_right (p2_pos t) e, rfl⟩

/-! the rounding of A / B to p bits -/
def Br (p A B w j k : Nat) : Prop := 2 ^ (p - 1) ≤ w ∧ w < 2 ^ p ∧ w * 2 ^ j * B ≤ A * 2 ^ k ∧ A * 2 ^ k < (w + 1) * 2 ^ j * B
def Norm (w : Nat) (x : Int) (m : Nat) (e : Int) : Prop := m % 2 = 1 ∧ ∃ t : Nat, m * 2 ^ t = w ∧ e = x + t
def Rd (p : Nat) (up : Bool) (A B m : Nat) (e : Int) : Prop :=
  ∃ w j k, Br p A B w j k ∧ Norm (if up = true ∧ w * 2 ^ j * B ≠ A * 2 ^ k then w + 1 else w) ((j : Int) - k) m e

theorem Norm.unique {w x m e m' e'} (a : Norm w x m e) (b : Norm w x m' e') : m = m' ∧ e = e' := by
  obtain ⟨h, t, q, r⟩ := a
  obtain ⟨h', t', q', r'⟩ := b
  obtain ⟨u, v⟩ := odd_unique h h' (q.trans q'.symm)
  exact ⟨u, by rw [r, r', v]⟩
/-- scaled on both sides -/
theorem Br.shift {p A B w j k : Nat} (h : Br p A B w j k) (t : Nat) : Br p A B w (j + t) (k + t) := by
  obtain ⟨a, b, c, d⟩ := h
  refine ⟨a, b, ?_, ?_⟩
  · have := Nat.mul_le_mul_right (2 ^ t) c
    simp only [Nat.pow_add]
    calc w * (2 ^ j * 2 ^ t) * B = w * 2 ^ j * B * 2 ^ t := by ac_rfl
      _ ≤ A * 2 ^ k * 2 ^ t := this
      _ = _ := by ac_rfl
  · have := Nat.mul_lt_mul_of_pos_right d (p2_pos t)
    simp only [Nat.pow_add]
    calc A * (2 ^ k * 2 ^ t) = A * 2 ^ k * 2 ^ t := by ac_rfl
      _ < (w + 1) * 2 ^ j * B * 2 ^ t := this
      _ = _ := by ac_rfl
theorem Br.exp_le {p A B w j k w' j' k' : Nat} (hp : 1 ≤ p) (a : Br p A B w j k) (b : Br p A B w' j' k') : j + k' ≤ j' + k := by
  have a := a.shift k'
  have b := b.shift k
  rw [Nat.add_comm k' k] at b
  refine Nat.le_of_not_lt fun q => ?_
  obtain ⟨d, hd⟩ : ∃ d, j + k' = (j' + k) + (d + 1) := ⟨j + k' - (j' + k) - 1, by omega⟩
  rw [hd] at a
  obtain ⟨a1, a2, a3, a4⟩ := a
  obtain ⟨b1, b2, b3, b4⟩ := b
  have h1 : 2 ^ p * 2 ^ (j' + k) * B ≤ w * 2 ^ (j' + k + (d + 1)) * B := by
    refine Nat.mul_le_mul_right _ ?_
    rw [Nat.pow_add _ (j' + k)]
    have e1 : 2 ^ p = 2 ^ (p - 1) * 2 := by rw [← Nat.pow_succ]; congr 1; omega
    have e2 : 2 ≤ 2 ^ (d + 1) := by rw [Nat.pow_succ]; have := p2_pos d; omega
    calc 2 ^ p * 2 ^ (j' + k) = 2 ^ (p - 1) * (2 ^ (j' + k) * 2) := by rw [e1]; ac_rfl
      _ ≤ w * (2 ^ (j' + k) * 2 ^ (d + 1)) := Nat.mul_le_mul a1 (Nat.mul_le_mul_left _ e2)
  have h2 : (w' + 1) * 2 ^ (j' + k) * B ≤ 2 ^ p * 2 ^ (j' + k) * B := Nat.mul_le_mul_right _ (Nat.mul_le_mul_right _ (by omega))
  omega
theorem Br.unique {p A B w j k w' j' k' : Nat} (hp : 1 ≤ p) (a : Br p A B w j k) (b : Br p A B w' j' k') : w = w' ∧ ((j : Int) - k = j' - k') := by
  have h1 := a.exp_le hp b
  have h2 := b.exp_le hp a
  have e : j + k' = j' + k := Nat.le_antisymm h1 h2
  have a := a.shift k'
  have b := b.shift k
  rw [Nat.add_comm k' k, ← e] at b
  obtain ⟨_, _, a3, a4⟩ := a
  obtain ⟨_, _, b3, b4⟩ := b
  have q1 := Nat.lt_of_le_of_lt a3 b4
  have q2 := Nat.lt_of_le_of_lt b3 a4
  rw [Nat.mul_assoc, Nat.mul_assoc] at q1 q2
  have q1 := Nat.lt_of_mul_lt_mul_right q1
  have q2 := Nat.lt_of_mul_lt_mul_right q2
  exact ⟨by omega, by omega⟩
theorem Br.exact_iff {p A B w j k j' k' : Nat} (e : j + k' = j' + k) : w * 2 ^ j * B = A * 2 ^ k ↔ w * 2 ^ j' * B = A * 2 ^ k' := by
  have key : ∀ {j k j' k' : Nat}, j + k' = j' + k → w * 2 ^ j * B = A * 2 ^ k → w * 2 ^ j' * B = A * 2 ^ k' := by
    intro j k j' k' e h
    refine Nat.eq_of_mul_eq_mul_right (p2_pos k) ?_
    calc w * 2 ^ j' * B * 2 ^ k = w * 2 ^ (j' + k) * B := by rw [Nat.pow_add]; ac_rfl
      _ = w * 2 ^ j * B * 2 ^ k' := by rw [← e, Nat.pow_add]; ac_rfl
      _ = A * 2 ^ k * 2 ^ k' := by rw [h]
      _ = A * 2 ^ k' * 2 ^ k := by ac_rfl
  exact ⟨key e, key e.symm⟩
theorem Rd.unique {p up A B m e m' e'} (hp : 1 ≤ p) (a : Rd p up A B m e) (b : Rd p up A B m' e') : m = m' ∧ e = e' := by
  obtain ⟨w, j, k, h, n⟩ := a
  obtain ⟨w', j', k', h', n'⟩ := b
  obtain ⟨rfl, q⟩ := h.unique hp h'
  have e : j + k' = j' + k := by omega
  have := Br.exact_iff (p := p) (A := A) (B := B) (w := w) e
  rw [q] at n
  refine n.unique ?_
  simp only [ne_eq, this]
  exact n'
theorem Rd.scale {p up A B m e} (h : Rd p up A B m e) {c : Nat} (hc : 0 < c) : Rd p up (A * c) (B * c) m e := by
  obtain ⟨w, j, k, ⟨a, b, c1, d⟩, n⟩ := h
  have e1 : w * 2 ^ j * (B * c) = w * 2 ^ j * B * c := by ac_rfl
  have e2 : A * c * 2 ^ k = A * 2 ^ k * c := by ac_rfl
  have e3 : (w + 1) * 2 ^ j * (B * c) = (w + 1) * 2 ^ j * B * c := by ac_rfl
  refine ⟨w, j, k, ⟨a, b, ?_, ?_⟩, ?_⟩
  · rw [e1, e2]; exact Nat.mul_le_mul_right _ c1
  · rw [e2, e3]; exact Nat.mul_lt_mul_of_pos_right d hc
  · have : w * 2 ^ j * (B * c) = A * c * 2 ^ k ↔ w * 2 ^ j * B = A * 2 ^ k := by
      rw [e1, e2]; exact ⟨Nat.eq_of_mul_eq_mul_right hc, fun h => by rw [h]⟩
    simp only [ne_eq, this]; exact n
theorem Rd.unscale {p up A B m e} {c : Nat} (hc : 0 < c) (h : Rd p up (A * c) (B * c) m e) : Rd p up A B m e := by
  obtain ⟨w, j, k, ⟨a, b, c1, d⟩, n⟩ := h
  have e1 : w * 2 ^ j * (B * c) = w * 2 ^ j * B * c := by ac_rfl
  have e2 : A * c * 2 ^ k = A * 2 ^ k * c := by ac_rfl
  have e3 : (w + 1) * 2 ^ j * (B * c) = (w + 1) * 2 ^ j * B * c := by ac_rfl
  refine ⟨w, j, k, ⟨a, b, ?_, ?_⟩, ?_⟩
  · rw [e1, e2] at c1; exact Nat.le_of_mul_le_mul_right c1 hc
  · rw [e2, e3] at d; exact Nat.lt_of_mul_lt_mul_right d
  · have : w * 2 ^ j * (B * c) = A * c * 2 ^ k ↔ w * 2 ^ j * B = A * 2 ^ k := by
      rw [e1, e2]; exact ⟨Nat.eq_of_mul_eq_mul_right hc, fun h => by rw [h]⟩
    simp only [ne_eq, this] at n; exact n
theorem Rd.congr {p up A B A' B' m e} (h : Rd p up A B m e) (hB : 0 < B) (hB' : 0 < B') (q : A * B' = A' * B) : Rd p up A' B' m e := by
  have h := h.scale hB'
  rw [q, Nat.mul_comm B B'] at h
  exact h.unscale hB
end Mine

namespace Mine
set_option autoImplicit false

/-- what _normalize makes of a mantissa -/
def NR (p : Nat) (up : Bool) (man : Nat) (x : Int) (m : Nat) (e : Int) : Prop :=
  if p < bl man then Norm (if up = true ∧ man % 2 ^ (bl man - p) ≠ 0 then man / 2 ^ (bl man - p) + 1 else man / 2 ^ (bl man - p)) (x + (bl man - p : Nat)) m e
  else Norm man x m e

theorem div_bl {man p : Nat} (hp : 1 ≤ p) (h : p < bl man) : 2 ^ (p - 1) ≤ man / 2 ^ (bl man - p) ∧ man / 2 ^ (bl man - p) < 2 ^ p := by
  have h0 : 0 < man := by refine Nat.pos_of_ne_zero fun q => ?_; subst q; simp [bl] at h
  have h1 := bl_ge h0
  have h2 := bl_lt man
  constructor
  · rw [Nat.le_div_iff_mul_le (p2_pos _), ← Nat.pow_add]
    rwa [show p - 1 + (bl man - p) = bl man - 1 by omega]
  · rw [Nat.div_lt_iff_lt_mul (p2_pos _), ← Nat.pow_add]
    rwa [show p + (bl man - p) = bl man by omega]

theorem NR.exact {p : Nat} {up : Bool} {man : Nat} {x : Int} {m : Nat} {e : Int} (hp : 1 ≤ p) (h0 : 0 < man) (h : NR p up man x m e) (j k : Nat) (hx : x = (j : Int) - k) :
    Rd p up (man * 2 ^ j) (2 ^ k) m e := by
  unfold NR at h
  split at h
  · next q =>
    obtain ⟨a, b⟩ := div_bl hp q
    generalize hn : bl man - p = n at *
    have c := Nat.div_add_mod man (2 ^ n)
    have d := Nat.mod_lt man (p2_pos n)
    have e1 : man / 2 ^ n * 2 ^ (j + n) * 2 ^ k = (2 ^ n * (man / 2 ^ n)) * (2 ^ j * 2 ^ k) := by rw [Nat.pow_add]; ac_rfl
    have e2 : man * 2 ^ j * 2 ^ k = man * (2 ^ j * 2 ^ k) := by ac_rfl
    have e3 : (man / 2 ^ n + 1) * 2 ^ (j + n) * 2 ^ k = (2 ^ n * (man / 2 ^ n) + 2 ^ n) * (2 ^ j * 2 ^ k) := by rw [Nat.pow_add, show 2 ^ n * (man / 2 ^ n) + 2 ^ n = (man / 2 ^ n + 1) * 2 ^ n by rw [Nat.add_mul, Nat.one_mul, Nat.mul_comm]]; ac_rfl
    have hpos : 0 < 2 ^ j * 2 ^ k := Nat.mul_pos (p2_pos _) (p2_pos _)
    refine ⟨man / 2 ^ n, j + n, k, ⟨a, b, ?_, ?_⟩, ?_⟩
    · rw [e1, e2]; exact Nat.mul_le_mul_right _ (by omega)
    · rw [e2, e3]; exact Nat.mul_lt_mul_of_pos_right (by omega) hpos
    · have : man / 2 ^ n * 2 ^ (j + n) * 2 ^ k = man * 2 ^ j * 2 ^ k ↔ man % 2 ^ n = 0 := by
        rw [e1, e2]
        constructor
        · intro q; have := Nat.eq_of_mul_eq_mul_right hpos q; omega
        · intro q; congr 1; omega
      simp only [ne_eq, this]
      rw [show ((j + n : Nat) : Int) - k = x + (n : Nat) by omega]
      exact h
  · next q =>
    obtain ⟨d, hd⟩ : ∃ d, p = bl man + d := ⟨p - bl man, by omega⟩
    have h1 := bl_ge h0
    have h2 := bl_lt man
    have h3 := bl_pos h0
    have e1 : man * 2 ^ d * 2 ^ j * 2 ^ k = man * 2 ^ j * 2 ^ (k + d) := by rw [Nat.pow_add]; ac_rfl
    refine ⟨man * 2 ^ d, j, k + d, ⟨?_, ?_, ?_, ?_⟩, ?_⟩
    · rw [show p - 1 = bl man - 1 + d by omega, Nat.pow_add]; exact Nat.mul_le_mul_right _ h1
    · rw [hd, Nat.pow_add]; exact Nat.mul_lt_mul_of_pos_right h2 (p2_pos d)
    · rw [e1]; exact Nat.le_refl _
    · rw [← e1]
      refine Nat.mul_lt_mul_of_pos_right (Nat.mul_lt_mul_of_pos_right (by omega) (p2_pos j)) (p2_pos k)
    · rw [if_neg (by simp [e1])]
      obtain ⟨o, t, q1, q2⟩ := h
      refine ⟨o, t + d, ?_, ?_⟩
      · rw [Nat.pow_add, ← Nat.mul_assoc, q1]
      · omega

/-- the odd last bit stands for a rest -/
theorem NR.sticky {p : Nat} {up : Bool} {q N B : Nat} {x : Int} {m : Nat} {e : Int} (hp : 1 ≤ p) (hb : p < bl (2 * q + 1)) (h : NR p up (2 * q + 1) x m e)
    (h1 : q * B < N) (h2 : N < (q + 1) * B) (j k : Nat) (hx : x = (j : Int) - k - 1) : Rd p up (N * 2 ^ j) (B * 2 ^ k) m e := by
  unfold NR at h
  rw [if_pos hb] at h
  obtain ⟨a, b⟩ := div_bl hp hb
  obtain ⟨n, hn⟩ : ∃ n, bl (2 * q + 1) - p = n + 1 := ⟨bl (2 * q + 1) - p - 1, by omega⟩
  rw [hn] at a b h
  have c := Nat.div_add_mod (2 * q + 1) (2 ^ (n + 1))
  have d := Nat.mod_lt (2 * q + 1) (p2_pos (n + 1))
  generalize hw : (2 * q + 1) / 2 ^ (n + 1) = w at *
  have hne : (2 * q + 1) % 2 ^ (n + 1) ≠ 0 := by
    intro z
    rw [z, Nat.pow_succ] at c
    have : 2 ^ n * 2 * w = 2 * (2 ^ n * w) := by ac_rfl
    omega
  rw [Nat.pow_succ] at c d
  have c1 : 2 ^ n * 2 * w = 2 * (w * 2 ^ n) := by ac_rfl
  rw [c1] at c
  have w1 : w * 2 ^ n ≤ q := by omega
  have w2 : q + 1 ≤ (w + 1) * 2 ^ n := by rw [Nat.add_mul]; omega
  have hpos : 0 < 2 ^ j * 2 ^ k := Nat.mul_pos (p2_pos _) (p2_pos _)
  have s1 : w * 2 ^ n * B ≤ q * B := Nat.mul_le_mul_right _ w1
  have s2 : (q + 1) * B ≤ (w + 1) * 2 ^ n * B := Nat.mul_le_mul_right _ w2
  have e1 : w * 2 ^ (n + j) * (B * 2 ^ k) = w * 2 ^ n * B * (2 ^ j * 2 ^ k) := by rw [Nat.pow_add]; ac_rfl
  have e2 : N * 2 ^ j * 2 ^ k = N * (2 ^ j * 2 ^ k) := by ac_rfl
  have e3 : (w + 1) * 2 ^ (n + j) * (B * 2 ^ k) = (w + 1) * 2 ^ n * B * (2 ^ j * 2 ^ k) := by rw [Nat.pow_add]; ac_rfl
  have lt1 : w * 2 ^ (n + j) * (B * 2 ^ k) < N * 2 ^ j * 2 ^ k := by rw [e1, e2]; exact Nat.mul_lt_mul_of_pos_right (by omega) hpos
  refine ⟨w, n + j, k, ⟨a, b, Nat.le_of_lt lt1, ?_⟩, ?_⟩
  · rw [e2, e3]; exact Nat.mul_lt_mul_of_pos_right (by omega) hpos
  · have : w * 2 ^ (n + j) * (B * 2 ^ k) ≠ N * 2 ^ j * 2 ^ k := Nat.ne_of_lt lt1
    have hx' : x + ((n + 1 : Nat) : Int) = ((n + j : Nat) : Int) - k := by omega
    simp only [ne_eq, hne, not_false_eq_true, and_true, hx'] at h
    simp only [ne_eq, this, not_false_eq_true, and_true]
    exact h
end Mine

namespace Mine
set_option autoImplicit false
/-! evaluation of denotations by rewriting: strict words on Option values -/
section
variable {f g h : St → Option D} {lf lg : St → Option (List D)} {t u : St → Option Bool} {a b k : St → Option Fl} {ρ : St} {i j : Nat} {is : List Nat} {op op' : Operator} {c c' : CmpOp}
  {d d' : D} {ds : List D} {x y : Int} {s s' : Str} {F : List D → Option D} {o : Option D}

def oBin (op : Operator) (a c : Option D) : Option D := a.bind fun a => c.bind fun c => dBin op a c
def MulG (x y : Int) : Prop := ib x ≤ 64 ∨ ib y ≤ 64 ∨ ib x + ib y ≤ 134217728
def DivG (y : Int) : Prop := y ≠ 0 ∧ y.natAbs.log2 < 9000
def PowG (x y : Int) : Prop := 0 ≤ y ∧ (ib x : Int) * y ≤ 134217728
def ShlG (x y : Int) : Prop := 0 ≤ y ∧ (ib x : Int) + y ≤ 134217728
@[reducible] def MulG.dec {x y : Int} : Decidable (MulG x y) := inferInstanceAs (Decidable (_ ∨ _ ∨ _))
@[reducible] def DivG.dec {y : Int} : Decidable (DivG y) := inferInstanceAs (Decidable (_ ∧ _))
@[reducible] def PowG.dec {x y : Int} : Decidable (PowG x y) := inferInstanceAs (Decidable (_ ∧ _))
@[reducible] def ShlG.dec {x y : Int} : Decidable (ShlG x y) := inferInstanceAs (Decidable (_ ∧ _))
theorem v_bnd {i : Decidable True} : @bnd True i d = some d := by unfold bnd; simp
theorem v_bin : eBin op f g ρ = oBin op (f ρ) (g ρ) := (rfl)
theorem v_add : oBin .Add (some (.int x)) (some (.int y)) = some (.int (x + y)) := (rfl)
theorem v_sub : oBin .Sub (some (.int x)) (some (.int y)) = some (.int (x - y)) := (rfl)
theorem v_mul : oBin .Mult (some (.int x)) (some (.int y)) = @bnd (MulG x y) MulG.dec (.int (x * y)) := (rfl)
theorem v_div : oBin .FloorDiv (some (.int x)) (some (.int y)) = @bnd (DivG y) DivG.dec (.int (x.fdiv y)) := (rfl)
theorem v_mod : oBin .Mod (some (.int x)) (some (.int y)) = bnd (¬ y = 0) (.int (x.fmod y)) := (rfl)
theorem v_pow : oBin .Pow (some (.int x)) (some (.int y)) = @bnd (PowG x y) PowG.dec (.int (x ^ y.toNat)) := (rfl)
theorem v_shl : oBin .LShift (some (.int x)) (some (.int y)) = @bnd (ShlG x y) ShlG.dec (.int (x * 2 ^ y.toNat)) := (rfl)
theorem v_shr : oBin .RShift (some (.int x)) (some (.int y)) = bnd (0 ≤ y) (.int (x.fdiv (2 ^ y.toNat))) := (rfl)
theorem v_and : oBin .BitAnd (some (.int x)) (some (.int y)) = some (.int (Builtin.bitAnd x y)) := (rfl)
theorem v_xor : oBin .BitXor (some (.int x)) (some (.int y)) = some (.int (Builtin.bitXor x y)) := (rfl)
theorem v_app {l m : List D} : oBin .Add (some (.lst l)) (some (.lst m)) = bnd (l.length + m.length ≤ 100) (.lst (l ++ m)) := (rfl)

def oCmp (op : CmpOp) (a c : Option D) : Option Bool := a.bind fun a => c.bind fun c => dCmp op a c
def ofB (b : Option Bool) : Option D := b.map D.bool
theorem v_ofB {b : Bool} : ofB (some b) = some (.bool b) := (rfl)
theorem v_cmp : eCmp c f g ρ = ofB (oCmp c (f ρ) (g ρ)) := by unfold eCmp oCmp ofB; cases f ρ <;> cases g ρ <;> rfl
theorem v_tcmp : tCmp c f g ρ = oCmp c (f ρ) (g ρ) := (rfl)
theorem v_eq : oCmp .Eq (some (.int x)) (some (.int y)) = some (decide (x = y)) := by show some (x == y) = _; congr 1
theorem v_ne : oCmp .NotEq (some (.int x)) (some (.int y)) = some (!decide (x = y)) := by show some (!(x == y)) = _; congr 1
theorem v_lt : oCmp .Lt (some (.int x)) (some (.int y)) = some (decide (x < y)) := (rfl)
theorem v_le : oCmp .LtE (some (.int x)) (some (.int y)) = some (decide (x ≤ y)) := (rfl)
theorem v_gt : oCmp .Gt (some (.int x)) (some (.int y)) = some (decide (y < x)) := (rfl)
theorem v_ge : oCmp .GtE (some (.int x)) (some (.int y)) = some (decide (y ≤ x)) := (rfl)
theorem v_seq : oCmp .Eq (some (.str s)) (some (.str s')) = some (s == s') := (rfl)

def oTruth (a : Option D) : Option Bool := a.bind dTruth
theorem v_tr_b {b : Bool} : oTruth (some (.bool b)) = some b := (rfl)
theorem v_tr_i : oTruth (some (.int x)) = some (!decide (x = 0)) := by show some (x != 0) = _; congr 1
theorem v_tE : tE f ρ = oTruth (f ρ) := (rfl)
def oNot (a : Option Bool) : Option Bool := a.map (!·)
theorem v_onot {b : Bool} : oNot (some b) = some (!b) := (rfl)
theorem v_tnot : tNot t ρ = oNot (t ρ) := (rfl)
theorem v_not : eNot f ρ = ofB (oNot (oTruth (f ρ))) := by unfold eNot ofB oNot oTruth; cases f ρ with | none => rfl | some a => show (dTruth a).map _ = ((dTruth a).map _).map _; cases dTruth a <;> rfl
def oNeg (a : Option D) : Option D := a.bind dNeg
theorem v_neg : eNeg f ρ = oNeg (f ρ) := (rfl)
theorem v_neg' : oNeg (some (.int x)) = some (.int (-x)) := (rfl)
def oIte (b : Option Bool) (a c : Option D) : Option D := b.bind fun b => if b then a else c
theorem v_ite : eIte t f g ρ = oIte (t ρ) (f ρ) (g ρ) := (rfl)
theorem v_ite1 {o' : Option D} : oIte (some true) o o' = o := (rfl)
theorem v_ite0 {o' : Option D} : oIte (some false) o o' = o' := (rfl)
def oAnd (a c : Option D) : Option D := a.bind fun a => (dTruth a).bind fun b => if b then c else some a
def oOr (a c : Option D) : Option D := a.bind fun a => (dTruth a).bind fun b => if b then some a else c
theorem v_eand : eAnd f g ρ = oAnd (f ρ) (g ρ) := (rfl)
theorem v_eor : eOr f g ρ = oOr (f ρ) (g ρ) := (rfl)
theorem v_eand1 : oAnd (some (.bool true)) o = o := (rfl)
theorem v_eand0 : oAnd (some (.bool false)) o = some (.bool false) := (rfl)
theorem v_eor1 : oOr (some (.bool true)) o = some (.bool true) := (rfl)
theorem v_eor0 : oOr (some (.bool false)) o = o := (rfl)
theorem v_eand_i : oAnd (some (.int x)) o = oIte (some (!decide (x = 0))) o (some (.int x)) := by
  by_cases h : x = 0
  · subst h; rfl
  · simp [oAnd, oIte, dTruth, h]
theorem v_eor_i : oOr (some (.int x)) o = oIte (some (!decide (x = 0))) (some (.int x)) o := by
  by_cases h : x = 0
  · subst h; rfl
  · simp [oOr, oIte, dTruth, h]
def bAnd (a c : Option Bool) : Option Bool := a.bind fun b => if b then c else some false
def bOr (a c : Option Bool) : Option Bool := a.bind fun b => if b then some true else c
theorem v_tand : tAnd t u ρ = bAnd (t ρ) (u ρ) := (rfl)
theorem v_tor : tOr t u ρ = bOr (t ρ) (u ρ) := (rfl)
theorem v_tand1 {p : Option Bool} : bAnd (some true) p = p := (rfl)
theorem v_tand0 {p : Option Bool} : bAnd (some false) p = some false := (rfl)
theorem v_tor1 {p : Option Bool} : bOr (some true) p = some true := (rfl)
theorem v_tor0 {p : Option Bool} : bOr (some false) p = p := (rfl)
theorem v_ttrue : tTrue ρ = some true := (rfl)
theorem v_tfalse : tFalse ρ = some false := (rfl)
def oChain (p : Option Bool) (q : Option Bool) : Option Bool := p.bind fun b => if b then q else some false
theorem v_chain : tChain c c' f g h ρ = bAnd (oCmp c (f ρ) (g ρ)) (oCmp c' (g ρ) (h ρ)) := by
  unfold tChain bAnd oCmp
  cases f ρ with
  | none => rfl
  | some a => cases g ρ with
    | none => rfl
    | some b => show (dCmp c a b).bind _ = (dCmp c a b).bind _; congr
theorem v_var : eVar i ρ = gt ρ i := (rfl)
theorem v_int : eInt x ρ = some (.int x) := (rfl)
theorem v_bool {b : Bool} : eBool b ρ = some (.bool b) := (rfl)
theorem v_str : eStr s ρ = some (.str s) := (rfl)
theorem v_glob : eGlob d ρ = some d := (rfl)
def lC (a : Option D) (l : Option (List D)) : Option (List D) := a.bind fun a => l.bind fun l => some (a :: l)
theorem v_lnil : lNil ρ = some [] := (rfl)
theorem v_lcons : lCons f lf ρ = lC (f ρ) (lf ρ) := (rfl)
theorem v_lc : lC (some d) (some ds) = some (d :: ds) := (rfl)
def oTup (l : Option (List D)) : Option D := l.bind fun l => bnd (l.length ≤ 100) (.tup l)
def oLst (l : Option (List D)) : Option D := l.bind fun l => bnd (l.length ≤ 100) (.lst l)
theorem v_tup : eTup lf ρ = oTup (lf ρ) := (rfl)
theorem v_lst : eLst lf ρ = oLst (lf ρ) := (rfl)
theorem v_tup1 {d1 : D} : oTup (some [d1]) = some (.tup [d1]) := (rfl)
theorem v_tup2 {d1 d2 : D} : oTup (some [d1, d2]) = some (.tup [d1, d2]) := (rfl)
theorem v_tup3 {d1 d2 d3 : D} : oTup (some [d1, d2, d3]) = some (.tup [d1, d2, d3]) := (rfl)
theorem v_tup4 {d1 d2 d3 d4 : D} : oTup (some [d1, d2, d3, d4]) = some (.tup [d1, d2, d3, d4]) := (rfl)
theorem v_lst1 {d1 : D} : oLst (some [d1]) = some (.lst [d1]) := (rfl)
theorem v_lst2 {d1 d2 : D} : oLst (some [d1, d2]) = some (.lst [d1, d2]) := (rfl)
def oSub (a c : Option D) : Option D := a.bind fun a => c.bind fun c => dItem a c
theorem v_item : eSub f g ρ = oSub (f ρ) (g ρ) := (rfl)
theorem v_t0 {a : D} {l : List D} : oSub (some (.tup (a :: l))) (some (.int 0)) = some a := (rfl)
theorem v_t1 {a b : D} {l : List D} : oSub (some (.tup (a :: b :: l))) (some (.int 1)) = some b := (rfl)
theorem v_t2 {a b c : D} {l : List D} : oSub (some (.tup (a :: b :: c :: l))) (some (.int 2)) = some c := (rfl)
theorem v_t3 {a b c e : D} {l : List D} : oSub (some (.tup (a :: b :: c :: e :: l))) (some (.int 3)) = some e := (rfl)
theorem v_l0 {a : D} {l : List D} : oSub (some (.lst (a :: l))) (some (.int 0)) = some a := (rfl)
theorem v_l1 {a b : D} {l : List D} : oSub (some (.lst (a :: b :: l))) (some (.int 1)) = some b := (rfl)
def oCall (F : List D → Option D) (l : Option (List D)) : Option D := l.bind F
theorem v_call : eCall F lf ρ = oCall F (lf ρ) := (rfl)
theorem v_call' : oCall F (some ds) = F ds := (rfl)
def oBits (a : Option D) : Option D := a.bind dBits
theorem v_bits : eBits f ρ = oBits (f ρ) := (rfl)
theorem v_bits' : oBits (some (.int x)) = some (.int (ib x)) := (rfl)
def oIsInt (a : Option D) : Option D := a.bind dIsInt
theorem v_isint : eIsInt f ρ = oIsInt (f ρ) := (rfl)
theorem v_isint' : oIsInt (some (.int x)) = some (.bool true) := (rfl)
def oShift (a : Option D) : Option D := a.bind eShift.dShift
theorem v_shift : eShift f ρ = oShift (f ρ) := (rfl)
theorem v_shift_f : oShift (some (.str (Str.ofString "f"))) = some (.tup [.int 1, .int 0]) := (rfl)
theorem v_shift_c : oShift (some (.str (Str.ofString "c"))) = some (.tup [.int 0, .int 1]) := by
  unfold oShift
  rw [Option.bind_some]
  unfold eShift.dShift
  simp only
  rw [if_neg (by decide)]
  simp
theorem v_dint : dInt [.int x] = some (.int x) := (rfl)
theorem v_dabs : dAbs [.int x] = some (.int (if x < 0 then -x else x)) := (rfl)
theorem v_ddivmod : dDivmod [.int x, .int y] = @bnd (DivG y) DivG.dec (.tup [.int (x.fdiv y), .int (x.fmod y)]) := (rfl)
/-! statements -/
def kSet (g : St → Option Fl) (ρ : St) (i : Nat) (a : Option D) : Option Fl := a.bind fun d => g (up ρ i d)
theorem v_set : sCons (sSet i f) a ρ = kSet a ρ i (f ρ) := by unfold sCons sSet kSet; cases f ρ <;> rfl
theorem v_kset : kSet a ρ i (some d) = a (up ρ i d) := (rfl)
def kSet2 (g : St → Option Fl) (ρ : St) (i j : Nat) (a : Option D) : Option Fl := a.bind fun d => g (up (up ρ i d) j d)
theorem v_set2 : sCons (sSet2 i j f) a ρ = kSet2 a ρ i j (f ρ) := by unfold sCons sSet2 kSet2; cases f ρ <;> rfl
theorem v_kset2 : kSet2 a ρ i j (some d) = a (up (up ρ i d) j d) := (rfl)
def oInt2 (op : Operator) (a c : Option D) : Option D := a.bind fun a => c.bind fun c => dInt2 op a c
theorem v_aug : sCons (sAug i op f) a ρ = kSet a ρ i (oInt2 op (gt ρ i) (f ρ)) := by
  unfold sCons sAug kSet oInt2
  cases gt ρ i with
  | none => rfl
  | some x => cases f ρ with
    | none => rfl
    | some y => show andThen ((dInt2 op x y).map _) _ = (dInt2 op x y).bind _; cases dInt2 op x y <;> rfl
theorem v_int2 : oInt2 op (some (.int x)) (some (.int y)) = oBin op (some (.int x)) (some (.int y)) := (rfl)
def kRet (a : Option D) : Option Fl := a.map Fl.ret
theorem v_ret : sCons (sRet f) a ρ = kRet (f ρ) := by unfold sCons sRet kRet; cases f ρ <;> rfl
theorem v_kret : kRet (some d) = some (.ret d) := (rfl)
theorem v_retof : retOf (kRet o) = o := by cases o <;> rfl
theorem v_retof' : retOf (some (.ret d)) = some d := (rfl)
def sApp (a b : St → Option Fl) : St → Option Fl := fun ρ => andThen (a ρ) b
theorem v_app_nil : sApp sNil b ρ = b ρ := (rfl)
theorem v_app_cons : sApp (sCons a b) k ρ = sCons a (sApp b k) ρ := by
  unfold sApp sCons
  cases a ρ with
  | none => rfl
  | some x => cases x <;> rfl
theorem v_app_app : sApp (sApp a b) k ρ = sApp a (sApp b k) ρ := by
  unfold sApp
  cases a ρ with
  | none => rfl
  | some x => cases x <;> rfl
def kIf (a b g : St → Option Fl) (ρ : St) (c : Option Bool) : Option Fl := c.bind fun c => if c then sApp a g ρ else sApp b g ρ
theorem v_if : sCons (sIf t a b) k ρ = kIf a b k ρ (t ρ) := by
  unfold sCons sIf kIf sApp
  cases t ρ with
  | none => rfl
  | some x => cases x <;> rfl
theorem v_kif1 : kIf a b k ρ (some true) = sApp a k ρ := (rfl)
theorem v_kif0 : kIf a b k ρ (some false) = sApp b k ρ := (rfl)
def kAsrt (g : St → Option Fl) (ρ : St) (c : Option Bool) : Option Fl := c.bind fun c => if c then g ρ else none
theorem v_asrt : sCons (sAsrt t) k ρ = kAsrt k ρ (t ρ) := by
  unfold sCons sAsrt kAsrt
  cases t ρ with
  | none => rfl
  | some x => cases x <;> rfl
theorem v_kasrt : kAsrt k ρ (some true) = k ρ := (rfl)
def kUn (g : St → Option Fl) (ρ : St) (is : List Nat) (a : Option D) : Option Fl := a.bind fun d => (dUnpack ρ is d).bind g
def kUnR (g : St → Option Fl) (ρ : St) (is : List Nat) (a : Option D) : Option Fl := a.bind fun d => (dUnpackR ρ is d).bind g
theorem v_un : sCons (sUnpack is f) k ρ = kUn k ρ is (f ρ) := by
  unfold sCons sUnpack kUn
  cases f ρ with
  | none => rfl
  | some d => show andThen ((dUnpack ρ is d).map _) _ = (dUnpack ρ is d).bind _; cases dUnpack ρ is d <;> rfl
theorem v_unR : sCons (sUnpackR is f) k ρ = kUnR k ρ is (f ρ) := by
  unfold sCons sUnpackR kUnR
  cases f ρ with
  | none => rfl
  | some d => show andThen ((dUnpackR ρ is d).map _) _ = (dUnpackR ρ is d).bind _; cases dUnpackR ρ is d <;> rfl
theorem v_un2 {i1 i2 : Nat} {d1 d2 : D} : kUn k ρ [i1, i2] (some (.tup [d1, d2])) = k (up (up ρ i1 d1) i2 d2) := (rfl)
theorem v_un4 {i1 i2 i3 i4 : Nat} {d1 d2 d3 d4 : D} : kUn k ρ [i1, i2, i3, i4] (some (.tup [d1, d2, d3, d4])) = k (up (up (up (up ρ i1 d1) i2 d2) i3 d3) i4 d4) := (rfl)
theorem v_unR2 {i1 i2 : Nat} {d1 d2 : D} : kUnR k ρ [i1, i2] (some (.tup [d1, d2])) = k (up (up ρ i2 d2) i1 d1) := (rfl)
theorem v_unR3 {i1 i2 i3 : Nat} {d1 d2 d3 : D} : kUnR k ρ [i1, i2, i3] (some (.tup [d1, d2, d3])) = k (up (up (up ρ i3 d3) i2 d2) i1 d1) := (rfl)
theorem v_try : sCons (sCons a b) k ρ = sApp (sCons a b) k ρ := (rfl)
theorem v_none : sCons sNone k ρ = none := (rfl)
theorem v_nil : sNil ρ = some (.nxt ρ) := (rfl)
def kF (i : Nat) (b k : St → Option Fl) (l : List D) : St → Option Fl := fun ρ => andThen (floop i b l ρ) k
def kFor (i : Nat) (b k : St → Option Fl) (ρ : St) (o : Option D) : Option Fl := o.bind fun d => andThen (dFor i b ρ d) k
theorem v_for : sCons (sFor i f b) k ρ = kFor i b k ρ (f ρ) := by
  unfold sCons sFor kFor
  cases f ρ <;> rfl
theorem v_kfor : kFor i b k ρ (some (.lst ds)) = kF i b k ds ρ := (rfl)
theorem v_kF_nil : kF i b k [] ρ = k ρ := (rfl)
theorem v_kF_cons : kF i b k (d :: ds) ρ = sApp b (kF i b k ds) (up ρ i d) := by
  show andThen (andThen (b (up ρ i d)) (floop i b ds)) k = andThen (b (up ρ i d)) _
  cases b (up ρ i d) with
  | none => rfl
  | some x => cases x <;> rfl
def oTail (a : Option D) : Option D := a.bind dTail
theorem v_tail : eTail i ρ = oTail (gt ρ i) := (rfl)
theorem v_tail2 {d1 d2 : D} : oTail (some (.lst [d1, d2])) = some (.lst [d2]) := (rfl)
theorem v_dlen2 {d1 d2 : D} : dLen [.tup [d1, d2]] = some (.int 2) := (rfl)
def kW (k : St → Option Fl) (r : Option Fl) : Option Fl := andThen r k
theorem v_while {N : Nat} : sCons (sWhile N t b) k ρ = kW k (wloop t b N ρ) := (rfl)
theorem v_kw {ρ' : St} : kW k (some (.nxt ρ')) = k ρ' := (rfl)
/-! stores -/
theorem v_gt0 {o : Option D} {l : St} : gt (o :: l) 0 = o := (rfl)
theorem v_gts {o : Option D} {l : St} : gt (o :: l) (i + 1) = gt l i := (rfl)
theorem v_up0 {o : Option D} {l : St} : up (o :: l) 0 d = some d :: l := (rfl)
theorem v_ups {o : Option D} {l : St} : up (o :: l) (i + 1) d = o :: up l i d := (rfl)
end
theorem wloop_step {t : St → Option Bool} {b : St → Option Fl} {N : Nat} {ρ ρ' : St} (h : t ρ = some true) (h2 : b ρ = some (.nxt ρ')) : wloop t b (N + 1) ρ = wloop t b N ρ' := by
  rw [wloop, h, Option.bind_some, if_pos rfl, h2]; rfl
theorem wloop_stop {t : St → Option Bool} {b : St → Option Fl} {N : Nat} {ρ : St} (h : t ρ = some false) : wloop t b (N + 1) ρ = some (.nxt ρ) := by
  rw [wloop, h, Option.bind_some, if_neg (by decide)]
theorem v_defD {k m : Nat} {dd ds : List D} {g : St → Option Fl} (h : ds.length = k) : defD k m dd g ds = retOf (g ((ds ++ dd).map some ++ List.replicate m none)) := by unfold defD initSt; rw [if_pos h]; rfl
/-! tuples compared -/
theorem v_teq {a b c e a' b' c' e' : Int} : oCmp .Eq (some (.tup [.int a, .int b, .int c, .int e])) (some (.tup [.int a', .int b', .int c', .int e'])) = some (decide (a = a' ∧ b = b' ∧ c = c' ∧ e = e')) := by
  unfold oCmp
  rw [Option.bind_some, Option.bind_some]
  unfold dCmp
  simp only
  unfold dEq
  simp only
  rw [if_pos ⟨rfl, rfl, by simp [toPy, toPys, PyData.depth, PyData.depthAll], by simp [toPy, toPys, PyData.depth, PyData.depthAll]⟩]
  congr 1
  rw [Bool.eq_iff_iff]
  simp [toPys, toPy, PyData.eqvAll, PyData.eqv]
theorem v_teq2 {a b c e a' b' c' e' u v w x u' v' w' x' : Int} : oCmp .Eq (some (.tup [.tup [.int a, .int b, .int c, .int e], .tup [.int u, .int v, .int w, .int x]])) (some (.tup [.tup [.int a', .int b', .int c', .int e'], .tup [.int u', .int v', .int w', .int x']])) = some (decide ((a = a' ∧ b = b' ∧ c = c' ∧ e = e') ∧ (u = u' ∧ v = v' ∧ w = w' ∧ x = x'))) := by
  unfold oCmp
  rw [Option.bind_some, Option.bind_some]
  unfold dCmp
  simp only
  unfold dEq
  simp only
  rw [if_pos ⟨rfl, rfl, by simp [toPy, toPys, PyData.depth, PyData.depthAll], by simp [toPy, toPys, PyData.depth, PyData.depthAll]⟩]
  congr 1
  rw [Bool.eq_iff_iff]
  simp [toPys, toPy, PyData.eqvAll, PyData.eqv]
end Mine

namespace Mine
set_option autoImplicit false
def sg (s : Bool) : Int := if s then 1 else 0
def MM (s : Bool) (m : Nat) (e : Int) : D := .tup [.int (sg s), .int m, .int e, .int (bl m)]
def RR (c : Bool) : D := .str (if c then Str.ofString "c" else Str.ofString "f")

theorem trailing_eval (m t : Nat) (h : m % 2 = 1) : F_trailing [.int (m * 2 ^ t : Nat)] = some (.int t) := by
  have hm : 0 < m * 2 ^ t := Nat.mul_pos (by omega) (p2_pos t)
  have hz : ¬ ((m * 2 ^ t : Nat) : Int) = 0 := by omega
  have ha : Builtin.bitAnd ((m * 2 ^ t : Nat) : Int) (-((m * 2 ^ t : Nat) : Int)) = ((2 ^ t : Nat) : Int) := by
    obtain ⟨a, rfl⟩ : ∃ a, m = 2 * a + 1 := ⟨m / 2, by omega⟩
    have := kbt_low t (a : Int)
    have e : (((2 * a + 1) * 2 ^ t : Nat) : Int) = 2 ^ t * (2 * (a : Int) + 1) := by push_cast; rw [Int.mul_comm]
    rw [e, this]; push_cast; rfl
  have hb : bl (2 ^ t) = t + 1 := bl_eq (Nat.le_refl _) (Nat.pow_lt_pow_right (by decide) (by omega))
  have hc : ib ((2 ^ t : Nat) : Int) = t + 1 := by rw [ib_nat, hb]
  generalize ((m * 2 ^ t : Nat) : Int) = z at *
  simp only [F_trailing, D_trailing, v_bnd, v_bin, v_add, v_sub, v_mul, v_div, v_mod, v_pow, v_shl, v_shr, v_and, v_xor, v_app, v_ofB, v_cmp, v_tcmp, v_eq, v_ne, v_lt, v_le, v_gt, v_ge, v_seq, v_tr_b, v_tr_i, v_tE, v_onot, v_tnot, v_not, v_neg, v_neg', v_ite, v_ite1, v_ite0, v_eand, v_eor, v_eand1, v_eand0, v_eor1, v_eor0, v_eand_i, v_eor_i, v_tand, v_tor, v_tand1, v_tand0, v_tor1, v_tor0, v_ttrue, v_tfalse, v_chain, v_var, v_int, v_bool, v_str, v_glob, v_lnil, v_lcons, v_lc, v_tup, v_lst, v_tup1, v_tup2, v_tup3, v_tup4, v_lst1, v_lst2, v_item, v_t0, v_t1, v_t2, v_t3, v_l0, v_l1, v_call, v_call', v_bits, v_bits', v_isint, v_isint', v_shift, v_shift_f, v_shift_c, v_dint, v_dabs, v_ddivmod, v_set, v_kset, v_set2, v_kset2, v_aug, v_int2, v_ret, v_kret, v_retof, v_retof', v_app_nil, v_app_cons, v_app_app, v_if, v_kif1, v_kif0, v_asrt, v_kasrt, v_un, v_unR, v_un2, v_un4, v_unR2, v_unR3, v_try, v_none, v_nil, v_for, v_kfor, v_kF_nil, v_kF_cons, v_tail, v_tail2, v_dlen2, v_while, v_kw, v_gt0, v_gts, v_up0, v_ups, v_defD, v_teq, v_teq2, List.length_cons, List.length_nil, List.cons_append, List.nil_append, List.append_nil, List.map_cons, List.map_nil, List.reduceReplicate, Nat.zero_add, Nat.reduceAdd, Bool.not_true, Bool.not_false, decide_true, decide_false, not_true_eq_false, not_false_eq_true, true_and, and_true, hz, ha, hc]
  congr 2
  omega

/-- the end of _normalize -/
def T_nrm : St → Option Fl := (sCons (sIf (tNot (tE (eBin .BitAnd (eVar 1) (eInt 1)))) (sCons (sSet 7 (eCall F_trailing (lCons (eVar 1) lNil))) (sCons (sAug 1 .RShift (eVar 7)) (sCons (sAug 2 .Add (eVar 7)) (sCons (sAug 3 .Sub (eVar 7)) sNil)))) sNil) (sCons (sIf (tCmp .Eq (eVar 1) (eInt 1)) (sCons (sSet 3 (eInt 1)) sNil) sNil) (sCons (sRet (eTup (lCons (eVar 0) (lCons (eVar 1) (lCons (eVar 2) (lCons (eVar 3) lNil)))))) sNil)))
def A_nrm : St → Option Fl := (sCons (sIf (tCmp .Eq (eVar 5) (eGlob d_rn)) (sCons (sSet 7 (eBin .RShift (eVar 1) (eBin .Sub (eVar 6) (eInt 1)))) (sCons (sIf (tAnd (tE (eBin .BitAnd (eVar 7) (eInt 1))) (tAnd (tOr (tE (eBin .BitAnd (eVar 7) (eInt 2))) (tOr (tE (eBin .BitAnd (eVar 1) (eBin .Sub (eBin .LShift (eGlob d_oi) (eBin .Sub (eVar 6) (eInt 1))) (eInt 1)))) tFalse)) tTrue)) (sCons (sSet 1 (eBin .Add (eBin .RShift (eVar 7) (eInt 1)) (eInt 1))) sNil) (sCons (sSet 1 (eBin .RShift (eVar 7) (eInt 1))) sNil)) sNil)) (sCons (sIf (tE (eSub (eShift (eVar 5)) (eVar 0))) (sCons (sAug 1 .RShift (eVar 6)) sNil) (sCons (sSet 1 (eNeg (eBin .RShift (eNeg (eVar 1)) (eVar 6)))) sNil)) sNil)) (sCons (sAug 2 .Add (eVar 6)) (sCons (sSet 3 (eVar 4)) sNil)))
theorem D_nrm_eq : D_nrm = (sCons (sIf (tNot (tE (eVar 1))) (sCons (sRet (eGlob d_fzero)) sNil) sNil) (sCons (sSet 6 (eBin .Sub (eVar 3) (eVar 4))) (sCons (sIf (tCmp .Gt (eVar 6) (eInt 0)) A_nrm sNil) T_nrm))) := rfl

theorem odd_and {w : Nat} (h : w % 2 = 1) : Builtin.bitAnd ((w : Nat) : Int) 1 = 1 := by rw [bitAnd_m1]; omega
theorem even_and {w : Nat} (h : w % 2 = 0) : Builtin.bitAnd ((w : Nat) : Int) 1 = 0 := by rw [bitAnd_m1]; omega
theorem fdiv_pow (w t : Nat) : ((w : Nat) : Int).fdiv (2 ^ t) = ((w / 2 ^ t : Nat) : Int) := by
  have e : ((2 : Int) ^ t) = ((2 ^ t : Nat) : Int) := by push_cast; rfl
  rw [e, Int.fdiv_eq_ediv_of_nonneg _ (Int.natCast_nonneg _)]
  exact (Int.natCast_ediv _ _).symm

theorem T_nrm_eval {s x bc : Int} {m t : Nat} {P R N o : Option D} (h : m % 2 = 1) (hb : m = 1 ∨ bc - t = bl m) :
    retOf (T_nrm [some (.int s), some (.int (m * 2 ^ t : Nat)), some (.int x), some (.int bc), P, R, N, o]) = some (.tup [.int s, .int m, .int (x + t), .int (bl m)]) := by
  by_cases ht : t = 0
  · subst ht
    rw [Nat.pow_zero, Nat.mul_one]
    have h1 := odd_and h
    have h10 : ¬ (1 : Int) = 0 := by decide
    have h11 : ((1 : Nat) : Int) = 1 := rfl
    by_cases q : m = 1
    · subst q
      rw [h11] at h1
      simp only [T_nrm, v_bnd, v_bin, v_add, v_sub, v_mul, v_div, v_mod, v_pow, v_shl, v_shr, v_and, v_xor, v_app, v_ofB, v_cmp, v_tcmp, v_eq, v_ne, v_lt, v_le, v_gt, v_ge, v_seq, v_tr_b, v_tr_i, v_tE, v_onot, v_tnot, v_not, v_neg, v_neg', v_ite, v_ite1, v_ite0, v_eand, v_eor, v_eand1, v_eand0, v_eor1, v_eor0, v_eand_i, v_eor_i, v_tand, v_tor, v_tand1, v_tand0, v_tor1, v_tor0, v_ttrue, v_tfalse, v_chain, v_var, v_int, v_bool, v_str, v_glob, v_lnil, v_lcons, v_lc, v_tup, v_lst, v_tup1, v_tup2, v_tup3, v_tup4, v_lst1, v_lst2, v_item, v_t0, v_t1, v_t2, v_t3, v_l0, v_l1, v_call, v_call', v_bits, v_bits', v_isint, v_isint', v_shift, v_shift_f, v_shift_c, v_dint, v_dabs, v_ddivmod, v_set, v_kset, v_set2, v_kset2, v_aug, v_int2, v_ret, v_kret, v_retof, v_retof', v_app_nil, v_app_cons, v_app_app, v_if, v_kif1, v_kif0, v_asrt, v_kasrt, v_un, v_unR, v_un2, v_un4, v_unR2, v_unR3, v_try, v_none, v_nil, v_for, v_kfor, v_kF_nil, v_kF_cons, v_tail, v_tail2, v_dlen2, v_while, v_kw, v_gt0, v_gts, v_up0, v_ups, v_defD, v_teq, v_teq2, List.length_cons, List.length_nil, List.cons_append, List.nil_append, List.append_nil, List.map_cons, List.map_nil, List.reduceReplicate, Nat.zero_add, Nat.reduceAdd, Bool.not_true, Bool.not_false, decide_true, decide_false, not_true_eq_false, not_false_eq_true, true_and, and_true, h1, h10, h11, bl_one]
      simp
    · have q' : ¬ (m : Int) = 1 := by omega
      have hbc : bc = bl m := by have := hb.resolve_left q; omega
      simp only [T_nrm, v_bnd, v_bin, v_add, v_sub, v_mul, v_div, v_mod, v_pow, v_shl, v_shr, v_and, v_xor, v_app, v_ofB, v_cmp, v_tcmp, v_eq, v_ne, v_lt, v_le, v_gt, v_ge, v_seq, v_tr_b, v_tr_i, v_tE, v_onot, v_tnot, v_not, v_neg, v_neg', v_ite, v_ite1, v_ite0, v_eand, v_eor, v_eand1, v_eand0, v_eor1, v_eor0, v_eand_i, v_eor_i, v_tand, v_tor, v_tand1, v_tand0, v_tor1, v_tor0, v_ttrue, v_tfalse, v_chain, v_var, v_int, v_bool, v_str, v_glob, v_lnil, v_lcons, v_lc, v_tup, v_lst, v_tup1, v_tup2, v_tup3, v_tup4, v_lst1, v_lst2, v_item, v_t0, v_t1, v_t2, v_t3, v_l0, v_l1, v_call, v_call', v_bits, v_bits', v_isint, v_isint', v_shift, v_shift_f, v_shift_c, v_dint, v_dabs, v_ddivmod, v_set, v_kset, v_set2, v_kset2, v_aug, v_int2, v_ret, v_kret, v_retof, v_retof', v_app_nil, v_app_cons, v_app_app, v_if, v_kif1, v_kif0, v_asrt, v_kasrt, v_un, v_unR, v_un2, v_un4, v_unR2, v_unR3, v_try, v_none, v_nil, v_for, v_kfor, v_kF_nil, v_kF_cons, v_tail, v_tail2, v_dlen2, v_while, v_kw, v_gt0, v_gts, v_up0, v_ups, v_defD, v_teq, v_teq2, List.length_cons, List.length_nil, List.cons_append, List.nil_append, List.append_nil, List.map_cons, List.map_nil, List.reduceReplicate, Nat.zero_add, Nat.reduceAdd, Bool.not_true, Bool.not_false, decide_true, decide_false, not_true_eq_false, not_false_eq_true, true_and, and_true, h1, h10, q', hbc, Int.natCast_zero, Int.add_zero]
  · have e2 : (m * 2 ^ t) % 2 = 0 := by
      obtain ⟨u, rfl⟩ : ∃ u, t = u + 1 := ⟨t - 1, by omega⟩
      rw [Nat.pow_succ, ← Nat.mul_assoc]; omega
    have h1 := even_and e2
    have h2 := trailing_eval m t h
    have h3 : (0 : Int) ≤ t := by omega
    have h4 : ((m * 2 ^ t : Nat) : Int).fdiv (2 ^ (t : Int).toNat) = m := by
      rw [Int.toNat_natCast, fdiv_pow, Nat.mul_div_cancel _ (p2_pos t)]
    by_cases q : m = 1
    · subst q
      have h11 : ((1 : Nat) : Int) = 1 := rfl
      simp only [T_nrm, v_bnd, v_bin, v_add, v_sub, v_mul, v_div, v_mod, v_pow, v_shl, v_shr, v_and, v_xor, v_app, v_ofB, v_cmp, v_tcmp, v_eq, v_ne, v_lt, v_le, v_gt, v_ge, v_seq, v_tr_b, v_tr_i, v_tE, v_onot, v_tnot, v_not, v_neg, v_neg', v_ite, v_ite1, v_ite0, v_eand, v_eor, v_eand1, v_eand0, v_eor1, v_eor0, v_eand_i, v_eor_i, v_tand, v_tor, v_tand1, v_tand0, v_tor1, v_tor0, v_ttrue, v_tfalse, v_chain, v_var, v_int, v_bool, v_str, v_glob, v_lnil, v_lcons, v_lc, v_tup, v_lst, v_tup1, v_tup2, v_tup3, v_tup4, v_lst1, v_lst2, v_item, v_t0, v_t1, v_t2, v_t3, v_l0, v_l1, v_call, v_call', v_bits, v_bits', v_isint, v_isint', v_shift, v_shift_f, v_shift_c, v_dint, v_dabs, v_ddivmod, v_set, v_kset, v_set2, v_kset2, v_aug, v_int2, v_ret, v_kret, v_retof, v_retof', v_app_nil, v_app_cons, v_app_app, v_if, v_kif1, v_kif0, v_asrt, v_kasrt, v_un, v_unR, v_un2, v_un4, v_unR2, v_unR3, v_try, v_none, v_nil, v_for, v_kfor, v_kF_nil, v_kF_cons, v_tail, v_tail2, v_dlen2, v_while, v_kw, v_gt0, v_gts, v_up0, v_ups, v_defD, v_teq, v_teq2, List.length_cons, List.length_nil, List.cons_append, List.nil_append, List.append_nil, List.map_cons, List.map_nil, List.reduceReplicate, Nat.zero_add, Nat.reduceAdd, Bool.not_true, Bool.not_false, decide_true, decide_false, not_true_eq_false, not_false_eq_true, true_and, and_true, h1, h2, h3, h4, h11, bl_one]
    · have q' : ¬ (m : Int) = 1 := by omega
      simp only [T_nrm, v_bnd, v_bin, v_add, v_sub, v_mul, v_div, v_mod, v_pow, v_shl, v_shr, v_and, v_xor, v_app, v_ofB, v_cmp, v_tcmp, v_eq, v_ne, v_lt, v_le, v_gt, v_ge, v_seq, v_tr_b, v_tr_i, v_tE, v_onot, v_tnot, v_not, v_neg, v_neg', v_ite, v_ite1, v_ite0, v_eand, v_eor, v_eand1, v_eand0, v_eor1, v_eor0, v_eand_i, v_eor_i, v_tand, v_tor, v_tand1, v_tand0, v_tor1, v_tor0, v_ttrue, v_tfalse, v_chain, v_var, v_int, v_bool, v_str, v_glob, v_lnil, v_lcons, v_lc, v_tup, v_lst, v_tup1, v_tup2, v_tup3, v_tup4, v_lst1, v_lst2, v_item, v_t0, v_t1, v_t2, v_t3, v_l0, v_l1, v_call, v_call', v_bits, v_bits', v_isint, v_isint', v_shift, v_shift_f, v_shift_c, v_dint, v_dabs, v_ddivmod, v_set, v_kset, v_set2, v_kset2, v_aug, v_int2, v_ret, v_kret, v_retof, v_retof', v_app_nil, v_app_cons, v_app_app, v_if, v_kif1, v_kif0, v_asrt, v_kasrt, v_un, v_unR, v_un2, v_un4, v_unR2, v_unR3, v_try, v_none, v_nil, v_for, v_kfor, v_kF_nil, v_kF_cons, v_tail, v_tail2, v_dlen2, v_while, v_kw, v_gt0, v_gts, v_up0, v_ups, v_defD, v_teq, v_teq2, List.length_cons, List.length_nil, List.cons_append, List.nil_append, List.append_nil, List.map_cons, List.map_nil, List.reduceReplicate, Nat.zero_add, Nat.reduceAdd, Bool.not_true, Bool.not_false, decide_true, decide_false, not_true_eq_false, not_false_eq_true, true_and, and_true, h1, h2, h3, h4, q']
      rw [hb.resolve_left q]

theorem neg_fdiv (w n : Nat) : -(-((w : Nat) : Int)).fdiv (2 ^ n) = ((if w % 2 ^ n ≠ 0 then w / 2 ^ n + 1 else w / 2 ^ n : Nat) : Int) := by
  have e : ((2 : Int) ^ n) = ((2 ^ n : Nat) : Int) := by push_cast; rfl
  have hp := p2_pos n
  have c := Nat.div_add_mod w (2 ^ n)
  have d := Nat.mod_lt w hp
  rw [e, Int.fdiv_eq_ediv_of_nonneg _ (by omega)]
  generalize hq : w / 2 ^ n = q at *
  generalize hr : w % 2 ^ n = r at *
  generalize 2 ^ n = P at *
  have key : ∀ k : Int, k * P ≤ -(w : Int) → -(w : Int) < (k + 1) * P → -(w : Int) / P = k := by
    intro k h1 h2
    have a := Int.le_ediv_of_mul_le (show (0 : Int) < P by omega) h1
    have b := Int.ediv_lt_of_lt_mul (show (0 : Int) < P by omega) h2
    omega
  by_cases z : r = 0
  · rw [if_neg (by omega), key (-(q : Int))]
    · omega
    · rw [Int.neg_mul]; have : ((P * q : Nat) : Int) = q * P := by push_cast; rw [Int.mul_comm]
      omega
    · rw [Int.add_mul, Int.neg_mul]; have : ((P * q : Nat) : Int) = q * P := by push_cast; rw [Int.mul_comm]
      omega
  · rw [if_pos z, key (-(q : Int) - 1)]
    · omega
    · rw [Int.sub_mul, Int.neg_mul]; have : ((P * q : Nat) : Int) = q * P := by push_cast; rw [Int.mul_comm]
      omega
    · rw [Int.add_mul, Int.sub_mul, Int.neg_mul]; have : ((P * q : Nat) : Int) = q * P := by push_cast; rw [Int.mul_comm]
      omega

theorem nrm_eval (c s : Bool) (man p : Nat) (x : Int) (h0 : 0 < man) (hp : 1 ≤ p) :
    ∃ m e, NR p (c != s) man x m e ∧ F_nrm [.int (sg s), .int man, .int x, .int (bl man), .int p, RR c] = some (MM s m e) := by
  have hz : ¬ (man : Int) = 0 := by omega
  by_cases hb : p < bl man
  · obtain ⟨d1, d2⟩ := div_bl hp hb
    have hn : (0 : Int) < (bl man : Int) - p := by omega
    have hn' : (0 : Int) ≤ (bl man : Int) - p := by omega
    have hN : ((bl man : Int) - p).toNat = bl man - p := by omega
    have hw : 0 < (if (c != s) = true ∧ man % 2 ^ (bl man - p) ≠ 0 then man / 2 ^ (bl man - p) + 1 else man / 2 ^ (bl man - p)) := by
      have := p2_pos (p - 1)
      split <;> omega
    obtain ⟨m, t, ho, hm⟩ := odd_dec _ hw
    refine ⟨m, x + ((bl man - p : Nat) : Int) + t, ?_, ?_⟩
    · unfold NR
      rw [if_pos hb]
      exact ⟨ho, t, hm.symm, rfl⟩
    · have ht : m = 1 ∨ (p : Int) - t = bl m := by
        have hmp : 0 < m := by omega
        have hbl := bl_mul hmp t
        by_cases q : m * 2 ^ t < 2 ^ p
        · right
          have : bl (m * 2 ^ t) = p := by
            have h1 : 2 ^ (p - 1) ≤ m * 2 ^ t := by rw [← hm]; split <;> omega
            rw [bl_eq h1 (by rwa [show p - 1 + 1 = p by omega])]; omega
          omega
        · left
          have hle : m * 2 ^ t ≤ 2 ^ p := by rw [← hm]; split <;> omega
          have : m * 2 ^ t = 1 * 2 ^ p := by omega
          exact (odd_unique ho (by decide) this).1
      have key : ∀ w' : Int, w' = ((m * 2 ^ t : Nat) : Int) → retOf (T_nrm [some (.int (sg s)), some (.int w'), some (.int (x + ((bl man : Int) - p))), some (.int p), some (.int p), some (RR c), some (.int ((bl man : Int) - p)), none]) = some (MM s m (x + ((bl man - p : Nat) : Int) + t)) := by
        intro w' e
        subst e
        rw [T_nrm_eval ho ht, show ((bl man : Int) - p) = ((bl man - p : Nat) : Int) by omega]
        rfl
      have e10 : ¬ (1 : Int) = 0 := by decide
      have nc : ("c".toList == "n".toList) = false := by decide
      cases c <;> cases s
      all_goals simp only [bne_self_eq_false, Bool.false_eq_true, false_and, if_false, Bool.true_bne, Bool.bne_true, Bool.not_false, Bool.not_true, true_and, Bool.bne_false, Bool.false_bne] at hm
      · simp only [F_nrm, D_nrm_eq, v_bnd, v_bin, v_add, v_sub, v_mul, v_div, v_mod, v_pow, v_shl, v_shr, v_and, v_xor, v_app, v_ofB, v_cmp, v_tcmp, v_eq, v_ne, v_lt, v_le, v_gt, v_ge, v_seq, v_tr_b, v_tr_i, v_tE, v_onot, v_tnot, v_not, v_neg, v_neg', v_ite, v_ite1, v_ite0, v_eand, v_eor, v_eand1, v_eand0, v_eor1, v_eor0, v_eand_i, v_eor_i, v_tand, v_tor, v_tand1, v_tand0, v_tor1, v_tor0, v_ttrue, v_tfalse, v_chain, v_var, v_int, v_bool, v_str, v_glob, v_lnil, v_lcons, v_lc, v_tup, v_lst, v_tup1, v_tup2, v_tup3, v_tup4, v_lst1, v_lst2, v_item, v_t0, v_t1, v_t2, v_t3, v_l0, v_l1, v_call, v_call', v_bits, v_bits', v_isint, v_isint', v_shift, v_shift_f, v_shift_c, v_dint, v_dabs, v_ddivmod, v_set, v_kset, v_set2, v_kset2, v_aug, v_int2, v_ret, v_kret, v_retof, v_retof', v_app_nil, v_app_cons, v_app_app, v_if, v_kif1, v_kif0, v_asrt, v_kasrt, v_un, v_unR, v_un2, v_un4, v_unR2, v_unR3, v_try, v_none, v_nil, v_for, v_kfor, v_kF_nil, v_kF_cons, v_tail, v_tail2, v_dlen2, v_while, v_kw, v_gt0, v_gts, v_up0, v_ups, v_defD, v_teq, v_teq2, List.length_cons, List.length_nil, List.cons_append, List.nil_append, List.append_nil, List.map_cons, List.map_nil, List.reduceReplicate, Nat.zero_add, Nat.reduceAdd, Bool.not_true, Bool.not_false, decide_true, decide_false, not_true_eq_false, not_false_eq_true, true_and, and_true, hz, hn, A_nrm, d_rn, RR, sg, if_true, if_false, Bool.false_eq_true, show (Str.ofString "f" == Str.ofString "n") = false by decide, e10, hn', fdiv_pow, hN]
        exact key _ (by rw [hm])
      · simp only [F_nrm, D_nrm_eq, v_bnd, v_bin, v_add, v_sub, v_mul, v_div, v_mod, v_pow, v_shl, v_shr, v_and, v_xor, v_app, v_ofB, v_cmp, v_tcmp, v_eq, v_ne, v_lt, v_le, v_gt, v_ge, v_seq, v_tr_b, v_tr_i, v_tE, v_onot, v_tnot, v_not, v_neg, v_neg', v_ite, v_ite1, v_ite0, v_eand, v_eor, v_eand1, v_eand0, v_eor1, v_eor0, v_eand_i, v_eor_i, v_tand, v_tor, v_tand1, v_tand0, v_tor1, v_tor0, v_ttrue, v_tfalse, v_chain, v_var, v_int, v_bool, v_str, v_glob, v_lnil, v_lcons, v_lc, v_tup, v_lst, v_tup1, v_tup2, v_tup3, v_tup4, v_lst1, v_lst2, v_item, v_t0, v_t1, v_t2, v_t3, v_l0, v_l1, v_call, v_call', v_bits, v_bits', v_isint, v_isint', v_shift, v_shift_f, v_shift_c, v_dint, v_dabs, v_ddivmod, v_set, v_kset, v_set2, v_kset2, v_aug, v_int2, v_ret, v_kret, v_retof, v_retof', v_app_nil, v_app_cons, v_app_app, v_if, v_kif1, v_kif0, v_asrt, v_kasrt, v_un, v_unR, v_un2, v_un4, v_unR2, v_unR3, v_try, v_none, v_nil, v_for, v_kfor, v_kF_nil, v_kF_cons, v_tail, v_tail2, v_dlen2, v_while, v_kw, v_gt0, v_gts, v_up0, v_ups, v_defD, v_teq, v_teq2, List.length_cons, List.length_nil, List.cons_append, List.nil_append, List.append_nil, List.map_cons, List.map_nil, List.reduceReplicate, Nat.zero_add, Nat.reduceAdd, Bool.not_true, Bool.not_false, decide_true, decide_false, not_true_eq_false, not_false_eq_true, true_and, and_true, hz, hn, A_nrm, d_rn, RR, sg, if_true, if_false, Bool.false_eq_true, show (Str.ofString "f" == Str.ofString "n") = false by decide, e10, hn', fdiv_pow, hN, neg_fdiv]
        exact key _ (by rw [← hm])
      · simp only [F_nrm, D_nrm_eq, v_bnd, v_bin, v_add, v_sub, v_mul, v_div, v_mod, v_pow, v_shl, v_shr, v_and, v_xor, v_app, v_ofB, v_cmp, v_tcmp, v_eq, v_ne, v_lt, v_le, v_gt, v_ge, v_seq, v_tr_b, v_tr_i, v_tE, v_onot, v_tnot, v_not, v_neg, v_neg', v_ite, v_ite1, v_ite0, v_eand, v_eor, v_eand1, v_eand0, v_eor1, v_eor0, v_eand_i, v_eor_i, v_tand, v_tor, v_tand1, v_tand0, v_tor1, v_tor0, v_ttrue, v_tfalse, v_chain, v_var, v_int, v_bool, v_str, v_glob, v_lnil, v_lcons, v_lc, v_tup, v_lst, v_tup1, v_tup2, v_tup3, v_tup4, v_lst1, v_lst2, v_item, v_t0, v_t1, v_t2, v_t3, v_l0, v_l1, v_call, v_call', v_bits, v_bits', v_isint, v_isint', v_shift, v_shift_f, v_shift_c, v_dint, v_dabs, v_ddivmod, v_set, v_kset, v_set2, v_kset2, v_aug, v_int2, v_ret, v_kret, v_retof, v_retof', v_app_nil, v_app_cons, v_app_app, v_if, v_kif1, v_kif0, v_asrt, v_kasrt, v_un, v_unR, v_un2, v_un4, v_unR2, v_unR3, v_try, v_none, v_nil, v_for, v_kfor, v_kF_nil, v_kF_cons, v_tail, v_tail2, v_dlen2, v_while, v_kw, v_gt0, v_gts, v_up0, v_ups, v_defD, v_teq, v_teq2, List.length_cons, List.length_nil, List.cons_append, List.nil_append, List.append_nil, List.map_cons, List.map_nil, List.reduceReplicate, Nat.zero_add, Nat.reduceAdd, Bool.not_true, Bool.not_false, decide_true, decide_false, not_true_eq_false, not_false_eq_true, true_and, and_true, hz, hn, A_nrm, d_rn, RR, sg, if_true, if_false, Bool.false_eq_true, show (Str.ofString "c" == Str.ofString "n") = false by decide, e10, hn', fdiv_pow, hN, neg_fdiv]
        exact key _ (by rw [← hm])
      · simp only [F_nrm, D_nrm_eq, v_bnd, v_bin, v_add, v_sub, v_mul, v_div, v_mod, v_pow, v_shl, v_shr, v_and, v_xor, v_app, v_ofB, v_cmp, v_tcmp, v_eq, v_ne, v_lt, v_le, v_gt, v_ge, v_seq, v_tr_b, v_tr_i, v_tE, v_onot, v_tnot, v_not, v_neg, v_neg', v_ite, v_ite1, v_ite0, v_eand, v_eor, v_eand1, v_eand0, v_eor1, v_eor0, v_eand_i, v_eor_i, v_tand, v_tor, v_tand1, v_tand0, v_tor1, v_tor0, v_ttrue, v_tfalse, v_chain, v_var, v_int, v_bool, v_str, v_glob, v_lnil, v_lcons, v_lc, v_tup, v_lst, v_tup1, v_tup2, v_tup3, v_tup4, v_lst1, v_lst2, v_item, v_t0, v_t1, v_t2, v_t3, v_l0, v_l1, v_call, v_call', v_bits, v_bits', v_isint, v_isint', v_shift, v_shift_f, v_shift_c, v_dint, v_dabs, v_ddivmod, v_set, v_kset, v_set2, v_kset2, v_aug, v_int2, v_ret, v_kret, v_retof, v_retof', v_app_nil, v_app_cons, v_app_app, v_if, v_kif1, v_kif0, v_asrt, v_kasrt, v_un, v_unR, v_un2, v_un4, v_unR2, v_unR3, v_try, v_none, v_nil, v_for, v_kfor, v_kF_nil, v_kF_cons, v_tail, v_tail2, v_dlen2, v_while, v_kw, v_gt0, v_gts, v_up0, v_ups, v_defD, v_teq, v_teq2, List.length_cons, List.length_nil, List.cons_append, List.nil_append, List.append_nil, List.map_cons, List.map_nil, List.reduceReplicate, Nat.zero_add, Nat.reduceAdd, Bool.not_true, Bool.not_false, decide_true, decide_false, not_true_eq_false, not_false_eq_true, true_and, and_true, hz, hn, A_nrm, d_rn, RR, sg, if_true, if_false, Bool.false_eq_true, show (Str.ofString "c" == Str.ofString "n") = false by decide, e10, hn', fdiv_pow, hN, neg_fdiv]
        exact key _ (by rw [hm])
  · obtain ⟨m, t, ho, hm⟩ := odd_dec _ h0
    refine ⟨m, x + t, ?_, ?_⟩
    · unfold NR
      rw [if_neg hb]
      exact ⟨ho, t, hm.symm, rfl⟩
    · have hn : ¬ (0 : Int) < (bl man : Int) - p := by omega
      have hbl := bl_mul (show 0 < m by omega) t
      simp only [F_nrm, D_nrm_eq, v_bnd, v_bin, v_add, v_sub, v_mul, v_div, v_mod, v_pow, v_shl, v_shr, v_and, v_xor, v_app, v_ofB, v_cmp, v_tcmp, v_eq, v_ne, v_lt, v_le, v_gt, v_ge, v_seq, v_tr_b, v_tr_i, v_tE, v_onot, v_tnot, v_not, v_neg, v_neg', v_ite, v_ite1, v_ite0, v_eand, v_eor, v_eand1, v_eand0, v_eor1, v_eor0, v_eand_i, v_eor_i, v_tand, v_tor, v_tand1, v_tand0, v_tor1, v_tor0, v_ttrue, v_tfalse, v_chain, v_var, v_int, v_bool, v_str, v_glob, v_lnil, v_lcons, v_lc, v_tup, v_lst, v_tup1, v_tup2, v_tup3, v_tup4, v_lst1, v_lst2, v_item, v_t0, v_t1, v_t2, v_t3, v_l0, v_l1, v_call, v_call', v_bits, v_bits', v_isint, v_isint', v_shift, v_shift_f, v_shift_c, v_dint, v_dabs, v_ddivmod, v_set, v_kset, v_set2, v_kset2, v_aug, v_int2, v_ret, v_kret, v_retof, v_retof', v_app_nil, v_app_cons, v_app_app, v_if, v_kif1, v_kif0, v_asrt, v_kasrt, v_un, v_unR, v_un2, v_un4, v_unR2, v_unR3, v_try, v_none, v_nil, v_for, v_kfor, v_kF_nil, v_kF_cons, v_tail, v_tail2, v_dlen2, v_while, v_kw, v_gt0, v_gts, v_up0, v_ups, v_defD, v_teq, v_teq2, List.length_cons, List.length_nil, List.cons_append, List.nil_append, List.append_nil, List.map_cons, List.map_nil, List.reduceReplicate, Nat.zero_add, Nat.reduceAdd, Bool.not_true, Bool.not_false, decide_true, decide_false, not_true_eq_false, not_false_eq_true, true_and, and_true, hz, hn]
      rw [hm]
      rw [T_nrm_eval ho (.inr (by omega))]
      rfl
theorem nrm_zero (s x b p : Int) (r : D) : F_nrm [.int s, .int 0, .int x, .int b, .int p, r] = some d_fzero := by
  simp only [F_nrm, D_nrm_eq, v_bnd, v_bin, v_add, v_sub, v_mul, v_div, v_mod, v_pow, v_shl, v_shr, v_and, v_xor, v_app, v_ofB, v_cmp, v_tcmp, v_eq, v_ne, v_lt, v_le, v_gt, v_ge, v_seq, v_tr_b, v_tr_i, v_tE, v_onot, v_tnot, v_not, v_neg, v_neg', v_ite, v_ite1, v_ite0, v_eand, v_eor, v_eand1, v_eand0, v_eor1, v_eor0, v_eand_i, v_eor_i, v_tand, v_tor, v_tand1, v_tand0, v_tor1, v_tor0, v_ttrue, v_tfalse, v_chain, v_var, v_int, v_bool, v_str, v_glob, v_lnil, v_lcons, v_lc, v_tup, v_lst, v_tup1, v_tup2, v_tup3, v_tup4, v_lst1, v_lst2, v_item, v_t0, v_t1, v_t2, v_t3, v_l0, v_l1, v_call, v_call', v_bits, v_bits', v_isint, v_isint', v_shift, v_shift_f, v_shift_c, v_dint, v_dabs, v_ddivmod, v_set, v_kset, v_set2, v_kset2, v_aug, v_int2, v_ret, v_kret, v_retof, v_retof', v_app_nil, v_app_cons, v_app_app, v_if, v_kif1, v_kif0, v_asrt, v_kasrt, v_un, v_unR, v_un2, v_un4, v_unR2, v_unR3, v_try, v_none, v_nil, v_for, v_kfor, v_kF_nil, v_kF_cons, v_tail, v_tail2, v_dlen2, v_while, v_kw, v_gt0, v_gts, v_up0, v_ups, v_defD, v_teq, v_teq2, List.length_cons, List.length_nil, List.cons_append, List.nil_append, List.append_nil, List.map_cons, List.map_nil, List.reduceReplicate, Nat.zero_add, Nat.reduceAdd, Bool.not_true, Bool.not_false, decide_true, decide_false, not_true_eq_false, not_false_eq_true, true_and, and_true]
theorem normalize_eval (c s : Bool) (man p : Nat) (x : Int) (h0 : 0 < man) (hp : 1 ≤ p) :
    ∃ m e, NR p (c != s) man x m e ∧ F_normalize [.int (sg s), .int man, .int x, .int (bl man), .int p, RR c] = some (MM s m e) := by
  obtain ⟨m, e, h1, h2⟩ := nrm_eval c s man p x h0 hp
  refine ⟨m, e, h1, ?_⟩
  have h3 : (0 : Int) ≤ man := by omega
  simp only [F_normalize, D_normalize, v_bnd, v_bin, v_add, v_sub, v_mul, v_div, v_mod, v_pow, v_shl, v_shr, v_and, v_xor, v_app, v_ofB, v_cmp, v_tcmp, v_eq, v_ne, v_lt, v_le, v_gt, v_ge, v_seq, v_tr_b, v_tr_i, v_tE, v_onot, v_tnot, v_not, v_neg, v_neg', v_ite, v_ite1, v_ite0, v_eand, v_eor, v_eand1, v_eand0, v_eor1, v_eor0, v_eand_i, v_eor_i, v_tand, v_tor, v_tand1, v_tand0, v_tor1, v_tor0, v_ttrue, v_tfalse, v_chain, v_var, v_int, v_bool, v_str, v_glob, v_lnil, v_lcons, v_lc, v_tup, v_lst, v_tup1, v_tup2, v_tup3, v_tup4, v_lst1, v_lst2, v_item, v_t0, v_t1, v_t2, v_t3, v_l0, v_l1, v_call, v_call', v_bits, v_bits', v_isint, v_isint', v_shift, v_shift_f, v_shift_c, v_dint, v_dabs, v_ddivmod, v_set, v_kset, v_set2, v_kset2, v_aug, v_int2, v_ret, v_kret, v_retof, v_retof', v_app_nil, v_app_cons, v_app_app, v_if, v_kif1, v_kif0, v_asrt, v_kasrt, v_un, v_unR, v_un2, v_un4, v_unR2, v_unR3, v_try, v_none, v_nil, v_for, v_kfor, v_kF_nil, v_kF_cons, v_tail, v_tail2, v_dlen2, v_while, v_kw, v_gt0, v_gts, v_up0, v_ups, v_defD, v_teq, v_teq2, List.length_cons, List.length_nil, List.cons_append, List.nil_append, List.append_nil, List.map_cons, List.map_nil, List.reduceReplicate, Nat.zero_add, Nat.reduceAdd, Bool.not_true, Bool.not_false, decide_true, decide_false, not_true_eq_false, not_false_eq_true, true_and, and_true, h3, ib_nat, h2]
theorem normalize_zero (s x p : Int) (r : D) : F_normalize [.int s, .int 0, .int x, .int 0, .int p, r] = some d_fzero := by
  have h := ib_nat 0
  simp only [Int.natCast_zero, bl_zero] at h
  simp only [F_normalize, D_normalize, v_bnd, v_bin, v_add, v_sub, v_mul, v_div, v_mod, v_pow, v_shl, v_shr, v_and, v_xor, v_app, v_ofB, v_cmp, v_tcmp, v_eq, v_ne, v_lt, v_le, v_gt, v_ge, v_seq, v_tr_b, v_tr_i, v_tE, v_onot, v_tnot, v_not, v_neg, v_neg', v_ite, v_ite1, v_ite0, v_eand, v_eor, v_eand1, v_eand0, v_eor1, v_eor0, v_eand_i, v_eor_i, v_tand, v_tor, v_tand1, v_tand0, v_tor1, v_tor0, v_ttrue, v_tfalse, v_chain, v_var, v_int, v_bool, v_str, v_glob, v_lnil, v_lcons, v_lc, v_tup, v_lst, v_tup1, v_tup2, v_tup3, v_tup4, v_lst1, v_lst2, v_item, v_t0, v_t1, v_t2, v_t3, v_l0, v_l1, v_call, v_call', v_bits, v_bits', v_isint, v_isint', v_shift, v_shift_f, v_shift_c, v_dint, v_dabs, v_ddivmod, v_set, v_kset, v_set2, v_kset2, v_aug, v_int2, v_ret, v_kret, v_retof, v_retof', v_app_nil, v_app_cons, v_app_app, v_if, v_kif1, v_kif0, v_asrt, v_kasrt, v_un, v_unR, v_un2, v_un4, v_unR2, v_unR3, v_try, v_none, v_nil, v_for, v_kfor, v_kF_nil, v_kF_cons, v_tail, v_tail2, v_dlen2, v_while, v_kw, v_gt0, v_gts, v_up0, v_ups, v_defD, v_teq, v_teq2, List.length_cons, List.length_nil, List.cons_append, List.nil_append, List.append_nil, List.map_cons, List.map_nil, List.reduceReplicate, Nat.zero_add, Nat.reduceAdd, Bool.not_true, Bool.not_false, decide_true, decide_false, not_true_eq_false, not_false_eq_true, true_and, and_true, h, nrm_zero, Int.natCast_zero, Int.le_refl]
end Mine

namespace Mine
set_option autoImplicit false
theorem MM_zero : MM false 0 0 = d_fzero := rfl
theorem xor_sg (s t : Bool) : Builtin.bitXor (sg s) (sg t) = sg (s != t) := by cases s <;> cases t <;> decide
theorem sg_ne (s : Bool) : sg s = 0 ∨ sg s = 1 := by cases s <;> simp [sg]
theorem sg_neg (s : Bool) : 1 - sg s = sg (!s) := by cases s <;> decide

theorem neg_eval (s : Bool) (m : Nat) (e : Int) (r : D) (h : 0 < m) : F_mpf_neg [MM s m e, .int 0, r] = some (MM (!s) m e) := by
  have hz : ¬ (m : Int) = 0 := by omega
  simp only [F_mpf_neg, D_mpf_neg, MM, v_bnd, v_bin, v_add, v_sub, v_mul, v_div, v_mod, v_pow, v_shl, v_shr, v_and, v_xor, v_app, v_ofB, v_cmp, v_tcmp, v_eq, v_ne, v_lt, v_le, v_gt, v_ge, v_seq, v_tr_b, v_tr_i, v_tE, v_onot, v_tnot, v_not, v_neg, v_neg', v_ite, v_ite1, v_ite0, v_eand, v_eor, v_eand1, v_eand0, v_eor1, v_eor0, v_eand_i, v_eor_i, v_tand, v_tor, v_tand1, v_tand0, v_tor1, v_tor0, v_ttrue, v_tfalse, v_chain, v_var, v_int, v_bool, v_str, v_glob, v_lnil, v_lcons, v_lc, v_tup, v_lst, v_tup1, v_tup2, v_tup3, v_tup4, v_lst1, v_lst2, v_item, v_t0, v_t1, v_t2, v_t3, v_l0, v_l1, v_call, v_call', v_bits, v_bits', v_isint, v_isint', v_shift, v_shift_f, v_shift_c, v_dint, v_dabs, v_ddivmod, v_set, v_kset, v_set2, v_kset2, v_aug, v_int2, v_ret, v_kret, v_retof, v_retof', v_app_nil, v_app_cons, v_app_app, v_if, v_kif1, v_kif0, v_asrt, v_kasrt, v_un, v_unR, v_un2, v_un4, v_unR2, v_unR3, v_try, v_none, v_nil, v_for, v_kfor, v_kF_nil, v_kF_cons, v_tail, v_tail2, v_dlen2, v_while, v_kw, v_gt0, v_gts, v_up0, v_ups, v_defD, v_teq, v_teq2, List.length_cons, List.length_nil, List.cons_append, List.nil_append, List.append_nil, List.map_cons, List.map_nil, List.reduceReplicate, Nat.zero_add, Nat.reduceAdd, Bool.not_true, Bool.not_false, decide_true, decide_false, not_true_eq_false, not_false_eq_true, true_and, and_true, hz, sg_neg]
theorem neg_zero (r : D) : F_mpf_neg [d_fzero, .int 0, r] = some d_fzero := by
  simp only [F_mpf_neg, D_mpf_neg, v_bnd, v_bin, v_add, v_sub, v_mul, v_div, v_mod, v_pow, v_shl, v_shr, v_and, v_xor, v_app, v_ofB, v_cmp, v_tcmp, v_eq, v_ne, v_lt, v_le, v_gt, v_ge, v_seq, v_tr_b, v_tr_i, v_tE, v_onot, v_tnot, v_not, v_neg, v_neg', v_ite, v_ite1, v_ite0, v_eand, v_eor, v_eand1, v_eand0, v_eor1, v_eor0, v_eand_i, v_eor_i, v_tand, v_tor, v_tand1, v_tand0, v_tor1, v_tor0, v_ttrue, v_tfalse, v_chain, v_var, v_int, v_bool, v_str, v_glob, v_lnil, v_lcons, v_lc, v_tup, v_lst, v_tup1, v_tup2, v_tup3, v_tup4, v_lst1, v_lst2, v_item, v_t0, v_t1, v_t2, v_t3, v_l0, v_l1, v_call, v_call', v_bits, v_bits', v_isint, v_isint', v_shift, v_shift_f, v_shift_c, v_dint, v_dabs, v_ddivmod, v_set, v_kset, v_set2, v_kset2, v_aug, v_int2, v_ret, v_kret, v_retof, v_retof', v_app_nil, v_app_cons, v_app_app, v_if, v_kif1, v_kif0, v_asrt, v_kasrt, v_un, v_unR, v_un2, v_un4, v_unR2, v_unR3, v_try, v_none, v_nil, v_for, v_kfor, v_kF_nil, v_kF_cons, v_tail, v_tail2, v_dlen2, v_while, v_kw, v_gt0, v_gts, v_up0, v_ups, v_defD, v_teq, v_teq2, List.length_cons, List.length_nil, List.cons_append, List.nil_append, List.append_nil, List.map_cons, List.map_nil, List.reduceReplicate, Nat.zero_add, Nat.reduceAdd, Bool.not_true, Bool.not_false, decide_true, decide_false, not_true_eq_false, not_false_eq_true, true_and, and_true, d_fzero]
theorem neg1_eval (s : Bool) (m : Nat) (e : Int) (h : 0 < m) : F_mpf_neg_1 [MM s m e] = some (MM (!s) m e) := by
  have hz : ¬ (m : Int) = 0 := by omega
  simp only [F_mpf_neg_1, D_mpf_neg, MM, v_bnd, v_bin, v_add, v_sub, v_mul, v_div, v_mod, v_pow, v_shl, v_shr, v_and, v_xor, v_app, v_ofB, v_cmp, v_tcmp, v_eq, v_ne, v_lt, v_le, v_gt, v_ge, v_seq, v_tr_b, v_tr_i, v_tE, v_onot, v_tnot, v_not, v_neg, v_neg', v_ite, v_ite1, v_ite0, v_eand, v_eor, v_eand1, v_eand0, v_eor1, v_eor0, v_eand_i, v_eor_i, v_tand, v_tor, v_tand1, v_tand0, v_tor1, v_tor0, v_ttrue, v_tfalse, v_chain, v_var, v_int, v_bool, v_str, v_glob, v_lnil, v_lcons, v_lc, v_tup, v_lst, v_tup1, v_tup2, v_tup3, v_tup4, v_lst1, v_lst2, v_item, v_t0, v_t1, v_t2, v_t3, v_l0, v_l1, v_call, v_call', v_bits, v_bits', v_isint, v_isint', v_shift, v_shift_f, v_shift_c, v_dint, v_dabs, v_ddivmod, v_set, v_kset, v_set2, v_kset2, v_aug, v_int2, v_ret, v_kret, v_retof, v_retof', v_app_nil, v_app_cons, v_app_app, v_if, v_kif1, v_kif0, v_asrt, v_kasrt, v_un, v_unR, v_un2, v_un4, v_unR2, v_unR3, v_try, v_none, v_nil, v_for, v_kfor, v_kF_nil, v_kF_cons, v_tail, v_tail2, v_dlen2, v_while, v_kw, v_gt0, v_gts, v_up0, v_ups, v_defD, v_teq, v_teq2, List.length_cons, List.length_nil, List.cons_append, List.nil_append, List.append_nil, List.map_cons, List.map_nil, List.reduceReplicate, Nat.zero_add, Nat.reduceAdd, Bool.not_true, Bool.not_false, decide_true, decide_false, not_true_eq_false, not_false_eq_true, true_and, and_true, hz, sg_neg]
theorem neg1_zero : F_mpf_neg_1 [d_fzero] = some d_fzero := by
  simp only [F_mpf_neg_1, D_mpf_neg, v_bnd, v_bin, v_add, v_sub, v_mul, v_div, v_mod, v_pow, v_shl, v_shr, v_and, v_xor, v_app, v_ofB, v_cmp, v_tcmp, v_eq, v_ne, v_lt, v_le, v_gt, v_ge, v_seq, v_tr_b, v_tr_i, v_tE, v_onot, v_tnot, v_not, v_neg, v_neg', v_ite, v_ite1, v_ite0, v_eand, v_eor, v_eand1, v_eand0, v_eor1, v_eor0, v_eand_i, v_eor_i, v_tand, v_tor, v_tand1, v_tand0, v_tor1, v_tor0, v_ttrue, v_tfalse, v_chain, v_var, v_int, v_bool, v_str, v_glob, v_lnil, v_lcons, v_lc, v_tup, v_lst, v_tup1, v_tup2, v_tup3, v_tup4, v_lst1, v_lst2, v_item, v_t0, v_t1, v_t2, v_t3, v_l0, v_l1, v_call, v_call', v_bits, v_bits', v_isint, v_isint', v_shift, v_shift_f, v_shift_c, v_dint, v_dabs, v_ddivmod, v_set, v_kset, v_set2, v_kset2, v_aug, v_int2, v_ret, v_kret, v_retof, v_retof', v_app_nil, v_app_cons, v_app_app, v_if, v_kif1, v_kif0, v_asrt, v_kasrt, v_un, v_unR, v_un2, v_un4, v_unR2, v_unR3, v_try, v_none, v_nil, v_for, v_kfor, v_kF_nil, v_kF_cons, v_tail, v_tail2, v_dlen2, v_while, v_kw, v_gt0, v_gts, v_up0, v_ups, v_defD, v_teq, v_teq2, List.length_cons, List.length_nil, List.cons_append, List.nil_append, List.append_nil, List.map_cons, List.map_nil, List.reduceReplicate, Nat.zero_add, Nat.reduceAdd, Bool.not_true, Bool.not_false, decide_true, decide_false, not_true_eq_false, not_false_eq_true, true_and, and_true, d_fzero]
theorem sign_eval (s : Bool) (m : Nat) (e : Int) (h : 0 < m) : F_mpf_sign [MM s m e] = some (.int (if s then -1 else 1)) := by
  have hz : ¬ (m : Int) = 0 := by omega
  have hp : PowG (-1) (sg s) := by unfold PowG; cases s <;> decide
  have he : (-1 : Int) ^ (sg s).toNat = if s then -1 else 1 := by cases s <;> decide
  simp only [F_mpf_sign, D_mpf_sign, MM, v_bnd, v_bin, v_add, v_sub, v_mul, v_div, v_mod, v_pow, v_shl, v_shr, v_and, v_xor, v_app, v_ofB, v_cmp, v_tcmp, v_eq, v_ne, v_lt, v_le, v_gt, v_ge, v_seq, v_tr_b, v_tr_i, v_tE, v_onot, v_tnot, v_not, v_neg, v_neg', v_ite, v_ite1, v_ite0, v_eand, v_eor, v_eand1, v_eand0, v_eor1, v_eor0, v_eand_i, v_eor_i, v_tand, v_tor, v_tand1, v_tand0, v_tor1, v_tor0, v_ttrue, v_tfalse, v_chain, v_var, v_int, v_bool, v_str, v_glob, v_lnil, v_lcons, v_lc, v_tup, v_lst, v_tup1, v_tup2, v_tup3, v_tup4, v_lst1, v_lst2, v_item, v_t0, v_t1, v_t2, v_t3, v_l0, v_l1, v_call, v_call', v_bits, v_bits', v_isint, v_isint', v_shift, v_shift_f, v_shift_c, v_dint, v_dabs, v_ddivmod, v_set, v_kset, v_set2, v_kset2, v_aug, v_int2, v_ret, v_kret, v_retof, v_retof', v_app_nil, v_app_cons, v_app_app, v_if, v_kif1, v_kif0, v_asrt, v_kasrt, v_un, v_unR, v_un2, v_un4, v_unR2, v_unR3, v_try, v_none, v_nil, v_for, v_kfor, v_kF_nil, v_kF_cons, v_tail, v_tail2, v_dlen2, v_while, v_kw, v_gt0, v_gts, v_up0, v_ups, v_defD, v_teq, v_teq2, List.length_cons, List.length_nil, List.cons_append, List.nil_append, List.append_nil, List.map_cons, List.map_nil, List.reduceReplicate, Nat.zero_add, Nat.reduceAdd, Bool.not_true, Bool.not_false, decide_true, decide_false, not_true_eq_false, not_false_eq_true, true_and, and_true, hz, hp, he]
theorem sign_zero : F_mpf_sign [d_fzero] = some (.int 0) := by
  simp only [F_mpf_sign, D_mpf_sign, v_bnd, v_bin, v_add, v_sub, v_mul, v_div, v_mod, v_pow, v_shl, v_shr, v_and, v_xor, v_app, v_ofB, v_cmp, v_tcmp, v_eq, v_ne, v_lt, v_le, v_gt, v_ge, v_seq, v_tr_b, v_tr_i, v_tE, v_onot, v_tnot, v_not, v_neg, v_neg', v_ite, v_ite1, v_ite0, v_eand, v_eor, v_eand1, v_eand0, v_eor1, v_eor0, v_eand_i, v_eor_i, v_tand, v_tor, v_tand1, v_tand0, v_tor1, v_tor0, v_ttrue, v_tfalse, v_chain, v_var, v_int, v_bool, v_str, v_glob, v_lnil, v_lcons, v_lc, v_tup, v_lst, v_tup1, v_tup2, v_tup3, v_tup4, v_lst1, v_lst2, v_item, v_t0, v_t1, v_t2, v_t3, v_l0, v_l1, v_call, v_call', v_bits, v_bits', v_isint, v_isint', v_shift, v_shift_f, v_shift_c, v_dint, v_dabs, v_ddivmod, v_set, v_kset, v_set2, v_kset2, v_aug, v_int2, v_ret, v_kret, v_retof, v_retof', v_app_nil, v_app_cons, v_app_app, v_if, v_kif1, v_kif0, v_asrt, v_kasrt, v_un, v_unR, v_un2, v_un4, v_unR2, v_unR3, v_try, v_none, v_nil, v_for, v_kfor, v_kF_nil, v_kF_cons, v_tail, v_tail2, v_dlen2, v_while, v_kw, v_gt0, v_gts, v_up0, v_ups, v_defD, v_teq, v_teq2, List.length_cons, List.length_nil, List.cons_append, List.nil_append, List.append_nil, List.map_cons, List.map_nil, List.reduceReplicate, Nat.zero_add, Nat.reduceAdd, Bool.not_true, Bool.not_false, decide_true, decide_false, not_true_eq_false, not_false_eq_true, true_and, and_true, d_fzero, d_finf, d_fninf, show ¬ (0 : Int) = -456 by decide, show ¬ (0 : Int) = 1 by decide, false_and, and_false]

theorem mul_self_eval (c s : Bool) (m p : Nat) (e : Int) (h : 0 < m) (hb : bl m ≤ 64) (hp : 1 ≤ p) :
    ∃ m' e', NR p c (m * m) (e + e) m' e' ∧ F_mpf_mul [MM s m e, MM s m e, .int p, RR c] = some (MM false m' e') := by
  obtain ⟨m', e', h1, h2⟩ := normalize_eval c false (m * m) p (e + e) (Nat.mul_pos h h) hp
  refine ⟨m', e', by simpa using h1, ?_⟩
  have hm : ¬ ((m * m : Nat) : Int) = 0 := by have := Nat.mul_pos h h; omega
  have hmm : (m : Int) * m = ((m * m : Nat) : Int) := by push_cast; rfl
  have hg : MulG m m := .inl (by rw [ib_nat]; exact hb)
  have hx := xor_sg s s
  have hpz : ¬ (p : Int) = 0 := by omega
  rw [show (s != s) = false by simp] at hx
  simp only [F_mpf_mul, D_mpf_mul, MM, v_bnd, v_bin, v_add, v_sub, v_mul, v_div, v_mod, v_pow, v_shl, v_shr, v_and, v_xor, v_app, v_ofB, v_cmp, v_tcmp, v_eq, v_ne, v_lt, v_le, v_gt, v_ge, v_seq, v_tr_b, v_tr_i, v_tE, v_onot, v_tnot, v_not, v_neg, v_neg', v_ite, v_ite1, v_ite0, v_eand, v_eor, v_eand1, v_eand0, v_eor1, v_eor0, v_eand_i, v_eor_i, v_tand, v_tor, v_tand1, v_tand0, v_tor1, v_tor0, v_ttrue, v_tfalse, v_chain, v_var, v_int, v_bool, v_str, v_glob, v_lnil, v_lcons, v_lc, v_tup, v_lst, v_tup1, v_tup2, v_tup3, v_tup4, v_lst1, v_lst2, v_item, v_t0, v_t1, v_t2, v_t3, v_l0, v_l1, v_call, v_call', v_bits, v_bits', v_isint, v_isint', v_shift, v_shift_f, v_shift_c, v_dint, v_dabs, v_ddivmod, v_set, v_kset, v_set2, v_kset2, v_aug, v_int2, v_ret, v_kret, v_retof, v_retof', v_app_nil, v_app_cons, v_app_app, v_if, v_kif1, v_kif0, v_asrt, v_kasrt, v_un, v_unR, v_un2, v_un4, v_unR2, v_unR3, v_try, v_none, v_nil, v_for, v_kfor, v_kF_nil, v_kF_cons, v_tail, v_tail2, v_dlen2, v_while, v_kw, v_gt0, v_gts, v_up0, v_ups, v_defD, v_teq, v_teq2, List.length_cons, List.length_nil, List.cons_append, List.nil_append, List.append_nil, List.map_cons, List.map_nil, List.reduceReplicate, Nat.zero_add, Nat.reduceAdd, Bool.not_true, Bool.not_false, decide_true, decide_false, not_true_eq_false, not_false_eq_true, true_and, and_true, hg, hx, hmm, hm, ib_nat, hpz, h2]
theorem mul_zero_eval (p : Int) (r : D) : F_mpf_mul [d_fzero, d_fzero, .int p, r] = some d_fzero := by
  have hg : MulG 0 0 := by unfold MulG; decide
  simp only [F_mpf_mul, D_mpf_mul, d_fzero, v_bnd, v_bin, v_add, v_sub, v_mul, v_div, v_mod, v_pow, v_shl, v_shr, v_and, v_xor, v_app, v_ofB, v_cmp, v_tcmp, v_eq, v_ne, v_lt, v_le, v_gt, v_ge, v_seq, v_tr_b, v_tr_i, v_tE, v_onot, v_tnot, v_not, v_neg, v_neg', v_ite, v_ite1, v_ite0, v_eand, v_eor, v_eand1, v_eand0, v_eor1, v_eor0, v_eand_i, v_eor_i, v_tand, v_tor, v_tand1, v_tand0, v_tor1, v_tor0, v_ttrue, v_tfalse, v_chain, v_var, v_int, v_bool, v_str, v_glob, v_lnil, v_lcons, v_lc, v_tup, v_lst, v_tup1, v_tup2, v_tup3, v_tup4, v_lst1, v_lst2, v_item, v_t0, v_t1, v_t2, v_t3, v_l0, v_l1, v_call, v_call', v_bits, v_bits', v_isint, v_isint', v_shift, v_shift_f, v_shift_c, v_dint, v_dabs, v_ddivmod, v_set, v_kset, v_set2, v_kset2, v_aug, v_int2, v_ret, v_kret, v_retof, v_retof', v_app_nil, v_app_cons, v_app_app, v_if, v_kif1, v_kif0, v_asrt, v_kasrt, v_un, v_unR, v_un2, v_un4, v_unR2, v_unR3, v_try, v_none, v_nil, v_for, v_kfor, v_kF_nil, v_kF_cons, v_tail, v_tail2, v_dlen2, v_while, v_kw, v_gt0, v_gts, v_up0, v_ups, v_defD, v_teq, v_teq2, List.length_cons, List.length_nil, List.cons_append, List.nil_append, List.append_nil, List.map_cons, List.map_nil, List.reduceReplicate, Nat.zero_add, Nat.reduceAdd, Bool.not_true, Bool.not_false, decide_true, decide_false, not_true_eq_false, not_false_eq_true, true_and, and_true, hg, Int.zero_mul]

theorem div_zero_eval (t : Bool) (m : Nat) (e p : Int) (r : D) (h : 0 < m) : F_mpf_div [d_fzero, MM t m e, .int p, r] = some d_fzero := by
  have hz : ¬ (m : Int) = 0 := by omega
  simp only [F_mpf_div, D_mpf_div, d_fzero, MM, v_bnd, v_bin, v_add, v_sub, v_mul, v_div, v_mod, v_pow, v_shl, v_shr, v_and, v_xor, v_app, v_ofB, v_cmp, v_tcmp, v_eq, v_ne, v_lt, v_le, v_gt, v_ge, v_seq, v_tr_b, v_tr_i, v_tE, v_onot, v_tnot, v_not, v_neg, v_neg', v_ite, v_ite1, v_ite0, v_eand, v_eor, v_eand1, v_eand0, v_eor1, v_eor0, v_eand_i, v_eor_i, v_tand, v_tor, v_tand1, v_tand0, v_tor1, v_tor0, v_ttrue, v_tfalse, v_chain, v_var, v_int, v_bool, v_str, v_glob, v_lnil, v_lcons, v_lc, v_tup, v_lst, v_tup1, v_tup2, v_tup3, v_tup4, v_lst1, v_lst2, v_item, v_t0, v_t1, v_t2, v_t3, v_l0, v_l1, v_call, v_call', v_bits, v_bits', v_isint, v_isint', v_shift, v_shift_f, v_shift_c, v_dint, v_dabs, v_ddivmod, v_set, v_kset, v_set2, v_kset2, v_aug, v_int2, v_ret, v_kret, v_retof, v_retof', v_app_nil, v_app_cons, v_app_app, v_if, v_kif1, v_kif0, v_asrt, v_kasrt, v_un, v_unR, v_un2, v_un4, v_unR2, v_unR3, v_try, v_none, v_nil, v_for, v_kfor, v_kF_nil, v_kF_cons, v_tail, v_tail2, v_dlen2, v_while, v_kw, v_gt0, v_gts, v_up0, v_ups, v_defD, v_teq, v_teq2, List.length_cons, List.length_nil, List.cons_append, List.nil_append, List.append_nil, List.map_cons, List.map_nil, List.reduceReplicate, Nat.zero_add, Nat.reduceAdd, Bool.not_true, Bool.not_false, decide_true, decide_false, not_true_eq_false, not_false_eq_true, true_and, and_true, hz, d_fnan, false_and, and_false]

theorem fdiv_nat (a b : Nat) : ((a : Nat) : Int).fdiv (b : Int) = ((a / b : Nat) : Int) := by
  rw [Int.fdiv_eq_ediv_of_nonneg _ (Int.natCast_nonneg _)]; exact (Int.natCast_ediv _ _).symm
theorem fmod_nat (a b : Nat) : ((a : Nat) : Int).fmod (b : Int) = ((a % b : Nat) : Int) := by
  rw [Int.fmod_eq_emod_of_nonneg _ (Int.natCast_nonneg _)]; exact (Int.natCast_emod _ _).symm
theorem shl_nat (a n : Nat) : ((a : Nat) : Int) * 2 ^ n = ((a * 2 ^ n : Nat) : Int) := by push_cast; rfl
theorem log2_lt {n k : Nat} (h : bl n ≤ k) (h0 : 0 < n) : n.log2 < k := by unfold bl at h; rw [if_neg (by omega)] at h; omega

theorem quot_bl {sm tm extra p : Nat} (hs : 0 < sm) (ht : 0 < tm) (h : p + bl tm ≤ bl sm - 1 + extra) : p < bl (sm * 2 ^ extra / tm) := by
  refine Nat.lt_of_not_le fun q => ?_
  have h1 := lt_of_bl q
  rw [Nat.div_lt_iff_lt_mul ht] at h1
  have h2 := bl_ge hs
  have h3 := bl_lt tm
  have h4 : 2 ^ (p + bl tm) ≤ sm * 2 ^ extra := Nat.le_trans (Nat.pow_le_pow_right (by decide) h) (by rw [Nat.pow_add]; exact Nat.mul_le_mul_right _ h2)
  rw [Nat.pow_add] at h4
  have h5 : 2 ^ p * tm ≤ 2 ^ p * 2 ^ bl tm := Nat.mul_le_mul_left _ (Nat.le_of_lt h3)
  omega

theorem div_eval (c s t : Bool) (sm tm p : Nat) (se te : Int) (hs : 0 < sm) (ht : 0 < tm) (hp : 1 ≤ p) (b1 : bl sm ≤ 4000) (b2 : bl tm ≤ 4000) (b3 : p ≤ 4000) :
    ∃ m e, Rd p (c != (s != t)) (sm * 2 ^ se.toNat * 2 ^ (-te).toNat) (2 ^ (-se).toNat * (tm * 2 ^ te.toNat)) m e ∧
      F_mpf_div [MM s sm se, MM t tm te, .int p, RR c] = some (MM (s != t) m e) := by
  have hz : ¬ (sm : Int) = 0 := by omega
  have hz' : ¬ (tm : Int) = 0 := by omega
  have hpz : ¬ (p : Int) = 0 := by omega
  have hx := xor_sg s t
  have hden : 0 < 2 ^ (-se).toNat * (tm * 2 ^ te.toNat) := Nat.mul_pos (p2_pos _) (Nat.mul_pos ht (p2_pos _))
  by_cases h1 : tm = 1
  · subst h1
    obtain ⟨m, e, n1, n2⟩ := normalize_eval c (s != t) sm p (se - te) hs hp
    refine ⟨m, e, ?_, ?_⟩
    · have := n1.exact hp hs (se.toNat + (-te).toNat) ((-se).toNat + te.toNat) (by omega)
      refine this.congr (p2_pos _) hden ?_
      simp only [Nat.pow_add, Nat.one_mul]
      ac_rfl
    · have h11 : ((1 : Nat) : Int) = 1 := rfl
      simp only [F_mpf_div, D_mpf_div, MM, v_bnd, v_bin, v_add, v_sub, v_mul, v_div, v_mod, v_pow, v_shl, v_shr, v_and, v_xor, v_app, v_ofB, v_cmp, v_tcmp, v_eq, v_ne, v_lt, v_le, v_gt, v_ge, v_seq, v_tr_b, v_tr_i, v_tE, v_onot, v_tnot, v_not, v_neg, v_neg', v_ite, v_ite1, v_ite0, v_eand, v_eor, v_eand1, v_eand0, v_eor1, v_eor0, v_eand_i, v_eor_i, v_tand, v_tor, v_tand1, v_tand0, v_tor1, v_tor0, v_ttrue, v_tfalse, v_chain, v_var, v_int, v_bool, v_str, v_glob, v_lnil, v_lcons, v_lc, v_tup, v_lst, v_tup1, v_tup2, v_tup3, v_tup4, v_lst1, v_lst2, v_item, v_t0, v_t1, v_t2, v_t3, v_l0, v_l1, v_call, v_call', v_bits, v_bits', v_isint, v_isint', v_shift, v_shift_f, v_shift_c, v_dint, v_dabs, v_ddivmod, v_set, v_kset, v_set2, v_kset2, v_aug, v_int2, v_ret, v_kret, v_retof, v_retof', v_app_nil, v_app_cons, v_app_app, v_if, v_kif1, v_kif0, v_asrt, v_kasrt, v_un, v_unR, v_un2, v_un4, v_unR2, v_unR3, v_try, v_none, v_nil, v_for, v_kfor, v_kF_nil, v_kF_cons, v_tail, v_tail2, v_dlen2, v_while, v_kw, v_gt0, v_gts, v_up0, v_ups, v_defD, v_teq, v_teq2, List.length_cons, List.length_nil, List.cons_append, List.nil_append, List.append_nil, List.map_cons, List.map_nil, List.reduceReplicate, Nat.zero_add, Nat.reduceAdd, Bool.not_true, Bool.not_false, decide_true, decide_false, not_true_eq_false, not_false_eq_true, true_and, and_true, hz, hx, h11, show ¬ (1 : Int) = 0 by decide, n2]
  · have h1' : ¬ (tm : Int) = 1 := by omega
    obtain ⟨extra, he, hE⟩ : ∃ extra : Nat, (extra : Int) = (if (p : Int) - bl sm + bl tm + 5 < 5 then 5 else (p : Int) - bl sm + bl tm + 5) ∧ extra ≤ 8010 ∧ p + bl tm ≤ bl sm - 1 + extra := by
      have := bl_pos hs
      split
      · exact ⟨5, rfl, by omega, by omega⟩
      · exact ⟨((p : Int) - bl sm + bl tm + 5).toNat, by omega, by omega, by omega⟩
    have hq := quot_bl hs ht hE.2
    have hq0 : 0 < sm * 2 ^ extra / tm := by
      refine Nat.pos_of_ne_zero fun z => ?_
      rw [z] at hq; simp [bl] at hq
    have hgd : DivG tm := ⟨hz', by rw [Int.natAbs_natCast]; have := log2_lt b2 ht; omega⟩
    have hsh : ShlG sm extra := ⟨by omega, by rw [ib_nat]; omega⟩
    have hdm := Nat.div_add_mod (sm * 2 ^ extra) tm
    have hml := Nat.mod_lt (sm * 2 ^ extra) ht
    have htn : ((extra : Int)).toNat = extra := Int.toNat_natCast _
    by_cases hr : sm * 2 ^ extra % tm = 0
    · obtain ⟨m, e, n1, n2⟩ := normalize_eval c (s != t) (sm * 2 ^ extra / tm) p (se - te - extra) hq0 hp
      refine ⟨m, e, ?_, ?_⟩
      · have := n1.exact hp hq0 (se.toNat + (-te).toNat) ((-se).toNat + te.toNat + extra) (by omega)
        refine this.congr (p2_pos _) hden ?_
        have e1 : sm * 2 ^ extra / tm * tm = sm * 2 ^ extra := by rw [Nat.mul_comm]; omega
        simp only [Nat.pow_add]
        calc sm * 2 ^ extra / tm * (2 ^ se.toNat * 2 ^ (-te).toNat) * (2 ^ (-se).toNat * (tm * 2 ^ te.toNat))
            = (sm * 2 ^ extra / tm * tm) * (2 ^ se.toNat * 2 ^ (-te).toNat * (2 ^ (-se).toNat * 2 ^ te.toNat)) := by ac_rfl
          _ = sm * 2 ^ extra * (2 ^ se.toNat * 2 ^ (-te).toNat * (2 ^ (-se).toNat * 2 ^ te.toNat)) := by rw [e1]
          _ = _ := by ac_rfl
      · have hr' : ((sm * 2 ^ extra % tm : Nat) : Int) = 0 := by omega
        by_cases h5 : (p : Int) - bl sm + bl tm + 5 < 5
        · rw [if_pos h5] at he
          rw [he] at hsh n2 htn
          simp only [F_mpf_div, D_mpf_div, MM, v_bnd, v_bin, v_add, v_sub, v_mul, v_div, v_mod, v_pow, v_shl, v_shr, v_and, v_xor, v_app, v_ofB, v_cmp, v_tcmp, v_eq, v_ne, v_lt, v_le, v_gt, v_ge, v_seq, v_tr_b, v_tr_i, v_tE, v_onot, v_tnot, v_not, v_neg, v_neg', v_ite, v_ite1, v_ite0, v_eand, v_eor, v_eand1, v_eand0, v_eor1, v_eor0, v_eand_i, v_eor_i, v_tand, v_tor, v_tand1, v_tand0, v_tor1, v_tor0, v_ttrue, v_tfalse, v_chain, v_var, v_int, v_bool, v_str, v_glob, v_lnil, v_lcons, v_lc, v_tup, v_lst, v_tup1, v_tup2, v_tup3, v_tup4, v_lst1, v_lst2, v_item, v_t0, v_t1, v_t2, v_t3, v_l0, v_l1, v_call, v_call', v_bits, v_bits', v_isint, v_isint', v_shift, v_shift_f, v_shift_c, v_dint, v_dabs, v_ddivmod, v_set, v_kset, v_set2, v_kset2, v_aug, v_int2, v_ret, v_kret, v_retof, v_retof', v_app_nil, v_app_cons, v_app_app, v_if, v_kif1, v_kif0, v_asrt, v_kasrt, v_un, v_unR, v_un2, v_un4, v_unR2, v_unR3, v_try, v_none, v_nil, v_for, v_kfor, v_kF_nil, v_kF_cons, v_tail, v_tail2, v_dlen2, v_while, v_kw, v_gt0, v_gts, v_up0, v_ups, v_defD, v_teq, v_teq2, List.length_cons, List.length_nil, List.cons_append, List.nil_append, List.append_nil, List.map_cons, List.map_nil, List.reduceReplicate, Nat.zero_add, Nat.reduceAdd, Bool.not_true, Bool.not_false, decide_true, decide_false, not_true_eq_false, not_false_eq_true, true_and, and_true, hz, hz', hx, h1', hpz, h5, hsh, hgd, htn, shl_nat, fdiv_nat, fmod_nat, hr', ib_nat, n2]
        · rw [if_neg h5] at he
          rw [he] at hsh n2 htn
          simp only [F_mpf_div, D_mpf_div, MM, v_bnd, v_bin, v_add, v_sub, v_mul, v_div, v_mod, v_pow, v_shl, v_shr, v_and, v_xor, v_app, v_ofB, v_cmp, v_tcmp, v_eq, v_ne, v_lt, v_le, v_gt, v_ge, v_seq, v_tr_b, v_tr_i, v_tE, v_onot, v_tnot, v_not, v_neg, v_neg', v_ite, v_ite1, v_ite0, v_eand, v_eor, v_eand1, v_eand0, v_eor1, v_eor0, v_eand_i, v_eor_i, v_tand, v_tor, v_tand1, v_tand0, v_tor1, v_tor0, v_ttrue, v_tfalse, v_chain, v_var, v_int, v_bool, v_str, v_glob, v_lnil, v_lcons, v_lc, v_tup, v_lst, v_tup1, v_tup2, v_tup3, v_tup4, v_lst1, v_lst2, v_item, v_t0, v_t1, v_t2, v_t3, v_l0, v_l1, v_call, v_call', v_bits, v_bits', v_isint, v_isint', v_shift, v_shift_f, v_shift_c, v_dint, v_dabs, v_ddivmod, v_set, v_kset, v_set2, v_kset2, v_aug, v_int2, v_ret, v_kret, v_retof, v_retof', v_app_nil, v_app_cons, v_app_app, v_if, v_kif1, v_kif0, v_asrt, v_kasrt, v_un, v_unR, v_un2, v_un4, v_unR2, v_unR3, v_try, v_none, v_nil, v_for, v_kfor, v_kF_nil, v_kF_cons, v_tail, v_tail2, v_dlen2, v_while, v_kw, v_gt0, v_gts, v_up0, v_ups, v_defD, v_teq, v_teq2, List.length_cons, List.length_nil, List.cons_append, List.nil_append, List.append_nil, List.map_cons, List.map_nil, List.reduceReplicate, Nat.zero_add, Nat.reduceAdd, Bool.not_true, Bool.not_false, decide_true, decide_false, not_true_eq_false, not_false_eq_true, true_and, and_true, hz, hz', hx, h1', hpz, h5, hsh, hgd, htn, shl_nat, fdiv_nat, fmod_nat, hr', ib_nat, n2]
    · have hqb : p < bl (2 * (sm * 2 ^ extra / tm) + 1) := by
        refine Nat.lt_of_lt_of_le hq (bl_le ?_)
        have := bl_lt (2 * (sm * 2 ^ extra / tm) + 1)
        omega
      obtain ⟨m, e, n1, n2⟩ := normalize_eval c (s != t) (2 * (sm * 2 ^ extra / tm) + 1) p (se - te - (extra + 1)) (by omega) hp
      refine ⟨m, e, ?_, ?_⟩
      · have := NR.sticky (N := sm * 2 ^ extra) (B := tm) hp hqb n1 (by rw [Nat.mul_comm]; omega) (by rw [Nat.add_mul, Nat.mul_comm (_ / _)]; omega) (se.toNat + (-te).toNat) ((-se).toNat + te.toNat + extra) (by omega)
        refine this.congr (Nat.mul_pos ht (p2_pos _)) hden ?_
        simp only [Nat.pow_add]
        ac_rfl
      · have hr' : ¬ ((sm * 2 ^ extra % tm : Nat) : Int) = 0 := by omega
        have hs1 : ShlG ((sm * 2 ^ extra / tm : Nat) : Int) 1 := by
          refine ⟨by decide, ?_⟩
          rw [ib_nat]
          have : bl (sm * 2 ^ extra / tm) ≤ bl sm + extra := by
            refine bl_le (Nat.lt_of_le_of_lt (Nat.div_le_self _ _) ?_)
            rw [Nat.pow_add]
            exact Nat.mul_lt_mul_of_pos_right (bl_lt sm) (p2_pos _)
          omega
        have e2 : ((sm * 2 ^ extra / tm * 2 ^ (1 : Int).toNat : Nat) : Int) + 1 = ((2 * (sm * 2 ^ extra / tm) + 1 : Nat) : Int) := by
          have : (2 : Nat) ^ (1 : Int).toNat = 2 := by decide
          rw [this]
          omega
        by_cases h5 : (p : Int) - bl sm + bl tm + 5 < 5
        · rw [if_pos h5] at he
          rw [he] at hsh n2 htn
          simp only [F_mpf_div, D_mpf_div, MM, v_bnd, v_bin, v_add, v_sub, v_mul, v_div, v_mod, v_pow, v_shl, v_shr, v_and, v_xor, v_app, v_ofB, v_cmp, v_tcmp, v_eq, v_ne, v_lt, v_le, v_gt, v_ge, v_seq, v_tr_b, v_tr_i, v_tE, v_onot, v_tnot, v_not, v_neg, v_neg', v_ite, v_ite1, v_ite0, v_eand, v_eor, v_eand1, v_eand0, v_eor1, v_eor0, v_eand_i, v_eor_i, v_tand, v_tor, v_tand1, v_tand0, v_tor1, v_tor0, v_ttrue, v_tfalse, v_chain, v_var, v_int, v_bool, v_str, v_glob, v_lnil, v_lcons, v_lc, v_tup, v_lst, v_tup1, v_tup2, v_tup3, v_tup4, v_lst1, v_lst2, v_item, v_t0, v_t1, v_t2, v_t3, v_l0, v_l1, v_call, v_call', v_bits, v_bits', v_isint, v_isint', v_shift, v_shift_f, v_shift_c, v_dint, v_dabs, v_ddivmod, v_set, v_kset, v_set2, v_kset2, v_aug, v_int2, v_ret, v_kret, v_retof, v_retof', v_app_nil, v_app_cons, v_app_app, v_if, v_kif1, v_kif0, v_asrt, v_kasrt, v_un, v_unR, v_un2, v_un4, v_unR2, v_unR3, v_try, v_none, v_nil, v_for, v_kfor, v_kF_nil, v_kF_cons, v_tail, v_tail2, v_dlen2, v_while, v_kw, v_gt0, v_gts, v_up0, v_ups, v_defD, v_teq, v_teq2, List.length_cons, List.length_nil, List.cons_append, List.nil_append, List.append_nil, List.map_cons, List.map_nil, List.reduceReplicate, Nat.zero_add, Nat.reduceAdd, Bool.not_true, Bool.not_false, decide_true, decide_false, not_true_eq_false, not_false_eq_true, true_and, and_true, hz, hz', hx, h1', hpz, h5, hsh, hgd, htn, shl_nat, fdiv_nat, fmod_nat, hr', hs1, e2, ib_nat, n2]
        · rw [if_neg h5] at he
          rw [he] at hsh n2 htn
          simp only [F_mpf_div, D_mpf_div, MM, v_bnd, v_bin, v_add, v_sub, v_mul, v_div, v_mod, v_pow, v_shl, v_shr, v_and, v_xor, v_app, v_ofB, v_cmp, v_tcmp, v_eq, v_ne, v_lt, v_le, v_gt, v_ge, v_seq, v_tr_b, v_tr_i, v_tE, v_onot, v_tnot, v_not, v_neg, v_neg', v_ite, v_ite1, v_ite0, v_eand, v_eor, v_eand1, v_eand0, v_eor1, v_eor0, v_eand_i, v_eor_i, v_tand, v_tor, v_tand1, v_tand0, v_tor1, v_tor0, v_ttrue, v_tfalse, v_chain, v_var, v_int, v_bool, v_str, v_glob, v_lnil, v_lcons, v_lc, v_tup, v_lst, v_tup1, v_tup2, v_tup3, v_tup4, v_lst1, v_lst2, v_item, v_t0, v_t1, v_t2, v_t3, v_l0, v_l1, v_call, v_call', v_bits, v_bits', v_isint, v_isint', v_shift, v_shift_f, v_shift_c, v_dint, v_dabs, v_ddivmod, v_set, v_kset, v_set2, v_kset2, v_aug, v_int2, v_ret, v_kret, v_retof, v_retof', v_app_nil, v_app_cons, v_app_app, v_if, v_kif1, v_kif0, v_asrt, v_kasrt, v_un, v_unR, v_un2, v_un4, v_unR2, v_unR3, v_try, v_none, v_nil, v_for, v_kfor, v_kF_nil, v_kF_cons, v_tail, v_tail2, v_dlen2, v_while, v_kw, v_gt0, v_gts, v_up0, v_ups, v_defD, v_teq, v_teq2, List.length_cons, List.length_nil, List.cons_append, List.nil_append, List.append_nil, List.map_cons, List.map_nil, List.reduceReplicate, Nat.zero_add, Nat.reduceAdd, Bool.not_true, Bool.not_false, decide_true, decide_false, not_true_eq_false, not_false_eq_true, true_and, and_true, hz, hz', hx, h1', hpz, h5, hsh, hgd, htn, shl_nat, fdiv_nat, fmod_nat, hr', hs1, e2, ib_nat, n2]
end Mine

namespace Mine
set_option autoImplicit false
/-! dyadic numbers compared -/
abbrev dle (a : Nat) (x : Int) (b : Nat) (y : Int) : Prop := a * 2 ^ (x - y).toNat ≤ b * 2 ^ (y - x).toNat
abbrev dlt (a : Nat) (x : Int) (b : Nat) (y : Int) : Prop := a * 2 ^ (x - y).toNat < b * 2 ^ (y - x).toNat
theorem pw_le {a b i j i' j' : Nat} (h : i + j' = i' + j) : a * 2 ^ i ≤ b * 2 ^ j ↔ a * 2 ^ i' ≤ b * 2 ^ j' := by
  have key : ∀ {i j i' j' : Nat}, i + j' = i' + j → a * 2 ^ i ≤ b * 2 ^ j → a * 2 ^ i' ≤ b * 2 ^ j' := by
    intro i j i' j' h q
    refine Nat.le_of_mul_le_mul_right (c := 2 ^ j) ?_ (p2_pos j)
    calc a * 2 ^ i' * 2 ^ j = a * 2 ^ i * 2 ^ j' := by rw [Nat.mul_assoc, ← Nat.pow_add, ← h, Nat.pow_add, Nat.mul_assoc]
      _ ≤ b * 2 ^ j * 2 ^ j' := Nat.mul_le_mul_right _ q
      _ = _ := by ac_rfl
  exact ⟨key h, key h.symm⟩
theorem pw_lt {a b i j i' j' : Nat} (h : i + j' = i' + j) : a * 2 ^ i < b * 2 ^ j ↔ a * 2 ^ i' < b * 2 ^ j' := by
  have := @pw_le b a j i j' i' (by omega)
  omega
theorem dle_iff {a b i j : Nat} {x y : Int} (h : (i : Int) - j = x - y) : dle a x b y ↔ a * 2 ^ i ≤ b * 2 ^ j := pw_le (by omega)
theorem dlt_iff {a b i j : Nat} {x y : Int} (h : (i : Int) - j = x - y) : dlt a x b y ↔ a * 2 ^ i < b * 2 ^ j := pw_lt (by omega)

/-! isqrt_small -/
theorem amgm (a b : Nat) : 4 * (a * b) ≤ (a + b) * (a + b) := by
  have key : ∀ a b : Nat, a ≤ b → 4 * (a * b) ≤ (a + b) * (a + b) := by
    intro a b h
    obtain ⟨d, rfl⟩ : ∃ d, b = a + d := ⟨b - a, by omega⟩
    have e1 : 4 * (a * (a + d)) = 4 * (a * a) + 4 * (a * d) := by rw [Nat.mul_add, Nat.mul_add]
    have e2 : (a + (a + d)) * (a + (a + d)) = 4 * (a * a) + 4 * (a * d) + d * d := by
      rw [show a + (a + d) = 2 * a + d by omega, Nat.add_mul, Nat.mul_add, Nat.mul_add]
      have : 2 * a * (2 * a) = 4 * (a * a) := by rw [Nat.mul_mul_mul_comm]
      have : 2 * a * d = 2 * (a * d) := Nat.mul_assoc ..
      have : d * (2 * a) = 2 * (a * d) := by rw [Nat.mul_comm, Nat.mul_assoc]
      omega
    omega
  rcases Nat.le_total a b with h | h
  · exact key a b h
  · have := key b a h
    rwa [Nat.mul_comm b a, Nat.add_comm b a] at this
def isqB : St → Option Fl := (sCons (sSet 2 (eBin .RShift (eBin .Add (eVar 1) (eBin .FloorDiv (eVar 0) (eVar 1))) (eInt 1))) (sCons (sIf (tCmp .GtE (eVar 2) (eVar 1)) (sCons (sRet (eVar 1)) sNil) sNil) (sCons (sSet 1 (eVar 2)) sNil)))
theorem isqrt_loop (x : Nat) (hx : 0 < x) : ∀ (N r : Nat) (o : Option D), 0 < r → x < (r + 1) * (r + 1) → bl r ≤ 8000 → r < N →
    ∃ r', r' * r' ≤ x ∧ x < (r' + 1) * (r' + 1) ∧ wloop (tE (eInt 1)) isqB N [some (.int x), some (.int r), o] = some (.ret (.int r')) := by
  intro N
  induction N with
  | zero => intro r o h0 h1 h2 h3; omega
  | succ N ih =>
    intro r o h0 h1 h2 h3
    have hg : DivG r := ⟨by omega, by rw [Int.natAbs_natCast]; have := log2_lt h2 h0; omega⟩
    have e0 : (r : Int) + ((x / r : Nat) : Int) = ((r + x / r : Nat) : Int) := by push_cast; rfl
    have e1 : ((r + x / r : Nat) : Int).fdiv (2 ^ (1 : Int).toNat) = (((r + x / r) / 2 : Nat) : Int) := by
      rw [show (1 : Int).toNat = 1 from rfl, fdiv_pow]
    have hdm := Nat.div_add_mod x r
    have hml := Nat.mod_lt x h0
    rw [wloop]
    have ht : tE (eInt 1) [some (.int x), some (.int r), o] = some true := rfl
    rw [ht, Option.bind_some, if_pos rfl]
    by_cases q : r ≤ (r + x / r) / 2
    · refine ⟨r, ?_, h1, ?_⟩
      · have : r * r ≤ r * (x / r) := Nat.mul_le_mul_left _ (by omega)
        omega
      · have q' : (r : Int) ≤ (((r + x / r) / 2 : Nat) : Int) := by omega
        have : isqB [some (.int x), some (.int r), o] = some (.ret (.int r)) := by
          simp only [isqB, v_bnd, v_bin, v_add, v_sub, v_mul, v_div, v_mod, v_pow, v_shl, v_shr, v_and, v_xor, v_app, v_ofB, v_cmp, v_tcmp, v_eq, v_ne, v_lt, v_le, v_gt, v_ge, v_seq, v_tr_b, v_tr_i, v_tE, v_onot, v_tnot, v_not, v_neg, v_neg', v_ite, v_ite1, v_ite0, v_eand, v_eor, v_eand1, v_eand0, v_eor1, v_eor0, v_eand_i, v_eor_i, v_tand, v_tor, v_tand1, v_tand0, v_tor1, v_tor0, v_ttrue, v_tfalse, v_chain, v_var, v_int, v_bool, v_str, v_glob, v_lnil, v_lcons, v_lc, v_tup, v_lst, v_tup1, v_tup2, v_tup3, v_tup4, v_lst1, v_lst2, v_item, v_t0, v_t1, v_t2, v_t3, v_l0, v_l1, v_call, v_call', v_bits, v_bits', v_isint, v_isint', v_shift, v_shift_f, v_shift_c, v_dint, v_dabs, v_ddivmod, v_set, v_kset, v_set2, v_kset2, v_aug, v_int2, v_ret, v_kret, v_retof, v_retof', v_app_nil, v_app_cons, v_app_app, v_if, v_kif1, v_kif0, v_asrt, v_kasrt, v_un, v_unR, v_un2, v_un4, v_unR2, v_unR3, v_try, v_none, v_nil, v_for, v_kfor, v_kF_nil, v_kF_cons, v_tail, v_tail2, v_dlen2, v_while, v_kw, v_gt0, v_gts, v_up0, v_ups, v_defD, v_teq, v_teq2, List.length_cons, List.length_nil, List.cons_append, List.nil_append, List.append_nil, List.map_cons, List.map_nil, List.reduceReplicate, Nat.zero_add, Nat.reduceAdd, Bool.not_true, Bool.not_false, decide_true, decide_false, not_true_eq_false, not_false_eq_true, true_and, and_true, hg, fdiv_nat, e0, e1, q', show (0 : Int) ≤ 1 by decide]
        rw [this]
        rfl
    · have q' : ¬ (r : Int) ≤ (((r + x / r) / 2 : Nat) : Int) := by omega
      have : isqB [some (.int x), some (.int r), o] = some (.nxt [some (.int x), some (.int ((r + x / r) / 2 : Nat)), some (.int ((r + x / r) / 2 : Nat))]) := by
        simp only [isqB, v_bnd, v_bin, v_add, v_sub, v_mul, v_div, v_mod, v_pow, v_shl, v_shr, v_and, v_xor, v_app, v_ofB, v_cmp, v_tcmp, v_eq, v_ne, v_lt, v_le, v_gt, v_ge, v_seq, v_tr_b, v_tr_i, v_tE, v_onot, v_tnot, v_not, v_neg, v_neg', v_ite, v_ite1, v_ite0, v_eand, v_eor, v_eand1, v_eand0, v_eor1, v_eor0, v_eand_i, v_eor_i, v_tand, v_tor, v_tand1, v_tand0, v_tor1, v_tor0, v_ttrue, v_tfalse, v_chain, v_var, v_int, v_bool, v_str, v_glob, v_lnil, v_lcons, v_lc, v_tup, v_lst, v_tup1, v_tup2, v_tup3, v_tup4, v_lst1, v_lst2, v_item, v_t0, v_t1, v_t2, v_t3, v_l0, v_l1, v_call, v_call', v_bits, v_bits', v_isint, v_isint', v_shift, v_shift_f, v_shift_c, v_dint, v_dabs, v_ddivmod, v_set, v_kset, v_set2, v_kset2, v_aug, v_int2, v_ret, v_kret, v_retof, v_retof', v_app_nil, v_app_cons, v_app_app, v_if, v_kif1, v_kif0, v_asrt, v_kasrt, v_un, v_unR, v_un2, v_un4, v_unR2, v_unR3, v_try, v_none, v_nil, v_for, v_kfor, v_kF_nil, v_kF_cons, v_tail, v_tail2, v_dlen2, v_while, v_kw, v_gt0, v_gts, v_up0, v_ups, v_defD, v_teq, v_teq2, List.length_cons, List.length_nil, List.cons_append, List.nil_append, List.append_nil, List.map_cons, List.map_nil, List.reduceReplicate, Nat.zero_add, Nat.reduceAdd, Bool.not_true, Bool.not_false, decide_true, decide_false, not_true_eq_false, not_false_eq_true, true_and, and_true, hg, fdiv_nat, e0, e1, q', show (0 : Int) ≤ 1 by decide]
      rw [this]
      have h0' : 0 < (r + x / r) / 2 := by
        by_cases z : r = 1
        · subst z; simp at *; omega
        · have := Nat.zero_le (x / r)
          generalize x / r = u at *
          omega
      refine ih _ _ h0' ?_ (Nat.le_trans (bl_le (Nat.lt_trans (show (r + x / r) / 2 < r by omega) (bl_lt r))) h2) (by omega)
      have a1 := amgm r (x / r + 1)
      rw [Nat.mul_add, Nat.mul_one] at a1
      have a2 : (r + (x / r + 1)) * (r + (x / r + 1)) ≤ (2 * ((r + x / r) / 2 + 1)) * (2 * ((r + x / r) / 2 + 1)) := Nat.mul_le_mul (by omega) (by omega)
      rw [Nat.mul_mul_mul_comm] at a2
      omega
theorem isqrt_small_eval (x : Nat) (hx : 0 < x) (hb : bl x ≤ 4000) : ∃ r, r * r ≤ x ∧ x < (r + 1) * (r + 1) ∧ F_isqrt_small [.int x] = some (.int r) := by
  have h1 := bl_lt x
  obtain ⟨k, hk⟩ : ∃ k, (bl x + 1) / 2 = k := ⟨_, rfl⟩
  have hr : x < (2 ^ k + 1) * (2 ^ k + 1) := by
    have : 2 ^ bl x ≤ 2 ^ k * 2 ^ k := by rw [← Nat.pow_add]; exact Nat.pow_le_pow_right (by decide) (by omega)
    have : 2 ^ k * 2 ^ k ≤ (2 ^ k + 1) * (2 ^ k + 1) := Nat.mul_le_mul (by omega) (by omega)
    omega
  have hbk : bl (2 ^ k) = k + 1 := bl_eq (Nat.le_refl _) (Nat.pow_lt_pow_right (by decide) (by omega))
  have hN : 2 ^ k < 2 ^ 3000 := Nat.pow_lt_pow_right (by decide) (by omega)
  obtain ⟨r, a, b, c⟩ := isqrt_loop x hx (2 ^ 3000) (2 ^ k) none (p2_pos k) hr (by omega) hN
  refine ⟨r, a, b, ?_⟩
  have hz : ¬ (x : Int) = 0 := by omega
  have e1 : (bl x : Int) + 1 = ((bl x + 1 : Nat) : Int) := by push_cast; rfl
  have e2 : ((bl x + 1 : Nat) : Int).fdiv (2 ^ (1 : Int).toNat) = (k : Int) := by
    rw [show (1 : Int).toNat = 1 from rfl, fdiv_pow, ← hk]
  have hg : ShlG 1 k := ⟨by omega, by have : ib 1 = 1 := by decide
                                      rw [this]; omega⟩
  have e3 : (1 : Int) * 2 ^ k = ((2 ^ k : Nat) : Int) := by push_cast; rw [Int.one_mul]
  have hw : ∀ ρ, sCons (sWhile (2 ^ 3000) (tE (eInt 1)) isqB) sNil ρ = andThen (wloop (tE (eInt 1)) isqB (2 ^ 3000) ρ) sNil := fun _ => rfl
  have hD : D_isqrt_small = (sCons (sIf (tNot (tE (eVar 0))) (sCons (sRet (eVar 0)) sNil) sNil) (sCons (sSet 1 (eBin .LShift (eInt 1) (eBin .RShift (eBin .Add (eBits (eVar 0)) (eInt 1)) (eInt 1)))) (sCons (sWhile (2 ^ 3000) (tE (eInt 1)) isqB) sNil))) := rfl
  generalize 2 ^ 3000 = N at *
  simp only [F_isqrt_small, hD, v_bnd, v_bin, v_add, v_sub, v_mul, v_div, v_mod, v_pow, v_shl, v_shr, v_and, v_xor, v_app, v_ofB, v_cmp, v_tcmp, v_eq, v_ne, v_lt, v_le, v_gt, v_ge, v_seq, v_tr_b, v_tr_i, v_tE, v_onot, v_tnot, v_not, v_neg, v_neg', v_ite, v_ite1, v_ite0, v_eand, v_eor, v_eand1, v_eand0, v_eor1, v_eor0, v_eand_i, v_eor_i, v_tand, v_tor, v_tand1, v_tand0, v_tor1, v_tor0, v_ttrue, v_tfalse, v_chain, v_var, v_int, v_bool, v_str, v_glob, v_lnil, v_lcons, v_lc, v_tup, v_lst, v_tup1, v_tup2, v_tup3, v_tup4, v_lst1, v_lst2, v_item, v_t0, v_t1, v_t2, v_t3, v_l0, v_l1, v_call, v_call', v_bits, v_bits', v_isint, v_isint', v_shift, v_shift_f, v_shift_c, v_dint, v_dabs, v_ddivmod, v_set, v_kset, v_set2, v_kset2, v_aug, v_int2, v_ret, v_kret, v_retof, v_retof', v_app_nil, v_app_cons, v_app_app, v_if, v_kif1, v_kif0, v_asrt, v_kasrt, v_un, v_unR, v_un2, v_un4, v_unR2, v_unR3, v_try, v_none, v_nil, v_for, v_kfor, v_kF_nil, v_kF_cons, v_tail, v_tail2, v_dlen2, v_while, v_kw, v_gt0, v_gts, v_up0, v_ups, v_defD, v_teq, v_teq2, List.length_cons, List.length_nil, List.cons_append, List.nil_append, List.append_nil, List.map_cons, List.map_nil, List.reduceReplicate, Nat.zero_add, Nat.reduceAdd, Bool.not_true, Bool.not_false, decide_true, decide_false, not_true_eq_false, not_false_eq_true, true_and, and_true, hz, ib_nat, e1, e2, show (0 : Int) ≤ 1 by decide, hg, Int.toNat_natCast, e3, hw, c]
  rfl
theorem sqrtrem_eval (x : Nat) (hx : 0 < x) (hb : bl x ≤ 4000) : ∃ r, r * r ≤ x ∧ x < (r + 1) * (r + 1) ∧ F_sqrtrem [.int x] = some (.tup [.int r, .int (x - r * r : Nat)]) := by
  obtain ⟨r, a, b, c⟩ := isqrt_small_eval x hx hb
  refine ⟨r, a, b, ?_⟩
  have hg : MulG r r := .inr (.inr (by
    rw [ib_nat]
    have : bl r ≤ bl x := bl_le (Nat.lt_of_le_of_lt (Nat.le_trans (Nat.le_mul_self r) a) (bl_lt x))
    omega))
  have e : (x : Int) - (r : Int) * r = ((x - r * r : Nat) : Int) := by
    have : ((r * r : Nat) : Int) = (r : Int) * r := by push_cast; rfl
    omega
  simp only [F_sqrtrem, D_sqrtrem, v_bnd, v_bin, v_add, v_sub, v_mul, v_div, v_mod, v_pow, v_shl, v_shr, v_and, v_xor, v_app, v_ofB, v_cmp, v_tcmp, v_eq, v_ne, v_lt, v_le, v_gt, v_ge, v_seq, v_tr_b, v_tr_i, v_tE, v_onot, v_tnot, v_not, v_neg, v_neg', v_ite, v_ite1, v_ite0, v_eand, v_eor, v_eand1, v_eand0, v_eor1, v_eor0, v_eand_i, v_eor_i, v_tand, v_tor, v_tand1, v_tand0, v_tor1, v_tor0, v_ttrue, v_tfalse, v_chain, v_var, v_int, v_bool, v_str, v_glob, v_lnil, v_lcons, v_lc, v_tup, v_lst, v_tup1, v_tup2, v_tup3, v_tup4, v_lst1, v_lst2, v_item, v_t0, v_t1, v_t2, v_t3, v_l0, v_l1, v_call, v_call', v_bits, v_bits', v_isint, v_isint', v_shift, v_shift_f, v_shift_c, v_dint, v_dabs, v_ddivmod, v_set, v_kset, v_set2, v_kset2, v_aug, v_int2, v_ret, v_kret, v_retof, v_retof', v_app_nil, v_app_cons, v_app_app, v_if, v_kif1, v_kif0, v_asrt, v_kasrt, v_un, v_unR, v_un2, v_un4, v_unR2, v_unR3, v_try, v_none, v_nil, v_for, v_kfor, v_kF_nil, v_kF_cons, v_tail, v_tail2, v_dlen2, v_while, v_kw, v_gt0, v_gts, v_up0, v_ups, v_defD, v_teq, v_teq2, List.length_cons, List.length_nil, List.cons_append, List.nil_append, List.append_nil, List.map_cons, List.map_nil, List.reduceReplicate, Nat.zero_add, Nat.reduceAdd, Bool.not_true, Bool.not_false, decide_true, decide_false, not_true_eq_false, not_false_eq_true, true_and, and_true, c, hg, e]
theorem isqrt_eval (x : Nat) (hx : 0 < x) (hb : bl x ≤ 4000) : ∃ r, r * r ≤ x ∧ x < (r + 1) * (r + 1) ∧ F_isqrt [.int x] = some (.int r) := by
  obtain ⟨r, a, b, c⟩ := sqrtrem_eval x hx hb
  exact ⟨r, a, b, by simp only [F_isqrt, D_isqrt, v_bnd, v_bin, v_add, v_sub, v_mul, v_div, v_mod, v_pow, v_shl, v_shr, v_and, v_xor, v_app, v_ofB, v_cmp, v_tcmp, v_eq, v_ne, v_lt, v_le, v_gt, v_ge, v_seq, v_tr_b, v_tr_i, v_tE, v_onot, v_tnot, v_not, v_neg, v_neg', v_ite, v_ite1, v_ite0, v_eand, v_eor, v_eand1, v_eand0, v_eor1, v_eor0, v_eand_i, v_eor_i, v_tand, v_tor, v_tand1, v_tand0, v_tor1, v_tor0, v_ttrue, v_tfalse, v_chain, v_var, v_int, v_bool, v_str, v_glob, v_lnil, v_lcons, v_lc, v_tup, v_lst, v_tup1, v_tup2, v_tup3, v_tup4, v_lst1, v_lst2, v_item, v_t0, v_t1, v_t2, v_t3, v_l0, v_l1, v_call, v_call', v_bits, v_bits', v_isint, v_isint', v_shift, v_shift_f, v_shift_c, v_dint, v_dabs, v_ddivmod, v_set, v_kset, v_set2, v_kset2, v_aug, v_int2, v_ret, v_kret, v_retof, v_retof', v_app_nil, v_app_cons, v_app_app, v_if, v_kif1, v_kif0, v_asrt, v_kasrt, v_un, v_unR, v_un2, v_un4, v_unR2, v_unR3, v_try, v_none, v_nil, v_for, v_kfor, v_kF_nil, v_kF_cons, v_tail, v_tail2, v_dlen2, v_while, v_kw, v_gt0, v_gts, v_up0, v_ups, v_defD, v_teq, v_teq2, List.length_cons, List.length_nil, List.cons_append, List.nil_append, List.append_nil, List.map_cons, List.map_nil, List.reduceReplicate, Nat.zero_add, Nat.reduceAdd, Bool.not_true, Bool.not_false, decide_true, decide_false, not_true_eq_false, not_false_eq_true, true_and, and_true, c]⟩
end Mine

namespace Mine
set_option autoImplicit false
theorem from_man_exp_eval (c : Bool) (man p : Nat) (x : Int) (h0 : 0 < man) (hp : 1 ≤ p) :
    ∃ m e, NR p c man x m e ∧ F_from_man_exp [.int man, .int x, .int p, RR c] = some (MM false m e) := by
  obtain ⟨m, e, h1, h2⟩ := normalize_eval c false man p x h0 hp
  refine ⟨m, e, by simpa using h1, ?_⟩
  have hp' : ¬ (p : Int) = 0 := by omega
  have hm : ¬ (man : Int) < 0 := by omega
  have hs : sg false = 0 := rfl
  rw [hs] at h2
  simp only [F_from_man_exp, D_from_man_exp, v_bnd, v_bin, v_add, v_sub, v_mul, v_div, v_mod, v_pow, v_shl, v_shr, v_and, v_xor, v_app, v_ofB, v_cmp, v_tcmp, v_eq, v_ne, v_lt, v_le, v_gt, v_ge, v_seq, v_tr_b, v_tr_i, v_tE, v_onot, v_tnot, v_not, v_neg, v_neg', v_ite, v_ite1, v_ite0, v_eand, v_eor, v_eand1, v_eand0, v_eor1, v_eor0, v_eand_i, v_eor_i, v_tand, v_tor, v_tand1, v_tand0, v_tor1, v_tor0, v_ttrue, v_tfalse, v_chain, v_var, v_int, v_bool, v_str, v_glob, v_lnil, v_lcons, v_lc, v_tup, v_lst, v_tup1, v_tup2, v_tup3, v_tup4, v_lst1, v_lst2, v_item, v_t0, v_t1, v_t2, v_t3, v_l0, v_l1, v_call, v_call', v_bits, v_bits', v_isint, v_isint', v_shift, v_shift_f, v_shift_c, v_dint, v_dabs, v_ddivmod, v_set, v_kset, v_set2, v_kset2, v_aug, v_int2, v_ret, v_kret, v_retof, v_retof', v_app_nil, v_app_cons, v_app_app, v_if, v_kif1, v_kif0, v_asrt, v_kasrt, v_un, v_unR, v_un2, v_un4, v_unR2, v_unR3, v_try, v_none, v_nil, v_for, v_kfor, v_kF_nil, v_kF_cons, v_tail, v_tail2, v_dlen2, v_while, v_kw, v_gt0, v_gts, v_up0, v_ups, v_defD, v_teq, v_teq2, List.length_cons, List.length_nil, List.cons_append, List.nil_append, List.append_nil, List.map_cons, List.map_nil, List.reduceReplicate, Nat.zero_add, Nat.reduceAdd, Bool.not_true, Bool.not_false, decide_true, decide_false, not_true_eq_false, not_false_eq_true, true_and, and_true, hp', hm, ib_nat, h2]
theorem in_f : dCmp .In (.str (Str.ofString "f")) (.str (Str.ofString "fd")) = some true := by decide +kernel
theorem in_c : dCmp .In (.str (Str.ofString "c")) (.str (Str.ofString "fd")) = some false := by decide +kernel
theorem v_in {a b : D} : oCmp .In (some a) (some b) = dCmp .In a b := (rfl)
theorem v_max {x y : Int} : dMax [.int x, .int y] = some (.int (if x < y then y else x)) := (rfl)

def U_sqrt : St → Option Fl := (sCons (sSet 7 (eCall dMax (lCons (eInt 4) (lCons (eBin .Add (eBin .Sub (eBin .Mult (eInt 2) (eVar 1)) (eVar 6)) (eInt 4)) lNil)))) (sCons (sAug 7 .Add (eBin .BitAnd (eVar 7) (eInt 1))) (sCons (sIf (tCmp .In (eVar 2) (eStr (Str.ofString "fd"))) (sCons (sSet 4 (eCall F_isqrt (lCons (eBin .LShift (eVar 4) (eVar 7)) lNil))) sNil) (sCons (sUnpack [4, 8] (eCall F_sqrtrem (lCons (eBin .LShift (eVar 4) (eVar 7)) lNil))) (sCons (sIf (tE (eVar 8)) (sCons (sSet 4 (eBin .Add (eBin .LShift (eVar 4) (eInt 1)) (eInt 1))) (sCons (sAug 7 .Add (eInt 2)) sNil)) sNil) sNil))) (sCons (sRet (eCall F_from_man_exp (lCons (eVar 4) (lCons (eBin .FloorDiv (eBin .Sub (eVar 5) (eVar 7)) (eInt 2)) (lCons (eVar 1) (lCons (eVar 2) lNil)))))) sNil))))
theorem D_sqrt_eq : D_mpf_sqrt = (sCons (sUnpack [3, 4, 5, 6] (eVar 0)) (sCons (sIf (tE (eVar 3)) (sCons sNone sNil) sNil) (sCons (sIf (tNot (tE (eVar 4))) (sCons (sRet (eVar 0)) sNil) sNil) (sCons (sIf (tE (eBin .BitAnd (eVar 5) (eInt 1))) (sCons (sAug 5 .Sub (eInt 1)) (sCons (sAug 4 .LShift (eInt 1)) (sCons (sAug 6 .Add (eInt 1)) sNil))) (sCons (sIf (tCmp .Eq (eVar 4) (eInt 1)) (sCons (sRet (eCall F_normalize (lCons (eVar 3) (lCons (eVar 4) (lCons (eBin .FloorDiv (eVar 5) (eInt 2)) (lCons (eVar 6) (lCons (eVar 1) (lCons (eVar 2) lNil)))))))) sNil) sNil) sNil)) U_sqrt)))) := rfl

/-- what mpf_sqrt makes of mn * 4 ^ h -/
def SqR (c : Bool) (p mn : Nat) (h : Int) (m : Nat) (e : Int) : Prop :=
  (mn = 1 ∧ NR p c 1 h m e) ∨ ∃ u r : Nat, u ≤ 2000 ∧ bl r ≤ 4000 ∧ r * r ≤ mn * 2 ^ (2 * u) ∧ mn * 2 ^ (2 * u) < (r + 1) * (r + 1) ∧ p < bl r ∧
    (if c = true ∧ r * r ≠ mn * 2 ^ (2 * u) then NR p c (2 * r + 1) (h - u - 1) m e else NR p c r (h - u) m e)

theorem root_bl {mn u r p : Nat} (h0 : 0 < mn) (h : 2 * p + 4 ≤ bl mn + 2 * u) (h2 : mn * 2 ^ (2 * u) < (r + 1) * (r + 1)) : p < bl r := by
  refine Nat.lt_of_not_le fun q => ?_
  have h3 := lt_of_bl q
  have h4 := bl_ge h0
  have h5 : 2 ^ (2 * p) ≤ mn * 2 ^ (2 * u) := by
    refine Nat.le_trans (Nat.pow_le_pow_right (by decide) (show 2 * p ≤ bl mn - 1 + 2 * u by omega)) ?_
    rw [Nat.pow_add]; exact Nat.mul_le_mul_right _ h4
  have h6 : (r + 1) * (r + 1) ≤ 2 ^ p * 2 ^ p := Nat.mul_le_mul h3 h3
  rw [← Nat.pow_add, show p + p = 2 * p by omega] at h6
  omega

theorem U_eval (c : Bool) (mn p : Nat) (h : Int) (S : D) (b : Int) (h0 : 0 < mn) (hp : 1 ≤ p) (b1 : bl mn ≤ 1000) (b2 : p ≤ 1000) (hb : b = bl mn) {o7 o8 : Option D} :
    ∃ m e, SqR c p mn h m e ∧ retOf (U_sqrt [some S, some (.int p), some (RR c), some (.int 0), some (.int mn), some (.int (2 * h)), some (.int b), o7, o8]) = some (MM false m e) := by
  obtain ⟨u, hu, hu2, hu3⟩ : ∃ u : Nat, (2 * u : Int) = (if (4 : Int) < 2 * p - b + 4 then 2 * p - b + 4 else 4) + (if (4 : Int) < 2 * p - b + 4 then 2 * p - b + 4 else 4) % 2 ∧ 2 * p + 4 ≤ bl mn + 2 * u ∧ u ≤ 2000 := by
    have := bl_pos h0
    refine ⟨(((if (4 : Int) < 2 * p - b + 4 then 2 * p - b + 4 else 4) + (if (4 : Int) < 2 * p - b + 4 then 2 * p - b + 4 else 4) % 2) / 2).toNat, ?_, ?_, ?_⟩
    all_goals (split <;> omega)
  have hX : 0 < mn * 2 ^ (2 * u) := Nat.mul_pos h0 (p2_pos _)
  have hu4 : 2 * u ≤ 2 * p + 6 := by
    have := bl_pos h0
    split at hu <;> omega
  have hXb : bl (mn * 2 ^ (2 * u)) ≤ 4000 := by rw [bl_mul h0]; omega
  have hS : ShlG mn (2 * u) := ⟨by omega, by rw [ib_nat]; omega⟩
  have hm2 : MulG 2 p := .inl (by decide)
  have e1 : ((2 * u : Int)).toNat = 2 * u := by omega
  have e2 : (2 * h - 2 * u).fdiv 2 = h - u := by rw [Int.fdiv_eq_ediv_of_nonneg _ (by decide)]; omega
  have e3 : (2 * h - (2 * u + 2)).fdiv 2 = h - u - 1 := by rw [Int.fdiv_eq_ediv_of_nonneg _ (by decide)]; omega
  have g2 : DivG 2 := by unfold DivG; decide
  cases c with
  | false =>
    obtain ⟨r, r1, r2, r3⟩ := isqrt_eval _ hX hXb
    have hr := root_bl h0 hu2 r2
    have hr0 : 0 < r := by refine Nat.pos_of_ne_zero fun z => ?_; subst z; simp [bl] at hr
    obtain ⟨m, e, n1, n2⟩ := from_man_exp_eval false r p (h - u) hr0 hp
    refine ⟨m, e, .inr ⟨u, r, hu3, Nat.le_trans (bl_le (Nat.lt_of_le_of_lt (Nat.le_trans (Nat.le_mul_self r) r1) (bl_lt _))) hXb, r1, r2, hr, by simpa using n1⟩, ?_⟩
    simp only [RR, if_false, Bool.false_eq_true] at *
    simp only [U_sqrt, v_bnd, v_bin, v_add, v_sub, v_mul, v_div, v_mod, v_pow, v_shl, v_shr, v_and, v_xor, v_app, v_ofB, v_cmp, v_tcmp, v_eq, v_ne, v_lt, v_le, v_gt, v_ge, v_seq, v_tr_b, v_tr_i, v_tE, v_onot, v_tnot, v_not, v_neg, v_neg', v_ite, v_ite1, v_ite0, v_eand, v_eor, v_eand1, v_eand0, v_eor1, v_eor0, v_eand_i, v_eor_i, v_tand, v_tor, v_tand1, v_tand0, v_tor1, v_tor0, v_ttrue, v_tfalse, v_chain, v_var, v_int, v_bool, v_str, v_glob, v_lnil, v_lcons, v_lc, v_tup, v_lst, v_tup1, v_tup2, v_tup3, v_tup4, v_lst1, v_lst2, v_item, v_t0, v_t1, v_t2, v_t3, v_l0, v_l1, v_call, v_call', v_bits, v_bits', v_isint, v_isint', v_shift, v_shift_f, v_shift_c, v_dint, v_dabs, v_ddivmod, v_set, v_kset, v_set2, v_kset2, v_aug, v_int2, v_ret, v_kret, v_retof, v_retof', v_app_nil, v_app_cons, v_app_app, v_if, v_kif1, v_kif0, v_asrt, v_kasrt, v_un, v_unR, v_un2, v_un4, v_unR2, v_unR3, v_try, v_none, v_nil, v_for, v_kfor, v_kF_nil, v_kF_cons, v_tail, v_tail2, v_dlen2, v_while, v_kw, v_gt0, v_gts, v_up0, v_ups, v_defD, v_teq, v_teq2, List.length_cons, List.length_nil, List.cons_append, List.nil_append, List.append_nil, List.map_cons, List.map_nil, List.reduceReplicate, Nat.zero_add, Nat.reduceAdd, Bool.not_true, Bool.not_false, decide_true, decide_false, not_true_eq_false, not_false_eq_true, true_and, and_true, hm2, v_max, bitAnd_m1, ← hu, v_in, in_f, hS, e1, shl_nat, r3, e2, g2, n2]
  | true =>
    obtain ⟨r, r1, r2, r3⟩ := sqrtrem_eval _ hX hXb
    have hr := root_bl h0 hu2 r2
    have hr0 : 0 < r := by refine Nat.pos_of_ne_zero fun z => ?_; subst z; simp [bl] at hr
    by_cases q : r * r = mn * 2 ^ (2 * u)
    · obtain ⟨m, e, n1, n2⟩ := from_man_exp_eval true r p (h - u) hr0 hp
      refine ⟨m, e, .inr ⟨u, r, hu3, Nat.le_trans (bl_le (Nat.lt_of_le_of_lt (Nat.le_trans (Nat.le_mul_self r) r1) (bl_lt _))) hXb, r1, r2, hr, by rw [if_neg (by simp [q])]; exact n1⟩, ?_⟩
      have q' : ((mn * 2 ^ (2 * u) - r * r : Nat) : Int) = 0 := by omega
      simp only [RR, if_true] at *
      simp only [U_sqrt, v_bnd, v_bin, v_add, v_sub, v_mul, v_div, v_mod, v_pow, v_shl, v_shr, v_and, v_xor, v_app, v_ofB, v_cmp, v_tcmp, v_eq, v_ne, v_lt, v_le, v_gt, v_ge, v_seq, v_tr_b, v_tr_i, v_tE, v_onot, v_tnot, v_not, v_neg, v_neg', v_ite, v_ite1, v_ite0, v_eand, v_eor, v_eand1, v_eand0, v_eor1, v_eor0, v_eand_i, v_eor_i, v_tand, v_tor, v_tand1, v_tand0, v_tor1, v_tor0, v_ttrue, v_tfalse, v_chain, v_var, v_int, v_bool, v_str, v_glob, v_lnil, v_lcons, v_lc, v_tup, v_lst, v_tup1, v_tup2, v_tup3, v_tup4, v_lst1, v_lst2, v_item, v_t0, v_t1, v_t2, v_t3, v_l0, v_l1, v_call, v_call', v_bits, v_bits', v_isint, v_isint', v_shift, v_shift_f, v_shift_c, v_dint, v_dabs, v_ddivmod, v_set, v_kset, v_set2, v_kset2, v_aug, v_int2, v_ret, v_kret, v_retof, v_retof', v_app_nil, v_app_cons, v_app_app, v_if, v_kif1, v_kif0, v_asrt, v_kasrt, v_un, v_unR, v_un2, v_un4, v_unR2, v_unR3, v_try, v_none, v_nil, v_for, v_kfor, v_kF_nil, v_kF_cons, v_tail, v_tail2, v_dlen2, v_while, v_kw, v_gt0, v_gts, v_up0, v_ups, v_defD, v_teq, v_teq2, List.length_cons, List.length_nil, List.cons_append, List.nil_append, List.append_nil, List.map_cons, List.map_nil, List.reduceReplicate, Nat.zero_add, Nat.reduceAdd, Bool.not_true, Bool.not_false, decide_true, decide_false, not_true_eq_false, not_false_eq_true, true_and, and_true, hm2, v_max, bitAnd_m1, ← hu, v_in, in_c, hS, e1, shl_nat, r3, e2, g2, n2, q']
    · obtain ⟨m, e, n1, n2⟩ := from_man_exp_eval true (2 * r + 1) p (h - u - 1) (by omega) hp
      refine ⟨m, e, .inr ⟨u, r, hu3, Nat.le_trans (bl_le (Nat.lt_of_le_of_lt (Nat.le_trans (Nat.le_mul_self r) r1) (bl_lt _))) hXb, r1, r2, hr, by rw [if_pos ⟨rfl, q⟩]; exact n1⟩, ?_⟩
      have q' : ¬ ((mn * 2 ^ (2 * u) - r * r : Nat) : Int) = 0 := by omega
      have hS1 : ShlG r 1 := ⟨by decide, by
        rw [ib_nat]
        have : bl r ≤ bl (mn * 2 ^ (2 * u)) := bl_le (Nat.lt_of_le_of_lt (Nat.le_trans (Nat.le_mul_self r) r1) (bl_lt _))
        omega⟩
      have e4 : ((r * 2 ^ (1 : Int).toNat : Nat) : Int) + 1 = ((2 * r + 1 : Nat) : Int) := by
        have : (2 : Nat) ^ (1 : Int).toNat = 2 := by decide
        rw [this]; omega
      simp only [RR, if_true] at *
      simp only [U_sqrt, v_bnd, v_bin, v_add, v_sub, v_mul, v_div, v_mod, v_pow, v_shl, v_shr, v_and, v_xor, v_app, v_ofB, v_cmp, v_tcmp, v_eq, v_ne, v_lt, v_le, v_gt, v_ge, v_seq, v_tr_b, v_tr_i, v_tE, v_onot, v_tnot, v_not, v_neg, v_neg', v_ite, v_ite1, v_ite0, v_eand, v_eor, v_eand1, v_eand0, v_eor1, v_eor0, v_eand_i, v_eor_i, v_tand, v_tor, v_tand1, v_tand0, v_tor1, v_tor0, v_ttrue, v_tfalse, v_chain, v_var, v_int, v_bool, v_str, v_glob, v_lnil, v_lcons, v_lc, v_tup, v_lst, v_tup1, v_tup2, v_tup3, v_tup4, v_lst1, v_lst2, v_item, v_t0, v_t1, v_t2, v_t3, v_l0, v_l1, v_call, v_call', v_bits, v_bits', v_isint, v_isint', v_shift, v_shift_f, v_shift_c, v_dint, v_dabs, v_ddivmod, v_set, v_kset, v_set2, v_kset2, v_aug, v_int2, v_ret, v_kret, v_retof, v_retof', v_app_nil, v_app_cons, v_app_app, v_if, v_kif1, v_kif0, v_asrt, v_kasrt, v_un, v_unR, v_un2, v_un4, v_unR2, v_unR3, v_try, v_none, v_nil, v_for, v_kfor, v_kF_nil, v_kF_cons, v_tail, v_tail2, v_dlen2, v_while, v_kw, v_gt0, v_gts, v_up0, v_ups, v_defD, v_teq, v_teq2, List.length_cons, List.length_nil, List.cons_append, List.nil_append, List.append_nil, List.map_cons, List.map_nil, List.reduceReplicate, Nat.zero_add, Nat.reduceAdd, Bool.not_true, Bool.not_false, decide_true, decide_false, not_true_eq_false, not_false_eq_true, true_and, and_true, hm2, v_max, bitAnd_m1, ← hu, v_in, in_c, hS, e1, shl_nat, r3, e3, g2, n2, q', hS1, e4]

theorem sqrt_zero (p : Int) (r : D) : F_mpf_sqrt [d_fzero, .int p, r] = some d_fzero := by
  simp only [F_mpf_sqrt, D_sqrt_eq, v_bnd, v_bin, v_add, v_sub, v_mul, v_div, v_mod, v_pow, v_shl, v_shr, v_and, v_xor, v_app, v_ofB, v_cmp, v_tcmp, v_eq, v_ne, v_lt, v_le, v_gt, v_ge, v_seq, v_tr_b, v_tr_i, v_tE, v_onot, v_tnot, v_not, v_neg, v_neg', v_ite, v_ite1, v_ite0, v_eand, v_eor, v_eand1, v_eand0, v_eor1, v_eor0, v_eand_i, v_eor_i, v_tand, v_tor, v_tand1, v_tand0, v_tor1, v_tor0, v_ttrue, v_tfalse, v_chain, v_var, v_int, v_bool, v_str, v_glob, v_lnil, v_lcons, v_lc, v_tup, v_lst, v_tup1, v_tup2, v_tup3, v_tup4, v_lst1, v_lst2, v_item, v_t0, v_t1, v_t2, v_t3, v_l0, v_l1, v_call, v_call', v_bits, v_bits', v_isint, v_isint', v_shift, v_shift_f, v_shift_c, v_dint, v_dabs, v_ddivmod, v_set, v_kset, v_set2, v_kset2, v_aug, v_int2, v_ret, v_kret, v_retof, v_retof', v_app_nil, v_app_cons, v_app_app, v_if, v_kif1, v_kif0, v_asrt, v_kasrt, v_un, v_unR, v_un2, v_un4, v_unR2, v_unR3, v_try, v_none, v_nil, v_for, v_kfor, v_kF_nil, v_kF_cons, v_tail, v_tail2, v_dlen2, v_while, v_kw, v_gt0, v_gts, v_up0, v_ups, v_defD, v_teq, v_teq2, List.length_cons, List.length_nil, List.cons_append, List.nil_append, List.append_nil, List.map_cons, List.map_nil, List.reduceReplicate, Nat.zero_add, Nat.reduceAdd, Bool.not_true, Bool.not_false, decide_true, decide_false, not_true_eq_false, not_false_eq_true, true_and, and_true, d_fzero]
theorem sqrt_eval (c : Bool) (sm p : Nat) (se : Int) (h0 : 0 < sm) (hp : 1 ≤ p) (b1 : bl sm ≤ 900) (b2 : p ≤ 1000) :
    ∃ m e, (if se % 2 = 0 then SqR c p sm (se / 2) m e else SqR c p (2 * sm) (se / 2) m e) ∧ F_mpf_sqrt [MM false sm se, .int p, RR c] = some (MM false m e) := by
  have hz : ¬ (sm : Int) = 0 := by omega
  have hsg : sg false = 0 := rfl
  have hbl := bl_mul h0 1
  rw [Nat.pow_one] at hbl
  by_cases q : se % 2 = 0
  · have hb : Builtin.bitAnd se 1 = 0 := by rw [bitAnd_m1]; exact q
    have hse : se = 2 * (se / 2) := by omega
    by_cases q1 : sm = 1
    · subst q1
      obtain ⟨m, e, n1, n2⟩ := normalize_eval c false 1 p (se / 2) h0 hp
      refine ⟨m, e, ?_, ?_⟩
      · rw [if_pos q]; exact .inl ⟨rfl, by simpa using n1⟩
      · have h11 : ((1 : Nat) : Int) = 1 := rfl
        have e2 : se.fdiv 2 = se / 2 := Int.fdiv_eq_ediv_of_nonneg _ (by decide)
        have g2 : DivG 2 := by unfold DivG; decide
        rw [hsg] at n2
        rw [h11] at n2
        simp only [F_mpf_sqrt, D_sqrt_eq, MM, v_bnd, v_bin, v_add, v_sub, v_mul, v_div, v_mod, v_pow, v_shl, v_shr, v_and, v_xor, v_app, v_ofB, v_cmp, v_tcmp, v_eq, v_ne, v_lt, v_le, v_gt, v_ge, v_seq, v_tr_b, v_tr_i, v_tE, v_onot, v_tnot, v_not, v_neg, v_neg', v_ite, v_ite1, v_ite0, v_eand, v_eor, v_eand1, v_eand0, v_eor1, v_eor0, v_eand_i, v_eor_i, v_tand, v_tor, v_tand1, v_tand0, v_tor1, v_tor0, v_ttrue, v_tfalse, v_chain, v_var, v_int, v_bool, v_str, v_glob, v_lnil, v_lcons, v_lc, v_tup, v_lst, v_tup1, v_tup2, v_tup3, v_tup4, v_lst1, v_lst2, v_item, v_t0, v_t1, v_t2, v_t3, v_l0, v_l1, v_call, v_call', v_bits, v_bits', v_isint, v_isint', v_shift, v_shift_f, v_shift_c, v_dint, v_dabs, v_ddivmod, v_set, v_kset, v_set2, v_kset2, v_aug, v_int2, v_ret, v_kret, v_retof, v_retof', v_app_nil, v_app_cons, v_app_app, v_if, v_kif1, v_kif0, v_asrt, v_kasrt, v_un, v_unR, v_un2, v_un4, v_unR2, v_unR3, v_try, v_none, v_nil, v_for, v_kfor, v_kF_nil, v_kF_cons, v_tail, v_tail2, v_dlen2, v_while, v_kw, v_gt0, v_gts, v_up0, v_ups, v_defD, v_teq, v_teq2, List.length_cons, List.length_nil, List.cons_append, List.nil_append, List.append_nil, List.map_cons, List.map_nil, List.reduceReplicate, Nat.zero_add, Nat.reduceAdd, Bool.not_true, Bool.not_false, decide_true, decide_false, not_true_eq_false, not_false_eq_true, true_and, and_true, hsg, h11, show ¬ (1 : Int) = 0 by decide, hb, e2, g2, n2]
    · have q1' : ¬ (sm : Int) = 1 := by omega
      obtain ⟨m, e, n1, n2⟩ := U_eval c sm p (se / 2) (MM false sm se) (bl sm) h0 hp (by omega) b2 rfl (o7 := none) (o8 := none)
      refine ⟨m, e, by rw [if_pos q]; exact n1, ?_⟩
      rw [← hse] at n2
      simp only [MM, hsg] at n2
      simp only [F_mpf_sqrt, D_sqrt_eq, MM, v_bnd, v_bin, v_add, v_sub, v_mul, v_div, v_mod, v_pow, v_shl, v_shr, v_and, v_xor, v_app, v_ofB, v_cmp, v_tcmp, v_eq, v_ne, v_lt, v_le, v_gt, v_ge, v_seq, v_tr_b, v_tr_i, v_tE, v_onot, v_tnot, v_not, v_neg, v_neg', v_ite, v_ite1, v_ite0, v_eand, v_eor, v_eand1, v_eand0, v_eor1, v_eor0, v_eand_i, v_eor_i, v_tand, v_tor, v_tand1, v_tand0, v_tor1, v_tor0, v_ttrue, v_tfalse, v_chain, v_var, v_int, v_bool, v_str, v_glob, v_lnil, v_lcons, v_lc, v_tup, v_lst, v_tup1, v_tup2, v_tup3, v_tup4, v_lst1, v_lst2, v_item, v_t0, v_t1, v_t2, v_t3, v_l0, v_l1, v_call, v_call', v_bits, v_bits', v_isint, v_isint', v_shift, v_shift_f, v_shift_c, v_dint, v_dabs, v_ddivmod, v_set, v_kset, v_set2, v_kset2, v_aug, v_int2, v_ret, v_kret, v_retof, v_retof', v_app_nil, v_app_cons, v_app_app, v_if, v_kif1, v_kif0, v_asrt, v_kasrt, v_un, v_unR, v_un2, v_un4, v_unR2, v_unR3, v_try, v_none, v_nil, v_for, v_kfor, v_kF_nil, v_kF_cons, v_tail, v_tail2, v_dlen2, v_while, v_kw, v_gt0, v_gts, v_up0, v_ups, v_defD, v_teq, v_teq2, List.length_cons, List.length_nil, List.cons_append, List.nil_append, List.append_nil, List.map_cons, List.map_nil, List.reduceReplicate, Nat.zero_add, Nat.reduceAdd, Bool.not_true, Bool.not_false, decide_true, decide_false, not_true_eq_false, not_false_eq_true, true_and, and_true, hsg, hz, hb, q1', n2]
  · have hb : Builtin.bitAnd se 1 = 1 := by rw [bitAnd_m1]; omega
    have hse : se - 1 = 2 * (se / 2) := by omega
    obtain ⟨m, e, n1, n2⟩ := U_eval c (2 * sm) p (se / 2) (MM false sm se) (bl sm + 1) (by omega) hp (by rw [Nat.mul_comm]; omega) b2 (by rw [Nat.mul_comm 2 sm, hbl]; rfl) (o7 := none) (o8 := none)
    refine ⟨m, e, by rw [if_neg q]; exact n1, ?_⟩
    have hS : ShlG sm 1 := ⟨by decide, by rw [ib_nat]; omega⟩
    have e1 : ((sm * 2 ^ (1 : Int).toNat : Nat) : Int) = ((2 * sm : Nat) : Int) := by
      have : (2 : Nat) ^ (1 : Int).toNat = 2 := by decide
      rw [this]; omega
    rw [← hse] at n2
    simp only [MM, hsg] at n2
    simp only [F_mpf_sqrt, D_sqrt_eq, MM, v_bnd, v_bin, v_add, v_sub, v_mul, v_div, v_mod, v_pow, v_shl, v_shr, v_and, v_xor, v_app, v_ofB, v_cmp, v_tcmp, v_eq, v_ne, v_lt, v_le, v_gt, v_ge, v_seq, v_tr_b, v_tr_i, v_tE, v_onot, v_tnot, v_not, v_neg, v_neg', v_ite, v_ite1, v_ite0, v_eand, v_eor, v_eand1, v_eand0, v_eor1, v_eor0, v_eand_i, v_eor_i, v_tand, v_tor, v_tand1, v_tand0, v_tor1, v_tor0, v_ttrue, v_tfalse, v_chain, v_var, v_int, v_bool, v_str, v_glob, v_lnil, v_lcons, v_lc, v_tup, v_lst, v_tup1, v_tup2, v_tup3, v_tup4, v_lst1, v_lst2, v_item, v_t0, v_t1, v_t2, v_t3, v_l0, v_l1, v_call, v_call', v_bits, v_bits', v_isint, v_isint', v_shift, v_shift_f, v_shift_c, v_dint, v_dabs, v_ddivmod, v_set, v_kset, v_set2, v_kset2, v_aug, v_int2, v_ret, v_kret, v_retof, v_retof', v_app_nil, v_app_cons, v_app_app, v_if, v_kif1, v_kif0, v_asrt, v_kasrt, v_un, v_unR, v_un2, v_un4, v_unR2, v_unR3, v_try, v_none, v_nil, v_for, v_kfor, v_kF_nil, v_kF_cons, v_tail, v_tail2, v_dlen2, v_while, v_kw, v_gt0, v_gts, v_up0, v_ups, v_defD, v_teq, v_teq2, List.length_cons, List.length_nil, List.cons_append, List.nil_append, List.append_nil, List.map_cons, List.map_nil, List.reduceReplicate, Nat.zero_add, Nat.reduceAdd, Bool.not_true, Bool.not_false, decide_true, decide_false, not_true_eq_false, not_false_eq_true, true_and, and_true, hsg, hz, hb, show ¬ (1 : Int) = 0 by decide, shl_nat, hS, e1, n2]
end Mine

namespace Mine
set_option autoImplicit false
theorem and_sg (s : Bool) (n : Nat) : Builtin.bitAnd (sg s) n = sg (s && n % 2 == 1) := by
  cases s
  · show Builtin.bitAnd 0 _ = 0
    rw [bitAnd_comm, bitAnd_zero]
  · show Builtin.bitAnd 1 _ = _
    rw [bitAnd_m1']
    by_cases h : n % 2 = 1
    · simp [sg, h]; omega
    · simp [sg, h]; omega
theorem NR_one (p : Nat) (up : Bool) (x : Int) (hp : 1 ≤ p) : NR p up 1 x 1 x := by
  unfold NR
  rw [if_neg (by rw [bl_one]; omega)]
  exact ⟨rfl, 0, rfl, by simp⟩
theorem pow_int_eval (c s : Bool) (m p n : Nat) (e : Int) (h0 : 0 < m) (hp : 1 ≤ p) (hb : bl m ≤ 64) (n3 : 3 ≤ n) (n9 : n ≤ 9) :
    ∃ m' e', NR p (c != (s && n % 2 == 1)) (m ^ n) (e * n) m' e' ∧ F_mpf_pow_int [MM s m e, .int n, .int p, RR c] = some (MM (s && n % 2 == 1) m' e') := by
  have hz : ¬ (m : Int) = 0 := by omega
  have k0 : ¬ (n : Int) = 0 := by omega
  have k1 : ¬ (n : Int) = 1 := by omega
  have k2 : ¬ (n : Int) = 2 := by omega
  have k3 : ¬ (n : Int) = -1 := by omega
  have k4 : ¬ (n : Int) < 0 := by omega
  have hs := and_sg s n
  have hM2 : MulG e n := .inr (.inl (by
    rw [ib_nat]
    exact bl_le (Nat.lt_of_le_of_lt n9 (by decide))))
  by_cases q : m = 1
  · subst q
    have h11 : ((1 : Nat) : Int) = 1 := rfl
    refine ⟨1, e * n, by rw [Nat.one_pow]; exact NR_one _ _ _ hp, ?_⟩
    simp only [F_mpf_pow_int, D_mpf_pow_int, MM, v_bnd, v_bin, v_add, v_sub, v_mul, v_div, v_mod, v_pow, v_shl, v_shr, v_and, v_xor, v_app, v_ofB, v_cmp, v_tcmp, v_eq, v_ne, v_lt, v_le, v_gt, v_ge, v_seq, v_tr_b, v_tr_i, v_tE, v_onot, v_tnot, v_not, v_neg, v_neg', v_ite, v_ite1, v_ite0, v_eand, v_eor, v_eand1, v_eand0, v_eor1, v_eor0, v_eand_i, v_eor_i, v_tand, v_tor, v_tand1, v_tand0, v_tor1, v_tor0, v_ttrue, v_tfalse, v_chain, v_var, v_int, v_bool, v_str, v_glob, v_lnil, v_lcons, v_lc, v_tup, v_lst, v_tup1, v_tup2, v_tup3, v_tup4, v_lst1, v_lst2, v_item, v_t0, v_t1, v_t2, v_t3, v_l0, v_l1, v_call, v_call', v_bits, v_bits', v_isint, v_isint', v_shift, v_shift_f, v_shift_c, v_dint, v_dabs, v_ddivmod, v_set, v_kset, v_set2, v_kset2, v_aug, v_int2, v_ret, v_kret, v_retof, v_retof', v_app_nil, v_app_cons, v_app_app, v_if, v_kif1, v_kif0, v_asrt, v_kasrt, v_un, v_unR, v_un2, v_un4, v_unR2, v_unR3, v_try, v_none, v_nil, v_for, v_kfor, v_kF_nil, v_kF_cons, v_tail, v_tail2, v_dlen2, v_while, v_kw, v_gt0, v_gts, v_up0, v_ups, v_defD, v_teq, v_teq2, List.length_cons, List.length_nil, List.cons_append, List.nil_append, List.append_nil, List.map_cons, List.map_nil, List.reduceReplicate, Nat.zero_add, Nat.reduceAdd, Bool.not_true, Bool.not_false, decide_true, decide_false, not_true_eq_false, not_false_eq_true, true_and, and_true, h11, show ¬ (1 : Int) = 0 by decide, k0, k1, k2, k3, k4, hs, hM2, d_oi, bl_one]
  · have hq : ¬ (m : Int) = 1 := by omega
    obtain ⟨m', e', n1, n2⟩ := normalize_eval c (s && n % 2 == 1) (m ^ n) p (e * n) (Nat.pow_pos h0) hp
    refine ⟨m', e', n1, ?_⟩
    have hbn : bl m * n ≤ 64 * 9 := Nat.mul_le_mul hb n9
    have hbn' : (bl m : Int) * n < 1000 := by have : ((bl m * n : Nat) : Int) = (bl m : Int) * n := by push_cast; rfl
                                              omega
    have hP : PowG m n := ⟨by omega, by rw [ib_nat]; omega⟩
    have hM : MulG (bl m) n := .inl (by
      rw [ib_nat]
      exact bl_le (Nat.lt_of_le_of_lt hb (by decide)))
    have hpow : (m : Int) ^ (n : Int).toNat = ((m ^ n : Nat) : Int) := by rw [Int.toNat_natCast]; push_cast; rfl
    simp only [F_mpf_pow_int, D_mpf_pow_int, MM, v_bnd, v_bin, v_add, v_sub, v_mul, v_div, v_mod, v_pow, v_shl, v_shr, v_and, v_xor, v_app, v_ofB, v_cmp, v_tcmp, v_eq, v_ne, v_lt, v_le, v_gt, v_ge, v_seq, v_tr_b, v_tr_i, v_tE, v_onot, v_tnot, v_not, v_neg, v_neg', v_ite, v_ite1, v_ite0, v_eand, v_eor, v_eand1, v_eand0, v_eor1, v_eor0, v_eand_i, v_eor_i, v_tand, v_tor, v_tand1, v_tand0, v_tor1, v_tor0, v_ttrue, v_tfalse, v_chain, v_var, v_int, v_bool, v_str, v_glob, v_lnil, v_lcons, v_lc, v_tup, v_lst, v_tup1, v_tup2, v_tup3, v_tup4, v_lst1, v_lst2, v_item, v_t0, v_t1, v_t2, v_t3, v_l0, v_l1, v_call, v_call', v_bits, v_bits', v_isint, v_isint', v_shift, v_shift_f, v_shift_c, v_dint, v_dabs, v_ddivmod, v_set, v_kset, v_set2, v_kset2, v_aug, v_int2, v_ret, v_kret, v_retof, v_retof', v_app_nil, v_app_cons, v_app_app, v_if, v_kif1, v_kif0, v_asrt, v_kasrt, v_un, v_unR, v_un2, v_un4, v_unR2, v_unR3, v_try, v_none, v_nil, v_for, v_kfor, v_kF_nil, v_kF_cons, v_tail, v_tail2, v_dlen2, v_while, v_kw, v_gt0, v_gts, v_up0, v_ups, v_defD, v_teq, v_teq2, List.length_cons, List.length_nil, List.cons_append, List.nil_append, List.append_nil, List.map_cons, List.map_nil, List.reduceReplicate, Nat.zero_add, Nat.reduceAdd, Bool.not_true, Bool.not_false, decide_true, decide_false, not_true_eq_false, not_false_eq_true, true_and, and_true, hz, k0, k1, k2, k3, k4, hs, hq, hM, hM2, hbn', hP, hpow, ib_nat, n2]
theorem pow_int_zero (n : Nat) (p : Int) (r : D) (n3 : 3 ≤ n) : F_mpf_pow_int [d_fzero, .int n, .int p, r] = some d_fzero := by
  have k0 : ¬ (n : Int) = 0 := by omega
  have k1 : ¬ (n : Int) = 1 := by omega
  have k2 : ¬ (n : Int) = 2 := by omega
  have k3 : ¬ (n : Int) = -1 := by omega
  have k4 : ¬ (n : Int) < 0 := by omega
  have hs := and_sg false n
  have hM : MulG 0 n := .inl (by decide)
  have hP : PowG 0 n := ⟨by omega, by rw [show ib 0 = 0 by decide]; omega⟩
  have e1 : (0 : Int) ^ (n : Int).toNat = 0 := by rw [Int.toNat_natCast]; exact Int.zero_pow (by omega)
  simp only [sg, if_false, Bool.false_eq_true, Bool.false_and] at hs
  simp only [F_mpf_pow_int, D_mpf_pow_int, d_fzero, v_bnd, v_bin, v_add, v_sub, v_mul, v_div, v_mod, v_pow, v_shl, v_shr, v_and, v_xor, v_app, v_ofB, v_cmp, v_tcmp, v_eq, v_ne, v_lt, v_le, v_gt, v_ge, v_seq, v_tr_b, v_tr_i, v_tE, v_onot, v_tnot, v_not, v_neg, v_neg', v_ite, v_ite1, v_ite0, v_eand, v_eor, v_eand1, v_eand0, v_eor1, v_eor0, v_eand_i, v_eor_i, v_tand, v_tor, v_tand1, v_tand0, v_tor1, v_tor0, v_ttrue, v_tfalse, v_chain, v_var, v_int, v_bool, v_str, v_glob, v_lnil, v_lcons, v_lc, v_tup, v_lst, v_tup1, v_tup2, v_tup3, v_tup4, v_lst1, v_lst2, v_item, v_t0, v_t1, v_t2, v_t3, v_l0, v_l1, v_call, v_call', v_bits, v_bits', v_isint, v_isint', v_shift, v_shift_f, v_shift_c, v_dint, v_dabs, v_ddivmod, v_set, v_kset, v_set2, v_kset2, v_aug, v_int2, v_ret, v_kret, v_retof, v_retof', v_app_nil, v_app_cons, v_app_app, v_if, v_kif1, v_kif0, v_asrt, v_kasrt, v_un, v_unR, v_un2, v_un4, v_unR2, v_unR3, v_try, v_none, v_nil, v_for, v_kfor, v_kF_nil, v_kF_cons, v_tail, v_tail2, v_dlen2, v_while, v_kw, v_gt0, v_gts, v_up0, v_ups, v_defD, v_teq, v_teq2, List.length_cons, List.length_nil, List.cons_append, List.nil_append, List.append_nil, List.map_cons, List.map_nil, List.reduceReplicate, Nat.zero_add, Nat.reduceAdd, Bool.not_true, Bool.not_false, decide_true, decide_false, not_true_eq_false, not_false_eq_true, true_and, and_true, k0, k1, k2, k3, k4, hs, hM, hP, e1, Int.zero_mul, show (0 : Int) < 1000 by decide, show ¬ (0 : Int) = 1 by decide, show ib 0 = 0 by decide]
  exact normalize_zero _ _ _ _

/-! comparisons -/
theorem cmp_zero_r (s : Bool) (m : Nat) (e : Int) (h : 0 < m) : F_mpf_cmp [MM s m e, d_fzero] = some (.int (if s then -1 else 1)) := by
  have hz : ¬ (m : Int) = 0 := by omega
  have hs := sign_eval s m e h
  simp only [MM] at hs
  simp only [F_mpf_cmp, D_mpf_cmp, MM, d_fzero, v_bnd, v_bin, v_add, v_sub, v_mul, v_div, v_mod, v_pow, v_shl, v_shr, v_and, v_xor, v_app, v_ofB, v_cmp, v_tcmp, v_eq, v_ne, v_lt, v_le, v_gt, v_ge, v_seq, v_tr_b, v_tr_i, v_tE, v_onot, v_tnot, v_not, v_neg, v_neg', v_ite, v_ite1, v_ite0, v_eand, v_eor, v_eand1, v_eand0, v_eor1, v_eor0, v_eand_i, v_eor_i, v_tand, v_tor, v_tand1, v_tand0, v_tor1, v_tor0, v_ttrue, v_tfalse, v_chain, v_var, v_int, v_bool, v_str, v_glob, v_lnil, v_lcons, v_lc, v_tup, v_lst, v_tup1, v_tup2, v_tup3, v_tup4, v_lst1, v_lst2, v_item, v_t0, v_t1, v_t2, v_t3, v_l0, v_l1, v_call, v_call', v_bits, v_bits', v_isint, v_isint', v_shift, v_shift_f, v_shift_c, v_dint, v_dabs, v_ddivmod, v_set, v_kset, v_set2, v_kset2, v_aug, v_int2, v_ret, v_kret, v_retof, v_retof', v_app_nil, v_app_cons, v_app_app, v_if, v_kif1, v_kif0, v_asrt, v_kasrt, v_un, v_unR, v_un2, v_un4, v_unR2, v_unR3, v_try, v_none, v_nil, v_for, v_kfor, v_kF_nil, v_kF_cons, v_tail, v_tail2, v_dlen2, v_while, v_kw, v_gt0, v_gts, v_up0, v_ups, v_defD, v_teq, v_teq2, List.length_cons, List.length_nil, List.cons_append, List.nil_append, List.append_nil, List.map_cons, List.map_nil, List.reduceReplicate, Nat.zero_add, Nat.reduceAdd, Bool.not_true, Bool.not_false, decide_true, decide_false, not_true_eq_false, not_false_eq_true, true_and, and_true, hz, hs, false_and, and_false]
theorem cmp_zero_zero : F_mpf_cmp [d_fzero, d_fzero] = some (.int 0) := by
  have hs := sign_zero
  simp only [d_fzero] at hs
  simp only [F_mpf_cmp, D_mpf_cmp, d_fzero, v_bnd, v_bin, v_add, v_sub, v_mul, v_div, v_mod, v_pow, v_shl, v_shr, v_and, v_xor, v_app, v_ofB, v_cmp, v_tcmp, v_eq, v_ne, v_lt, v_le, v_gt, v_ge, v_seq, v_tr_b, v_tr_i, v_tE, v_onot, v_tnot, v_not, v_neg, v_neg', v_ite, v_ite1, v_ite0, v_eand, v_eor, v_eand1, v_eand0, v_eor1, v_eor0, v_eand_i, v_eor_i, v_tand, v_tor, v_tand1, v_tand0, v_tor1, v_tor0, v_ttrue, v_tfalse, v_chain, v_var, v_int, v_bool, v_str, v_glob, v_lnil, v_lcons, v_lc, v_tup, v_lst, v_tup1, v_tup2, v_tup3, v_tup4, v_lst1, v_lst2, v_item, v_t0, v_t1, v_t2, v_t3, v_l0, v_l1, v_call, v_call', v_bits, v_bits', v_isint, v_isint', v_shift, v_shift_f, v_shift_c, v_dint, v_dabs, v_ddivmod, v_set, v_kset, v_set2, v_kset2, v_aug, v_int2, v_ret, v_kret, v_retof, v_retof', v_app_nil, v_app_cons, v_app_app, v_if, v_kif1, v_kif0, v_asrt, v_kasrt, v_un, v_unR, v_un2, v_un4, v_unR2, v_unR3, v_try, v_none, v_nil, v_for, v_kfor, v_kF_nil, v_kF_cons, v_tail, v_tail2, v_dlen2, v_while, v_kw, v_gt0, v_gts, v_up0, v_ups, v_defD, v_teq, v_teq2, List.length_cons, List.length_nil, List.cons_append, List.nil_append, List.append_nil, List.map_cons, List.map_nil, List.reduceReplicate, Nat.zero_add, Nat.reduceAdd, Bool.not_true, Bool.not_false, decide_true, decide_false, not_true_eq_false, not_false_eq_true, true_and, and_true, hs]
  rfl
theorem ge_zero (s : Bool) (m : Nat) (e : Int) (h : 0 < m) : F_mpf_ge [MM s m e, d_fzero] = some (.bool (!s)) := by
  have hz : ¬ (m : Int) = 0 := by omega
  have hs := cmp_zero_r s m e h
  simp only [MM, d_fzero] at hs
  cases s <;> simp [F_mpf_ge, D_mpf_ge, MM, d_fzero, d_fnan, v_bnd, v_bin, v_add, v_sub, v_mul, v_div, v_mod, v_pow, v_shl, v_shr, v_and, v_xor, v_app, v_ofB, v_cmp, v_tcmp, v_eq, v_ne, v_lt, v_le, v_gt, v_ge, v_seq, v_tr_b, v_tr_i, v_tE, v_onot, v_tnot, v_not, v_neg, v_neg', v_ite, v_ite1, v_ite0, v_eand, v_eor, v_eand1, v_eand0, v_eor1, v_eor0, v_eand_i, v_eor_i, v_tand, v_tor, v_tand1, v_tand0, v_tor1, v_tor0, v_ttrue, v_tfalse, v_chain, v_var, v_int, v_bool, v_str, v_glob, v_lnil, v_lcons, v_lc, v_tup, v_lst, v_tup1, v_tup2, v_tup3, v_tup4, v_lst1, v_lst2, v_item, v_t0, v_t1, v_t2, v_t3, v_l0, v_l1, v_call, v_call', v_bits, v_bits', v_isint, v_isint', v_shift, v_shift_f, v_shift_c, v_dint, v_dabs, v_ddivmod, v_set, v_kset, v_set2, v_kset2, v_aug, v_int2, v_ret, v_kret, v_retof, v_retof', v_app_nil, v_app_cons, v_app_app, v_if, v_kif1, v_kif0, v_asrt, v_kasrt, v_un, v_unR, v_un2, v_un4, v_unR2, v_unR3, v_try, v_none, v_nil, v_for, v_kfor, v_kF_nil, v_kF_cons, v_tail, v_tail2, v_dlen2, v_while, v_kw, v_gt0, v_gts, v_up0, v_ups, v_defD, v_teq, v_teq2, List.length_cons, List.length_nil, List.cons_append, List.nil_append, List.append_nil, List.map_cons, List.map_nil, List.reduceReplicate, Nat.zero_add, Nat.reduceAdd, Bool.not_true, Bool.not_false, decide_true, decide_false, not_true_eq_false, not_false_eq_true, true_and, and_true, hz, hs, false_and, and_false, show ¬ (0 : Int) = -123 by decide]
theorem ge_zero_zero : F_mpf_ge [d_fzero, d_fzero] = some (.bool true) := by
  have hs := cmp_zero_zero
  simp only [d_fzero] at hs
  simp [F_mpf_ge, D_mpf_ge, d_fzero, d_fnan, v_bnd, v_bin, v_add, v_sub, v_mul, v_div, v_mod, v_pow, v_shl, v_shr, v_and, v_xor, v_app, v_ofB, v_cmp, v_tcmp, v_eq, v_ne, v_lt, v_le, v_gt, v_ge, v_seq, v_tr_b, v_tr_i, v_tE, v_onot, v_tnot, v_not, v_neg, v_neg', v_ite, v_ite1, v_ite0, v_eand, v_eor, v_eand1, v_eand0, v_eor1, v_eor0, v_eand_i, v_eor_i, v_tand, v_tor, v_tand1, v_tand0, v_tor1, v_tor0, v_ttrue, v_tfalse, v_chain, v_var, v_int, v_bool, v_str, v_glob, v_lnil, v_lcons, v_lc, v_tup, v_lst, v_tup1, v_tup2, v_tup3, v_tup4, v_lst1, v_lst2, v_item, v_t0, v_t1, v_t2, v_t3, v_l0, v_l1, v_call, v_call', v_bits, v_bits', v_isint, v_isint', v_shift, v_shift_f, v_shift_c, v_dint, v_dabs, v_ddivmod, v_set, v_kset, v_set2, v_kset2, v_aug, v_int2, v_ret, v_kret, v_retof, v_retof', v_app_nil, v_app_cons, v_app_app, v_if, v_kif1, v_kif0, v_asrt, v_kasrt, v_un, v_unR, v_un2, v_un4, v_unR2, v_unR3, v_try, v_none, v_nil, v_for, v_kfor, v_kF_nil, v_kF_cons, v_tail, v_tail2, v_dlen2, v_while, v_kw, v_gt0, v_gts, v_up0, v_ups, v_defD, v_teq, v_teq2, List.length_cons, List.length_nil, List.cons_append, List.nil_append, List.append_nil, List.map_cons, List.map_nil, List.reduceReplicate, Nat.zero_add, Nat.reduceAdd, Bool.not_true, Bool.not_false, decide_true, decide_false, not_true_eq_false, not_false_eq_true, true_and, and_true, hs, false_and, and_false, show ¬ (0 : Int) = -123 by decide]
theorem le_zero (s : Bool) (m : Nat) (e : Int) (h : 0 < m) : F_mpf_le [MM s m e, d_fzero] = some (.bool s) := by
  have hz : ¬ (m : Int) = 0 := by omega
  have hs := cmp_zero_r s m e h
  simp only [MM, d_fzero] at hs
  cases s <;> simp [F_mpf_le, D_mpf_le, MM, d_fzero, d_fnan, v_bnd, v_bin, v_add, v_sub, v_mul, v_div, v_mod, v_pow, v_shl, v_shr, v_and, v_xor, v_app, v_ofB, v_cmp, v_tcmp, v_eq, v_ne, v_lt, v_le, v_gt, v_ge, v_seq, v_tr_b, v_tr_i, v_tE, v_onot, v_tnot, v_not, v_neg, v_neg', v_ite, v_ite1, v_ite0, v_eand, v_eor, v_eand1, v_eand0, v_eor1, v_eor0, v_eand_i, v_eor_i, v_tand, v_tor, v_tand1, v_tand0, v_tor1, v_tor0, v_ttrue, v_tfalse, v_chain, v_var, v_int, v_bool, v_str, v_glob, v_lnil, v_lcons, v_lc, v_tup, v_lst, v_tup1, v_tup2, v_tup3, v_tup4, v_lst1, v_lst2, v_item, v_t0, v_t1, v_t2, v_t3, v_l0, v_l1, v_call, v_call', v_bits, v_bits', v_isint, v_isint', v_shift, v_shift_f, v_shift_c, v_dint, v_dabs, v_ddivmod, v_set, v_kset, v_set2, v_kset2, v_aug, v_int2, v_ret, v_kret, v_retof, v_retof', v_app_nil, v_app_cons, v_app_app, v_if, v_kif1, v_kif0, v_asrt, v_kasrt, v_un, v_unR, v_un2, v_un4, v_unR2, v_unR3, v_try, v_none, v_nil, v_for, v_kfor, v_kF_nil, v_kF_cons, v_tail, v_tail2, v_dlen2, v_while, v_kw, v_gt0, v_gts, v_up0, v_ups, v_defD, v_teq, v_teq2, List.length_cons, List.length_nil, List.cons_append, List.nil_append, List.append_nil, List.map_cons, List.map_nil, List.reduceReplicate, Nat.zero_add, Nat.reduceAdd, Bool.not_true, Bool.not_false, decide_true, decide_false, not_true_eq_false, not_false_eq_true, true_and, and_true, hz, hs, false_and, and_false, show ¬ (0 : Int) = -123 by decide]
theorem le_zero_zero : F_mpf_le [d_fzero, d_fzero] = some (.bool true) := by
  have hs := cmp_zero_zero
  simp only [d_fzero] at hs
  simp [F_mpf_le, D_mpf_le, d_fzero, d_fnan, v_bnd, v_bin, v_add, v_sub, v_mul, v_div, v_mod, v_pow, v_shl, v_shr, v_and, v_xor, v_app, v_ofB, v_cmp, v_tcmp, v_eq, v_ne, v_lt, v_le, v_gt, v_ge, v_seq, v_tr_b, v_tr_i, v_tE, v_onot, v_tnot, v_not, v_neg, v_neg', v_ite, v_ite1, v_ite0, v_eand, v_eor, v_eand1, v_eand0, v_eor1, v_eor0, v_eand_i, v_eor_i, v_tand, v_tor, v_tand1, v_tand0, v_tor1, v_tor0, v_ttrue, v_tfalse, v_chain, v_var, v_int, v_bool, v_str, v_glob, v_lnil, v_lcons, v_lc, v_tup, v_lst, v_tup1, v_tup2, v_tup3, v_tup4, v_lst1, v_lst2, v_item, v_t0, v_t1, v_t2, v_t3, v_l0, v_l1, v_call, v_call', v_bits, v_bits', v_isint, v_isint', v_shift, v_shift_f, v_shift_c, v_dint, v_dabs, v_ddivmod, v_set, v_kset, v_set2, v_kset2, v_aug, v_int2, v_ret, v_kret, v_retof, v_retof', v_app_nil, v_app_cons, v_app_app, v_if, v_kif1, v_kif0, v_asrt, v_kasrt, v_un, v_unR, v_un2, v_un4, v_unR2, v_unR3, v_try, v_none, v_nil, v_for, v_kfor, v_kF_nil, v_kF_cons, v_tail, v_tail2, v_dlen2, v_while, v_kw, v_gt0, v_gts, v_up0, v_ups, v_defD, v_teq, v_teq2, List.length_cons, List.length_nil, List.cons_append, List.nil_append, List.append_nil, List.map_cons, List.map_nil, List.reduceReplicate, Nat.zero_add, Nat.reduceAdd, Bool.not_true, Bool.not_false, decide_true, decide_false, not_true_eq_false, not_false_eq_true, true_and, and_true, hs, false_and, and_false, show ¬ (0 : Int) = -123 by decide]

/-- the sign of the difference of two positive numbers of different exponents -/
theorem sub_sign (sm tm : Nat) (se te : Int) (hs : 0 < sm) (ht : 0 < tm) (hne : se ≠ te) (h1 : se - te ≤ 100) (h2 : te - se ≤ 100) (b1 : bl sm ≤ 1000) (b2 : bl tm ≤ 1000)
    (hd : ¬ (sm * 2 ^ (se - te).toNat = tm * 2 ^ (te - se).toNat)) :
    ∃ l, F_mpf_sub [MM false sm se, MM false tm te, .int 5, RR false] = some (.tup (.int (if dlt sm se tm te then 1 else 0) :: l)) := by
  have hz : ¬ (sm : Int) = 0 := by omega
  have hz' : ¬ (tm : Int) = 0 := by omega
  have ho : ¬ se - te = 0 := by omega
  have ho1 : ¬ (100 : Int) < se - te := by omega
  have ho2 : ¬ se - te < -100 := by omega
  have hx : Builtin.bitXor 0 1 = 1 := by decide
  have s0 : sg false = 0 := rfl
  have s1 : sg true = 1 := rfl
  have h5 : ((5 : Nat) : Int) = 5 := rfl
  have z10 : ¬ (1 : Int) = 0 := by decide
  have z01 : ¬ (0 : Int) = 1 := by decide
  have z50 : ¬ (5 : Int) = 0 := by decide
  by_cases hp : 0 < se - te
  · obtain ⟨k, hk⟩ : ∃ k : Nat, se - te = k := ⟨(se - te).toNat, by omega⟩
    have e1 : (te - se).toNat = 0 := by omega
    have hdl : dlt sm se tm te ↔ sm * 2 ^ k < tm := by unfold dlt; rw [e1, hk, Int.toNat_natCast, Nat.pow_zero, Nat.mul_one]
    rw [e1, Nat.pow_zero, Nat.mul_one] at hd
    rw [hk] at hd ho hp ho1 ho2
    rw [Int.toNat_natCast] at hd
    have hS : ShlG sm k := ⟨by omega, by rw [ib_nat]; omega⟩
    by_cases hc : sm * 2 ^ k < tm
    · obtain ⟨m, e, n1, n2⟩ := normalize_eval false true (tm - sm * 2 ^ k) 5 te (by omega) (by decide)
      have c1 : ¬ (0 : Int) ≤ ((sm * 2 ^ k : Nat) : Int) - tm := by omega
      have c2 : -(((sm * 2 ^ k : Nat) : Int) - tm) = ((tm - sm * 2 ^ k : Nat) : Int) := by omega
      refine ⟨[.int m, .int e, .int (bl m)], ?_⟩
      rw [if_pos (hdl.mpr hc)]
      simp only [s1, h5] at n2
      simp only [F_mpf_sub, D_mpf_sub, F_mpf_add, D_mpf_add, MM, s0, s1, v_bnd, v_bin, v_add, v_sub, v_mul, v_div, v_mod, v_pow, v_shl, v_shr, v_and, v_xor, v_app, v_ofB, v_cmp, v_tcmp, v_eq, v_ne, v_lt, v_le, v_gt, v_ge, v_seq, v_tr_b, v_tr_i, v_tE, v_onot, v_tnot, v_not, v_neg, v_neg', v_ite, v_ite1, v_ite0, v_eand, v_eor, v_eand1, v_eand0, v_eor1, v_eor0, v_eand_i, v_eor_i, v_tand, v_tor, v_tand1, v_tand0, v_tor1, v_tor0, v_ttrue, v_tfalse, v_chain, v_var, v_int, v_bool, v_str, v_glob, v_lnil, v_lcons, v_lc, v_tup, v_lst, v_tup1, v_tup2, v_tup3, v_tup4, v_lst1, v_lst2, v_item, v_t0, v_t1, v_t2, v_t3, v_l0, v_l1, v_call, v_call', v_bits, v_bits', v_isint, v_isint', v_shift, v_shift_f, v_shift_c, v_dint, v_dabs, v_ddivmod, v_set, v_kset, v_set2, v_kset2, v_aug, v_int2, v_ret, v_kret, v_retof, v_retof', v_app_nil, v_app_cons, v_app_app, v_if, v_kif1, v_kif0, v_asrt, v_kasrt, v_un, v_unR, v_un2, v_un4, v_unR2, v_unR3, v_try, v_none, v_nil, v_for, v_kfor, v_kF_nil, v_kF_cons, v_tail, v_tail2, v_dlen2, v_while, v_kw, v_gt0, v_gts, v_up0, v_ups, v_defD, v_teq, v_teq2, List.length_cons, List.length_nil, List.cons_append, List.nil_append, List.append_nil, List.map_cons, List.map_nil, List.reduceReplicate, Nat.zero_add, Nat.reduceAdd, Bool.not_true, Bool.not_false, decide_true, decide_false, not_true_eq_false, not_false_eq_true, true_and, and_true, hx, hz, hz', hk, ho, hp, ho1, z01, z10, z50, hS, Int.toNat_natCast, shl_nat, c1, c2, ib_nat, n2]
    · obtain ⟨m, e, n1, n2⟩ := normalize_eval false false (sm * 2 ^ k - tm) 5 te (by omega) (by decide)
      have c1 : (0 : Int) ≤ ((sm * 2 ^ k : Nat) : Int) - tm := by omega
      have c2 : ((sm * 2 ^ k : Nat) : Int) - tm = ((sm * 2 ^ k - tm : Nat) : Int) := by omega
      rw [c2] at c1
      refine ⟨[.int m, .int e, .int (bl m)], ?_⟩
      rw [if_neg (fun z => hc (hdl.mp z))]
      simp only [s0, h5] at n2
      simp only [F_mpf_sub, D_mpf_sub, F_mpf_add, D_mpf_add, MM, s0, s1, v_bnd, v_bin, v_add, v_sub, v_mul, v_div, v_mod, v_pow, v_shl, v_shr, v_and, v_xor, v_app, v_ofB, v_cmp, v_tcmp, v_eq, v_ne, v_lt, v_le, v_gt, v_ge, v_seq, v_tr_b, v_tr_i, v_tE, v_onot, v_tnot, v_not, v_neg, v_neg', v_ite, v_ite1, v_ite0, v_eand, v_eor, v_eand1, v_eand0, v_eor1, v_eor0, v_eand_i, v_eor_i, v_tand, v_tor, v_tand1, v_tand0, v_tor1, v_tor0, v_ttrue, v_tfalse, v_chain, v_var, v_int, v_bool, v_str, v_glob, v_lnil, v_lcons, v_lc, v_tup, v_lst, v_tup1, v_tup2, v_tup3, v_tup4, v_lst1, v_lst2, v_item, v_t0, v_t1, v_t2, v_t3, v_l0, v_l1, v_call, v_call', v_bits, v_bits', v_isint, v_isint', v_shift, v_shift_f, v_shift_c, v_dint, v_dabs, v_ddivmod, v_set, v_kset, v_set2, v_kset2, v_aug, v_int2, v_ret, v_kret, v_retof, v_retof', v_app_nil, v_app_cons, v_app_app, v_if, v_kif1, v_kif0, v_asrt, v_kasrt, v_un, v_unR, v_un2, v_un4, v_unR2, v_unR3, v_try, v_none, v_nil, v_for, v_kfor, v_kF_nil, v_kF_cons, v_tail, v_tail2, v_dlen2, v_while, v_kw, v_gt0, v_gts, v_up0, v_ups, v_defD, v_teq, v_teq2, List.length_cons, List.length_nil, List.cons_append, List.nil_append, List.append_nil, List.map_cons, List.map_nil, List.reduceReplicate, Nat.zero_add, Nat.reduceAdd, Bool.not_true, Bool.not_false, decide_true, decide_false, not_true_eq_false, not_false_eq_true, true_and, and_true, hx, hz, hz', hk, ho, hp, ho1, z01, z10, z50, hS, Int.toNat_natCast, shl_nat, c2, c1, ib_nat, n2]
  · obtain ⟨k, hk⟩ : ∃ k : Nat, te - se = k := ⟨(te - se).toNat, by omega⟩
    have hk' : se - te = -(k : Int) := by omega
    have hp' : se - te < 0 := by omega
    have e1 : (se - te).toNat = 0 := by omega
    have hdl : dlt sm se tm te ↔ sm < tm * 2 ^ k := by unfold dlt; rw [e1, hk, Int.toNat_natCast, Nat.pow_zero, Nat.mul_one]
    rw [e1, Nat.pow_zero, Nat.mul_one] at hd
    rw [hk] at hd
    rw [hk'] at ho hp ho1 ho2 hp'
    rw [Int.toNat_natCast] at hd
    have hS : ShlG tm k := ⟨by omega, by rw [ib_nat]; omega⟩
    have hn : - -(k : Int) = k := by omega
    by_cases hc : sm < tm * 2 ^ k
    · obtain ⟨m, e, n1, n2⟩ := normalize_eval false true (tm * 2 ^ k - sm) 5 se (by omega) (by decide)
      have c1 : ¬ (0 : Int) ≤ (sm : Int) - ((tm * 2 ^ k : Nat) : Int) := by omega
      have c2 : -((sm : Int) - ((tm * 2 ^ k : Nat) : Int)) = ((tm * 2 ^ k - sm : Nat) : Int) := by omega
      refine ⟨[.int m, .int e, .int (bl m)], ?_⟩
      rw [if_pos (hdl.mpr hc)]
      simp only [s1, h5] at n2
      simp only [F_mpf_sub, D_mpf_sub, F_mpf_add, D_mpf_add, MM, s0, s1, v_bnd, v_bin, v_add, v_sub, v_mul, v_div, v_mod, v_pow, v_shl, v_shr, v_and, v_xor, v_app, v_ofB, v_cmp, v_tcmp, v_eq, v_ne, v_lt, v_le, v_gt, v_ge, v_seq, v_tr_b, v_tr_i, v_tE, v_onot, v_tnot, v_not, v_neg, v_neg', v_ite, v_ite1, v_ite0, v_eand, v_eor, v_eand1, v_eand0, v_eor1, v_eor0, v_eand_i, v_eor_i, v_tand, v_tor, v_tand1, v_tand0, v_tor1, v_tor0, v_ttrue, v_tfalse, v_chain, v_var, v_int, v_bool, v_str, v_glob, v_lnil, v_lcons, v_lc, v_tup, v_lst, v_tup1, v_tup2, v_tup3, v_tup4, v_lst1, v_lst2, v_item, v_t0, v_t1, v_t2, v_t3, v_l0, v_l1, v_call, v_call', v_bits, v_bits', v_isint, v_isint', v_shift, v_shift_f, v_shift_c, v_dint, v_dabs, v_ddivmod, v_set, v_kset, v_set2, v_kset2, v_aug, v_int2, v_ret, v_kret, v_retof, v_retof', v_app_nil, v_app_cons, v_app_app, v_if, v_kif1, v_kif0, v_asrt, v_kasrt, v_un, v_unR, v_un2, v_un4, v_unR2, v_unR3, v_try, v_none, v_nil, v_for, v_kfor, v_kF_nil, v_kF_cons, v_tail, v_tail2, v_dlen2, v_while, v_kw, v_gt0, v_gts, v_up0, v_ups, v_defD, v_teq, v_teq2, List.length_cons, List.length_nil, List.cons_append, List.nil_append, List.append_nil, List.map_cons, List.map_nil, List.reduceReplicate, Nat.zero_add, Nat.reduceAdd, Bool.not_true, Bool.not_false, decide_true, decide_false, not_true_eq_false, not_false_eq_true, true_and, and_true, hx, hz, hz', hk', ho, hp, hp', ho2, z01, z10, z50, hn, hS, Int.toNat_natCast, shl_nat, c1, c2, ib_nat, n2]
    · obtain ⟨m, e, n1, n2⟩ := normalize_eval false false (sm - tm * 2 ^ k) 5 se (by omega) (by decide)
      have c1 : (0 : Int) ≤ (sm : Int) - ((tm * 2 ^ k : Nat) : Int) := by omega
      have c2 : (sm : Int) - ((tm * 2 ^ k : Nat) : Int) = ((sm - tm * 2 ^ k : Nat) : Int) := by omega
      rw [c2] at c1
      refine ⟨[.int m, .int e, .int (bl m)], ?_⟩
      rw [if_neg (fun z => hc (hdl.mp z))]
      simp only [s0, h5] at n2
      simp only [F_mpf_sub, D_mpf_sub, F_mpf_add, D_mpf_add, MM, s0, s1, v_bnd, v_bin, v_add, v_sub, v_mul, v_div, v_mod, v_pow, v_shl, v_shr, v_and, v_xor, v_app, v_ofB, v_cmp, v_tcmp, v_eq, v_ne, v_lt, v_le, v_gt, v_ge, v_seq, v_tr_b, v_tr_i, v_tE, v_onot, v_tnot, v_not, v_neg, v_neg', v_ite, v_ite1, v_ite0, v_eand, v_eor, v_eand1, v_eand0, v_eor1, v_eor0, v_eand_i, v_eor_i, v_tand, v_tor, v_tand1, v_tand0, v_tor1, v_tor0, v_ttrue, v_tfalse, v_chain, v_var, v_int, v_bool, v_str, v_glob, v_lnil, v_lcons, v_lc, v_tup, v_lst, v_tup1, v_tup2, v_tup3, v_tup4, v_lst1, v_lst2, v_item, v_t0, v_t1, v_t2, v_t3, v_l0, v_l1, v_call, v_call', v_bits, v_bits', v_isint, v_isint', v_shift, v_shift_f, v_shift_c, v_dint, v_dabs, v_ddivmod, v_set, v_kset, v_set2, v_kset2, v_aug, v_int2, v_ret, v_kret, v_retof, v_retof', v_app_nil, v_app_cons, v_app_app, v_if, v_kif1, v_kif0, v_asrt, v_kasrt, v_un, v_unR, v_un2, v_un4, v_unR2, v_unR3, v_try, v_none, v_nil, v_for, v_kfor, v_kF_nil, v_kF_cons, v_tail, v_tail2, v_dlen2, v_while, v_kw, v_gt0, v_gts, v_up0, v_ups, v_defD, v_teq, v_teq2, List.length_cons, List.length_nil, List.cons_append, List.nil_append, List.append_nil, List.map_cons, List.map_nil, List.reduceReplicate, Nat.zero_add, Nat.reduceAdd, Bool.not_true, Bool.not_false, decide_true, decide_false, not_true_eq_false, not_false_eq_true, true_and, and_true, hx, hz, hz', hk', ho, hp, hp', ho2, z01, z10, z50, hn, hS, Int.toNat_natCast, shl_nat, c2, c1, ib_nat, n2]
end Mine

namespace Mine
set_option autoImplicit false
theorem dlt_bits {sm tm : Nat} {se te : Int} (ht : 0 < tm) (h : (bl sm : Int) + se < bl tm + te) : dlt sm se tm te := by
  unfold dlt
  have h1 := bl_lt sm
  have h2 := bl_ge ht
  have h3 := bl_pos ht
  have a : sm * 2 ^ (se - te).toNat < 2 ^ (bl sm + (se - te).toNat) := by rw [Nat.pow_add]; exact Nat.mul_lt_mul_of_pos_right h1 (p2_pos _)
  have b : 2 ^ (bl tm - 1 + (te - se).toNat) ≤ tm * 2 ^ (te - se).toNat := by rw [Nat.pow_add]; exact Nat.mul_le_mul_right _ h2
  have c : 2 ^ (bl sm + (se - te).toNat) ≤ 2 ^ (bl tm - 1 + (te - se).toNat) := Nat.pow_le_pow_right (by decide) (by omega)
  omega
theorem dlt_irr {sm tm : Nat} {se te : Int} (h : dlt sm se tm te) : ¬ dlt tm te sm se := by
  unfold dlt at *
  omega
theorem cmp_pos (sm tm : Nat) (se te : Int) (os : sm % 2 = 1) (ot : tm % 2 = 1) (h1 : se - te ≤ 100) (h2 : te - se ≤ 100) (b1 : bl sm ≤ 1000) (b2 : bl tm ≤ 1000) :
    F_mpf_cmp [MM false sm se, MM false tm te] = some (.int (if dlt sm se tm te then -1 else if sm = tm ∧ se = te then 0 else 1)) := by
  have hs : 0 < sm := by omega
  have ht : 0 < tm := by omega
  have hz : ¬ (sm : Int) = 0 := by omega
  have hz' : ¬ (tm : Int) = 0 := by omega
  have s0 : sg false = 0 := rfl
  by_cases he : se = te
  · subst he
    have hd : dlt sm se tm se ↔ sm < tm := by unfold dlt; simp
    by_cases q : sm = tm
    · subst q
      rw [if_neg (by rw [hd]; omega), if_pos ⟨rfl, rfl⟩]
      simp only [F_mpf_cmp, D_mpf_cmp, MM, s0, v_bnd, v_bin, v_add, v_sub, v_mul, v_div, v_mod, v_pow, v_shl, v_shr, v_and, v_xor, v_app, v_ofB, v_cmp, v_tcmp, v_eq, v_ne, v_lt, v_le, v_gt, v_ge, v_seq, v_tr_b, v_tr_i, v_tE, v_onot, v_tnot, v_not, v_neg, v_neg', v_ite, v_ite1, v_ite0, v_eand, v_eor, v_eand1, v_eand0, v_eor1, v_eor0, v_eand_i, v_eor_i, v_tand, v_tor, v_tand1, v_tand0, v_tor1, v_tor0, v_ttrue, v_tfalse, v_chain, v_var, v_int, v_bool, v_str, v_glob, v_lnil, v_lcons, v_lc, v_tup, v_lst, v_tup1, v_tup2, v_tup3, v_tup4, v_lst1, v_lst2, v_item, v_t0, v_t1, v_t2, v_t3, v_l0, v_l1, v_call, v_call', v_bits, v_bits', v_isint, v_isint', v_shift, v_shift_f, v_shift_c, v_dint, v_dabs, v_ddivmod, v_set, v_kset, v_set2, v_kset2, v_aug, v_int2, v_ret, v_kret, v_retof, v_retof', v_app_nil, v_app_cons, v_app_app, v_if, v_kif1, v_kif0, v_asrt, v_kasrt, v_un, v_unR, v_un2, v_un4, v_unR2, v_unR3, v_try, v_none, v_nil, v_for, v_kfor, v_kF_nil, v_kF_cons, v_tail, v_tail2, v_dlen2, v_while, v_kw, v_gt0, v_gts, v_up0, v_ups, v_defD, v_teq, v_teq2, List.length_cons, List.length_nil, List.cons_append, List.nil_append, List.append_nil, List.map_cons, List.map_nil, List.reduceReplicate, Nat.zero_add, Nat.reduceAdd, Bool.not_true, Bool.not_false, decide_true, decide_false, not_true_eq_false, not_false_eq_true, true_and, and_true, hz]
    · have q' : ¬ (sm : Int) = tm := by omega
      by_cases r : sm < tm
      · rw [if_pos (hd.mpr r)]
        have r' : ¬ (tm : Int) < sm := by omega
        simp only [F_mpf_cmp, D_mpf_cmp, MM, s0, v_bnd, v_bin, v_add, v_sub, v_mul, v_div, v_mod, v_pow, v_shl, v_shr, v_and, v_xor, v_app, v_ofB, v_cmp, v_tcmp, v_eq, v_ne, v_lt, v_le, v_gt, v_ge, v_seq, v_tr_b, v_tr_i, v_tE, v_onot, v_tnot, v_not, v_neg, v_neg', v_ite, v_ite1, v_ite0, v_eand, v_eor, v_eand1, v_eand0, v_eor1, v_eor0, v_eand_i, v_eor_i, v_tand, v_tor, v_tand1, v_tand0, v_tor1, v_tor0, v_ttrue, v_tfalse, v_chain, v_var, v_int, v_bool, v_str, v_glob, v_lnil, v_lcons, v_lc, v_tup, v_lst, v_tup1, v_tup2, v_tup3, v_tup4, v_lst1, v_lst2, v_item, v_t0, v_t1, v_t2, v_t3, v_l0, v_l1, v_call, v_call', v_bits, v_bits', v_isint, v_isint', v_shift, v_shift_f, v_shift_c, v_dint, v_dabs, v_ddivmod, v_set, v_kset, v_set2, v_kset2, v_aug, v_int2, v_ret, v_kret, v_retof, v_retof', v_app_nil, v_app_cons, v_app_app, v_if, v_kif1, v_kif0, v_asrt, v_kasrt, v_un, v_unR, v_un2, v_un4, v_unR2, v_unR3, v_try, v_none, v_nil, v_for, v_kfor, v_kF_nil, v_kF_cons, v_tail, v_tail2, v_dlen2, v_while, v_kw, v_gt0, v_gts, v_up0, v_ups, v_defD, v_teq, v_teq2, List.length_cons, List.length_nil, List.cons_append, List.nil_append, List.append_nil, List.map_cons, List.map_nil, List.reduceReplicate, Nat.zero_add, Nat.reduceAdd, Bool.not_true, Bool.not_false, decide_true, decide_false, not_true_eq_false, not_false_eq_true, true_and, and_true, hz, hz', q', r']
      · rw [if_neg (fun z => r (hd.mp z)), if_neg (fun z => q z.1)]
        have r' : (tm : Int) < sm := by omega
        simp only [F_mpf_cmp, D_mpf_cmp, MM, s0, v_bnd, v_bin, v_add, v_sub, v_mul, v_div, v_mod, v_pow, v_shl, v_shr, v_and, v_xor, v_app, v_ofB, v_cmp, v_tcmp, v_eq, v_ne, v_lt, v_le, v_gt, v_ge, v_seq, v_tr_b, v_tr_i, v_tE, v_onot, v_tnot, v_not, v_neg, v_neg', v_ite, v_ite1, v_ite0, v_eand, v_eor, v_eand1, v_eand0, v_eor1, v_eor0, v_eand_i, v_eor_i, v_tand, v_tor, v_tand1, v_tand0, v_tor1, v_tor0, v_ttrue, v_tfalse, v_chain, v_var, v_int, v_bool, v_str, v_glob, v_lnil, v_lcons, v_lc, v_tup, v_lst, v_tup1, v_tup2, v_tup3, v_tup4, v_lst1, v_lst2, v_item, v_t0, v_t1, v_t2, v_t3, v_l0, v_l1, v_call, v_call', v_bits, v_bits', v_isint, v_isint', v_shift, v_shift_f, v_shift_c, v_dint, v_dabs, v_ddivmod, v_set, v_kset, v_set2, v_kset2, v_aug, v_int2, v_ret, v_kret, v_retof, v_retof', v_app_nil, v_app_cons, v_app_app, v_if, v_kif1, v_kif0, v_asrt, v_kasrt, v_un, v_unR, v_un2, v_un4, v_unR2, v_unR3, v_try, v_none, v_nil, v_for, v_kfor, v_kF_nil, v_kF_cons, v_tail, v_tail2, v_dlen2, v_while, v_kw, v_gt0, v_gts, v_up0, v_ups, v_defD, v_teq, v_teq2, List.length_cons, List.length_nil, List.cons_append, List.nil_append, List.append_nil, List.map_cons, List.map_nil, List.reduceReplicate, Nat.zero_add, Nat.reduceAdd, Bool.not_true, Bool.not_false, decide_true, decide_false, not_true_eq_false, not_false_eq_true, true_and, and_true, hz, hz', q', r']
  · rw [if_neg (c := sm = tm ∧ se = te) (fun z => he z.2)]
    by_cases ha : (bl sm : Int) + se < bl tm + te
    · rw [if_pos (dlt_bits ht ha)]
      simp only [F_mpf_cmp, D_mpf_cmp, MM, s0, v_bnd, v_bin, v_add, v_sub, v_mul, v_div, v_mod, v_pow, v_shl, v_shr, v_and, v_xor, v_app, v_ofB, v_cmp, v_tcmp, v_eq, v_ne, v_lt, v_le, v_gt, v_ge, v_seq, v_tr_b, v_tr_i, v_tE, v_onot, v_tnot, v_not, v_neg, v_neg', v_ite, v_ite1, v_ite0, v_eand, v_eor, v_eand1, v_eand0, v_eor1, v_eor0, v_eand_i, v_eor_i, v_tand, v_tor, v_tand1, v_tand0, v_tor1, v_tor0, v_ttrue, v_tfalse, v_chain, v_var, v_int, v_bool, v_str, v_glob, v_lnil, v_lcons, v_lc, v_tup, v_lst, v_tup1, v_tup2, v_tup3, v_tup4, v_lst1, v_lst2, v_item, v_t0, v_t1, v_t2, v_t3, v_l0, v_l1, v_call, v_call', v_bits, v_bits', v_isint, v_isint', v_shift, v_shift_f, v_shift_c, v_dint, v_dabs, v_ddivmod, v_set, v_kset, v_set2, v_kset2, v_aug, v_int2, v_ret, v_kret, v_retof, v_retof', v_app_nil, v_app_cons, v_app_app, v_if, v_kif1, v_kif0, v_asrt, v_kasrt, v_un, v_unR, v_un2, v_un4, v_unR2, v_unR3, v_try, v_none, v_nil, v_for, v_kfor, v_kF_nil, v_kF_cons, v_tail, v_tail2, v_dlen2, v_while, v_kw, v_gt0, v_gts, v_up0, v_ups, v_defD, v_teq, v_teq2, List.length_cons, List.length_nil, List.cons_append, List.nil_append, List.append_nil, List.map_cons, List.map_nil, List.reduceReplicate, Nat.zero_add, Nat.reduceAdd, Bool.not_true, Bool.not_false, decide_true, decide_false, not_true_eq_false, not_false_eq_true, true_and, and_true, hz, hz', he, ha]
    · by_cases hb : (bl tm : Int) + te < bl sm + se
      · rw [if_neg (dlt_irr (dlt_bits hs hb))]
        simp only [F_mpf_cmp, D_mpf_cmp, MM, s0, v_bnd, v_bin, v_add, v_sub, v_mul, v_div, v_mod, v_pow, v_shl, v_shr, v_and, v_xor, v_app, v_ofB, v_cmp, v_tcmp, v_eq, v_ne, v_lt, v_le, v_gt, v_ge, v_seq, v_tr_b, v_tr_i, v_tE, v_onot, v_tnot, v_not, v_neg, v_neg', v_ite, v_ite1, v_ite0, v_eand, v_eor, v_eand1, v_eand0, v_eor1, v_eor0, v_eand_i, v_eor_i, v_tand, v_tor, v_tand1, v_tand0, v_tor1, v_tor0, v_ttrue, v_tfalse, v_chain, v_var, v_int, v_bool, v_str, v_glob, v_lnil, v_lcons, v_lc, v_tup, v_lst, v_tup1, v_tup2, v_tup3, v_tup4, v_lst1, v_lst2, v_item, v_t0, v_t1, v_t2, v_t3, v_l0, v_l1, v_call, v_call', v_bits, v_bits', v_isint, v_isint', v_shift, v_shift_f, v_shift_c, v_dint, v_dabs, v_ddivmod, v_set, v_kset, v_set2, v_kset2, v_aug, v_int2, v_ret, v_kret, v_retof, v_retof', v_app_nil, v_app_cons, v_app_app, v_if, v_kif1, v_kif0, v_asrt, v_kasrt, v_un, v_unR, v_un2, v_un4, v_unR2, v_unR3, v_try, v_none, v_nil, v_for, v_kfor, v_kF_nil, v_kF_cons, v_tail, v_tail2, v_dlen2, v_while, v_kw, v_gt0, v_gts, v_up0, v_ups, v_defD, v_teq, v_teq2, List.length_cons, List.length_nil, List.cons_append, List.nil_append, List.append_nil, List.map_cons, List.map_nil, List.reduceReplicate, Nat.zero_add, Nat.reduceAdd, Bool.not_true, Bool.not_false, decide_true, decide_false, not_true_eq_false, not_false_eq_true, true_and, and_true, hz, hz', he, ha, hb]
      · have hd : ¬ (sm * 2 ^ (se - te).toNat = tm * 2 ^ (te - se).toNat) := by
          intro z
          have := (odd_unique os ot z).2
          omega
        obtain ⟨l, hl⟩ := sub_sign sm tm se te hs ht he h1 h2 b1 b2 hd
        by_cases q : dlt sm se tm te
        · rw [if_pos q] at hl ⊢
          simp only [MM, s0, RR, if_false, Bool.false_eq_true] at hl
          simp only [F_mpf_cmp, D_mpf_cmp, MM, s0, v_bnd, v_bin, v_add, v_sub, v_mul, v_div, v_mod, v_pow, v_shl, v_shr, v_and, v_xor, v_app, v_ofB, v_cmp, v_tcmp, v_eq, v_ne, v_lt, v_le, v_gt, v_ge, v_seq, v_tr_b, v_tr_i, v_tE, v_onot, v_tnot, v_not, v_neg, v_neg', v_ite, v_ite1, v_ite0, v_eand, v_eor, v_eand1, v_eand0, v_eor1, v_eor0, v_eand_i, v_eor_i, v_tand, v_tor, v_tand1, v_tand0, v_tor1, v_tor0, v_ttrue, v_tfalse, v_chain, v_var, v_int, v_bool, v_str, v_glob, v_lnil, v_lcons, v_lc, v_tup, v_lst, v_tup1, v_tup2, v_tup3, v_tup4, v_lst1, v_lst2, v_item, v_t0, v_t1, v_t2, v_t3, v_l0, v_l1, v_call, v_call', v_bits, v_bits', v_isint, v_isint', v_shift, v_shift_f, v_shift_c, v_dint, v_dabs, v_ddivmod, v_set, v_kset, v_set2, v_kset2, v_aug, v_int2, v_ret, v_kret, v_retof, v_retof', v_app_nil, v_app_cons, v_app_app, v_if, v_kif1, v_kif0, v_asrt, v_kasrt, v_un, v_unR, v_un2, v_un4, v_unR2, v_unR3, v_try, v_none, v_nil, v_for, v_kfor, v_kF_nil, v_kF_cons, v_tail, v_tail2, v_dlen2, v_while, v_kw, v_gt0, v_gts, v_up0, v_ups, v_defD, v_teq, v_teq2, List.length_cons, List.length_nil, List.cons_append, List.nil_append, List.append_nil, List.map_cons, List.map_nil, List.reduceReplicate, Nat.zero_add, Nat.reduceAdd, Bool.not_true, Bool.not_false, decide_true, decide_false, not_true_eq_false, not_false_eq_true, true_and, and_true, hz, hz', he, ha, hb, d_rf, hl, show ¬ (1 : Int) = 0 by decide]
        · rw [if_neg q] at hl ⊢
          simp only [MM, s0, RR, if_false, Bool.false_eq_true] at hl
          simp only [F_mpf_cmp, D_mpf_cmp, MM, s0, v_bnd, v_bin, v_add, v_sub, v_mul, v_div, v_mod, v_pow, v_shl, v_shr, v_and, v_xor, v_app, v_ofB, v_cmp, v_tcmp, v_eq, v_ne, v_lt, v_le, v_gt, v_ge, v_seq, v_tr_b, v_tr_i, v_tE, v_onot, v_tnot, v_not, v_neg, v_neg', v_ite, v_ite1, v_ite0, v_eand, v_eor, v_eand1, v_eand0, v_eor1, v_eor0, v_eand_i, v_eor_i, v_tand, v_tor, v_tand1, v_tand0, v_tor1, v_tor0, v_ttrue, v_tfalse, v_chain, v_var, v_int, v_bool, v_str, v_glob, v_lnil, v_lcons, v_lc, v_tup, v_lst, v_tup1, v_tup2, v_tup3, v_tup4, v_lst1, v_lst2, v_item, v_t0, v_t1, v_t2, v_t3, v_l0, v_l1, v_call, v_call', v_bits, v_bits', v_isint, v_isint', v_shift, v_shift_f, v_shift_c, v_dint, v_dabs, v_ddivmod, v_set, v_kset, v_set2, v_kset2, v_aug, v_int2, v_ret, v_kret, v_retof, v_retof', v_app_nil, v_app_cons, v_app_app, v_if, v_kif1, v_kif0, v_asrt, v_kasrt, v_un, v_unR, v_un2, v_un4, v_unR2, v_unR3, v_try, v_none, v_nil, v_for, v_kfor, v_kF_nil, v_kF_cons, v_tail, v_tail2, v_dlen2, v_while, v_kw, v_gt0, v_gts, v_up0, v_ups, v_defD, v_teq, v_teq2, List.length_cons, List.length_nil, List.cons_append, List.nil_append, List.append_nil, List.map_cons, List.map_nil, List.reduceReplicate, Nat.zero_add, Nat.reduceAdd, Bool.not_true, Bool.not_false, decide_true, decide_false, not_true_eq_false, not_false_eq_true, true_and, and_true, hz, hz', he, ha, hb, d_rf, hl]
section
variable (sm tm : Nat) (se te : Int) (os : sm % 2 = 1) (ot : tm % 2 = 1) (h1 : se - te ≤ 100) (h2 : te - se ≤ 100) (b1 : bl sm ≤ 1000) (b2 : bl tm ≤ 1000)
include os ot h1 h2 b1 b2
theorem lt_pos : F_mpf_lt [MM false sm se, MM false tm te] = some (.bool (decide (dlt sm se tm te))) := by
  have hz : ¬ (sm : Int) = 0 := by omega
  have hz' : ¬ (tm : Int) = 0 := by omega
  have hc := cmp_pos sm tm se te os ot h1 h2 b1 b2
  simp only [MM] at hc
  simp only [F_mpf_lt, D_mpf_lt, MM, v_bnd, v_bin, v_add, v_sub, v_mul, v_div, v_mod, v_pow, v_shl, v_shr, v_and, v_xor, v_app, v_ofB, v_cmp, v_tcmp, v_eq, v_ne, v_lt, v_le, v_gt, v_ge, v_seq, v_tr_b, v_tr_i, v_tE, v_onot, v_tnot, v_not, v_neg, v_neg', v_ite, v_ite1, v_ite0, v_eand, v_eor, v_eand1, v_eand0, v_eor1, v_eor0, v_eand_i, v_eor_i, v_tand, v_tor, v_tand1, v_tand0, v_tor1, v_tor0, v_ttrue, v_tfalse, v_chain, v_var, v_int, v_bool, v_str, v_glob, v_lnil, v_lcons, v_lc, v_tup, v_lst, v_tup1, v_tup2, v_tup3, v_tup4, v_lst1, v_lst2, v_item, v_t0, v_t1, v_t2, v_t3, v_l0, v_l1, v_call, v_call', v_bits, v_bits', v_isint, v_isint', v_shift, v_shift_f, v_shift_c, v_dint, v_dabs, v_ddivmod, v_set, v_kset, v_set2, v_kset2, v_aug, v_int2, v_ret, v_kret, v_retof, v_retof', v_app_nil, v_app_cons, v_app_app, v_if, v_kif1, v_kif0, v_asrt, v_kasrt, v_un, v_unR, v_un2, v_un4, v_unR2, v_unR3, v_try, v_none, v_nil, v_for, v_kfor, v_kF_nil, v_kF_cons, v_tail, v_tail2, v_dlen2, v_while, v_kw, v_gt0, v_gts, v_up0, v_ups, v_defD, v_teq, v_teq2, List.length_cons, List.length_nil, List.cons_append, List.nil_append, List.append_nil, List.map_cons, List.map_nil, List.reduceReplicate, Nat.zero_add, Nat.reduceAdd, Bool.not_true, Bool.not_false, decide_true, decide_false, not_true_eq_false, not_false_eq_true, true_and, and_true, d_fnan, hz, hz', false_and, and_false, hc]
  by_cases q : dlt sm se tm te
  · simp [q]
  · by_cases r : sm = tm ∧ se = te
    · obtain ⟨rfl, rfl⟩ := r
      simp [q]
    · rw [if_neg q, if_neg r]; simp [q]
theorem gt_pos : F_mpf_gt [MM false sm se, MM false tm te] = some (.bool (decide (dlt tm te sm se))) := by
  have hz : ¬ (sm : Int) = 0 := by omega
  have hz' : ¬ (tm : Int) = 0 := by omega
  have hc := cmp_pos sm tm se te os ot h1 h2 b1 b2
  simp only [MM] at hc
  simp only [F_mpf_gt, D_mpf_gt, MM, v_bnd, v_bin, v_add, v_sub, v_mul, v_div, v_mod, v_pow, v_shl, v_shr, v_and, v_xor, v_app, v_ofB, v_cmp, v_tcmp, v_eq, v_ne, v_lt, v_le, v_gt, v_ge, v_seq, v_tr_b, v_tr_i, v_tE, v_onot, v_tnot, v_not, v_neg, v_neg', v_ite, v_ite1, v_ite0, v_eand, v_eor, v_eand1, v_eand0, v_eor1, v_eor0, v_eand_i, v_eor_i, v_tand, v_tor, v_tand1, v_tand0, v_tor1, v_tor0, v_ttrue, v_tfalse, v_chain, v_var, v_int, v_bool, v_str, v_glob, v_lnil, v_lcons, v_lc, v_tup, v_lst, v_tup1, v_tup2, v_tup3, v_tup4, v_lst1, v_lst2, v_item, v_t0, v_t1, v_t2, v_t3, v_l0, v_l1, v_call, v_call', v_bits, v_bits', v_isint, v_isint', v_shift, v_shift_f, v_shift_c, v_dint, v_dabs, v_ddivmod, v_set, v_kset, v_set2, v_kset2, v_aug, v_int2, v_ret, v_kret, v_retof, v_retof', v_app_nil, v_app_cons, v_app_app, v_if, v_kif1, v_kif0, v_asrt, v_kasrt, v_un, v_unR, v_un2, v_un4, v_unR2, v_unR3, v_try, v_none, v_nil, v_for, v_kfor, v_kF_nil, v_kF_cons, v_tail, v_tail2, v_dlen2, v_while, v_kw, v_gt0, v_gts, v_up0, v_ups, v_defD, v_teq, v_teq2, List.length_cons, List.length_nil, List.cons_append, List.nil_append, List.append_nil, List.map_cons, List.map_nil, List.reduceReplicate, Nat.zero_add, Nat.reduceAdd, Bool.not_true, Bool.not_false, decide_true, decide_false, not_true_eq_false, not_false_eq_true, true_and, and_true, d_fnan, hz, hz', false_and, and_false, hc]
  by_cases q : dlt sm se tm te
  · simp [q, dlt_irr q]
  · by_cases r : sm = tm ∧ se = te
    · obtain ⟨rfl, rfl⟩ := r
      simp [q]
    · rw [if_neg q, if_neg r]
      have : dlt tm te sm se := by
        unfold dlt at *
        refine Nat.lt_of_le_of_ne (by omega) fun z => r ?_
        obtain ⟨a, b⟩ := odd_unique ot os z
        exact ⟨a.symm, by omega⟩
      simp [this]
theorem ge_pos : F_mpf_ge [MM false sm se, MM false tm te] = some (.bool (decide (¬ dlt sm se tm te))) := by
  have hz : ¬ (sm : Int) = 0 := by omega
  have hz' : ¬ (tm : Int) = 0 := by omega
  have hc := cmp_pos sm tm se te os ot h1 h2 b1 b2
  simp only [MM] at hc
  simp only [F_mpf_ge, D_mpf_ge, MM, v_bnd, v_bin, v_add, v_sub, v_mul, v_div, v_mod, v_pow, v_shl, v_shr, v_and, v_xor, v_app, v_ofB, v_cmp, v_tcmp, v_eq, v_ne, v_lt, v_le, v_gt, v_ge, v_seq, v_tr_b, v_tr_i, v_tE, v_onot, v_tnot, v_not, v_neg, v_neg', v_ite, v_ite1, v_ite0, v_eand, v_eor, v_eand1, v_eand0, v_eor1, v_eor0, v_eand_i, v_eor_i, v_tand, v_tor, v_tand1, v_tand0, v_tor1, v_tor0, v_ttrue, v_tfalse, v_chain, v_var, v_int, v_bool, v_str, v_glob, v_lnil, v_lcons, v_lc, v_tup, v_lst, v_tup1, v_tup2, v_tup3, v_tup4, v_lst1, v_lst2, v_item, v_t0, v_t1, v_t2, v_t3, v_l0, v_l1, v_call, v_call', v_bits, v_bits', v_isint, v_isint', v_shift, v_shift_f, v_shift_c, v_dint, v_dabs, v_ddivmod, v_set, v_kset, v_set2, v_kset2, v_aug, v_int2, v_ret, v_kret, v_retof, v_retof', v_app_nil, v_app_cons, v_app_app, v_if, v_kif1, v_kif0, v_asrt, v_kasrt, v_un, v_unR, v_un2, v_un4, v_unR2, v_unR3, v_try, v_none, v_nil, v_for, v_kfor, v_kF_nil, v_kF_cons, v_tail, v_tail2, v_dlen2, v_while, v_kw, v_gt0, v_gts, v_up0, v_ups, v_defD, v_teq, v_teq2, List.length_cons, List.length_nil, List.cons_append, List.nil_append, List.append_nil, List.map_cons, List.map_nil, List.reduceReplicate, Nat.zero_add, Nat.reduceAdd, Bool.not_true, Bool.not_false, decide_true, decide_false, not_true_eq_false, not_false_eq_true, true_and, and_true, d_fnan, hz, hz', false_and, and_false, hc]
  by_cases q : dlt sm se tm te
  · simp [q]
  · by_cases r : sm = tm ∧ se = te
    · obtain ⟨rfl, rfl⟩ := r
      simp [q]
    · rw [if_neg q, if_neg r]; simp [q]
end
/-- the greater of two positive numbers -/
theorem min_max_pos (sm tm : Nat) (se te : Int) (os : sm % 2 = 1) (ot : tm % 2 = 1) (h1 : se - te ≤ 100) (h2 : te - se ≤ 100) (b1 : bl sm ≤ 1000) (b2 : bl tm ≤ 1000) :
    F_mpf_min_max [.lst [MM false sm se, MM false tm te]] = some (.tup [if dlt tm te sm se then MM false tm te else MM false sm se, if dlt sm se tm te then MM false tm te else MM false sm se]) := by
  have l := lt_pos tm sm te se ot os h2 h1 b2 b1
  have g := gt_pos tm sm te se ot os h2 h1 b2 b1
  generalize MM false sm se = x at *
  generalize MM false tm te = y at *
  by_cases q : dlt tm te sm se
  · have q' := dlt_irr q
    simp only [F_mpf_min_max, D_mpf_min_max, v_bnd, v_bin, v_add, v_sub, v_mul, v_div, v_mod, v_pow, v_shl, v_shr, v_and, v_xor, v_app, v_ofB, v_cmp, v_tcmp, v_eq, v_ne, v_lt, v_le, v_gt, v_ge, v_seq, v_tr_b, v_tr_i, v_tE, v_onot, v_tnot, v_not, v_neg, v_neg', v_ite, v_ite1, v_ite0, v_eand, v_eor, v_eand1, v_eand0, v_eor1, v_eor0, v_eand_i, v_eor_i, v_tand, v_tor, v_tand1, v_tand0, v_tor1, v_tor0, v_ttrue, v_tfalse, v_chain, v_var, v_int, v_bool, v_str, v_glob, v_lnil, v_lcons, v_lc, v_tup, v_lst, v_tup1, v_tup2, v_tup3, v_tup4, v_lst1, v_lst2, v_item, v_t0, v_t1, v_t2, v_t3, v_l0, v_l1, v_call, v_call', v_bits, v_bits', v_isint, v_isint', v_shift, v_shift_f, v_shift_c, v_dint, v_dabs, v_ddivmod, v_set, v_kset, v_set2, v_kset2, v_aug, v_int2, v_ret, v_kret, v_retof, v_retof', v_app_nil, v_app_cons, v_app_app, v_if, v_kif1, v_kif0, v_asrt, v_kasrt, v_un, v_unR, v_un2, v_un4, v_unR2, v_unR3, v_try, v_none, v_nil, v_for, v_kfor, v_kF_nil, v_kF_cons, v_tail, v_tail2, v_dlen2, v_while, v_kw, v_gt0, v_gts, v_up0, v_ups, v_defD, v_teq, v_teq2, List.length_cons, List.length_nil, List.cons_append, List.nil_append, List.append_nil, List.map_cons, List.map_nil, List.reduceReplicate, Nat.zero_add, Nat.reduceAdd, Bool.not_true, Bool.not_false, decide_true, decide_false, not_true_eq_false, not_false_eq_true, true_and, and_true, l, g, q, q', if_true, if_false]
  · by_cases r : dlt sm se tm te
    · simp only [F_mpf_min_max, D_mpf_min_max, v_bnd, v_bin, v_add, v_sub, v_mul, v_div, v_mod, v_pow, v_shl, v_shr, v_and, v_xor, v_app, v_ofB, v_cmp, v_tcmp, v_eq, v_ne, v_lt, v_le, v_gt, v_ge, v_seq, v_tr_b, v_tr_i, v_tE, v_onot, v_tnot, v_not, v_neg, v_neg', v_ite, v_ite1, v_ite0, v_eand, v_eor, v_eand1, v_eand0, v_eor1, v_eor0, v_eand_i, v_eor_i, v_tand, v_tor, v_tand1, v_tand0, v_tor1, v_tor0, v_ttrue, v_tfalse, v_chain, v_var, v_int, v_bool, v_str, v_glob, v_lnil, v_lcons, v_lc, v_tup, v_lst, v_tup1, v_tup2, v_tup3, v_tup4, v_lst1, v_lst2, v_item, v_t0, v_t1, v_t2, v_t3, v_l0, v_l1, v_call, v_call', v_bits, v_bits', v_isint, v_isint', v_shift, v_shift_f, v_shift_c, v_dint, v_dabs, v_ddivmod, v_set, v_kset, v_set2, v_kset2, v_aug, v_int2, v_ret, v_kret, v_retof, v_retof', v_app_nil, v_app_cons, v_app_app, v_if, v_kif1, v_kif0, v_asrt, v_kasrt, v_un, v_unR, v_un2, v_un4, v_unR2, v_unR3, v_try, v_none, v_nil, v_for, v_kfor, v_kF_nil, v_kF_cons, v_tail, v_tail2, v_dlen2, v_while, v_kw, v_gt0, v_gts, v_up0, v_ups, v_defD, v_teq, v_teq2, List.length_cons, List.length_nil, List.cons_append, List.nil_append, List.append_nil, List.map_cons, List.map_nil, List.reduceReplicate, Nat.zero_add, Nat.reduceAdd, Bool.not_true, Bool.not_false, decide_true, decide_false, not_true_eq_false, not_false_eq_true, true_and, and_true, l, g, q, r, if_true, if_false]
    · simp only [F_mpf_min_max, D_mpf_min_max, v_bnd, v_bin, v_add, v_sub, v_mul, v_div, v_mod, v_pow, v_shl, v_shr, v_and, v_xor, v_app, v_ofB, v_cmp, v_tcmp, v_eq, v_ne, v_lt, v_le, v_gt, v_ge, v_seq, v_tr_b, v_tr_i, v_tE, v_onot, v_tnot, v_not, v_neg, v_neg', v_ite, v_ite1, v_ite0, v_eand, v_eor, v_eand1, v_eand0, v_eor1, v_eor0, v_eand_i, v_eor_i, v_tand, v_tor, v_tand1, v_tand0, v_tor1, v_tor0, v_ttrue, v_tfalse, v_chain, v_var, v_int, v_bool, v_str, v_glob, v_lnil, v_lcons, v_lc, v_tup, v_lst, v_tup1, v_tup2, v_tup3, v_tup4, v_lst1, v_lst2, v_item, v_t0, v_t1, v_t2, v_t3, v_l0, v_l1, v_call, v_call', v_bits, v_bits', v_isint, v_isint', v_shift, v_shift_f, v_shift_c, v_dint, v_dabs, v_ddivmod, v_set, v_kset, v_set2, v_kset2, v_aug, v_int2, v_ret, v_kret, v_retof, v_retof', v_app_nil, v_app_cons, v_app_app, v_if, v_kif1, v_kif0, v_asrt, v_kasrt, v_un, v_unR, v_un2, v_un4, v_unR2, v_unR3, v_try, v_none, v_nil, v_for, v_kfor, v_kF_nil, v_kF_cons, v_tail, v_tail2, v_dlen2, v_while, v_kw, v_gt0, v_gts, v_up0, v_ups, v_defD, v_teq, v_teq2, List.length_cons, List.length_nil, List.cons_append, List.nil_append, List.append_nil, List.map_cons, List.map_nil, List.reduceReplicate, Nat.zero_add, Nat.reduceAdd, Bool.not_true, Bool.not_false, decide_true, decide_false, not_true_eq_false, not_false_eq_true, true_and, and_true, l, g, q, r, if_true, if_false]
end Mine

namespace Mine
set_option autoImplicit false
/-! fractions -/
abbrev Fr := Int × Int
def fle (x y : Fr) : Prop := x.1 * y.2 ≤ y.1 * x.2
def pw (f : Fr) (n : Nat) : Fr := (f.1 ^ n, f.2 ^ n)
def fov (x y : Fr) : Fr := if x.2 * y.1 < 0 then (-(x.1 * y.2), -(x.2 * y.1)) else (x.1 * y.2, x.2 * y.1)
def nv (s : Bool) (m : Nat) (e : Int) : Fr := ((if s then -(m : Int) else m) * ((2 ^ e.toNat : Nat) : Int), ((2 ^ (-e).toNat : Nat) : Int))
def RN (c : Bool) (p : Nat) (f : Fr) (d : D) : Prop :=
  ∃ s m e, d = MM s m e ∧ ((f.1 = 0 ∧ s = false ∧ m = 0 ∧ e = 0) ∨ (f.1 ≠ 0 ∧ s = decide (f.1 < 0) ∧ Rd p (c != s) f.1.natAbs f.2.toNat m e))
theorem nv_pos (s : Bool) (m : Nat) (e : Int) : 0 < (nv s m e).2 := by have := p2_pos (-e).toNat; show (0 : Int) < ((2 ^ (-e).toNat : Nat) : Int); omega

theorem RN.unique {c p f d f' d'} (hp : 1 ≤ p) (a : RN c p f d) (b : RN c p f' d') (h : 0 < f.2) (h' : 0 < f'.2) (q : f.1 * f'.2 = f'.1 * f.2) : d = d' := by
  obtain ⟨s, m, e, rfl, a⟩ := a
  obtain ⟨s', m', e', rfl, b⟩ := b
  have key : f.1 = 0 ↔ f'.1 = 0 := by
    constructor
    · intro z
      rw [z, Int.zero_mul] at q
      rcases Int.mul_eq_zero.mp q.symm with w | w
      · exact w
      · omega
    · intro z
      rw [z, Int.zero_mul] at q
      rcases Int.mul_eq_zero.mp q with w | w
      · exact w
      · omega
  rcases a with ⟨z, rfl, rfl, rfl⟩ | ⟨z, hs, r⟩
  · rcases b with ⟨z', rfl, rfl, rfl⟩ | ⟨z', hs', r'⟩
    · rfl
    · exact absurd (key.mp z) z'
  · rcases b with ⟨z', rfl, rfl, rfl⟩ | ⟨z', hs', r'⟩
    · exact absurd (key.mpr z') z
    · have neg : f.1 < 0 ↔ f'.1 < 0 := by
        constructor
        · intro w
          have := Int.mul_neg_of_neg_of_pos w h'
          rw [q] at this
          refine Int.lt_of_not_ge fun u => ?_
          have := Int.mul_nonneg u (Int.le_of_lt h)
          omega
        · intro w
          have := Int.mul_neg_of_neg_of_pos w h
          rw [← q] at this
          refine Int.lt_of_not_ge fun u => ?_
          have := Int.mul_nonneg u (Int.le_of_lt h')
          omega
      have hss : s = s' := by rw [hs, hs']; simp only [neg]
      subst hss
      have q' : f.1.natAbs * f'.2.toNat = f'.1.natAbs * f.2.toNat := by
        have := congrArg Int.natAbs q
        rw [Int.natAbs_mul, Int.natAbs_mul] at this
        rwa [show f'.2.toNat = f'.2.natAbs by omega, show f.2.toNat = f.2.natAbs by omega]
      obtain ⟨u, v⟩ := (r.congr (by omega) (by omega) q').unique hp r'
      rw [u, v]
theorem RN_zero (c p) {f : Fr} (h : f.1 = 0) : RN c p f d_fzero := ⟨false, 0, 0, rfl, .inl ⟨h, rfl, rfl, rfl⟩⟩

theorem sgn_mul_abs (s : Bool) (a b : Nat) : ((if s then -(a : Int) else a) * (b : Int)).natAbs = a * b := by
  rw [Int.natAbs_mul]; cases s <;> simp
theorem sgn_mul_neg (s : Bool) {a b : Nat} (ha : 0 < a) (hb : 0 < b) : decide ((if s then -(a : Int) else a) * (b : Int) < 0) = s := by
  have h := Int.mul_pos (show (0 : Int) < a by omega) (show (0 : Int) < b by omega)
  cases s
  · simp; omega
  · simp; rw [Int.neg_mul]; omega
theorem RN_of_NR {c s : Bool} {p man m : Nat} {x e : Int} (hp : 1 ≤ p) (h0 : 0 < man) (h : NR p (c != s) man x m e) (j k : Nat) (hx : x = (j : Int) - k) :
    RN c p ((if s then -(man : Int) else man) * ((2 ^ j : Nat) : Int), ((2 ^ k : Nat) : Int)) (MM s m e) := by
  have a1 := sgn_mul_abs s man (2 ^ j)
  have a2 := sgn_mul_neg s h0 (p2_pos j)
  refine ⟨s, m, e, rfl, .inr ⟨?_, a2.symm, ?_⟩⟩
  · have := Nat.mul_pos h0 (p2_pos j)
    show (if s then -(man : Int) else man) * ((2 ^ j : Nat) : Int) ≠ 0
    omega
  · show Rd p (c != s) ((if s then -(man : Int) else man) * ((2 ^ j : Nat) : Int)).natAbs ((2 ^ k : Nat) : Int).toNat m e
    rw [a1, Int.toNat_natCast]
    exact h.exact hp h0 j k hx
theorem sgn_pow (s : Bool) (m n : Nat) : (if s then -(m : Int) else m) ^ n = (if (s && n % 2 == 1) = true then -((m ^ n : Nat) : Int) else ((m ^ n : Nat) : Int)) := by
  cases s
  · simp
  · simp only [if_true, Bool.true_and, beq_iff_eq]
    induction n with
    | zero => simp
    | succ n ih =>
      rw [Int.pow_succ, ih, Nat.pow_succ]
      by_cases h : n % 2 = 1
      · rw [if_pos h, if_neg (by omega)]; push_cast; rw [Int.neg_mul_neg]
      · rw [if_neg h, if_pos (by omega)]; push_cast; rw [Int.mul_neg]
theorem p2_pow (k n : Nat) : ((2 ^ k : Nat) : Int) ^ n = ((2 ^ (k * n) : Nat) : Int) := by
  rw [← Int.natCast_pow, ← Nat.pow_mul]
theorem pw_nv (s : Bool) (m n : Nat) (e : Int) : pw (nv s m e) n = ((if (s && n % 2 == 1) = true then -((m ^ n : Nat) : Int) else ((m ^ n : Nat) : Int)) * ((2 ^ (e.toNat * n) : Nat) : Int), ((2 ^ ((-e).toNat * n) : Nat) : Int)) := by
  unfold pw nv
  simp only
  rw [Int.mul_pow, sgn_pow, p2_pow, p2_pow]
theorem pos_split (e : Int) : e = (e.toNat : Int) - (-e).toNat := by omega
theorem pow_RN (c s : Bool) (m p n : Nat) (e : Int) (h0 : 0 < m) (hp : 1 ≤ p) (hb : bl m ≤ 64) (n3 : 3 ≤ n) (n9 : n ≤ 9) :
    ∃ d, RN c p (pw (nv s m e) n) d ∧ F_mpf_pow_int [MM s m e, .int n, .int p, RR c] = some d := by
  obtain ⟨m', e', n1, n2⟩ := pow_int_eval c s m p n e h0 hp hb n3 n9
  refine ⟨_, ?_, n2⟩
  rw [pw_nv]
  refine RN_of_NR hp (Nat.pow_pos h0) n1 _ _ ?_
  have := pos_split e
  generalize e.toNat = a at *
  generalize (-e).toNat = b at *
  subst this
  rw [Int.sub_mul]; push_cast; rfl
theorem mul_RN (c s : Bool) (m p : Nat) (e : Int) (h0 : 0 < m) (hp : 1 ≤ p) (hb : bl m ≤ 64) :
    ∃ d, RN c p (pw (nv s m e) 2) d ∧ F_mpf_mul [MM s m e, MM s m e, .int p, RR c] = some d := by
  obtain ⟨m', e', n1, n2⟩ := mul_self_eval c s m p e h0 hb hp
  refine ⟨_, ?_, n2⟩
  rw [pw_nv]
  have : (s && 2 % 2 == 1) = false := by cases s <;> rfl
  rw [this]
  refine RN_of_NR (s := false) hp (Nat.pow_pos h0) (by rw [Nat.pow_two]; simpa using n1) _ _ ?_
  omega
theorem div_RN (c s t : Bool) (sm tm p : Nat) (se te : Int) (hs : 0 < sm) (ht : 0 < tm) (hp : 1 ≤ p) (b1 : bl sm ≤ 4000) (b2 : bl tm ≤ 4000) (b3 : p ≤ 4000) :
    ∃ d, RN c p (fov (nv s sm se) (nv t tm te)) d ∧ F_mpf_div [MM s sm se, MM t tm te, .int p, RR c] = some d := by
  obtain ⟨m, e, h1, h2⟩ := div_eval c s t sm tm p se te hs ht hp b1 b2 b3
  refine ⟨_, ⟨s != t, m, e, rfl, .inr ?_⟩, h2⟩
  have hA := sgn_mul_abs (s != t) (sm * 2 ^ se.toNat) (2 ^ (-te).toNat)
  have hN := sgn_mul_neg (s != t) (Nat.mul_pos hs (p2_pos se.toNat)) (p2_pos (-te).toNat)
  have hpos := Nat.mul_pos (Nat.mul_pos hs (p2_pos se.toNat)) (p2_pos (-te).toNat)
  have hden : 0 < 2 ^ (-se).toNat * (tm * 2 ^ te.toNat) := Nat.mul_pos (p2_pos _) (Nat.mul_pos ht (p2_pos _))
  have e1 : fov (nv s sm se) (nv t tm te) = ((if (s != t) = true then -((sm * 2 ^ se.toNat : Nat) : Int) else ((sm * 2 ^ se.toNat : Nat) : Int)) * ((2 ^ (-te).toNat : Nat) : Int), ((2 ^ (-se).toNat * (tm * 2 ^ te.toNat) : Nat) : Int)) := by
    unfold fov nv
    simp only
    generalize 2 ^ se.toNat = a at *
    generalize 2 ^ (-se).toNat = b at *
    generalize 2 ^ te.toNat = c at *
    generalize 2 ^ (-te).toNat = d at *
    have hden' : (0 : Int) < (b : Int) * (tm * c) := by
      have : ((b * (tm * c) : Nat) : Int) = (b : Int) * (tm * c) := by push_cast; rfl
      omega
    cases t
    · rw [if_neg (by simp; omega)]
      cases s <;> simp [Int.neg_mul]
    · rw [if_pos (by simp only [if_true]; rw [Int.neg_mul, Int.mul_neg]; omega)]
      cases s <;> simp [Int.neg_mul, Int.mul_neg]
  rw [e1]
  refine ⟨?_, hN.symm, ?_⟩
  · show (if (s != t) = true then -((sm * 2 ^ se.toNat : Nat) : Int) else ((sm * 2 ^ se.toNat : Nat) : Int)) * ((2 ^ (-te).toNat : Nat) : Int) ≠ 0
    omega
  · show Rd p _ (Int.natAbs _) (Int.toNat _) m e
    rw [hA, Int.toNat_natCast]
    exact h1
end Mine

namespace Mine
set_option autoImplicit false
/-! the order of fractions -/
theorem fle_refl (x : Fr) : fle x x := Int.le_refl _
theorem fle_trans {x y z : Fr} (hx : 0 < x.2) (hy : 0 < y.2) (hz : 0 < z.2) (a : fle x y) (b : fle y z) : fle x z := by
  unfold fle at *
  have a' := Int.mul_le_mul_of_nonneg_right a (Int.le_of_lt hz)
  have b' := Int.mul_le_mul_of_nonneg_right b (Int.le_of_lt hx)
  refine Int.le_of_mul_le_mul_right (?_ : x.1 * z.2 * y.2 ≤ z.1 * x.2 * y.2) hy
  calc x.1 * z.2 * y.2 = x.1 * y.2 * z.2 := by ac_rfl
    _ ≤ y.1 * x.2 * z.2 := a'
    _ = y.1 * z.2 * x.2 := by ac_rfl
    _ ≤ z.1 * y.2 * x.2 := b'
    _ = _ := by ac_rfl
theorem fle_total (x y : Fr) : fle x y ∨ fle y x := by unfold fle; omega
theorem fle_anti {x y : Fr} (a : fle x y) (b : fle y x) : x.1 * y.2 = y.1 * x.2 := by unfold fle at *; omega
theorem fov_p {x y : Fr} (hx : 0 < x.2) (hy : 0 < y.1) : fov x y = (x.1 * y.2, x.2 * y.1) := by
  unfold fov
  rw [if_neg (by have := Int.mul_pos hx hy; omega)]
theorem fov_den {x y : Fr} (hx : 0 < x.2) (hy : y.1 ≠ 0) : 0 < (fov x y).2 := by
  unfold fov
  rcases Int.lt_or_gt_of_ne hy with h | h
  · have := Int.mul_neg_of_pos_of_neg hx h
    rw [if_pos this]
    show 0 < -(x.2 * y.1)
    omega
  · have := Int.mul_pos hx h
    rw [if_neg (by omega)]
    exact this
theorem fov_neg (x y : Fr) (hx : 0 < x.2) (hy : y.1 ≠ 0) : fov (-x.1, x.2) (-y.1, y.2) = fov x y := by
  unfold fov
  simp only [Int.mul_neg, Int.neg_mul]
  rcases Int.lt_or_gt_of_ne hy with h | h
  · have := Int.mul_neg_of_pos_of_neg hx h
    rw [if_neg (by omega), if_pos this]
  · have := Int.mul_pos hx h
    rw [if_pos (by omega), if_neg (by omega)]
    simp
theorem fov_M1 {x x' b : Fr} (hx : 0 < x.2) (hx' : 0 < x'.2) (hb : 0 < b.1) (hb2 : 0 < b.2) (h : fle x x') : fle (fov x b) (fov x' b) := by
  rw [fov_p hx hb, fov_p hx' hb]
  unfold fle at *
  have := Int.mul_le_mul_of_nonneg_right h (Int.le_of_lt (Int.mul_pos hb hb2))
  show x.1 * b.2 * (x'.2 * b.1) ≤ x'.1 * b.2 * (x.2 * b.1)
  calc x.1 * b.2 * (x'.2 * b.1) = x.1 * x'.2 * (b.1 * b.2) := by ac_rfl
    _ ≤ x'.1 * x.2 * (b.1 * b.2) := this
    _ = _ := by ac_rfl
theorem fov_M2 {x b c : Fr} (hx : 0 < x.2) (hb : 0 < b.1) (hc : 0 < c.1) (h0 : 0 ≤ x.1) (h : fle b c) : fle (fov x c) (fov x b) := by
  rw [fov_p hx hb, fov_p hx hc]
  unfold fle at *
  have := Int.mul_le_mul_of_nonneg_right h (Int.mul_nonneg h0 (Int.le_of_lt hx))
  show x.1 * c.2 * (x.2 * b.1) ≤ x.1 * b.2 * (x.2 * c.1)
  calc x.1 * c.2 * (x.2 * b.1) = b.1 * c.2 * (x.1 * x.2) := by ac_rfl
    _ ≤ c.1 * b.2 * (x.1 * x.2) := this
    _ = _ := by ac_rfl
theorem fov_M3 {x b c : Fr} (hx : 0 < x.2) (hb : 0 < b.1) (hc : 0 < c.1) (h0 : x.1 ≤ 0) (h : fle b c) : fle (fov x b) (fov x c) := by
  rw [fov_p hx hb, fov_p hx hc]
  unfold fle at *
  have h1 : 0 ≤ -x.1 * x.2 := Int.mul_nonneg (by omega) (Int.le_of_lt hx)
  have := Int.mul_le_mul_of_nonneg_right h h1
  show x.1 * b.2 * (x.2 * c.1) ≤ x.1 * c.2 * (x.2 * b.1)
  have e1 : x.1 * b.2 * (x.2 * c.1) = -(c.1 * b.2 * (-x.1 * x.2)) := by rw [Int.neg_mul, Int.mul_neg, Int.neg_neg]; ac_rfl
  have e2 : x.1 * c.2 * (x.2 * b.1) = -(b.1 * c.2 * (-x.1 * x.2)) := by rw [Int.neg_mul, Int.mul_neg, Int.neg_neg]; ac_rfl
  rw [e1, e2]
  omega
/-! powers -/
theorem pow_even_le {a b : Int} {n : Nat} (hn : n % 2 = 0) (h : a.natAbs ≤ b.natAbs) : a ^ n ≤ b ^ n := by
  have key : ∀ a : Int, a ^ n = ((a.natAbs ^ n : Nat) : Int) := by
    intro a
    have h1 : a = (if decide (a < 0) then -(a.natAbs : Int) else a.natAbs) := by
      by_cases z : a < 0
      · simp [z]; omega
      · simp [z]; omega
    have := sgn_pow (decide (a < 0)) a.natAbs n
    rw [← h1] at this
    rw [this, if_neg]
    simp [hn]
  rw [key, key]
  exact Int.ofNat_le.mpr (Nat.pow_le_pow_left h n)
theorem pow_odd_le {a b : Int} {n : Nat} (hn : n % 2 = 1) (h : a ≤ b) : a ^ n ≤ b ^ n := by
  have key : ∀ a : Int, a ^ n = if a < 0 then -((a.natAbs ^ n : Nat) : Int) else ((a.natAbs ^ n : Nat) : Int) := by
    intro a
    have h1 : a = (if decide (a < 0) then -(a.natAbs : Int) else a.natAbs) := by
      by_cases z : a < 0
      · simp [z]; omega
      · simp [z]; omega
    have := sgn_pow (decide (a < 0)) a.natAbs n
    rw [← h1] at this
    rw [this]
    simp [hn]
  rw [key, key]
  split <;> split
  · have := Nat.pow_le_pow_left (show b.natAbs ≤ a.natAbs by omega) n
    omega
  · omega
  · omega
  · have := Nat.pow_le_pow_left (show a.natAbs ≤ b.natAbs by omega) n
    omega
theorem pw_odd {x y : Fr} {n : Nat} (hn : n % 2 = 1) (h : fle x y) : fle (pw x n) (pw y n) := by
  unfold fle pw at *
  simp only
  rw [← Int.mul_pow, ← Int.mul_pow]
  exact pow_odd_le hn h
theorem pw_even {x y : Fr} {n : Nat} (hn : n % 2 = 0) (h : (x.1 * y.2).natAbs ≤ (y.1 * x.2).natAbs) : fle (pw x n) (pw y n) := by
  unfold fle pw at *
  simp only
  rw [← Int.mul_pow, ← Int.mul_pow]
  exact pow_even_le hn h
theorem pw_even_nonneg {x y : Fr} {n : Nat} (hn : n % 2 = 0) (hx : 0 ≤ x.1) (hy2 : 0 < y.2) (h : fle x y) : fle (pw x n) (pw y n) := by
  refine pw_even hn ?_
  have := Int.mul_nonneg hx (Int.le_of_lt hy2)
  unfold fle at h
  omega
theorem pw_even_nonpos {x y : Fr} {n : Nat} (hn : n % 2 = 0) (hy : y.1 ≤ 0) (hx2 : 0 < x.2) (h : fle x y) : fle (pw y n) (pw x n) := by
  refine pw_even hn ?_
  have : 0 ≤ -y.1 * x.2 := Int.mul_nonneg (by omega) (Int.le_of_lt hx2)
  rw [Int.neg_mul] at this
  unfold fle at h
  omega
theorem pw_den {x : Fr} (h : 0 < x.2) (n : Nat) : 0 < (pw x n).2 := Int.pow_pos h
end Mine

namespace Mine
set_option autoImplicit false
def frD (f : Fr) : D := .tup [.int f.1, .int f.2]
theorem MulG_of {x y : Int} {a b : Nat} (h1 : ib x ≤ a) (h2 : ib y ≤ b) (h : a + b ≤ 134217728) : MulG x y := .inr (.inr (by omega))
theorem ib_neg (x : Int) : ib (-x) = ib x := by unfold ib Builtin.Int.intBits; simp
theorem ib_abs (x : Int) : ib x = bl x.natAbs := by
  rcases Int.natAbs_eq x with h | h
  · rw [h, ib_nat, Int.natAbs_natCast]
  · rw [h, ib_neg, ib_nat, Int.natAbs_neg, Int.natAbs_natCast]
theorem bl_mul_le (a b : Nat) : bl (a * b) ≤ bl a + bl b := by
  by_cases h : b = 0
  · subst h; simp [bl]
  refine bl_le ?_
  rw [Nat.pow_add]
  exact Nat.mul_lt_mul_of_lt_of_le (bl_lt a) (Nat.le_of_lt (bl_lt b)) (p2_pos _)
theorem ib_mul_le (a b : Int) : ib (a * b) ≤ ib a + ib b := by rw [ib_abs, ib_abs, ib_abs, Int.natAbs_mul]; exact bl_mul_le _ _
theorem ib_p2 (k : Nat) : ib (2 ^ k) = k + 1 := by
  have : (2 : Int) ^ k = ((2 ^ k : Nat) : Int) := by push_cast; rfl
  rw [this, ib_nat]
  exact bl_eq (Nat.le_refl _) (Nat.pow_lt_pow_right (by decide) (by omega))
theorem PowG2 {y : Int} (h0 : 0 ≤ y) (h : y ≤ 60000000) : PowG 2 y := ⟨h0, by rw [show ib 2 = 2 by decide]; omega⟩
def Bd (k : Nat) (f : Fr) : Prop := ib f.1 ≤ k ∧ ib f.2 ≤ k

theorem worth_eval (a m e : Int) (r : D) (b1 : ib m ≤ 10000) (b2 : e ≤ 10000) (b3 : -e ≤ 10000) :
    F_law_worth [.tup [.int a, .int m, .int e, r]] = some (frD ((if a = 1 then -m else m) * 2 ^ e.toNat, 2 ^ (-e).toNat)) := by
  by_cases h : 0 ≤ e
  · have hp : PowG 2 e := PowG2 h (by omega)
    have hz : (-e).toNat = 0 := by omega
    have g1 : MulG m (2 ^ e.toNat) := MulG_of b1 (Nat.le_of_eq (ib_p2 _)) (by omega)
    have g2 : MulG (-m) (2 ^ e.toNat) := MulG_of (by rw [ib_neg]; exact b1) (Nat.le_of_eq (ib_p2 _)) (by omega)
    by_cases q : a = 1
    · simp only [F_law_worth, D_law_worth, v_bnd, v_bin, v_add, v_sub, v_mul, v_div, v_mod, v_pow, v_shl, v_shr, v_and, v_xor, v_app, v_ofB, v_cmp, v_tcmp, v_eq, v_ne, v_lt, v_le, v_gt, v_ge, v_seq, v_tr_b, v_tr_i, v_tE, v_onot, v_tnot, v_not, v_neg, v_neg', v_ite, v_ite1, v_ite0, v_eand, v_eor, v_eand1, v_eand0, v_eor1, v_eor0, v_eand_i, v_eor_i, v_tand, v_tor, v_tand1, v_tand0, v_tor1, v_tor0, v_ttrue, v_tfalse, v_chain, v_var, v_int, v_bool, v_str, v_glob, v_lnil, v_lcons, v_lc, v_tup, v_lst, v_tup1, v_tup2, v_tup3, v_tup4, v_lst1, v_lst2, v_item, v_t0, v_t1, v_t2, v_t3, v_l0, v_l1, v_call, v_call', v_bits, v_bits', v_isint, v_isint', v_shift, v_shift_f, v_shift_c, v_dint, v_dabs, v_ddivmod, v_set, v_kset, v_set2, v_kset2, v_aug, v_int2, v_ret, v_kret, v_retof, v_retof', v_app_nil, v_app_cons, v_app_app, v_if, v_kif1, v_kif0, v_asrt, v_kasrt, v_un, v_unR, v_un2, v_un4, v_unR2, v_unR3, v_try, v_none, v_nil, v_for, v_kfor, v_kF_nil, v_kF_cons, v_tail, v_tail2, v_dlen2, v_while, v_kw, v_gt0, v_gts, v_up0, v_ups, v_defD, v_teq, v_teq2, List.length_cons, List.length_nil, List.cons_append, List.nil_append, List.append_nil, List.map_cons, List.map_nil, List.reduceReplicate, Nat.zero_add, Nat.reduceAdd, Bool.not_true, Bool.not_false, decide_true, decide_false, not_true_eq_false, not_false_eq_true, true_and, and_true, q, h, hp, g2, hz, if_true, frD, Int.pow_zero]
    · simp only [F_law_worth, D_law_worth, v_bnd, v_bin, v_add, v_sub, v_mul, v_div, v_mod, v_pow, v_shl, v_shr, v_and, v_xor, v_app, v_ofB, v_cmp, v_tcmp, v_eq, v_ne, v_lt, v_le, v_gt, v_ge, v_seq, v_tr_b, v_tr_i, v_tE, v_onot, v_tnot, v_not, v_neg, v_neg', v_ite, v_ite1, v_ite0, v_eand, v_eor, v_eand1, v_eand0, v_eor1, v_eor0, v_eand_i, v_eor_i, v_tand, v_tor, v_tand1, v_tand0, v_tor1, v_tor0, v_ttrue, v_tfalse, v_chain, v_var, v_int, v_bool, v_str, v_glob, v_lnil, v_lcons, v_lc, v_tup, v_lst, v_tup1, v_tup2, v_tup3, v_tup4, v_lst1, v_lst2, v_item, v_t0, v_t1, v_t2, v_t3, v_l0, v_l1, v_call, v_call', v_bits, v_bits', v_isint, v_isint', v_shift, v_shift_f, v_shift_c, v_dint, v_dabs, v_ddivmod, v_set, v_kset, v_set2, v_kset2, v_aug, v_int2, v_ret, v_kret, v_retof, v_retof', v_app_nil, v_app_cons, v_app_app, v_if, v_kif1, v_kif0, v_asrt, v_kasrt, v_un, v_unR, v_un2, v_un4, v_unR2, v_unR3, v_try, v_none, v_nil, v_for, v_kfor, v_kF_nil, v_kF_cons, v_tail, v_tail2, v_dlen2, v_while, v_kw, v_gt0, v_gts, v_up0, v_ups, v_defD, v_teq, v_teq2, List.length_cons, List.length_nil, List.cons_append, List.nil_append, List.append_nil, List.map_cons, List.map_nil, List.reduceReplicate, Nat.zero_add, Nat.reduceAdd, Bool.not_true, Bool.not_false, decide_true, decide_false, not_true_eq_false, not_false_eq_true, true_and, and_true, q, h, hp, g1, hz, if_false, frD, Int.pow_zero]
  · have hp : PowG 2 (-e) := PowG2 (by omega) (by omega)
    have hz : e.toNat = 0 := by omega
    by_cases q : a = 1
    · simp only [F_law_worth, D_law_worth, v_bnd, v_bin, v_add, v_sub, v_mul, v_div, v_mod, v_pow, v_shl, v_shr, v_and, v_xor, v_app, v_ofB, v_cmp, v_tcmp, v_eq, v_ne, v_lt, v_le, v_gt, v_ge, v_seq, v_tr_b, v_tr_i, v_tE, v_onot, v_tnot, v_not, v_neg, v_neg', v_ite, v_ite1, v_ite0, v_eand, v_eor, v_eand1, v_eand0, v_eor1, v_eor0, v_eand_i, v_eor_i, v_tand, v_tor, v_tand1, v_tand0, v_tor1, v_tor0, v_ttrue, v_tfalse, v_chain, v_var, v_int, v_bool, v_str, v_glob, v_lnil, v_lcons, v_lc, v_tup, v_lst, v_tup1, v_tup2, v_tup3, v_tup4, v_lst1, v_lst2, v_item, v_t0, v_t1, v_t2, v_t3, v_l0, v_l1, v_call, v_call', v_bits, v_bits', v_isint, v_isint', v_shift, v_shift_f, v_shift_c, v_dint, v_dabs, v_ddivmod, v_set, v_kset, v_set2, v_kset2, v_aug, v_int2, v_ret, v_kret, v_retof, v_retof', v_app_nil, v_app_cons, v_app_app, v_if, v_kif1, v_kif0, v_asrt, v_kasrt, v_un, v_unR, v_un2, v_un4, v_unR2, v_unR3, v_try, v_none, v_nil, v_for, v_kfor, v_kF_nil, v_kF_cons, v_tail, v_tail2, v_dlen2, v_while, v_kw, v_gt0, v_gts, v_up0, v_ups, v_defD, v_teq, v_teq2, List.length_cons, List.length_nil, List.cons_append, List.nil_append, List.append_nil, List.map_cons, List.map_nil, List.reduceReplicate, Nat.zero_add, Nat.reduceAdd, Bool.not_true, Bool.not_false, decide_true, decide_false, not_true_eq_false, not_false_eq_true, true_and, and_true, q, h, hp, hz, if_true, frD, Int.pow_zero, Int.mul_one]
    · simp only [F_law_worth, D_law_worth, v_bnd, v_bin, v_add, v_sub, v_mul, v_div, v_mod, v_pow, v_shl, v_shr, v_and, v_xor, v_app, v_ofB, v_cmp, v_tcmp, v_eq, v_ne, v_lt, v_le, v_gt, v_ge, v_seq, v_tr_b, v_tr_i, v_tE, v_onot, v_tnot, v_not, v_neg, v_neg', v_ite, v_ite1, v_ite0, v_eand, v_eor, v_eand1, v_eand0, v_eor1, v_eor0, v_eand_i, v_eor_i, v_tand, v_tor, v_tand1, v_tand0, v_tor1, v_tor0, v_ttrue, v_tfalse, v_chain, v_var, v_int, v_bool, v_str, v_glob, v_lnil, v_lcons, v_lc, v_tup, v_lst, v_tup1, v_tup2, v_tup3, v_tup4, v_lst1, v_lst2, v_item, v_t0, v_t1, v_t2, v_t3, v_l0, v_l1, v_call, v_call', v_bits, v_bits', v_isint, v_isint', v_shift, v_shift_f, v_shift_c, v_dint, v_dabs, v_ddivmod, v_set, v_kset, v_set2, v_kset2, v_aug, v_int2, v_ret, v_kret, v_retof, v_retof', v_app_nil, v_app_cons, v_app_app, v_if, v_kif1, v_kif0, v_asrt, v_kasrt, v_un, v_unR, v_un2, v_un4, v_unR2, v_unR3, v_try, v_none, v_nil, v_for, v_kfor, v_kF_nil, v_kF_cons, v_tail, v_tail2, v_dlen2, v_while, v_kw, v_gt0, v_gts, v_up0, v_ups, v_defD, v_teq, v_teq2, List.length_cons, List.length_nil, List.cons_append, List.nil_append, List.append_nil, List.map_cons, List.map_nil, List.reduceReplicate, Nat.zero_add, Nat.reduceAdd, Bool.not_true, Bool.not_false, decide_true, decide_false, not_true_eq_false, not_false_eq_true, true_and, and_true, q, h, hp, hz, if_false, frD, Int.pow_zero, Int.mul_one]
theorem worth_MM (s : Bool) (m : Nat) (e : Int) (b1 : bl m ≤ 10000) (b2 : e ≤ 10000) (b3 : -e ≤ 10000) : F_law_worth [MM s m e] = some (frD (nv s m e)) := by
  unfold MM
  rw [worth_eval _ _ _ _ (by rw [ib_nat]; exact b1) b2 b3]
  congr 2
  unfold nv
  push_cast
  cases s <;> simp [sg]
theorem less_eval {x y : Fr} {k : Nat} (hk : k ≤ 60000000) (hx : Bd k x) (hy : Bd k y) : F_law_less [frD x, frD y] = some (.bool (decide (x.1 * y.2 < y.1 * x.2))) := by
  have g1 : MulG x.1 y.2 := MulG_of hx.1 hy.2 (by omega)
  have g2 : MulG y.1 x.2 := MulG_of hy.1 hx.2 (by omega)
  simp only [F_law_less, D_law_less, frD, v_bnd, v_bin, v_add, v_sub, v_mul, v_div, v_mod, v_pow, v_shl, v_shr, v_and, v_xor, v_app, v_ofB, v_cmp, v_tcmp, v_eq, v_ne, v_lt, v_le, v_gt, v_ge, v_seq, v_tr_b, v_tr_i, v_tE, v_onot, v_tnot, v_not, v_neg, v_neg', v_ite, v_ite1, v_ite0, v_eand, v_eor, v_eand1, v_eand0, v_eor1, v_eor0, v_eand_i, v_eor_i, v_tand, v_tor, v_tand1, v_tand0, v_tor1, v_tor0, v_ttrue, v_tfalse, v_chain, v_var, v_int, v_bool, v_str, v_glob, v_lnil, v_lcons, v_lc, v_tup, v_lst, v_tup1, v_tup2, v_tup3, v_tup4, v_lst1, v_lst2, v_item, v_t0, v_t1, v_t2, v_t3, v_l0, v_l1, v_call, v_call', v_bits, v_bits', v_isint, v_isint', v_shift, v_shift_f, v_shift_c, v_dint, v_dabs, v_ddivmod, v_set, v_kset, v_set2, v_kset2, v_aug, v_int2, v_ret, v_kret, v_retof, v_retof', v_app_nil, v_app_cons, v_app_app, v_if, v_kif1, v_kif0, v_asrt, v_kasrt, v_un, v_unR, v_un2, v_un4, v_unR2, v_unR3, v_try, v_none, v_nil, v_for, v_kfor, v_kF_nil, v_kF_cons, v_tail, v_tail2, v_dlen2, v_while, v_kw, v_gt0, v_gts, v_up0, v_ups, v_defD, v_teq, v_teq2, List.length_cons, List.length_nil, List.cons_append, List.nil_append, List.append_nil, List.map_cons, List.map_nil, List.reduceReplicate, Nat.zero_add, Nat.reduceAdd, Bool.not_true, Bool.not_false, decide_true, decide_false, not_true_eq_false, not_false_eq_true, true_and, and_true, g1, g2]
theorem times_eval {x y : Fr} {k : Nat} (hk : k ≤ 60000000) (hx : Bd k x) (hy : Bd k y) : F_law_times [frD x, frD y] = some (frD (x.1 * y.1, x.2 * y.2)) := by
  have g1 : MulG x.1 y.1 := MulG_of hx.1 hy.1 (by omega)
  have g2 : MulG x.2 y.2 := MulG_of hx.2 hy.2 (by omega)
  simp only [F_law_times, D_law_times, frD, v_bnd, v_bin, v_add, v_sub, v_mul, v_div, v_mod, v_pow, v_shl, v_shr, v_and, v_xor, v_app, v_ofB, v_cmp, v_tcmp, v_eq, v_ne, v_lt, v_le, v_gt, v_ge, v_seq, v_tr_b, v_tr_i, v_tE, v_onot, v_tnot, v_not, v_neg, v_neg', v_ite, v_ite1, v_ite0, v_eand, v_eor, v_eand1, v_eand0, v_eor1, v_eor0, v_eand_i, v_eor_i, v_tand, v_tor, v_tand1, v_tand0, v_tor1, v_tor0, v_ttrue, v_tfalse, v_chain, v_var, v_int, v_bool, v_str, v_glob, v_lnil, v_lcons, v_lc, v_tup, v_lst, v_tup1, v_tup2, v_tup3, v_tup4, v_lst1, v_lst2, v_item, v_t0, v_t1, v_t2, v_t3, v_l0, v_l1, v_call, v_call', v_bits, v_bits', v_isint, v_isint', v_shift, v_shift_f, v_shift_c, v_dint, v_dabs, v_ddivmod, v_set, v_kset, v_set2, v_kset2, v_aug, v_int2, v_ret, v_kret, v_retof, v_retof', v_app_nil, v_app_cons, v_app_app, v_if, v_kif1, v_kif0, v_asrt, v_kasrt, v_un, v_unR, v_un2, v_un4, v_unR2, v_unR3, v_try, v_none, v_nil, v_for, v_kfor, v_kF_nil, v_kF_cons, v_tail, v_tail2, v_dlen2, v_while, v_kw, v_gt0, v_gts, v_up0, v_ups, v_defD, v_teq, v_teq2, List.length_cons, List.length_nil, List.cons_append, List.nil_append, List.append_nil, List.map_cons, List.map_nil, List.reduceReplicate, Nat.zero_add, Nat.reduceAdd, Bool.not_true, Bool.not_false, decide_true, decide_false, not_true_eq_false, not_false_eq_true, true_and, and_true, g1, g2]
theorem over_eval {x y : Fr} {k : Nat} (hk : k ≤ 60000000) (hx : Bd k x) (hy : Bd k y) : F_law_over [frD x, frD y] = some (frD (fov x y)) := by
  have g1 : MulG x.1 y.2 := MulG_of hx.1 hy.2 (by omega)
  have g2 : MulG x.2 y.1 := MulG_of hx.2 hy.1 (by omega)
  unfold fov
  by_cases q : x.2 * y.1 < 0
  · simp only [F_law_over, D_law_over, frD, v_bnd, v_bin, v_add, v_sub, v_mul, v_div, v_mod, v_pow, v_shl, v_shr, v_and, v_xor, v_app, v_ofB, v_cmp, v_tcmp, v_eq, v_ne, v_lt, v_le, v_gt, v_ge, v_seq, v_tr_b, v_tr_i, v_tE, v_onot, v_tnot, v_not, v_neg, v_neg', v_ite, v_ite1, v_ite0, v_eand, v_eor, v_eand1, v_eand0, v_eor1, v_eor0, v_eand_i, v_eor_i, v_tand, v_tor, v_tand1, v_tand0, v_tor1, v_tor0, v_ttrue, v_tfalse, v_chain, v_var, v_int, v_bool, v_str, v_glob, v_lnil, v_lcons, v_lc, v_tup, v_lst, v_tup1, v_tup2, v_tup3, v_tup4, v_lst1, v_lst2, v_item, v_t0, v_t1, v_t2, v_t3, v_l0, v_l1, v_call, v_call', v_bits, v_bits', v_isint, v_isint', v_shift, v_shift_f, v_shift_c, v_dint, v_dabs, v_ddivmod, v_set, v_kset, v_set2, v_kset2, v_aug, v_int2, v_ret, v_kret, v_retof, v_retof', v_app_nil, v_app_cons, v_app_app, v_if, v_kif1, v_kif0, v_asrt, v_kasrt, v_un, v_unR, v_un2, v_un4, v_unR2, v_unR3, v_try, v_none, v_nil, v_for, v_kfor, v_kF_nil, v_kF_cons, v_tail, v_tail2, v_dlen2, v_while, v_kw, v_gt0, v_gts, v_up0, v_ups, v_defD, v_teq, v_teq2, List.length_cons, List.length_nil, List.cons_append, List.nil_append, List.append_nil, List.map_cons, List.map_nil, List.reduceReplicate, Nat.zero_add, Nat.reduceAdd, Bool.not_true, Bool.not_false, decide_true, decide_false, not_true_eq_false, not_false_eq_true, true_and, and_true, g1, g2, q, if_true]
  · simp only [F_law_over, D_law_over, frD, v_bnd, v_bin, v_add, v_sub, v_mul, v_div, v_mod, v_pow, v_shl, v_shr, v_and, v_xor, v_app, v_ofB, v_cmp, v_tcmp, v_eq, v_ne, v_lt, v_le, v_gt, v_ge, v_seq, v_tr_b, v_tr_i, v_tE, v_onot, v_tnot, v_not, v_neg, v_neg', v_ite, v_ite1, v_ite0, v_eand, v_eor, v_eand1, v_eand0, v_eor1, v_eor0, v_eand_i, v_eor_i, v_tand, v_tor, v_tand1, v_tand0, v_tor1, v_tor0, v_ttrue, v_tfalse, v_chain, v_var, v_int, v_bool, v_str, v_glob, v_lnil, v_lcons, v_lc, v_tup, v_lst, v_tup1, v_tup2, v_tup3, v_tup4, v_lst1, v_lst2, v_item, v_t0, v_t1, v_t2, v_t3, v_l0, v_l1, v_call, v_call', v_bits, v_bits', v_isint, v_isint', v_shift, v_shift_f, v_shift_c, v_dint, v_dabs, v_ddivmod, v_set, v_kset, v_set2, v_kset2, v_aug, v_int2, v_ret, v_kret, v_retof, v_retof', v_app_nil, v_app_cons, v_app_app, v_if, v_kif1, v_kif0, v_asrt, v_kasrt, v_un, v_unR, v_un2, v_un4, v_unR2, v_unR3, v_try, v_none, v_nil, v_for, v_kfor, v_kF_nil, v_kF_cons, v_tail, v_tail2, v_dlen2, v_while, v_kw, v_gt0, v_gts, v_up0, v_ups, v_defD, v_teq, v_teq2, List.length_cons, List.length_nil, List.cons_append, List.nil_append, List.append_nil, List.map_cons, List.map_nil, List.reduceReplicate, Nat.zero_add, Nat.reduceAdd, Bool.not_true, Bool.not_false, decide_true, decide_false, not_true_eq_false, not_false_eq_true, true_and, and_true, g1, g2, q, if_false]
theorem power_eval {x : Fr} {n k : Nat} (hx : Bd k x) (hk : k * n ≤ 134217728) : F_law_power [frD x, .int n] = some (frD (pw x n)) := by
  have key : ∀ z : Int, ib z ≤ k → PowG z n := by
    intro z hz
    refine ⟨by omega, ?_⟩
    have := Nat.mul_le_mul_right n hz
    have e : ((ib z * n : Nat) : Int) = (ib z : Int) * n := by push_cast; rfl
    omega
  have g1 := key _ hx.1
  have g2 := key _ hx.2
  simp only [F_law_power, D_law_power, frD, pw, v_bnd, v_bin, v_add, v_sub, v_mul, v_div, v_mod, v_pow, v_shl, v_shr, v_and, v_xor, v_app, v_ofB, v_cmp, v_tcmp, v_eq, v_ne, v_lt, v_le, v_gt, v_ge, v_seq, v_tr_b, v_tr_i, v_tE, v_onot, v_tnot, v_not, v_neg, v_neg', v_ite, v_ite1, v_ite0, v_eand, v_eor, v_eand1, v_eand0, v_eor1, v_eor0, v_eand_i, v_eor_i, v_tand, v_tor, v_tand1, v_tand0, v_tor1, v_tor0, v_ttrue, v_tfalse, v_chain, v_var, v_int, v_bool, v_str, v_glob, v_lnil, v_lcons, v_lc, v_tup, v_lst, v_tup1, v_tup2, v_tup3, v_tup4, v_lst1, v_lst2, v_item, v_t0, v_t1, v_t2, v_t3, v_l0, v_l1, v_call, v_call', v_bits, v_bits', v_isint, v_isint', v_shift, v_shift_f, v_shift_c, v_dint, v_dabs, v_ddivmod, v_set, v_kset, v_set2, v_kset2, v_aug, v_int2, v_ret, v_kret, v_retof, v_retof', v_app_nil, v_app_cons, v_app_app, v_if, v_kif1, v_kif0, v_asrt, v_kasrt, v_un, v_unR, v_un2, v_un4, v_unR2, v_unR3, v_try, v_none, v_nil, v_for, v_kfor, v_kF_nil, v_kF_cons, v_tail, v_tail2, v_dlen2, v_while, v_kw, v_gt0, v_gts, v_up0, v_ups, v_defD, v_teq, v_teq2, List.length_cons, List.length_nil, List.cons_append, List.nil_append, List.append_nil, List.map_cons, List.map_nil, List.reduceReplicate, Nat.zero_add, Nat.reduceAdd, Bool.not_true, Bool.not_false, decide_true, decide_false, not_true_eq_false, not_false_eq_true, true_and, and_true, g1, g2, Int.toNat_natCast]
theorem Bd.mul {a b : Nat} {x y : Fr} (hx : Bd a x) (hy : Bd b y) : Bd (a + b) (x.1 * y.1, x.2 * y.2) :=
  ⟨Nat.le_trans (ib_mul_le _ _) (by have := hx.1; have := hy.1; omega), Nat.le_trans (ib_mul_le _ _) (by have := hx.2; have := hy.2; omega)⟩
theorem Bd.fov {a b : Nat} {x y : Fr} (hx : Bd a x) (hy : Bd b y) : Bd (a + b) (fov x y) := by
  have h1 : ib (x.1 * y.2) ≤ a + b := Nat.le_trans (ib_mul_le _ _) (by have := hx.1; have := hy.2; omega)
  have h2 : ib (x.2 * y.1) ≤ a + b := Nat.le_trans (ib_mul_le _ _) (by have := hx.2; have := hy.1; omega)
  unfold Mine.fov
  split
  · exact ⟨by show ib (-_) ≤ _; rw [ib_neg]; exact h1, by show ib (-_) ≤ _; rw [ib_neg]; exact h2⟩
  · exact ⟨h1, h2⟩
theorem Bd.mono {a b : Nat} {x : Fr} (hx : Bd a x) (h : a ≤ b) : Bd b x := ⟨Nat.le_trans hx.1 h, Nat.le_trans hx.2 h⟩
theorem ib_pow_le (x : Int) (n : Nat) {k : Nat} (h : ib x ≤ k) : ib (x ^ n) ≤ k * n + 1 := by
  induction n with
  | zero => rw [Int.pow_zero]; have : ib 1 = 1 := by decide
            omega
  | succ n ih =>
    rw [Int.pow_succ]
    have := ib_mul_le (x ^ n) x
    rw [Nat.mul_succ]; omega
theorem Bd.pw {k : Nat} {x : Fr} (hx : Bd k x) (n : Nat) : Bd (k * n + 1) (pw x n) := ⟨ib_pow_le _ _ hx.1, ib_pow_le _ _ hx.2⟩
theorem Bd.nv (s : Bool) (m : Nat) (e : Int) {k : Nat} (h1 : bl m + e.toNat + 1 ≤ k) (h2 : (-e).toNat + 1 ≤ k) : Bd k (nv s m e) := by
  constructor
  · show ib (_ * _) ≤ _
    have h := ib_mul_le (if s then -(m : Int) else m) ((2 ^ e.toNat : Nat) : Int)
    have e1 : ib (if s then -(m : Int) else m) = bl m := by cases s <;> simp [ib_neg, ib_nat]
    have e2 : ib ((2 ^ e.toNat : Nat) : Int) = e.toNat + 1 := by rw [← ib_p2]; push_cast; rfl
    omega
  · show ib ((2 ^ (-e).toNat : Nat) : Int) ≤ _
    have e2 : ib ((2 ^ (-e).toNat : Nat) : Int) = (-e).toNat + 1 := by rw [← ib_p2]; push_cast; rfl
    omega

/-! _law_ends -/
theorem ends_loop {k : Nat} (hk : k ≤ 60000000) {G : St → Option Fl} {L : D} : ∀ (fs : List Fr) (l u : Fr) (o : Option D), (∀ f ∈ fs, Bd k f ∧ 0 < f.2) → Bd k l → 0 < l.2 → Bd k u → 0 < u.2 →
    ∃ l' u' o', (l' = l ∨ l' ∈ fs) ∧ (u' = u ∨ u' ∈ fs) ∧ fle l' l ∧ fle u u' ∧ (∀ f ∈ fs, fle l' f ∧ fle f u') ∧ Bd k l' ∧ 0 < l'.2 ∧ Bd k u' ∧ 0 < u'.2 ∧
      kF 3 (sCons (sSet 1 (eIte (tE (eCall F_law_less (lCons (eVar 3) (lCons (eVar 1) lNil)))) (eVar 3) (eVar 1))) (sCons (sSet 2 (eIte (tE (eCall F_law_less (lCons (eVar 2) (lCons (eVar 3) lNil)))) (eVar 3) (eVar 2))) sNil)) G (fs.map frD) [some L, some (frD l), some (frD u), o]
        = G [some L, some (frD l'), some (frD u'), o'] := by
  intro fs
  induction fs with
  | nil => intro l u o h bl' pl bu pu; exact ⟨l, u, o, .inl rfl, .inl rfl, fle_refl _, fle_refl _, by simp, bl', pl, bu, pu, rfl⟩
  | cons f fs ih =>
    intro l u o h bl' pl bu pu
    obtain ⟨bf, pf⟩ := h f (by simp)
    have e1 := less_eval hk bf bl'
    have e2 := less_eval hk bu bf
    have h' : ∀ f ∈ fs, Bd k f ∧ 0 < f.2 := fun g hg => h g (by simp [hg])
    obtain ⟨l1, hl1, bl1, pl1, hl2, hl3, el⟩ : ∃ l1 : Fr, (l1 = l ∨ l1 = f) ∧ Bd k l1 ∧ 0 < l1.2 ∧ fle l1 l ∧ fle l1 f ∧ oIte (some (decide (f.1 * l.2 < l.1 * f.2))) (some (frD f)) (some (frD l)) = some (frD l1) := by
      by_cases q : f.1 * l.2 < l.1 * f.2
      · exact ⟨f, .inr rfl, bf, pf, by unfold fle; omega, fle_refl _, by simp [q, oIte]⟩
      · exact ⟨l, .inl rfl, bl', pl, fle_refl _, by unfold fle; omega, by simp [q, oIte]⟩
    obtain ⟨u1, hu1, bu1, pu1, hu2, hu3, eu⟩ : ∃ u1 : Fr, (u1 = u ∨ u1 = f) ∧ Bd k u1 ∧ 0 < u1.2 ∧ fle u u1 ∧ fle f u1 ∧ oIte (some (decide (u.1 * f.2 < f.1 * u.2))) (some (frD f)) (some (frD u)) = some (frD u1) := by
      by_cases q : u.1 * f.2 < f.1 * u.2
      · exact ⟨f, .inr rfl, bf, pf, by unfold fle; omega, fle_refl _, by simp [q, oIte]⟩
      · exact ⟨u, .inl rfl, bu, pu, fle_refl _, by unfold fle; omega, by simp [q, oIte]⟩
    obtain ⟨l', u', o', a1, a2, a3, a4, a5, a6, a7, a8, a9, a10⟩ := ih l1 u1 (some (frD f)) h' bl1 pl1 bu1 pu1
    refine ⟨l', u', o', ?_, ?_, fle_trans a7 pl1 pl a3 hl2, fle_trans pu pu1 a9 hu2 a4, ?_, a6, a7, a8, a9, ?_⟩
    · rcases a1 with rfl | a1
      · rcases hl1 with rfl | rfl <;> simp
      · simp [a1]
    · rcases a2 with rfl | a2
      · rcases hu1 with rfl | rfl <;> simp
      · simp [a2]
    · intro g hg
      rcases List.mem_cons.mp hg with rfl | hg
      · exact ⟨fle_trans a7 pl1 pf a3 hl3, fle_trans pf pu1 a9 hu3 a4⟩
      · exact a5 g hg
    · rw [← a10]
      simp only [v_bnd, v_bin, v_add, v_sub, v_mul, v_div, v_mod, v_pow, v_shl, v_shr, v_and, v_xor, v_app, v_ofB, v_cmp, v_tcmp, v_eq, v_ne, v_lt, v_le, v_gt, v_ge, v_seq, v_tr_b, v_tr_i, v_tE, v_onot, v_tnot, v_not, v_neg, v_neg', v_ite, v_ite1, v_ite0, v_eand, v_eor, v_eand1, v_eand0, v_eor1, v_eor0, v_eand_i, v_eor_i, v_tand, v_tor, v_tand1, v_tand0, v_tor1, v_tor0, v_ttrue, v_tfalse, v_chain, v_var, v_int, v_bool, v_str, v_glob, v_lnil, v_lcons, v_lc, v_tup, v_lst, v_tup1, v_tup2, v_tup3, v_tup4, v_lst1, v_lst2, v_item, v_t0, v_t1, v_t2, v_t3, v_l0, v_l1, v_call, v_call', v_bits, v_bits', v_isint, v_isint', v_shift, v_shift_f, v_shift_c, v_dint, v_dabs, v_ddivmod, v_set, v_kset, v_set2, v_kset2, v_aug, v_int2, v_ret, v_kret, v_retof, v_retof', v_app_nil, v_app_cons, v_app_app, v_if, v_kif1, v_kif0, v_asrt, v_kasrt, v_un, v_unR, v_un2, v_un4, v_unR2, v_unR3, v_try, v_none, v_nil, v_for, v_kfor, v_kF_nil, v_kF_cons, v_tail, v_tail2, v_dlen2, v_while, v_kw, v_gt0, v_gts, v_up0, v_ups, v_defD, v_teq, v_teq2, List.length_cons, List.length_nil, List.cons_append, List.nil_append, List.append_nil, List.map_cons, List.map_nil, List.reduceReplicate, Nat.zero_add, Nat.reduceAdd, Bool.not_true, Bool.not_false, decide_true, decide_false, not_true_eq_false, not_false_eq_true, true_and, and_true, e1, e2, el, eu]
theorem ends_eval {k : Nat} (hk : k ≤ 60000000) (f : Fr) (fs : List Fr) (h : ∀ g ∈ f :: fs, Bd k g ∧ 0 < g.2) :
    ∃ l u, l ∈ f :: fs ∧ u ∈ f :: fs ∧ (∀ g ∈ f :: fs, fle l g ∧ fle g u) ∧ F_law_ends [.lst ((f :: fs).map frD)] = some (.tup [frD l, frD u]) := by
  obtain ⟨bf, pf⟩ := h f (by simp)
  obtain ⟨l, u, o, a1, a2, a3, a4, a5, a6, a7, a8, a9, a10⟩ := ends_loop hk (G := (sCons (sRet (eTup (lCons (eVar 1) (lCons (eVar 2) lNil)))) sNil)) (L := .lst ((f :: fs).map frD)) (f :: fs) f f none h bf pf bf pf
  refine ⟨l, u, ?_, ?_, a5, ?_⟩
  · rcases a1 with rfl | a1
    · simp
    · exact a1
  · rcases a2 with rfl | a2
    · simp
    · exact a2
  · generalize hL : (f :: fs).map frD = L at *
    have hhd : oSub (some (.lst L)) (some (.int 0)) = some (frD f) := by rw [← hL]; rfl
    simp only [F_law_ends, D_law_ends, v_bnd, v_bin, v_add, v_sub, v_mul, v_div, v_mod, v_pow, v_shl, v_shr, v_and, v_xor, v_app, v_ofB, v_cmp, v_tcmp, v_eq, v_ne, v_lt, v_le, v_gt, v_ge, v_seq, v_tr_b, v_tr_i, v_tE, v_onot, v_tnot, v_not, v_neg, v_neg', v_ite, v_ite1, v_ite0, v_eand, v_eor, v_eand1, v_eand0, v_eor1, v_eor0, v_eand_i, v_eor_i, v_tand, v_tor, v_tand1, v_tand0, v_tor1, v_tor0, v_ttrue, v_tfalse, v_chain, v_var, v_int, v_bool, v_str, v_glob, v_lnil, v_lcons, v_lc, v_tup, v_lst, v_tup1, v_tup2, v_tup3, v_tup4, v_lst1, v_lst2, v_item, v_t0, v_t1, v_t2, v_t3, v_l0, v_l1, v_call, v_call', v_bits, v_bits', v_isint, v_isint', v_shift, v_shift_f, v_shift_c, v_dint, v_dabs, v_ddivmod, v_set, v_kset, v_set2, v_kset2, v_aug, v_int2, v_ret, v_kret, v_retof, v_retof', v_app_nil, v_app_cons, v_app_app, v_if, v_kif1, v_kif0, v_asrt, v_kasrt, v_un, v_unR, v_un2, v_un4, v_unR2, v_unR3, v_try, v_none, v_nil, v_for, v_kfor, v_kF_nil, v_kF_cons, v_tail, v_tail2, v_dlen2, v_while, v_kw, v_gt0, v_gts, v_up0, v_ups, v_defD, v_teq, v_teq2, List.length_cons, List.length_nil, List.cons_append, List.nil_append, List.append_nil, List.map_cons, List.map_nil, List.reduceReplicate, Nat.zero_add, Nat.reduceAdd, Bool.not_true, Bool.not_false, decide_true, decide_false, not_true_eq_false, not_false_eq_true, true_and, and_true, hhd, a10]
end Mine

namespace Mine
set_option autoImplicit false
def r_T1 : St → Option Bool := (tCmp .GtE (eVar 7) (eBin .Pow (eInt 2) (eVar 2)))
def r_B1 : St → Option Fl := (sCons (sAug 6 .Add (eInt 1)) (sCons (sSet 9 (eIte (tCmp .Gt (eVar 6) (eInt 0)) (eBin .Mult (eVar 1) (eBin .Pow (eInt 2) (eVar 6))) (eVar 1))) (sCons (sUnpack [7, 8] (eCall dDivmod (lCons (eIte (tCmp .Lt (eVar 6) (eInt 0)) (eBin .Mult (eVar 5) (eBin .Pow (eInt 2) (eNeg (eVar 6)))) (eVar 5)) (lCons (eVar 9) lNil)))) sNil)))
def r_T2 : St → Option Bool := (tCmp .Eq (eBin .Mod (eVar 7) (eInt 2)) (eInt 0))
def r_B2 : St → Option Fl := (sCons (sUnpackR [7, 6] (eTup (lCons (eBin .FloorDiv (eVar 7) (eInt 2)) (lCons (eBin .Add (eVar 6) (eInt 1)) lNil)))) sNil)
def r_C (N : Nat) : St → Option Fl := (sCons (sSet 10 (eOr (eCmp .Eq (eVar 3) (eStr (Str.ofString "u"))) (eOr (eAnd (eCmp .Eq (eVar 3) (eStr (Str.ofString "c"))) (eCmp .Eq (eVar 4) (eInt 0))) (eAnd (eCmp .Eq (eVar 3) (eStr (Str.ofString "f"))) (eCmp .Eq (eVar 4) (eInt 1)))))) (sCons (sIf (tCmp .Eq (eVar 3) (eStr (Str.ofString "n"))) (sCons (sSet 10 (eOr (eCmp .Gt (eBin .Mult (eInt 2) (eVar 8)) (eVar 9)) (eAnd (eCmp .Eq (eBin .Mult (eInt 2) (eVar 8)) (eVar 9)) (eCmp .Eq (eBin .Mod (eVar 7) (eInt 2)) (eInt 1))))) sNil) sNil) (sCons (sIf (tAnd (tE (eVar 10)) (tAnd (tCmp .Gt (eVar 8) (eInt 0)) tTrue)) (sCons (sAug 7 .Add (eInt 1)) sNil) sNil) (sCons (sWhile N r_T2 r_B2) (sCons (sRet (eTup (lCons (eVar 4) (lCons (eVar 7) (lCons (eVar 6) (lCons (eBits (eVar 7)) lNil)))))) sNil)))))
def r_top (N : Nat) : St → Option Fl := (sCons (sIf (tCmp .Eq (eVar 0) (eInt 0)) (sCons (sRet (eTup (lCons (eInt 0) (lCons (eInt 0) (lCons (eInt 0) (lCons (eInt 0) lNil)))))) sNil) sNil) (sCons (sUnpack [4, 5] (eIte (tCmp .Lt (eVar 0) (eInt 0)) (eTup (lCons (eInt 1) (lCons (eNeg (eVar 0)) lNil))) (eTup (lCons (eInt 0) (lCons (eVar 0) lNil))))) (sCons (sSet 6 (eBin .Sub (eBin .Sub (eBin .Sub (eBits (eVar 5)) (eBits (eVar 1))) (eVar 2)) (eInt 1))) (sCons (sUnpackR [7, 8, 9] (eTup (lCons (eBin .Pow (eInt 2) (eVar 2)) (lCons (eInt 0) (lCons (eInt 1) lNil))))) (sCons (sWhile N r_T1 r_B1) (r_C N))))))
theorem D_rounded_eq : D_law_rounded = r_top (2 ^ 3000) := rfl

/-- the last loop: halves while even -/
theorem r_loop2 {A B P R S Z O1 O2 O3 : Option D} (m : Nat) (ho : m % 2 = 1) : ∀ (t N : Nat) (x : Int), t < N →
    wloop r_T2 r_B2 N [A, B, P, R, S, Z, some (.int x), some (.int (m * 2 ^ t : Nat)), O1, O2, O3] = some (.nxt [A, B, P, R, S, Z, some (.int (x + t)), some (.int m), O1, O2, O3]) := by
  intro t
  induction t with
  | zero =>
    intro N x h
    obtain ⟨N, rfl⟩ : ∃ M, N = M + 1 := ⟨N - 1, by omega⟩
    rw [Nat.pow_zero, Nat.mul_one]
    have hm : (m : Int).fmod 2 = 1 := by rw [Int.fmod_eq_emod_of_nonneg _ (by decide)]; omega
    rw [wloop_stop (by simp only [r_T2, v_bnd, v_bin, v_add, v_sub, v_mul, v_div, v_mod, v_pow, v_shl, v_shr, v_and, v_xor, v_app, v_ofB, v_cmp, v_tcmp, v_eq, v_ne, v_lt, v_le, v_gt, v_ge, v_seq, v_tr_b, v_tr_i, v_tE, v_onot, v_tnot, v_not, v_neg, v_neg', v_ite, v_ite1, v_ite0, v_eand, v_eor, v_eand1, v_eand0, v_eor1, v_eor0, v_eand_i, v_eor_i, v_tand, v_tor, v_tand1, v_tand0, v_tor1, v_tor0, v_ttrue, v_tfalse, v_chain, v_var, v_int, v_bool, v_str, v_glob, v_lnil, v_lcons, v_lc, v_tup, v_lst, v_tup1, v_tup2, v_tup3, v_tup4, v_lst1, v_lst2, v_item, v_t0, v_t1, v_t2, v_t3, v_l0, v_l1, v_call, v_call', v_bits, v_bits', v_isint, v_isint', v_shift, v_shift_f, v_shift_c, v_dint, v_dabs, v_ddivmod, v_set, v_kset, v_set2, v_kset2, v_aug, v_int2, v_ret, v_kret, v_retof, v_retof', v_app_nil, v_app_cons, v_app_app, v_if, v_kif1, v_kif0, v_asrt, v_kasrt, v_un, v_unR, v_un2, v_un4, v_unR2, v_unR3, v_try, v_none, v_nil, v_for, v_kfor, v_kF_nil, v_kF_cons, v_tail, v_tail2, v_dlen2, v_while, v_kw, v_gt0, v_gts, v_up0, v_ups, v_defD, v_teq, v_teq2, List.length_cons, List.length_nil, List.cons_append, List.nil_append, List.append_nil, List.map_cons, List.map_nil, List.reduceReplicate, Nat.zero_add, Nat.reduceAdd, Bool.not_true, Bool.not_false, decide_true, decide_false, not_true_eq_false, not_false_eq_true, true_and, and_true, show ¬ (2 : Int) = 0 by decide, hm, show ¬ (1 : Int) = 0 by decide])]
    simp
  | succ t ih =>
    intro N x h
    obtain ⟨N, rfl⟩ : ∃ M, N = M + 1 := ⟨N - 1, by omega⟩
    have e : m * 2 ^ (t + 1) = 2 * (m * 2 ^ t) := by rw [Nat.pow_succ, ← Nat.mul_assoc, Nat.mul_comm]
    have hm : ((m * 2 ^ (t + 1) : Nat) : Int).fmod 2 = 0 := by rw [Int.fmod_eq_emod_of_nonneg _ (by decide)]; omega
    have hd : ((m * 2 ^ (t + 1) : Nat) : Int).fdiv 2 = ((m * 2 ^ t : Nat) : Int) := by rw [Int.fdiv_eq_ediv_of_nonneg _ (by decide)]; omega
    have g2 : DivG 2 := by unfold DivG; decide
    rw [wloop_step (ρ' := [A, B, P, R, S, Z, some (.int (x + 1)), some (.int (m * 2 ^ t : Nat)), O1, O2, O3])
      (by simp only [r_T2, v_bnd, v_bin, v_add, v_sub, v_mul, v_div, v_mod, v_pow, v_shl, v_shr, v_and, v_xor, v_app, v_ofB, v_cmp, v_tcmp, v_eq, v_ne, v_lt, v_le, v_gt, v_ge, v_seq, v_tr_b, v_tr_i, v_tE, v_onot, v_tnot, v_not, v_neg, v_neg', v_ite, v_ite1, v_ite0, v_eand, v_eor, v_eand1, v_eand0, v_eor1, v_eor0, v_eand_i, v_eor_i, v_tand, v_tor, v_tand1, v_tand0, v_tor1, v_tor0, v_ttrue, v_tfalse, v_chain, v_var, v_int, v_bool, v_str, v_glob, v_lnil, v_lcons, v_lc, v_tup, v_lst, v_tup1, v_tup2, v_tup3, v_tup4, v_lst1, v_lst2, v_item, v_t0, v_t1, v_t2, v_t3, v_l0, v_l1, v_call, v_call', v_bits, v_bits', v_isint, v_isint', v_shift, v_shift_f, v_shift_c, v_dint, v_dabs, v_ddivmod, v_set, v_kset, v_set2, v_kset2, v_aug, v_int2, v_ret, v_kret, v_retof, v_retof', v_app_nil, v_app_cons, v_app_app, v_if, v_kif1, v_kif0, v_asrt, v_kasrt, v_un, v_unR, v_un2, v_un4, v_unR2, v_unR3, v_try, v_none, v_nil, v_for, v_kfor, v_kF_nil, v_kF_cons, v_tail, v_tail2, v_dlen2, v_while, v_kw, v_gt0, v_gts, v_up0, v_ups, v_defD, v_teq, v_teq2, List.length_cons, List.length_nil, List.cons_append, List.nil_append, List.append_nil, List.map_cons, List.map_nil, List.reduceReplicate, Nat.zero_add, Nat.reduceAdd, Bool.not_true, Bool.not_false, decide_true, decide_false, not_true_eq_false, not_false_eq_true, true_and, and_true, show ¬ (2 : Int) = 0 by decide, hm])
      (by simp only [r_B2, v_bnd, v_bin, v_add, v_sub, v_mul, v_div, v_mod, v_pow, v_shl, v_shr, v_and, v_xor, v_app, v_ofB, v_cmp, v_tcmp, v_eq, v_ne, v_lt, v_le, v_gt, v_ge, v_seq, v_tr_b, v_tr_i, v_tE, v_onot, v_tnot, v_not, v_neg, v_neg', v_ite, v_ite1, v_ite0, v_eand, v_eor, v_eand1, v_eand0, v_eor1, v_eor0, v_eand_i, v_eor_i, v_tand, v_tor, v_tand1, v_tand0, v_tor1, v_tor0, v_ttrue, v_tfalse, v_chain, v_var, v_int, v_bool, v_str, v_glob, v_lnil, v_lcons, v_lc, v_tup, v_lst, v_tup1, v_tup2, v_tup3, v_tup4, v_lst1, v_lst2, v_item, v_t0, v_t1, v_t2, v_t3, v_l0, v_l1, v_call, v_call', v_bits, v_bits', v_isint, v_isint', v_shift, v_shift_f, v_shift_c, v_dint, v_dabs, v_ddivmod, v_set, v_kset, v_set2, v_kset2, v_aug, v_int2, v_ret, v_kret, v_retof, v_retof', v_app_nil, v_app_cons, v_app_app, v_if, v_kif1, v_kif0, v_asrt, v_kasrt, v_un, v_unR, v_un2, v_un4, v_unR2, v_unR3, v_try, v_none, v_nil, v_for, v_kfor, v_kF_nil, v_kF_cons, v_tail, v_tail2, v_dlen2, v_while, v_kw, v_gt0, v_gts, v_up0, v_ups, v_defD, v_teq, v_teq2, List.length_cons, List.length_nil, List.cons_append, List.nil_append, List.append_nil, List.map_cons, List.map_nil, List.reduceReplicate, Nat.zero_add, Nat.reduceAdd, Bool.not_true, Bool.not_false, decide_true, decide_false, not_true_eq_false, not_false_eq_true, true_and, and_true, hd, g2])]
    rw [ih N (x + 1) (by omega)]
    rw [show x + 1 + (t : Int) = x + ((t + 1 : Nat) : Int) by push_cast; omega]
/-- one turn of the first loop -/
theorem r_turn {A R S Z O1 O2 O3 : Option D} (sz b p : Nat) (x : Int) (h0 : 0 < b) (b1 : bl sz ≤ 2000) (b2 : bl b ≤ 2000) (b3 : x ≤ 5000) (b4 : -x ≤ 5000) :
    r_B1 [A, some (.int b), some (.int p), R, S, some (.int sz), some (.int (x - 1)), O1, O2, O3, Z] = some (.nxt [A, some (.int b), some (.int p), R, S, some (.int sz), some (.int x),
      some (.int (sz * 2 ^ (-x).toNat / (b * 2 ^ x.toNat) : Nat)), some (.int (sz * 2 ^ (-x).toNat % (b * 2 ^ x.toNat) : Nat)), some (.int (b * 2 ^ x.toNat : Nat)), Z]) := by
  have hx : x - 1 + 1 = x := by omega
  have hden : 0 < b * 2 ^ x.toNat := Nat.mul_pos h0 (p2_pos _)
  have hg : DivG ((b * 2 ^ x.toNat : Nat) : Int) := ⟨by omega, by
    rw [Int.natAbs_natCast]
    have := log2_lt (Nat.le_refl _) hden
    rw [bl_mul h0] at this
    omega⟩
  have e0 : (((b : Nat) : Int) * 2 ^ x.toNat) = ((b * 2 ^ x.toNat : Nat) : Int) := by push_cast; rfl
  have e1 : (((sz : Nat) : Int) * 2 ^ (-x).toNat) = ((sz * 2 ^ (-x).toNat : Nat) : Int) := by push_cast; rfl
  have g1 : MulG b (2 ^ x.toNat) := MulG_of (a := 2000) (b := 5001) (by rw [ib_nat]; exact b2) (by rw [ib_p2]; omega) (by decide)
  have g2 : MulG sz (2 ^ (-x).toNat) := MulG_of (a := 2000) (b := 5001) (by rw [ib_nat]; exact b1) (by rw [ib_p2]; omega) (by decide)
  rcases Int.lt_trichotomy x 0 with h | h | h
  · have h1 : ¬ (0 : Int) < x := by omega
    have p1 : PowG 2 (-x) := PowG2 (by omega) (by omega)
    have z : x.toNat = 0 := by omega
    rw [z, Nat.pow_zero, Nat.mul_one] at hg ⊢
    simp only [r_B1, v_bnd, v_bin, v_add, v_sub, v_mul, v_div, v_mod, v_pow, v_shl, v_shr, v_and, v_xor, v_app, v_ofB, v_cmp, v_tcmp, v_eq, v_ne, v_lt, v_le, v_gt, v_ge, v_seq, v_tr_b, v_tr_i, v_tE, v_onot, v_tnot, v_not, v_neg, v_neg', v_ite, v_ite1, v_ite0, v_eand, v_eor, v_eand1, v_eand0, v_eor1, v_eor0, v_eand_i, v_eor_i, v_tand, v_tor, v_tand1, v_tand0, v_tor1, v_tor0, v_ttrue, v_tfalse, v_chain, v_var, v_int, v_bool, v_str, v_glob, v_lnil, v_lcons, v_lc, v_tup, v_lst, v_tup1, v_tup2, v_tup3, v_tup4, v_lst1, v_lst2, v_item, v_t0, v_t1, v_t2, v_t3, v_l0, v_l1, v_call, v_call', v_bits, v_bits', v_isint, v_isint', v_shift, v_shift_f, v_shift_c, v_dint, v_dabs, v_ddivmod, v_set, v_kset, v_set2, v_kset2, v_aug, v_int2, v_ret, v_kret, v_retof, v_retof', v_app_nil, v_app_cons, v_app_app, v_if, v_kif1, v_kif0, v_asrt, v_kasrt, v_un, v_unR, v_un2, v_un4, v_unR2, v_unR3, v_try, v_none, v_nil, v_for, v_kfor, v_kF_nil, v_kF_cons, v_tail, v_tail2, v_dlen2, v_while, v_kw, v_gt0, v_gts, v_up0, v_ups, v_defD, v_teq, v_teq2, List.length_cons, List.length_nil, List.cons_append, List.nil_append, List.append_nil, List.map_cons, List.map_nil, List.reduceReplicate, Nat.zero_add, Nat.reduceAdd, Bool.not_true, Bool.not_false, decide_true, decide_false, not_true_eq_false, not_false_eq_true, true_and, and_true, hx, h1, h, p1, g2, e1, hg, fdiv_nat, fmod_nat]
  · subst h
    have : (-(0 : Int)).toNat = 0 := rfl
    rw [show (0 : Int).toNat = 0 from rfl, Nat.pow_zero, Nat.mul_one] at hg
    rw [this, show (0 : Int).toNat = 0 from rfl, Nat.pow_zero, Nat.mul_one, Nat.mul_one]
    simp only [r_B1, v_bnd, v_bin, v_add, v_sub, v_mul, v_div, v_mod, v_pow, v_shl, v_shr, v_and, v_xor, v_app, v_ofB, v_cmp, v_tcmp, v_eq, v_ne, v_lt, v_le, v_gt, v_ge, v_seq, v_tr_b, v_tr_i, v_tE, v_onot, v_tnot, v_not, v_neg, v_neg', v_ite, v_ite1, v_ite0, v_eand, v_eor, v_eand1, v_eand0, v_eor1, v_eor0, v_eand_i, v_eor_i, v_tand, v_tor, v_tand1, v_tand0, v_tor1, v_tor0, v_ttrue, v_tfalse, v_chain, v_var, v_int, v_bool, v_str, v_glob, v_lnil, v_lcons, v_lc, v_tup, v_lst, v_tup1, v_tup2, v_tup3, v_tup4, v_lst1, v_lst2, v_item, v_t0, v_t1, v_t2, v_t3, v_l0, v_l1, v_call, v_call', v_bits, v_bits', v_isint, v_isint', v_shift, v_shift_f, v_shift_c, v_dint, v_dabs, v_ddivmod, v_set, v_kset, v_set2, v_kset2, v_aug, v_int2, v_ret, v_kret, v_retof, v_retof', v_app_nil, v_app_cons, v_app_app, v_if, v_kif1, v_kif0, v_asrt, v_kasrt, v_un, v_unR, v_un2, v_un4, v_unR2, v_unR3, v_try, v_none, v_nil, v_for, v_kfor, v_kF_nil, v_kF_cons, v_tail, v_tail2, v_dlen2, v_while, v_kw, v_gt0, v_gts, v_up0, v_ups, v_defD, v_teq, v_teq2, List.length_cons, List.length_nil, List.cons_append, List.nil_append, List.append_nil, List.map_cons, List.map_nil, List.reduceReplicate, Nat.zero_add, Nat.reduceAdd, Bool.not_true, Bool.not_false, decide_true, decide_false, not_true_eq_false, not_false_eq_true, true_and, and_true, show (0 : Int) - 1 + 1 = 0 by decide, Int.lt_irrefl, hg, fdiv_nat, fmod_nat]
  · have h1 : ¬ x < (0 : Int) := by omega
    have p1 : PowG 2 x := PowG2 (by omega) (by omega)
    have z : (-x).toNat = 0 := by omega
    rw [z, Nat.pow_zero, Nat.mul_one]
    simp only [r_B1, v_bnd, v_bin, v_add, v_sub, v_mul, v_div, v_mod, v_pow, v_shl, v_shr, v_and, v_xor, v_app, v_ofB, v_cmp, v_tcmp, v_eq, v_ne, v_lt, v_le, v_gt, v_ge, v_seq, v_tr_b, v_tr_i, v_tE, v_onot, v_tnot, v_not, v_neg, v_neg', v_ite, v_ite1, v_ite0, v_eand, v_eor, v_eand1, v_eand0, v_eor1, v_eor0, v_eand_i, v_eor_i, v_tand, v_tor, v_tand1, v_tand0, v_tor1, v_tor0, v_ttrue, v_tfalse, v_chain, v_var, v_int, v_bool, v_str, v_glob, v_lnil, v_lcons, v_lc, v_tup, v_lst, v_tup1, v_tup2, v_tup3, v_tup4, v_lst1, v_lst2, v_item, v_t0, v_t1, v_t2, v_t3, v_l0, v_l1, v_call, v_call', v_bits, v_bits', v_isint, v_isint', v_shift, v_shift_f, v_shift_c, v_dint, v_dabs, v_ddivmod, v_set, v_kset, v_set2, v_kset2, v_aug, v_int2, v_ret, v_kret, v_retof, v_retof', v_app_nil, v_app_cons, v_app_app, v_if, v_kif1, v_kif0, v_asrt, v_kasrt, v_un, v_unR, v_un2, v_un4, v_unR2, v_unR3, v_try, v_none, v_nil, v_for, v_kfor, v_kF_nil, v_kF_cons, v_tail, v_tail2, v_dlen2, v_while, v_kw, v_gt0, v_gts, v_up0, v_ups, v_defD, v_teq, v_teq2, List.length_cons, List.length_nil, List.cons_append, List.nil_append, List.append_nil, List.map_cons, List.map_nil, List.reduceReplicate, Nat.zero_add, Nat.reduceAdd, Bool.not_true, Bool.not_false, decide_true, decide_false, not_true_eq_false, not_false_eq_true, true_and, and_true, hx, h1, h, p1, g1, e0, hg, fdiv_nat, fmod_nat]

/-- the first loop ends with prec bits -/
theorem r_loop1 {A R S Z O2 O3 : Option D} (sz b p : Nat) (hs : 0 < sz) (hb : 0 < b) (hp : 1 ≤ p) (hp2 : p ≤ 1000) (b1 : bl sz ≤ 2000) (b2 : bl b ≤ 2000) (N : Nat) :
    ∃ (x : Int), Br p sz b (sz * 2 ^ (-x).toNat / (b * 2 ^ x.toNat)) x.toNat (-x).toNat ∧
      wloop r_T1 r_B1 (N + 3) [A, some (.int b), some (.int p), R, S, some (.int sz), some (.int ((bl sz : Int) - bl b - p - 1)), some (.int (2 ^ p : Nat)), O2, O3, Z] =
        some (.nxt [A, some (.int b), some (.int p), R, S, some (.int sz), some (.int x), some (.int (sz * 2 ^ (-x).toNat / (b * 2 ^ x.toNat) : Nat)), some (.int (sz * 2 ^ (-x).toNat % (b * 2 ^ x.toNat) : Nat)), some (.int (b * 2 ^ x.toNat : Nat)), Z]) := by
  have hP : PowG 2 p := PowG2 (by omega) (by omega)
  have e2 : (2 : Int) ^ (p : Int).toNat = ((2 ^ p : Nat) : Int) := by rw [Int.toNat_natCast]; push_cast; rfl
  have ht : ∀ {w : Nat} {e o2 o3 z : Option D}, r_T1 [A, some (.int b), some (.int p), R, S, some (.int sz), e, some (.int w), o2, o3, z] = some (decide (2 ^ p ≤ w)) := by
    intro w e o2 o3 z
    simp only [r_T1, v_bnd, v_bin, v_add, v_sub, v_mul, v_div, v_mod, v_pow, v_shl, v_shr, v_and, v_xor, v_app, v_ofB, v_cmp, v_tcmp, v_eq, v_ne, v_lt, v_le, v_gt, v_ge, v_seq, v_tr_b, v_tr_i, v_tE, v_onot, v_tnot, v_not, v_neg, v_neg', v_ite, v_ite1, v_ite0, v_eand, v_eor, v_eand1, v_eand0, v_eor1, v_eor0, v_eand_i, v_eor_i, v_tand, v_tor, v_tand1, v_tand0, v_tor1, v_tor0, v_ttrue, v_tfalse, v_chain, v_var, v_int, v_bool, v_str, v_glob, v_lnil, v_lcons, v_lc, v_tup, v_lst, v_tup1, v_tup2, v_tup3, v_tup4, v_lst1, v_lst2, v_item, v_t0, v_t1, v_t2, v_t3, v_l0, v_l1, v_call, v_call', v_bits, v_bits', v_isint, v_isint', v_shift, v_shift_f, v_shift_c, v_dint, v_dabs, v_ddivmod, v_set, v_kset, v_set2, v_kset2, v_aug, v_int2, v_ret, v_kret, v_retof, v_retof', v_app_nil, v_app_cons, v_app_app, v_if, v_kif1, v_kif0, v_asrt, v_kasrt, v_un, v_unR, v_un2, v_un4, v_unR2, v_unR3, v_try, v_none, v_nil, v_for, v_kfor, v_kF_nil, v_kF_cons, v_tail, v_tail2, v_dlen2, v_while, v_kw, v_gt0, v_gts, v_up0, v_ups, v_defD, v_teq, v_teq2, List.length_cons, List.length_nil, List.cons_append, List.nil_append, List.append_nil, List.map_cons, List.map_nil, List.reduceReplicate, Nat.zero_add, Nat.reduceAdd, Bool.not_true, Bool.not_false, decide_true, decide_false, not_true_eq_false, not_false_eq_true, true_and, and_true, hP, e2, Int.ofNat_le]
  have s1 := bl_ge hs
  have s2 := bl_lt sz
  have s3 := bl_pos hs
  have t1 := bl_ge hb
  have t2 := bl_lt b
  have t3 := bl_pos hb
  have fin : ∀ x : Int, 2 ^ (p - 1) ≤ sz * 2 ^ (-x).toNat / (b * 2 ^ x.toNat) → sz * 2 ^ (-x).toNat / (b * 2 ^ x.toNat) < 2 ^ p → Br p sz b (sz * 2 ^ (-x).toNat / (b * 2 ^ x.toNat)) x.toNat (-x).toNat := by
    intro x h1 h2
    have hd := Nat.div_add_mod (sz * 2 ^ (-x).toNat) (b * 2 ^ x.toNat)
    have hm := Nat.mod_lt (sz * 2 ^ (-x).toNat) (Nat.mul_pos hb (p2_pos x.toNat))
    generalize sz * 2 ^ (-x).toNat / (b * 2 ^ x.toNat) = w at *
    have e1 : w * 2 ^ x.toNat * b = b * 2 ^ x.toNat * w := by ac_rfl
    have e2 : (w + 1) * 2 ^ x.toNat * b = b * 2 ^ x.toNat * w + b * 2 ^ x.toNat := by rw [Nat.add_mul, Nat.add_mul, e1, Nat.one_mul, Nat.mul_comm b]
    exact ⟨h1, h2, by omega, by omega⟩
  -- the first turn
  obtain ⟨x, hx⟩ : ∃ x : Int, x = (bl sz : Int) - bl b - p := ⟨_, rfl⟩
  have lo : 2 ^ (p - 1) * (b * 2 ^ x.toNat) ≤ sz * 2 ^ (-x).toNat := by
    calc 2 ^ (p - 1) * (b * 2 ^ x.toNat) ≤ 2 ^ (p - 1) * (2 ^ bl b * 2 ^ x.toNat) := Nat.mul_le_mul_left _ (Nat.mul_le_mul_right _ (Nat.le_of_lt t2))
      _ = 2 ^ (p - 1 + (bl b + x.toNat)) := by rw [Nat.pow_add, Nat.pow_add]
      _ = 2 ^ (bl sz - 1 + (-x).toNat) := by congr 1; omega
      _ = 2 ^ (bl sz - 1) * 2 ^ (-x).toNat := Nat.pow_add ..
      _ ≤ _ := Nat.mul_le_mul_right _ s1
  have hi : sz * 2 ^ (-x).toNat < 2 ^ (p + 1) * (b * 2 ^ x.toNat) := by
    calc sz * 2 ^ (-x).toNat < 2 ^ bl sz * 2 ^ (-x).toNat := Nat.mul_lt_mul_of_pos_right s2 (p2_pos _)
      _ = 2 ^ (bl sz + (-x).toNat) := (Nat.pow_add ..).symm
      _ = 2 ^ (p + 1 + (bl b - 1 + x.toNat)) := by congr 1; omega
      _ = 2 ^ (p + 1) * (2 ^ (bl b - 1) * 2 ^ x.toNat) := by rw [Nat.pow_add _ (p + 1), Nat.pow_add _ (bl b - 1)]
      _ ≤ _ := Nat.mul_le_mul_left _ (Nat.mul_le_mul_right _ t1)
  have d1 : 0 < b * 2 ^ x.toNat := Nat.mul_pos hb (p2_pos _)
  have lo' := (Nat.le_div_iff_mul_le d1).mpr lo
  have first := r_turn (A := A) (R := R) (S := S) (Z := Z) (O1 := some (.int (2 ^ p : Nat))) (O2 := O2) (O3 := O3) sz b p x hb b1 b2 (by omega) (by omega)
  rw [← hx, show N + 3 = (N + 2) + 1 from rfl, wloop_step (by rw [ht]; simp) first]
  by_cases q : sz * 2 ^ (-x).toNat / (b * 2 ^ x.toNat) < 2 ^ p
  · refine ⟨x, fin x lo' q, ?_⟩
    rw [show N + 2 = (N + 1) + 1 from rfl, wloop_stop (by rw [ht]; simp; omega)]
  · have second := r_turn (A := A) (R := R) (S := S) (Z := Z) (O1 := some (.int (sz * 2 ^ (-x).toNat / (b * 2 ^ x.toNat) : Nat))) (O2 := some (.int (sz * 2 ^ (-x).toNat % (b * 2 ^ x.toNat) : Nat))) (O3 := some (.int (b * 2 ^ x.toNat : Nat))) sz b p (x + 1) hb b1 b2 (by omega) (by omega)
    rw [show x + 1 - 1 = x by omega] at second
    have d2 : 0 < b * 2 ^ (x + 1).toNat := Nat.mul_pos hb (p2_pos _)
    have q' := (Nat.le_div_iff_mul_le d1).mp (Nat.le_of_not_lt q)
    have lo2 : 2 ^ (p - 1) * (b * 2 ^ (x + 1).toNat) ≤ sz * 2 ^ (-(x + 1)).toNat := by
      have a : (b * 2 ^ (p - 1)) * 2 ^ (x.toNat + 1) ≤ sz * 2 ^ (-x).toNat := by
        rw [show 2 ^ p = 2 ^ (p - 1) * 2 by rw [← Nat.pow_succ]; congr 1; omega] at q'
        calc _ = 2 ^ (p - 1) * 2 * (b * 2 ^ x.toNat) := by rw [Nat.pow_succ]; ac_rfl
          _ ≤ _ := q'
      have := (pw_le (i' := (x + 1).toNat) (j' := (-(x + 1)).toNat) (by omega)).mp a
      calc _ = b * 2 ^ (p - 1) * 2 ^ (x + 1).toNat := by ac_rfl
        _ ≤ _ := this
    have hi2 : sz * 2 ^ (-(x + 1)).toNat < 2 ^ p * (b * 2 ^ (x + 1).toNat) := by
      have a : sz * 2 ^ (-x).toNat < (b * 2 ^ p) * 2 ^ (x.toNat + 1) := by
        calc _ < 2 ^ (p + 1) * (b * 2 ^ x.toNat) := hi
          _ = _ := by rw [Nat.pow_succ, Nat.pow_succ]; ac_rfl
      have := (pw_lt (i' := (-(x + 1)).toNat) (j' := (x + 1).toNat) (by omega)).mp a
      calc _ < b * 2 ^ p * 2 ^ (x + 1).toNat := this
        _ = _ := by ac_rfl
    have lo2' := (Nat.le_div_iff_mul_le d2).mpr lo2
    have hi2' := (Nat.div_lt_iff_lt_mul d2).mpr hi2
    refine ⟨x + 1, fin (x + 1) lo2' hi2', ?_⟩
    rw [show N + 2 = (N + 1) + 1 from rfl, wloop_step (by rw [ht]; simp; omega) second]
    rw [wloop_stop (by rw [ht]; simp; omega)]

theorem r_rest {c s : Bool} {A B P Z O3 : Option D} (w r : Nat) (x : Int) (p N : Nat) (hw : 0 < w) (hw2 : w < 2 ^ p) (hp : p ≤ 1000) (hN : 1024 ≤ N) :
    ∃ m e, Norm (if (c != s) = true ∧ r ≠ 0 then w + 1 else w) x m e ∧
      retOf (r_C N [A, B, P, some (RR c), some (.int (sg s)), Z, some (.int x), some (.int w), some (.int r), O3, none]) = some (MM s m e) := by
  have hW : 0 < (if (c != s) = true ∧ r ≠ 0 then w + 1 else w) := by split <;> omega
  have hW2 : (if (c != s) = true ∧ r ≠ 0 then w + 1 else w) ≤ 2 ^ p := by split <;> omega
  obtain ⟨m, t, ho, hm⟩ := odd_dec _ hW
  have ht : t < N := by
    have h1 : 2 ^ t ≤ 2 ^ p := by
      refine Nat.le_trans ?_ hW2
      rw [hm]
      exact Nat.le_mul_of_pos_left _ (by omega)
    have h2 : t ≤ p := (Nat.pow_le_pow_iff_right (by decide)).mp h1
    omega
  refine ⟨m, x + t, ⟨ho, t, hm.symm, rfl⟩, ?_⟩
  have l2 := fun o => r_loop2 (A := A) (B := B) (P := P) (R := some (RR c)) (S := some (.int (sg s))) (Z := Z) (O1 := some (.int r)) (O2 := O3) (O3 := o) m ho t N x ht
  have z10 : ¬ (1 : Int) = 0 := by decide
  have z01 : ¬ (0 : Int) = 1 := by decide
  have fu : (Str.ofString "f" == Str.ofString "u") = false := by decide
  have fc : (Str.ofString "f" == Str.ofString "c") = false := by decide
  have ff : (Str.ofString "f" == Str.ofString "f") = true := by decide
  have fn : (Str.ofString "f" == Str.ofString "n") = false := by decide
  have cu : (Str.ofString "c" == Str.ofString "u") = false := by decide
  have cc : (Str.ofString "c" == Str.ofString "c") = true := by decide
  have cf : (Str.ofString "c" == Str.ofString "f") = false := by decide
  have cn : (Str.ofString "c" == Str.ofString "n") = false := by decide
  have s0 : sg false = 0 := rfl
  have s1 : sg true = 1 := rfl
  by_cases hr : r = 0
  · subst hr
    rw [if_neg (by simp)] at hm
    rw [hm]
    have hr0 : ¬ (0 : Int) < ((0 : Nat) : Int) := by decide
    cases c <;> cases s
    all_goals simp only [RR, s0, s1, if_true, if_false, Bool.false_eq_true] at l2
    all_goals simp only [r_C, RR, s0, s1, if_true, if_false, Bool.false_eq_true, v_bnd, v_bin, v_add, v_sub, v_mul, v_div, v_mod, v_pow, v_shl, v_shr, v_and, v_xor, v_app, v_ofB, v_cmp, v_tcmp, v_eq, v_ne, v_lt, v_le, v_gt, v_ge, v_seq, v_tr_b, v_tr_i, v_tE, v_onot, v_tnot, v_not, v_neg, v_neg', v_ite, v_ite1, v_ite0, v_eand, v_eor, v_eand1, v_eand0, v_eor1, v_eor0, v_eand_i, v_eor_i, v_tand, v_tor, v_tand1, v_tand0, v_tor1, v_tor0, v_ttrue, v_tfalse, v_chain, v_var, v_int, v_bool, v_str, v_glob, v_lnil, v_lcons, v_lc, v_tup, v_lst, v_tup1, v_tup2, v_tup3, v_tup4, v_lst1, v_lst2, v_item, v_t0, v_t1, v_t2, v_t3, v_l0, v_l1, v_call, v_call', v_bits, v_bits', v_isint, v_isint', v_shift, v_shift_f, v_shift_c, v_dint, v_dabs, v_ddivmod, v_set, v_kset, v_set2, v_kset2, v_aug, v_int2, v_ret, v_kret, v_retof, v_retof', v_app_nil, v_app_cons, v_app_app, v_if, v_kif1, v_kif0, v_asrt, v_kasrt, v_un, v_unR, v_un2, v_un4, v_unR2, v_unR3, v_try, v_none, v_nil, v_for, v_kfor, v_kF_nil, v_kF_cons, v_tail, v_tail2, v_dlen2, v_while, v_kw, v_gt0, v_gts, v_up0, v_ups, v_defD, v_teq, v_teq2, List.length_cons, List.length_nil, List.cons_append, List.nil_append, List.append_nil, List.map_cons, List.map_nil, List.reduceReplicate, Nat.zero_add, Nat.reduceAdd, Bool.not_true, Bool.not_false, decide_true, decide_false, not_true_eq_false, not_false_eq_true, true_and, and_true, z10, z01, fu, fc, ff, fn, cu, cc, cf, cn, hr0, l2, ib_nat, MM]
  · have hr0 : (0 : Int) < (r : Int) := by omega
    cases c <;> cases s
    all_goals simp only [RR, s0, s1, if_true, if_false, Bool.false_eq_true] at l2
    · rw [if_neg (by simp)] at hm
      rw [hm]
      simp only [r_C, RR, s0, s1, if_true, if_false, Bool.false_eq_true, v_bnd, v_bin, v_add, v_sub, v_mul, v_div, v_mod, v_pow, v_shl, v_shr, v_and, v_xor, v_app, v_ofB, v_cmp, v_tcmp, v_eq, v_ne, v_lt, v_le, v_gt, v_ge, v_seq, v_tr_b, v_tr_i, v_tE, v_onot, v_tnot, v_not, v_neg, v_neg', v_ite, v_ite1, v_ite0, v_eand, v_eor, v_eand1, v_eand0, v_eor1, v_eor0, v_eand_i, v_eor_i, v_tand, v_tor, v_tand1, v_tand0, v_tor1, v_tor0, v_ttrue, v_tfalse, v_chain, v_var, v_int, v_bool, v_str, v_glob, v_lnil, v_lcons, v_lc, v_tup, v_lst, v_tup1, v_tup2, v_tup3, v_tup4, v_lst1, v_lst2, v_item, v_t0, v_t1, v_t2, v_t3, v_l0, v_l1, v_call, v_call', v_bits, v_bits', v_isint, v_isint', v_shift, v_shift_f, v_shift_c, v_dint, v_dabs, v_ddivmod, v_set, v_kset, v_set2, v_kset2, v_aug, v_int2, v_ret, v_kret, v_retof, v_retof', v_app_nil, v_app_cons, v_app_app, v_if, v_kif1, v_kif0, v_asrt, v_kasrt, v_un, v_unR, v_un2, v_un4, v_unR2, v_unR3, v_try, v_none, v_nil, v_for, v_kfor, v_kF_nil, v_kF_cons, v_tail, v_tail2, v_dlen2, v_while, v_kw, v_gt0, v_gts, v_up0, v_ups, v_defD, v_teq, v_teq2, List.length_cons, List.length_nil, List.cons_append, List.nil_append, List.append_nil, List.map_cons, List.map_nil, List.reduceReplicate, Nat.zero_add, Nat.reduceAdd, Bool.not_true, Bool.not_false, decide_true, decide_false, not_true_eq_false, not_false_eq_true, true_and, and_true, z10, z01, fu, fc, ff, fn, cu, cc, cf, cn, hr0, l2, ib_nat, MM]
    · rw [if_pos ⟨rfl, hr⟩] at hm
      have hw' : (w : Int) + 1 = ((m * 2 ^ t : Nat) : Int) := by omega
      simp only [r_C, RR, s0, s1, if_true, if_false, Bool.false_eq_true, v_bnd, v_bin, v_add, v_sub, v_mul, v_div, v_mod, v_pow, v_shl, v_shr, v_and, v_xor, v_app, v_ofB, v_cmp, v_tcmp, v_eq, v_ne, v_lt, v_le, v_gt, v_ge, v_seq, v_tr_b, v_tr_i, v_tE, v_onot, v_tnot, v_not, v_neg, v_neg', v_ite, v_ite1, v_ite0, v_eand, v_eor, v_eand1, v_eand0, v_eor1, v_eor0, v_eand_i, v_eor_i, v_tand, v_tor, v_tand1, v_tand0, v_tor1, v_tor0, v_ttrue, v_tfalse, v_chain, v_var, v_int, v_bool, v_str, v_glob, v_lnil, v_lcons, v_lc, v_tup, v_lst, v_tup1, v_tup2, v_tup3, v_tup4, v_lst1, v_lst2, v_item, v_t0, v_t1, v_t2, v_t3, v_l0, v_l1, v_call, v_call', v_bits, v_bits', v_isint, v_isint', v_shift, v_shift_f, v_shift_c, v_dint, v_dabs, v_ddivmod, v_set, v_kset, v_set2, v_kset2, v_aug, v_int2, v_ret, v_kret, v_retof, v_retof', v_app_nil, v_app_cons, v_app_app, v_if, v_kif1, v_kif0, v_asrt, v_kasrt, v_un, v_unR, v_un2, v_un4, v_unR2, v_unR3, v_try, v_none, v_nil, v_for, v_kfor, v_kF_nil, v_kF_cons, v_tail, v_tail2, v_dlen2, v_while, v_kw, v_gt0, v_gts, v_up0, v_ups, v_defD, v_teq, v_teq2, List.length_cons, List.length_nil, List.cons_append, List.nil_append, List.append_nil, List.map_cons, List.map_nil, List.reduceReplicate, Nat.zero_add, Nat.reduceAdd, Bool.not_true, Bool.not_false, decide_true, decide_false, not_true_eq_false, not_false_eq_true, true_and, and_true, z10, z01, fu, fc, ff, fn, cu, cc, cf, cn, hr0, hw', l2, ib_nat, MM]
    · rw [if_pos ⟨rfl, hr⟩] at hm
      have hw' : (w : Int) + 1 = ((m * 2 ^ t : Nat) : Int) := by omega
      simp only [r_C, RR, s0, s1, if_true, if_false, Bool.false_eq_true, v_bnd, v_bin, v_add, v_sub, v_mul, v_div, v_mod, v_pow, v_shl, v_shr, v_and, v_xor, v_app, v_ofB, v_cmp, v_tcmp, v_eq, v_ne, v_lt, v_le, v_gt, v_ge, v_seq, v_tr_b, v_tr_i, v_tE, v_onot, v_tnot, v_not, v_neg, v_neg', v_ite, v_ite1, v_ite0, v_eand, v_eor, v_eand1, v_eand0, v_eor1, v_eor0, v_eand_i, v_eor_i, v_tand, v_tor, v_tand1, v_tand0, v_tor1, v_tor0, v_ttrue, v_tfalse, v_chain, v_var, v_int, v_bool, v_str, v_glob, v_lnil, v_lcons, v_lc, v_tup, v_lst, v_tup1, v_tup2, v_tup3, v_tup4, v_lst1, v_lst2, v_item, v_t0, v_t1, v_t2, v_t3, v_l0, v_l1, v_call, v_call', v_bits, v_bits', v_isint, v_isint', v_shift, v_shift_f, v_shift_c, v_dint, v_dabs, v_ddivmod, v_set, v_kset, v_set2, v_kset2, v_aug, v_int2, v_ret, v_kret, v_retof, v_retof', v_app_nil, v_app_cons, v_app_app, v_if, v_kif1, v_kif0, v_asrt, v_kasrt, v_un, v_unR, v_un2, v_un4, v_unR2, v_unR3, v_try, v_none, v_nil, v_for, v_kfor, v_kF_nil, v_kF_cons, v_tail, v_tail2, v_dlen2, v_while, v_kw, v_gt0, v_gts, v_up0, v_ups, v_defD, v_teq, v_teq2, List.length_cons, List.length_nil, List.cons_append, List.nil_append, List.append_nil, List.map_cons, List.map_nil, List.reduceReplicate, Nat.zero_add, Nat.reduceAdd, Bool.not_true, Bool.not_false, decide_true, decide_false, not_true_eq_false, not_false_eq_true, true_and, and_true, z10, z01, fu, fc, ff, fn, cu, cc, cf, cn, hr0, hw', l2, ib_nat, MM]
    · rw [if_neg (by simp)] at hm
      rw [hm]
      simp only [r_C, RR, s0, s1, if_true, if_false, Bool.false_eq_true, v_bnd, v_bin, v_add, v_sub, v_mul, v_div, v_mod, v_pow, v_shl, v_shr, v_and, v_xor, v_app, v_ofB, v_cmp, v_tcmp, v_eq, v_ne, v_lt, v_le, v_gt, v_ge, v_seq, v_tr_b, v_tr_i, v_tE, v_onot, v_tnot, v_not, v_neg, v_neg', v_ite, v_ite1, v_ite0, v_eand, v_eor, v_eand1, v_eand0, v_eor1, v_eor0, v_eand_i, v_eor_i, v_tand, v_tor, v_tand1, v_tand0, v_tor1, v_tor0, v_ttrue, v_tfalse, v_chain, v_var, v_int, v_bool, v_str, v_glob, v_lnil, v_lcons, v_lc, v_tup, v_lst, v_tup1, v_tup2, v_tup3, v_tup4, v_lst1, v_lst2, v_item, v_t0, v_t1, v_t2, v_t3, v_l0, v_l1, v_call, v_call', v_bits, v_bits', v_isint, v_isint', v_shift, v_shift_f, v_shift_c, v_dint, v_dabs, v_ddivmod, v_set, v_kset, v_set2, v_kset2, v_aug, v_int2, v_ret, v_kret, v_retof, v_retof', v_app_nil, v_app_cons, v_app_app, v_if, v_kif1, v_kif0, v_asrt, v_kasrt, v_un, v_unR, v_un2, v_un4, v_unR2, v_unR3, v_try, v_none, v_nil, v_for, v_kfor, v_kF_nil, v_kF_cons, v_tail, v_tail2, v_dlen2, v_while, v_kw, v_gt0, v_gts, v_up0, v_ups, v_defD, v_teq, v_teq2, List.length_cons, List.length_nil, List.cons_append, List.nil_append, List.append_nil, List.map_cons, List.map_nil, List.reduceReplicate, Nat.zero_add, Nat.reduceAdd, Bool.not_true, Bool.not_false, decide_true, decide_false, not_true_eq_false, not_false_eq_true, true_and, and_true, z10, z01, fu, fc, ff, fn, cu, cc, cf, cn, hr0, l2, ib_nat, MM]

theorem rounded_eval (c : Bool) (f : Fr) (p : Nat) (h2 : 0 < f.2) (hp : 1 ≤ p) (hp2 : p ≤ 1000) (hB : Bd 2000 f) :
    ∃ d, RN c p f d ∧ F_law_rounded [.int f.1, .int f.2, .int p, RR c] = some d := by
  obtain ⟨a, b⟩ := f
  obtain ⟨b, rfl⟩ : ∃ n : Nat, b = (n : Int) := ⟨b.toNat, by omega⟩
  have hb : 0 < b := by omega
  have hB1 : bl a.natAbs ≤ 2000 := by rw [← ib_abs]; exact hB.1
  have hB2 : bl b ≤ 2000 := by rw [← ib_nat]; exact hB.2
  simp only
  by_cases hz : a = 0
  · subst hz
    refine ⟨d_fzero, RN_zero c p rfl, ?_⟩
    rw [F_law_rounded, D_rounded_eq]
    generalize 2 ^ 3000 = N
    simp only [r_top, v_bnd, v_bin, v_add, v_sub, v_mul, v_div, v_mod, v_pow, v_shl, v_shr, v_and, v_xor, v_app, v_ofB, v_cmp, v_tcmp, v_eq, v_ne, v_lt, v_le, v_gt, v_ge, v_seq, v_tr_b, v_tr_i, v_tE, v_onot, v_tnot, v_not, v_neg, v_neg', v_ite, v_ite1, v_ite0, v_eand, v_eor, v_eand1, v_eand0, v_eor1, v_eor0, v_eand_i, v_eor_i, v_tand, v_tor, v_tand1, v_tand0, v_tor1, v_tor0, v_ttrue, v_tfalse, v_chain, v_var, v_int, v_bool, v_str, v_glob, v_lnil, v_lcons, v_lc, v_tup, v_lst, v_tup1, v_tup2, v_tup3, v_tup4, v_lst1, v_lst2, v_item, v_t0, v_t1, v_t2, v_t3, v_l0, v_l1, v_call, v_call', v_bits, v_bits', v_isint, v_isint', v_shift, v_shift_f, v_shift_c, v_dint, v_dabs, v_ddivmod, v_set, v_kset, v_set2, v_kset2, v_aug, v_int2, v_ret, v_kret, v_retof, v_retof', v_app_nil, v_app_cons, v_app_app, v_if, v_kif1, v_kif0, v_asrt, v_kasrt, v_un, v_unR, v_un2, v_un4, v_unR2, v_unR3, v_try, v_none, v_nil, v_for, v_kfor, v_kF_nil, v_kF_cons, v_tail, v_tail2, v_dlen2, v_while, v_kw, v_gt0, v_gts, v_up0, v_ups, v_defD, v_teq, v_teq2, List.length_cons, List.length_nil, List.cons_append, List.nil_append, List.append_nil, List.map_cons, List.map_nil, List.reduceReplicate, Nat.zero_add, Nat.reduceAdd, Bool.not_true, Bool.not_false, decide_true, decide_false, not_true_eq_false, not_false_eq_true, true_and, and_true, d_fzero]
  · obtain ⟨s, hs⟩ : ∃ s, s = decide (a < 0) := ⟨_, rfl⟩
    obtain ⟨sz, hsz⟩ : ∃ sz, sz = a.natAbs := ⟨_, rfl⟩
    have hsz0 : 0 < sz := by omega
    rw [← hsz] at hB1
    obtain ⟨M, hM, hM2⟩ : ∃ M, 2 ^ 3000 = M + 3 ∧ 1024 ≤ 2 ^ 3000 := by
      have h3 : 2 ^ 10 ≤ 2 ^ 3000 := Nat.pow_le_pow_right (by decide) (by decide)
      have h4 : (2 : Nat) ^ 10 = 1024 := by decide
      generalize 2 ^ 3000 = N at *
      exact ⟨N - 3, by omega, by omega⟩
    obtain ⟨x, br, l1⟩ := r_loop1 (A := some (.int a)) (R := some (RR c)) (S := some (.int (sg s))) (Z := none) (O2 := some (.int 0)) (O3 := some (.int 1)) sz b p hsz0 hb hp hp2 hB1 hB2 M
    have hwp : 0 < sz * 2 ^ (-x).toNat / (b * 2 ^ x.toNat) := Nat.lt_of_lt_of_le (p2_pos (p - 1)) br.1
    obtain ⟨m, e, n1, n2⟩ := r_rest (c := c) (s := s) (A := some (.int a)) (B := some (.int b)) (P := some (.int p)) (Z := some (.int sz)) (O3 := some (.int (b * 2 ^ x.toNat : Nat))) (sz * 2 ^ (-x).toNat / (b * 2 ^ x.toNat)) (sz * 2 ^ (-x).toNat % (b * 2 ^ x.toNat)) x p (2 ^ 3000) hwp br.2.1 hp2 hM2
    refine ⟨MM s m e, ⟨s, m, e, rfl, .inr ⟨hz, hs, ?_⟩⟩, ?_⟩
    · show Rd p (c != s) a.natAbs (b : Int).toNat m e
      rw [← hsz, Int.toNat_natCast]
      refine ⟨_, _, _, br, ?_⟩
      have hd := Nat.div_add_mod (sz * 2 ^ (-x).toNat) (b * 2 ^ x.toNat)
      have e1 : sz * 2 ^ (-x).toNat / (b * 2 ^ x.toNat) * 2 ^ x.toNat * b = b * 2 ^ x.toNat * (sz * 2 ^ (-x).toNat / (b * 2 ^ x.toNat)) := by ac_rfl
      have e2 : (sz * 2 ^ (-x).toNat / (b * 2 ^ x.toNat) * 2 ^ x.toNat * b ≠ sz * 2 ^ (-x).toNat) ↔ sz * 2 ^ (-x).toNat % (b * 2 ^ x.toNat) ≠ 0 := by rw [e1]; omega
      rw [show ((x.toNat : Int) - (-x).toNat) = x by omega]
      simp only [e2]
      exact n1
    · have hP : PowG 2 p := PowG2 (by omega) (by omega)
      have e2 : (2 : Int) ^ (p : Int).toNat = ((2 ^ p : Nat) : Int) := by rw [Int.toNat_natCast]; push_cast; rfl
      rw [← hM] at l1
      rw [F_law_rounded, D_rounded_eq]
      by_cases q : a < 0
      · have hs' : s = true := by rw [hs]; simp [q]
        have hn : -a = (sz : Int) := by omega
        subst hs'
        simp only [sg, if_true] at l1 n2
        generalize 2 ^ 3000 = N at *
        simp only [r_top, v_bnd, v_bin, v_add, v_sub, v_mul, v_div, v_mod, v_pow, v_shl, v_shr, v_and, v_xor, v_app, v_ofB, v_cmp, v_tcmp, v_eq, v_ne, v_lt, v_le, v_gt, v_ge, v_seq, v_tr_b, v_tr_i, v_tE, v_onot, v_tnot, v_not, v_neg, v_neg', v_ite, v_ite1, v_ite0, v_eand, v_eor, v_eand1, v_eand0, v_eor1, v_eor0, v_eand_i, v_eor_i, v_tand, v_tor, v_tand1, v_tand0, v_tor1, v_tor0, v_ttrue, v_tfalse, v_chain, v_var, v_int, v_bool, v_str, v_glob, v_lnil, v_lcons, v_lc, v_tup, v_lst, v_tup1, v_tup2, v_tup3, v_tup4, v_lst1, v_lst2, v_item, v_t0, v_t1, v_t2, v_t3, v_l0, v_l1, v_call, v_call', v_bits, v_bits', v_isint, v_isint', v_shift, v_shift_f, v_shift_c, v_dint, v_dabs, v_ddivmod, v_set, v_kset, v_set2, v_kset2, v_aug, v_int2, v_ret, v_kret, v_retof, v_retof', v_app_nil, v_app_cons, v_app_app, v_if, v_kif1, v_kif0, v_asrt, v_kasrt, v_un, v_unR, v_un2, v_un4, v_unR2, v_unR3, v_try, v_none, v_nil, v_for, v_kfor, v_kF_nil, v_kF_cons, v_tail, v_tail2, v_dlen2, v_while, v_kw, v_gt0, v_gts, v_up0, v_ups, v_defD, v_teq, v_teq2, List.length_cons, List.length_nil, List.cons_append, List.nil_append, List.append_nil, List.map_cons, List.map_nil, List.reduceReplicate, Nat.zero_add, Nat.reduceAdd, Bool.not_true, Bool.not_false, decide_true, decide_false, not_true_eq_false, not_false_eq_true, true_and, and_true, hz, q, hn, hP, e2, ib_nat, l1, n2]
      · have hs' : s = false := by rw [hs]; simp [q]
        have hn : a = (sz : Int) := by omega
        subst hs'
        simp only [sg, if_false, Bool.false_eq_true] at l1 n2
        generalize 2 ^ 3000 = N at *
        rw [hn] at hz q l1 n2 ⊢
        simp only [r_top, v_bnd, v_bin, v_add, v_sub, v_mul, v_div, v_mod, v_pow, v_shl, v_shr, v_and, v_xor, v_app, v_ofB, v_cmp, v_tcmp, v_eq, v_ne, v_lt, v_le, v_gt, v_ge, v_seq, v_tr_b, v_tr_i, v_tE, v_onot, v_tnot, v_not, v_neg, v_neg', v_ite, v_ite1, v_ite0, v_eand, v_eor, v_eand1, v_eand0, v_eor1, v_eor0, v_eand_i, v_eor_i, v_tand, v_tor, v_tand1, v_tand0, v_tor1, v_tor0, v_ttrue, v_tfalse, v_chain, v_var, v_int, v_bool, v_str, v_glob, v_lnil, v_lcons, v_lc, v_tup, v_lst, v_tup1, v_tup2, v_tup3, v_tup4, v_lst1, v_lst2, v_item, v_t0, v_t1, v_t2, v_t3, v_l0, v_l1, v_call, v_call', v_bits, v_bits', v_isint, v_isint', v_shift, v_shift_f, v_shift_c, v_dint, v_dabs, v_ddivmod, v_set, v_kset, v_set2, v_kset2, v_aug, v_int2, v_ret, v_kret, v_retof, v_retof', v_app_nil, v_app_cons, v_app_app, v_if, v_kif1, v_kif0, v_asrt, v_kasrt, v_un, v_unR, v_un2, v_un4, v_unR2, v_unR3, v_try, v_none, v_nil, v_for, v_kfor, v_kF_nil, v_kF_cons, v_tail, v_tail2, v_dlen2, v_while, v_kw, v_gt0, v_gts, v_up0, v_ups, v_defD, v_teq, v_teq2, List.length_cons, List.length_nil, List.cons_append, List.nil_append, List.append_nil, List.map_cons, List.map_nil, List.reduceReplicate, Nat.zero_add, Nat.reduceAdd, Bool.not_true, Bool.not_false, decide_true, decide_false, not_true_eq_false, not_false_eq_true, true_and, and_true, hz, q, hP, e2, ib_nat, l1, n2]
end Mine

namespace Mine
set_option autoImplicit false
/-- a finite number, odd or zero -/
structure Nm where
  s : Bool
  m : Nat
  e : Int
def Nm.d (x : Nm) : D := MM x.s x.m x.e
def Nm.v (x : Nm) : Fr := nv x.s x.m x.e
def Nm.neg (x : Nm) : Nm := if x.m = 0 then x else ⟨!x.s, x.m, x.e⟩
structure Nm.Ok (k : Nat) (x : Nm) : Prop where
  odd : x.m % 2 = 1 ∨ (x.s = false ∧ x.m = 0 ∧ x.e = 0)
  bits : bl x.m ≤ k
def sgi (z : Int) : Int := if z = 0 then 0 else if z < 0 then -1 else 1
theorem Nm.pos (x : Nm) : 0 < x.v.2 := nv_pos _ _ _
theorem Nm.zero {k : Nat} {x : Nm} (h : x.Ok k) (z : x.m = 0) : x.d = d_fzero := by
  obtain ⟨s, m, e⟩ := x
  obtain ⟨h, _⟩ := h
  simp only at h z
  subst z
  rcases h with h | ⟨rfl, _, rfl⟩
  · omega
  · rfl
theorem Nm.num (x : Nm) : x.v.1 = if x.s then -((x.m * 2 ^ x.e.toNat : Nat) : Int) else ((x.m * 2 ^ x.e.toNat : Nat) : Int) := by
  show (if x.s then -(x.m : Int) else x.m) * ((2 ^ x.e.toNat : Nat) : Int) = _
  push_cast
  split
  · rw [Int.neg_mul]
  · rfl
theorem Nm.num_zero (x : Nm) : x.v.1 = 0 ↔ x.m = 0 := by
  rw [Nm.num]
  have := p2_pos x.e.toNat
  constructor
  · intro h
    have h' : x.m * 2 ^ x.e.toNat = 0 := by split at h <;> omega
    rcases Nat.mul_eq_zero.mp h' with z | z
    · exact z
    · omega
  · intro h; rw [h, Nat.zero_mul]; split <;> rfl
theorem Nm.num_neg (x : Nm) (h : 0 < x.m) : x.v.1 < 0 ↔ x.s = true := by
  rw [Nm.num]
  have := Nat.mul_pos h (p2_pos x.e.toNat)
  generalize x.m * 2 ^ x.e.toNat = g at *
  split
  · next q => simp only [q, iff_true]; omega
  · next q => simp only [q]; constructor
              · intro z; omega
              · intro z; cases z
theorem Nm.neg_v (x : Nm) : x.neg.v = (-x.v.1, x.v.2) := by
  unfold Nm.neg
  split
  · next q =>
    have := (Nm.num_zero x).mpr q
    rw [this]
    show x.v = (0, x.v.2)
    rw [← this]
  · show nv (!x.s) x.m x.e = (-(nv x.s x.m x.e).1, (nv x.s x.m x.e).2)
    unfold nv
    simp only
    cases x.s <;> simp [Int.neg_mul]
theorem Nm.neg_ok {k : Nat} {x : Nm} (h : x.Ok k) : x.neg.Ok k := by
  unfold Nm.neg
  split
  · exact h
  · next q => exact ⟨.inl (h.odd.resolve_right fun z => q z.2.1), h.bits⟩
theorem Nm.neg_eval {k : Nat} {x : Nm} (h : x.Ok k) (r : D) : F_mpf_neg [x.d, .int 0, r] = some x.neg.d := by
  unfold Nm.neg
  split
  · next q => rw [Nm.zero h q, Mine.neg_zero]
  · next q => exact Mine.neg_eval _ _ _ _ (by omega)
theorem Nm.neg1_eval {k : Nat} {x : Nm} (h : x.Ok k) : F_mpf_neg_1 [x.d] = some x.neg.d := by
  unfold Nm.neg
  split
  · next q => rw [Nm.zero h q, Mine.neg1_zero]
  · next q => exact Mine.neg1_eval _ _ _ (by omega)
theorem Nm.sign_eval {k : Nat} {x : Nm} (h : x.Ok k) : F_mpf_sign [x.d] = some (.int (sgi x.v.1)) := by
  by_cases q : x.m = 0
  · rw [Nm.zero h q, Mine.sign_zero, (Nm.num_zero x).mpr q]; rfl
  · have h1 := Nm.num_neg x (by omega)
    have h2 : ¬ x.v.1 = 0 := fun z => q ((Nm.num_zero x).mp z)
    rw [Nm.d, Mine.sign_eval _ _ _ (by omega)]
    unfold sgi
    rw [if_neg h2]
    simp only [h1]
theorem Nm.div_eval {k p : Nat} {x y : Nm} (c : Bool) (hx : x.Ok k) (hy : y.Ok k) (hk : k ≤ 4000) (h : y.v.1 ≠ 0) (hp : 1 ≤ p) (hp2 : p ≤ 1000) :
    ∃ s m e, RN c p (fov x.v y.v) (MM s m e) ∧ F_mpf_div [x.d, y.d, .int p, RR c] = some (MM s m e) := by
  have hy0 : 0 < y.m := by
    refine Nat.pos_of_ne_zero fun z => h ((Nm.num_zero y).mpr z)
  by_cases q : x.m = 0
  · refine ⟨false, 0, 0, RN_zero c p ?_, ?_⟩
    · have := (Nm.num_zero x).mpr q
      unfold fov
      split <;> simp [this]
    · rw [Nm.zero hx q, Nm.d, div_zero_eval _ _ _ _ _ hy0]; rfl
  · obtain ⟨d, h1, h2⟩ := div_RN c x.s y.s x.m y.m p x.e y.e (by omega) hy0 hp (by have := hx.bits; omega) (by have := hy.bits; omega) (by omega)
    obtain ⟨s, m, e, rfl, h3⟩ := h1
    exact ⟨s, m, e, ⟨s, m, e, rfl, h3⟩, h2⟩
theorem MM_ne_fnan (s : Bool) (m : Nat) (e : Int) : oCmp .Eq (some (MM s m e)) (some d_fnan) = some false := by
  unfold MM d_fnan
  rw [v_teq]
  congr 1
  simp
theorem sgi_pos {z : Int} (h : 0 < z) : sgi z = 1 := by unfold sgi; rw [if_neg (by omega), if_neg (by omega)]
theorem sgi_neg {z : Int} (h : z < 0) : sgi z = -1 := by unfold sgi; rw [if_neg (by omega), if_pos h]
theorem sgi_zero {z : Int} (h : z = 0) : sgi z = 0 := by unfold sgi; rw [if_pos h]
theorem fle_sign {x y : Fr} (hx : 0 < x.2) (hy : 0 < y.2) (h : fle x y) : (0 < x.1 → 0 < y.1) ∧ (0 ≤ x.1 → 0 ≤ y.1) ∧ (y.1 < 0 → x.1 < 0) ∧ (y.1 ≤ 0 → x.1 ≤ 0) := by
  unfold fle at h
  have a1 : 0 < x.1 → 0 < y.1 := fun q => by
    have := Int.mul_pos q hy
    refine Int.lt_of_not_ge fun u => ?_
    have : 0 ≤ -y.1 * x.2 := Int.mul_nonneg (by omega) (by omega)
    rw [Int.neg_mul] at this; omega
  have a2 : 0 ≤ x.1 → 0 ≤ y.1 := fun q => by
    have := Int.mul_nonneg q (Int.le_of_lt hy)
    refine Int.le_of_not_gt fun u => ?_
    have : 0 < -y.1 * x.2 := Int.mul_pos (by omega) (by omega)
    rw [Int.neg_mul] at this; omega
  exact ⟨a1, a2, fun q => by omega, fun q => by omega⟩

def DIVg (R : St → Option D) : St → Option Fl := (sCons (sUnpack [3, 4] (eVar 0)) (sCons (sUnpack [5, 6] (eVar 1)) (sCons (sSet 7 (eCall F_mpf_sign (lCons (eVar 3) lNil))) (sCons (sSet 8 (eCall F_mpf_sign (lCons (eVar 4) lNil))) (sCons (sSet 9 (eCall F_mpf_sign (lCons (eVar 5) lNil))) (sCons (sSet 10 (eCall F_mpf_sign (lCons (eVar 6) lNil))) (sCons (sIf (tChain .Eq .Eq (eVar 7) (eVar 8) (eInt 0)) (sCons (sIf (tOr (tAnd (tCmp .Lt (eVar 9) (eInt 0)) (tAnd (tCmp .Gt (eVar 10) (eInt 0)) tTrue)) (tOr (tOr (tCmp .Eq (eVar 9) (eInt 0)) (tOr (tCmp .Eq (eVar 10) (eInt 0)) tFalse)) tFalse)) (sCons (sRet (eTup (lCons (eGlob d_fninf) (lCons (eGlob d_finf) lNil)))) sNil) sNil) (sCons (sRet (eTup (lCons (eGlob d_fzero) (lCons (eGlob d_fzero) lNil)))) sNil)) sNil) (sCons (sIf (tAnd (tCmp .Lt (eVar 9) (eInt 0)) (tAnd (tCmp .Gt (eVar 10) (eInt 0)) tTrue)) (sCons (sRet (eTup (lCons (eGlob d_fninf) (lCons (eGlob d_finf) lNil)))) sNil) sNil) (sCons (sIf (tCmp .Lt (eVar 9) (eInt 0)) (sCons (sRet R) sNil) sNil) (sCons (sIf (tCmp .Eq (eVar 9) (eInt 0)) (sCons (sIf (tAnd (tCmp .Lt (eVar 7) (eInt 0)) (tAnd (tCmp .Gt (eVar 8) (eInt 0)) tTrue)) (sCons (sRet (eTup (lCons (eGlob d_fninf) (lCons (eGlob d_finf) lNil)))) sNil) sNil) (sCons (sIf (tCmp .Eq (eVar 9) (eVar 10)) (sCons (sRet (eTup (lCons (eGlob d_fninf) (lCons (eGlob d_finf) lNil)))) sNil) sNil) (sCons (sIf (tCmp .GtE (eVar 7) (eInt 0)) (sCons (sSet 11 (eCall F_mpf_div (lCons (eVar 3) (lCons (eVar 6) (lCons (eVar 2) (lCons (eGlob d_rf) lNil)))))) (sCons (sSet 12 (eGlob d_finf)) sNil)) sNil) (sCons (sIf (tCmp .LtE (eVar 8) (eInt 0)) (sCons (sSet 11 (eGlob d_fninf)) (sCons (sSet 12 (eCall F_mpf_div (lCons (eVar 4) (lCons (eVar 6) (lCons (eVar 2) (lCons (eGlob d_rc) lNil)))))) sNil)) sNil) sNil)))) (sCons (sIf (tCmp .GtE (eVar 7) (eInt 0)) (sCons (sSet 11 (eCall F_mpf_div (lCons (eVar 3) (lCons (eVar 6) (lCons (eVar 2) (lCons (eGlob d_rf) lNil)))))) (sCons (sSet 12 (eCall F_mpf_div (lCons (eVar 4) (lCons (eVar 5) (lCons (eVar 2) (lCons (eGlob d_rc) lNil)))))) (sCons (sIf (tCmp .Eq (eVar 11) (eGlob d_fnan)) (sCons (sSet 11 (eGlob d_fzero)) sNil) sNil) (sCons (sIf (tCmp .Eq (eVar 12) (eGlob d_fnan)) (sCons (sSet 12 (eGlob d_finf)) sNil) sNil) sNil)))) (sCons (sIf (tCmp .LtE (eVar 8) (eInt 0)) (sCons (sSet 11 (eCall F_mpf_div (lCons (eVar 3) (lCons (eVar 5) (lCons (eVar 2) (lCons (eGlob d_rf) lNil)))))) (sCons (sSet 12 (eCall F_mpf_div (lCons (eVar 4) (lCons (eVar 6) (lCons (eVar 2) (lCons (eGlob d_rc) lNil)))))) (sCons (sIf (tCmp .Eq (eVar 11) (eGlob d_fnan)) (sCons (sSet 11 (eGlob d_fninf)) sNil) sNil) (sCons (sIf (tCmp .Eq (eVar 12) (eGlob d_fnan)) (sCons (sSet 12 (eGlob d_fzero)) sNil) sNil) sNil)))) (sCons (sSet 11 (eCall F_mpf_div (lCons (eVar 3) (lCons (eVar 5) (lCons (eVar 2) (lCons (eGlob d_rf) lNil)))))) (sCons (sSet 12 (eCall F_mpf_div (lCons (eVar 4) (lCons (eVar 5) (lCons (eVar 2) (lCons (eGlob d_rc) lNil)))))) (sCons (sIf (tCmp .Eq (eVar 11) (eGlob d_fnan)) (sCons (sSet 11 (eGlob d_fninf)) sNil) sNil) (sCons (sIf (tCmp .Eq (eVar 12) (eGlob d_fnan)) (sCons (sSet 12 (eGlob d_finf)) sNil) sNil) sNil))))) sNil)) sNil)) (sCons (sRet (eTup (lCons (eVar 11) (lCons (eVar 12) lNil)))) sNil)))))))))))
theorem D_div0_eq : D_mpi_div0 = DIVg eNone := rfl
theorem D_div_eq : D_mpi_div = DIVg (eCall F_mpi_div0 (lCons (eCall F_mpi_neg_1 (lCons (eVar 0) lNil)) (lCons (eCall F_mpi_neg_1 (lCons (eVar 1) lNil)) (lCons (eVar 2) lNil)))) := rfl
def divS (a b : D) (p : Nat) : St := [some a, some b, some (.int p), none, none, none, none, none, none, none, none, none, none]

/-- what is told for a divisor without zero: the outermost quotients, rounded outward -/
def Told (p : Nat) (sa sb ta tb : Fr) (r : Option D) : Prop :=
  ∃ d1 d2 l u, r = some (.tup [d1, d2]) ∧ RN false p l d1 ∧ RN true p u d2 ∧ l ∈ [fov sa ta, fov sa tb, fov sb ta, fov sb tb] ∧ u ∈ [fov sa ta, fov sa tb, fov sb ta, fov sb tb] ∧
    ∀ q ∈ [fov sa ta, fov sa tb, fov sb ta, fov sb tb], fle l q ∧ fle q u

theorem div_pos {k p : Nat} {sa sb ta tb : Nm} {R : St → Option D} (h1 : sa.Ok k) (h2 : sb.Ok k) (h3 : ta.Ok k) (h4 : tb.Ok k) (hk : k ≤ 4000) (hp : 1 ≤ p) (hp2 : p ≤ 1000)
    (hs : fle sa.v sb.v) (ht : fle ta.v tb.v) (h : 0 < ta.v.1) : Told p sa.v sb.v ta.v tb.v (retOf (DIVg R (divS (.tup [sa.d, sb.d]) (.tup [ta.d, tb.d]) p))) := by
  have pa := sa.pos
  have pb := sb.pos
  have pc := ta.pos
  have pd := tb.pos
  have htb : 0 < tb.v.1 := (fle_sign pc pd ht).1 h
  have e1 := Nm.sign_eval h1
  have e2 := Nm.sign_eval h2
  have e3 := Nm.sign_eval h3
  have e4 := Nm.sign_eval h4
  rw [sgi_pos h] at e3
  rw [sgi_pos htb] at e4
  have qd : ∀ x : Nm, 0 < (fov x.v ta.v).2 ∧ 0 < (fov x.v tb.v).2 := fun x => ⟨fov_den x.pos (by omega), fov_den x.pos (by omega)⟩
  have mA := fov_M1 (b := ta.v) pa pb h pc hs
  have mB := fov_M1 (b := tb.v) pa pb htb pd hs
  by_cases c1 : 0 ≤ sa.v.1
  · have c2 := (fle_sign pa pb hs).2.1 c1
    have mC := fov_M2 pa h htb c1 ht
    have mD := fov_M2 pb h htb c2 ht
    obtain ⟨s, m, e, r1, f1⟩ := Nm.div_eval false h1 h4 hk (by omega) hp hp2
    obtain ⟨s', m', e', r2, f2⟩ := Nm.div_eval true h2 h3 hk (by omega) hp hp2
    simp only [RR, if_true, if_false, Bool.false_eq_true] at f1 f2
    have ord : ∀ q ∈ [fov sa.v ta.v, fov sa.v tb.v, fov sb.v ta.v, fov sb.v tb.v], fle (fov sa.v tb.v) q ∧ fle q (fov sb.v ta.v) := by
      intro q hq
      simp only [List.mem_cons, List.not_mem_nil, or_false] at hq
      rcases hq with rfl | rfl | rfl | rfl
      · exact ⟨mC, mA⟩
      · exact ⟨fle_refl _, fle_trans (qd sa).2 (qd sa).1 (qd sb).1 mC mA⟩
      · exact ⟨fle_trans (qd sa).2 (qd sa).1 (qd sb).1 mC mA, fle_refl _⟩
      · exact ⟨mB, mD⟩
    by_cases z1 : sa.v.1 = 0
    · rw [sgi_zero z1] at e1
      by_cases z2 : sb.v.1 = 0
      · rw [sgi_zero z2] at e2
        refine ⟨d_fzero, d_fzero, _, _, ?_, RN_zero _ _ ?_, RN_zero _ _ ?_, ?_, ?_, ord⟩
        · simp only [DIVg, divS, v_bnd, v_bin, v_add, v_sub, v_mul, v_div, v_mod, v_pow, v_shl, v_shr, v_and, v_xor, v_app, v_ofB, v_cmp, v_tcmp, v_eq, v_ne, v_lt, v_le, v_gt, v_ge, v_seq, v_tr_b, v_tr_i, v_tE, v_onot, v_tnot, v_not, v_neg, v_neg', v_ite, v_ite1, v_ite0, v_eand, v_eor, v_eand1, v_eand0, v_eor1, v_eor0, v_eand_i, v_eor_i, v_tand, v_tor, v_tand1, v_tand0, v_tor1, v_tor0, v_ttrue, v_tfalse, v_chain, v_var, v_int, v_bool, v_str, v_glob, v_lnil, v_lcons, v_lc, v_tup, v_lst, v_tup1, v_tup2, v_tup3, v_tup4, v_lst1, v_lst2, v_item, v_t0, v_t1, v_t2, v_t3, v_l0, v_l1, v_call, v_call', v_bits, v_bits', v_isint, v_isint', v_shift, v_shift_f, v_shift_c, v_dint, v_dabs, v_ddivmod, v_set, v_kset, v_set2, v_kset2, v_aug, v_int2, v_ret, v_kret, v_retof, v_retof', v_app_nil, v_app_cons, v_app_app, v_if, v_kif1, v_kif0, v_asrt, v_kasrt, v_un, v_unR, v_un2, v_un4, v_unR2, v_unR3, v_try, v_none, v_nil, v_for, v_kfor, v_kF_nil, v_kF_cons, v_tail, v_tail2, v_dlen2, v_while, v_kw, v_gt0, v_gts, v_up0, v_ups, v_defD, v_teq, v_teq2, List.length_cons, List.length_nil, List.cons_append, List.nil_append, List.append_nil, List.map_cons, List.map_nil, List.reduceReplicate, Nat.zero_add, Nat.reduceAdd, Bool.not_true, Bool.not_false, decide_true, decide_false, not_true_eq_false, not_false_eq_true, true_and, and_true, Int.reduceEq, Int.reduceLT, Int.reduceLE, Int.reduceNeg, e1, e2, e3, e4]
        · unfold fov; split <;> simp [z1]
        · unfold fov; split <;> simp [z2]
        · simp
        · simp
      · rw [sgi_pos (by omega)] at e2
        refine ⟨_, _, _, _, ?_, r1, r2, ?_, ?_, ord⟩
        · simp only [DIVg, divS, v_bnd, v_bin, v_add, v_sub, v_mul, v_div, v_mod, v_pow, v_shl, v_shr, v_and, v_xor, v_app, v_ofB, v_cmp, v_tcmp, v_eq, v_ne, v_lt, v_le, v_gt, v_ge, v_seq, v_tr_b, v_tr_i, v_tE, v_onot, v_tnot, v_not, v_neg, v_neg', v_ite, v_ite1, v_ite0, v_eand, v_eor, v_eand1, v_eand0, v_eor1, v_eor0, v_eand_i, v_eor_i, v_tand, v_tor, v_tand1, v_tand0, v_tor1, v_tor0, v_ttrue, v_tfalse, v_chain, v_var, v_int, v_bool, v_str, v_glob, v_lnil, v_lcons, v_lc, v_tup, v_lst, v_tup1, v_tup2, v_tup3, v_tup4, v_lst1, v_lst2, v_item, v_t0, v_t1, v_t2, v_t3, v_l0, v_l1, v_call, v_call', v_bits, v_bits', v_isint, v_isint', v_shift, v_shift_f, v_shift_c, v_dint, v_dabs, v_ddivmod, v_set, v_kset, v_set2, v_kset2, v_aug, v_int2, v_ret, v_kret, v_retof, v_retof', v_app_nil, v_app_cons, v_app_app, v_if, v_kif1, v_kif0, v_asrt, v_kasrt, v_un, v_unR, v_un2, v_un4, v_unR2, v_unR3, v_try, v_none, v_nil, v_for, v_kfor, v_kF_nil, v_kF_cons, v_tail, v_tail2, v_dlen2, v_while, v_kw, v_gt0, v_gts, v_up0, v_ups, v_defD, v_teq, v_teq2, List.length_cons, List.length_nil, List.cons_append, List.nil_append, List.append_nil, List.map_cons, List.map_nil, List.reduceReplicate, Nat.zero_add, Nat.reduceAdd, Bool.not_true, Bool.not_false, decide_true, decide_false, not_true_eq_false, not_false_eq_true, true_and, and_true, Int.reduceEq, Int.reduceLT, Int.reduceLE, Int.reduceNeg, e1, e2, e3, e4, d_rf, d_rc, f1, f2, MM_ne_fnan]
        · simp
        · simp
    · rw [sgi_pos (by omega)] at e1
      rw [sgi_pos ((fle_sign pa pb hs).1 (by omega))] at e2
      refine ⟨_, _, _, _, ?_, r1, r2, ?_, ?_, ord⟩
      · simp only [DIVg, divS, v_bnd, v_bin, v_add, v_sub, v_mul, v_div, v_mod, v_pow, v_shl, v_shr, v_and, v_xor, v_app, v_ofB, v_cmp, v_tcmp, v_eq, v_ne, v_lt, v_le, v_gt, v_ge, v_seq, v_tr_b, v_tr_i, v_tE, v_onot, v_tnot, v_not, v_neg, v_neg', v_ite, v_ite1, v_ite0, v_eand, v_eor, v_eand1, v_eand0, v_eor1, v_eor0, v_eand_i, v_eor_i, v_tand, v_tor, v_tand1, v_tand0, v_tor1, v_tor0, v_ttrue, v_tfalse, v_chain, v_var, v_int, v_bool, v_str, v_glob, v_lnil, v_lcons, v_lc, v_tup, v_lst, v_tup1, v_tup2, v_tup3, v_tup4, v_lst1, v_lst2, v_item, v_t0, v_t1, v_t2, v_t3, v_l0, v_l1, v_call, v_call', v_bits, v_bits', v_isint, v_isint', v_shift, v_shift_f, v_shift_c, v_dint, v_dabs, v_ddivmod, v_set, v_kset, v_set2, v_kset2, v_aug, v_int2, v_ret, v_kret, v_retof, v_retof', v_app_nil, v_app_cons, v_app_app, v_if, v_kif1, v_kif0, v_asrt, v_kasrt, v_un, v_unR, v_un2, v_un4, v_unR2, v_unR3, v_try, v_none, v_nil, v_for, v_kfor, v_kF_nil, v_kF_cons, v_tail, v_tail2, v_dlen2, v_while, v_kw, v_gt0, v_gts, v_up0, v_ups, v_defD, v_teq, v_teq2, List.length_cons, List.length_nil, List.cons_append, List.nil_append, List.append_nil, List.map_cons, List.map_nil, List.reduceReplicate, Nat.zero_add, Nat.reduceAdd, Bool.not_true, Bool.not_false, decide_true, decide_false, not_true_eq_false, not_false_eq_true, true_and, and_true, Int.reduceEq, Int.reduceLT, Int.reduceLE, Int.reduceNeg, e1, e2, e3, e4, d_rf, d_rc, f1, f2, MM_ne_fnan]
      · simp
      · simp
  · rw [sgi_neg (by omega)] at e1
    have mC := fov_M3 pa h htb (by omega) ht
    by_cases c2 : 0 < sb.v.1
    · rw [sgi_pos c2] at e2
      have mD := fov_M2 pb h htb (by omega) ht
      obtain ⟨s, m, e, r1, f1⟩ := Nm.div_eval false h1 h3 hk (by omega) hp hp2
      obtain ⟨s', m', e', r2, f2⟩ := Nm.div_eval true h2 h3 hk (by omega) hp hp2
      simp only [RR, if_true, if_false, Bool.false_eq_true] at f1 f2
      refine ⟨_, _, _, _, ?_, r1, r2, ?_, ?_, ?_⟩
      · simp only [DIVg, divS, v_bnd, v_bin, v_add, v_sub, v_mul, v_div, v_mod, v_pow, v_shl, v_shr, v_and, v_xor, v_app, v_ofB, v_cmp, v_tcmp, v_eq, v_ne, v_lt, v_le, v_gt, v_ge, v_seq, v_tr_b, v_tr_i, v_tE, v_onot, v_tnot, v_not, v_neg, v_neg', v_ite, v_ite1, v_ite0, v_eand, v_eor, v_eand1, v_eand0, v_eor1, v_eor0, v_eand_i, v_eor_i, v_tand, v_tor, v_tand1, v_tand0, v_tor1, v_tor0, v_ttrue, v_tfalse, v_chain, v_var, v_int, v_bool, v_str, v_glob, v_lnil, v_lcons, v_lc, v_tup, v_lst, v_tup1, v_tup2, v_tup3, v_tup4, v_lst1, v_lst2, v_item, v_t0, v_t1, v_t2, v_t3, v_l0, v_l1, v_call, v_call', v_bits, v_bits', v_isint, v_isint', v_shift, v_shift_f, v_shift_c, v_dint, v_dabs, v_ddivmod, v_set, v_kset, v_set2, v_kset2, v_aug, v_int2, v_ret, v_kret, v_retof, v_retof', v_app_nil, v_app_cons, v_app_app, v_if, v_kif1, v_kif0, v_asrt, v_kasrt, v_un, v_unR, v_un2, v_un4, v_unR2, v_unR3, v_try, v_none, v_nil, v_for, v_kfor, v_kF_nil, v_kF_cons, v_tail, v_tail2, v_dlen2, v_while, v_kw, v_gt0, v_gts, v_up0, v_ups, v_defD, v_teq, v_teq2, List.length_cons, List.length_nil, List.cons_append, List.nil_append, List.append_nil, List.map_cons, List.map_nil, List.reduceReplicate, Nat.zero_add, Nat.reduceAdd, Bool.not_true, Bool.not_false, decide_true, decide_false, not_true_eq_false, not_false_eq_true, true_and, and_true, Int.reduceEq, Int.reduceLT, Int.reduceLE, Int.reduceNeg, e1, e2, e3, e4, d_rf, d_rc, f1, f2, MM_ne_fnan]
      · simp
      · simp
      · intro q hq
        simp only [List.mem_cons, List.not_mem_nil, or_false] at hq
        rcases hq with rfl | rfl | rfl | rfl
        · exact ⟨fle_refl _, mA⟩
        · exact ⟨mC, fle_trans (qd sa).2 (qd sb).2 (qd sb).1 mB mD⟩
        · exact ⟨mA, fle_refl _⟩
        · exact ⟨fle_trans (qd sa).1 (qd sa).2 (qd sb).2 mC mB, mD⟩
    · have mD := fov_M3 pb h htb (by omega) ht
      obtain ⟨s, m, e, r1, f1⟩ := Nm.div_eval false h1 h3 hk (by omega) hp hp2
      obtain ⟨s', m', e', r2, f2⟩ := Nm.div_eval true h2 h4 hk (by omega) hp hp2
      simp only [RR, if_true, if_false, Bool.false_eq_true] at f1 f2
      have ord : ∀ q ∈ [fov sa.v ta.v, fov sa.v tb.v, fov sb.v ta.v, fov sb.v tb.v], fle (fov sa.v ta.v) q ∧ fle q (fov sb.v tb.v) := by
        intro q hq
        simp only [List.mem_cons, List.not_mem_nil, or_false] at hq
        rcases hq with rfl | rfl | rfl | rfl
        · exact ⟨fle_refl _, fle_trans (qd sa).1 (qd sa).2 (qd sb).2 mC mB⟩
        · exact ⟨mC, mB⟩
        · exact ⟨mA, mD⟩
        · exact ⟨fle_trans (qd sa).1 (qd sa).2 (qd sb).2 mC mB, fle_refl _⟩
      by_cases z2 : sb.v.1 = 0
      · rw [sgi_zero z2] at e2
        refine ⟨_, _, _, _, ?_, r1, r2, ?_, ?_, ord⟩
        · simp only [DIVg, divS, v_bnd, v_bin, v_add, v_sub, v_mul, v_div, v_mod, v_pow, v_shl, v_shr, v_and, v_xor, v_app, v_ofB, v_cmp, v_tcmp, v_eq, v_ne, v_lt, v_le, v_gt, v_ge, v_seq, v_tr_b, v_tr_i, v_tE, v_onot, v_tnot, v_not, v_neg, v_neg', v_ite, v_ite1, v_ite0, v_eand, v_eor, v_eand1, v_eand0, v_eor1, v_eor0, v_eand_i, v_eor_i, v_tand, v_tor, v_tand1, v_tand0, v_tor1, v_tor0, v_ttrue, v_tfalse, v_chain, v_var, v_int, v_bool, v_str, v_glob, v_lnil, v_lcons, v_lc, v_tup, v_lst, v_tup1, v_tup2, v_tup3, v_tup4, v_lst1, v_lst2, v_item, v_t0, v_t1, v_t2, v_t3, v_l0, v_l1, v_call, v_call', v_bits, v_bits', v_isint, v_isint', v_shift, v_shift_f, v_shift_c, v_dint, v_dabs, v_ddivmod, v_set, v_kset, v_set2, v_kset2, v_aug, v_int2, v_ret, v_kret, v_retof, v_retof', v_app_nil, v_app_cons, v_app_app, v_if, v_kif1, v_kif0, v_asrt, v_kasrt, v_un, v_unR, v_un2, v_un4, v_unR2, v_unR3, v_try, v_none, v_nil, v_for, v_kfor, v_kF_nil, v_kF_cons, v_tail, v_tail2, v_dlen2, v_while, v_kw, v_gt0, v_gts, v_up0, v_ups, v_defD, v_teq, v_teq2, List.length_cons, List.length_nil, List.cons_append, List.nil_append, List.append_nil, List.map_cons, List.map_nil, List.reduceReplicate, Nat.zero_add, Nat.reduceAdd, Bool.not_true, Bool.not_false, decide_true, decide_false, not_true_eq_false, not_false_eq_true, true_and, and_true, Int.reduceEq, Int.reduceLT, Int.reduceLE, Int.reduceNeg, e1, e2, e3, e4, d_rf, d_rc, f1, f2, MM_ne_fnan]
        · simp
        · simp
      · rw [sgi_neg (by omega)] at e2
        refine ⟨_, _, _, _, ?_, r1, r2, ?_, ?_, ord⟩
        · simp only [DIVg, divS, v_bnd, v_bin, v_add, v_sub, v_mul, v_div, v_mod, v_pow, v_shl, v_shr, v_and, v_xor, v_app, v_ofB, v_cmp, v_tcmp, v_eq, v_ne, v_lt, v_le, v_gt, v_ge, v_seq, v_tr_b, v_tr_i, v_tE, v_onot, v_tnot, v_not, v_neg, v_neg', v_ite, v_ite1, v_ite0, v_eand, v_eor, v_eand1, v_eand0, v_eor1, v_eor0, v_eand_i, v_eor_i, v_tand, v_tor, v_tand1, v_tand0, v_tor1, v_tor0, v_ttrue, v_tfalse, v_chain, v_var, v_int, v_bool, v_str, v_glob, v_lnil, v_lcons, v_lc, v_tup, v_lst, v_tup1, v_tup2, v_tup3, v_tup4, v_lst1, v_lst2, v_item, v_t0, v_t1, v_t2, v_t3, v_l0, v_l1, v_call, v_call', v_bits, v_bits', v_isint, v_isint', v_shift, v_shift_f, v_shift_c, v_dint, v_dabs, v_ddivmod, v_set, v_kset, v_set2, v_kset2, v_aug, v_int2, v_ret, v_kret, v_retof, v_retof', v_app_nil, v_app_cons, v_app_app, v_if, v_kif1, v_kif0, v_asrt, v_kasrt, v_un, v_unR, v_un2, v_un4, v_unR2, v_unR3, v_try, v_none, v_nil, v_for, v_kfor, v_kF_nil, v_kF_cons, v_tail, v_tail2, v_dlen2, v_while, v_kw, v_gt0, v_gts, v_up0, v_ups, v_defD, v_teq, v_teq2, List.length_cons, List.length_nil, List.cons_append, List.nil_append, List.append_nil, List.map_cons, List.map_nil, List.reduceReplicate, Nat.zero_add, Nat.reduceAdd, Bool.not_true, Bool.not_false, decide_true, decide_false, not_true_eq_false, not_false_eq_true, true_and, and_true, Int.reduceEq, Int.reduceLT, Int.reduceLE, Int.reduceNeg, e1, e2, e3, e4, d_rf, d_rc, f1, f2, MM_ne_fnan]
        · simp
        · simp
end Mine

namespace Mine
set_option autoImplicit false
theorem F_div_eq (S T : D) (p : Nat) : F_mpi_div [S, T, .int p] = retOf (DIVg (eCall F_mpi_div0 (lCons (eCall F_mpi_neg_1 (lCons (eVar 0) lNil)) (lCons (eCall F_mpi_neg_1 (lCons (eVar 1) lNil)) (lCons (eVar 2) lNil)))) (divS S T p)) := by
  simp only [F_mpi_div, D_div_eq, v_bnd, v_bin, v_add, v_sub, v_mul, v_div, v_mod, v_pow, v_shl, v_shr, v_and, v_xor, v_app, v_ofB, v_cmp, v_tcmp, v_eq, v_ne, v_lt, v_le, v_gt, v_ge, v_seq, v_tr_b, v_tr_i, v_tE, v_onot, v_tnot, v_not, v_neg, v_neg', v_ite, v_ite1, v_ite0, v_eand, v_eor, v_eand1, v_eand0, v_eor1, v_eor0, v_eand_i, v_eor_i, v_tand, v_tor, v_tand1, v_tand0, v_tor1, v_tor0, v_ttrue, v_tfalse, v_chain, v_var, v_int, v_bool, v_str, v_glob, v_lnil, v_lcons, v_lc, v_tup, v_lst, v_tup1, v_tup2, v_tup3, v_tup4, v_lst1, v_lst2, v_item, v_t0, v_t1, v_t2, v_t3, v_l0, v_l1, v_call, v_call', v_bits, v_bits', v_isint, v_isint', v_shift, v_shift_f, v_shift_c, v_dint, v_dabs, v_ddivmod, v_set, v_kset, v_set2, v_kset2, v_aug, v_int2, v_ret, v_kret, v_retof, v_retof', v_app_nil, v_app_cons, v_app_app, v_if, v_kif1, v_kif0, v_asrt, v_kasrt, v_un, v_unR, v_un2, v_un4, v_unR2, v_unR3, v_try, v_none, v_nil, v_for, v_kfor, v_kF_nil, v_kF_cons, v_tail, v_tail2, v_dlen2, v_while, v_kw, v_gt0, v_gts, v_up0, v_ups, v_defD, v_teq, v_teq2, List.length_cons, List.length_nil, List.cons_append, List.nil_append, List.append_nil, List.map_cons, List.map_nil, List.reduceReplicate, Nat.zero_add, Nat.reduceAdd, Bool.not_true, Bool.not_false, decide_true, decide_false, not_true_eq_false, not_false_eq_true, true_and, and_true, divS]
theorem F_div0_eq (S T : D) (p : Nat) : F_mpi_div0 [S, T, .int p] = retOf (DIVg eNone (divS S T p)) := by
  simp only [F_mpi_div0, D_div0_eq, v_bnd, v_bin, v_add, v_sub, v_mul, v_div, v_mod, v_pow, v_shl, v_shr, v_and, v_xor, v_app, v_ofB, v_cmp, v_tcmp, v_eq, v_ne, v_lt, v_le, v_gt, v_ge, v_seq, v_tr_b, v_tr_i, v_tE, v_onot, v_tnot, v_not, v_neg, v_neg', v_ite, v_ite1, v_ite0, v_eand, v_eor, v_eand1, v_eand0, v_eor1, v_eor0, v_eand_i, v_eor_i, v_tand, v_tor, v_tand1, v_tand0, v_tor1, v_tor0, v_ttrue, v_tfalse, v_chain, v_var, v_int, v_bool, v_str, v_glob, v_lnil, v_lcons, v_lc, v_tup, v_lst, v_tup1, v_tup2, v_tup3, v_tup4, v_lst1, v_lst2, v_item, v_t0, v_t1, v_t2, v_t3, v_l0, v_l1, v_call, v_call', v_bits, v_bits', v_isint, v_isint', v_shift, v_shift_f, v_shift_c, v_dint, v_dabs, v_ddivmod, v_set, v_kset, v_set2, v_kset2, v_aug, v_int2, v_ret, v_kret, v_retof, v_retof', v_app_nil, v_app_cons, v_app_app, v_if, v_kif1, v_kif0, v_asrt, v_kasrt, v_un, v_unR, v_un2, v_un4, v_unR2, v_unR3, v_try, v_none, v_nil, v_for, v_kfor, v_kF_nil, v_kF_cons, v_tail, v_tail2, v_dlen2, v_while, v_kw, v_gt0, v_gts, v_up0, v_ups, v_defD, v_teq, v_teq2, List.length_cons, List.length_nil, List.cons_append, List.nil_append, List.append_nil, List.map_cons, List.map_nil, List.reduceReplicate, Nat.zero_add, Nat.reduceAdd, Bool.not_true, Bool.not_false, decide_true, decide_false, not_true_eq_false, not_false_eq_true, true_and, and_true, divS]
theorem neg1_pair {k : Nat} {sa sb : Nm} (h1 : sa.Ok k) (h2 : sb.Ok k) : F_mpi_neg_1 [.tup [sa.d, sb.d]] = some (.tup [sb.neg.d, sa.neg.d]) := by
  have e1 := Nm.neg_eval h1 (.str (Str.ofString "c"))
  have e2 := Nm.neg_eval h2 (.str (Str.ofString "f"))
  simp only [F_mpi_neg_1, D_mpi_neg, v_bnd, v_bin, v_add, v_sub, v_mul, v_div, v_mod, v_pow, v_shl, v_shr, v_and, v_xor, v_app, v_ofB, v_cmp, v_tcmp, v_eq, v_ne, v_lt, v_le, v_gt, v_ge, v_seq, v_tr_b, v_tr_i, v_tE, v_onot, v_tnot, v_not, v_neg, v_neg', v_ite, v_ite1, v_ite0, v_eand, v_eor, v_eand1, v_eand0, v_eor1, v_eor0, v_eand_i, v_eor_i, v_tand, v_tor, v_tand1, v_tand0, v_tor1, v_tor0, v_ttrue, v_tfalse, v_chain, v_var, v_int, v_bool, v_str, v_glob, v_lnil, v_lcons, v_lc, v_tup, v_lst, v_tup1, v_tup2, v_tup3, v_tup4, v_lst1, v_lst2, v_item, v_t0, v_t1, v_t2, v_t3, v_l0, v_l1, v_call, v_call', v_bits, v_bits', v_isint, v_isint', v_shift, v_shift_f, v_shift_c, v_dint, v_dabs, v_ddivmod, v_set, v_kset, v_set2, v_kset2, v_aug, v_int2, v_ret, v_kret, v_retof, v_retof', v_app_nil, v_app_cons, v_app_app, v_if, v_kif1, v_kif0, v_asrt, v_kasrt, v_un, v_unR, v_un2, v_un4, v_unR2, v_unR3, v_try, v_none, v_nil, v_for, v_kfor, v_kF_nil, v_kF_cons, v_tail, v_tail2, v_dlen2, v_while, v_kw, v_gt0, v_gts, v_up0, v_ups, v_defD, v_teq, v_teq2, List.length_cons, List.length_nil, List.cons_append, List.nil_append, List.append_nil, List.map_cons, List.map_nil, List.reduceReplicate, Nat.zero_add, Nat.reduceAdd, Bool.not_true, Bool.not_false, decide_true, decide_false, not_true_eq_false, not_false_eq_true, true_and, and_true, d_rf, d_rc, e1, e2]
theorem fle_neg {x y : Nm} (h : fle x.v y.v) : fle y.neg.v x.neg.v := by
  rw [Nm.neg_v, Nm.neg_v]
  unfold fle at *
  simp only
  rw [Int.neg_mul, Int.neg_mul]
  omega
theorem fov_neg' {x y : Nm} (h : y.v.1 ≠ 0) : fov x.neg.v y.neg.v = fov x.v y.v := by
  rw [Nm.neg_v, Nm.neg_v]
  exact fov_neg _ _ x.pos h
theorem neg_num (x : Nm) : x.neg.v.1 = -x.v.1 := by rw [Nm.neg_v]
def dInf : D := .tup [d_fninf, d_finf]

section
variable {k p : Nat} {sa sb ta tb : Nm} (h1 : sa.Ok k) (h2 : sb.Ok k) (h3 : ta.Ok k) (h4 : tb.Ok k) (hk : k ≤ 4000) (hp : 1 ≤ p) (hp2 : p ≤ 1000) (hs : fle sa.v sb.v) (ht : fle ta.v tb.v)
include h1 h2 h3 h4 hk hp hp2 hs ht
theorem div_away (h : 0 < ta.v.1 ∨ tb.v.1 < 0) : Told p sa.v sb.v ta.v tb.v (F_mpi_div [.tup [sa.d, sb.d], .tup [ta.d, tb.d], .int p]) := by
  rcases h with h | h
  · rw [F_div_eq]
    exact div_pos h1 h2 h3 h4 hk hp hp2 hs ht h
  · have hta : ta.v.1 < 0 := (fle_sign ta.pos tb.pos ht).2.2.1 h
    have n1 := neg1_pair h1 h2
    have n2 := neg1_pair h3 h4
    have e1 := Nm.sign_eval h1
    have e2 := Nm.sign_eval h2
    have e3 := Nm.sign_eval h3
    have e4 := Nm.sign_eval h4
    rw [sgi_neg hta] at e3
    rw [sgi_neg h] at e4
    have T := div_pos (R := eNone) (Nm.neg_ok h2) (Nm.neg_ok h1) (Nm.neg_ok h4) (Nm.neg_ok h3) hk hp hp2 (fle_neg hs) (fle_neg ht) (by rw [neg_num]; omega)
    rw [← F_div0_eq] at T
    obtain ⟨d1, d2, l, u, f, r1, r2, l1, u1, ord⟩ := T
    rw [fov_neg' (by omega), fov_neg' (by omega), fov_neg' (by omega), fov_neg' (by omega)] at l1 u1 ord
    have mem : ∀ q, q ∈ [fov sb.v tb.v, fov sb.v ta.v, fov sa.v tb.v, fov sa.v ta.v] ↔ q ∈ [fov sa.v ta.v, fov sa.v tb.v, fov sb.v ta.v, fov sb.v tb.v] := by
      intro q
      simp only [List.mem_cons, List.not_mem_nil, or_false]
      constructor <;> (intro h; rcases h with h | h | h | h <;> simp [h])
    by_cases z : sa.v.1 = 0 ∧ sb.v.1 = 0
    · rw [sgi_zero z.1] at e1
      rw [sgi_zero z.2] at e2
      have zero : ∀ x y : Fr, x.1 = 0 → (fov x y).1 = 0 := by
        intro x y h; unfold fov; split <;> simp [h]
      refine ⟨d_fzero, d_fzero, fov sa.v ta.v, fov sa.v ta.v, ?_, RN_zero _ _ (zero _ _ z.1), RN_zero _ _ (zero _ _ z.1), by simp, by simp, ?_⟩
      · rw [F_div_eq]
        simp only [DIVg, divS, v_bnd, v_bin, v_add, v_sub, v_mul, v_div, v_mod, v_pow, v_shl, v_shr, v_and, v_xor, v_app, v_ofB, v_cmp, v_tcmp, v_eq, v_ne, v_lt, v_le, v_gt, v_ge, v_seq, v_tr_b, v_tr_i, v_tE, v_onot, v_tnot, v_not, v_neg, v_neg', v_ite, v_ite1, v_ite0, v_eand, v_eor, v_eand1, v_eand0, v_eor1, v_eor0, v_eand_i, v_eor_i, v_tand, v_tor, v_tand1, v_tand0, v_tor1, v_tor0, v_ttrue, v_tfalse, v_chain, v_var, v_int, v_bool, v_str, v_glob, v_lnil, v_lcons, v_lc, v_tup, v_lst, v_tup1, v_tup2, v_tup3, v_tup4, v_lst1, v_lst2, v_item, v_t0, v_t1, v_t2, v_t3, v_l0, v_l1, v_call, v_call', v_bits, v_bits', v_isint, v_isint', v_shift, v_shift_f, v_shift_c, v_dint, v_dabs, v_ddivmod, v_set, v_kset, v_set2, v_kset2, v_aug, v_int2, v_ret, v_kret, v_retof, v_retof', v_app_nil, v_app_cons, v_app_app, v_if, v_kif1, v_kif0, v_asrt, v_kasrt, v_un, v_unR, v_un2, v_un4, v_unR2, v_unR3, v_try, v_none, v_nil, v_for, v_kfor, v_kF_nil, v_kF_cons, v_tail, v_tail2, v_dlen2, v_while, v_kw, v_gt0, v_gts, v_up0, v_ups, v_defD, v_teq, v_teq2, List.length_cons, List.length_nil, List.cons_append, List.nil_append, List.append_nil, List.map_cons, List.map_nil, List.reduceReplicate, Nat.zero_add, Nat.reduceAdd, Bool.not_true, Bool.not_false, decide_true, decide_false, not_true_eq_false, not_false_eq_true, true_and, and_true, Int.reduceEq, Int.reduceLT, Int.reduceLE, Int.reduceNeg, e1, e2, e3, e4]
      · intro q hq
        have hq0 : q.1 = 0 := by
          simp only [List.mem_cons, List.not_mem_nil, or_false] at hq
          rcases hq with rfl | rfl | rfl | rfl
          · exact zero _ _ z.1
          · exact zero _ _ z.1
          · exact zero _ _ z.2
          · exact zero _ _ z.2
        unfold fle
        rw [zero _ _ z.1, hq0, Int.zero_mul, Int.zero_mul]
        exact ⟨Int.le_refl _, Int.le_refl _⟩
    · refine ⟨d1, d2, l, u, ?_, r1, r2, (mem l).mp l1, (mem u).mp u1, fun q hq => ord q ((mem q).mpr hq)⟩
      rw [F_div_eq]
      by_cases z1 : sa.v.1 = 0
      · rw [sgi_zero z1] at e1
        have z2 : 0 < sb.v.1 := by
          have := (fle_sign sa.pos sb.pos hs).2.1 (by omega)
          have : sb.v.1 ≠ 0 := fun w => z ⟨z1, w⟩
          omega
        rw [sgi_pos z2] at e2
        simp only [DIVg, divS, v_bnd, v_bin, v_add, v_sub, v_mul, v_div, v_mod, v_pow, v_shl, v_shr, v_and, v_xor, v_app, v_ofB, v_cmp, v_tcmp, v_eq, v_ne, v_lt, v_le, v_gt, v_ge, v_seq, v_tr_b, v_tr_i, v_tE, v_onot, v_tnot, v_not, v_neg, v_neg', v_ite, v_ite1, v_ite0, v_eand, v_eor, v_eand1, v_eand0, v_eor1, v_eor0, v_eand_i, v_eor_i, v_tand, v_tor, v_tand1, v_tand0, v_tor1, v_tor0, v_ttrue, v_tfalse, v_chain, v_var, v_int, v_bool, v_str, v_glob, v_lnil, v_lcons, v_lc, v_tup, v_lst, v_tup1, v_tup2, v_tup3, v_tup4, v_lst1, v_lst2, v_item, v_t0, v_t1, v_t2, v_t3, v_l0, v_l1, v_call, v_call', v_bits, v_bits', v_isint, v_isint', v_shift, v_shift_f, v_shift_c, v_dint, v_dabs, v_ddivmod, v_set, v_kset, v_set2, v_kset2, v_aug, v_int2, v_ret, v_kret, v_retof, v_retof', v_app_nil, v_app_cons, v_app_app, v_if, v_kif1, v_kif0, v_asrt, v_kasrt, v_un, v_unR, v_un2, v_un4, v_unR2, v_unR3, v_try, v_none, v_nil, v_for, v_kfor, v_kF_nil, v_kF_cons, v_tail, v_tail2, v_dlen2, v_while, v_kw, v_gt0, v_gts, v_up0, v_ups, v_defD, v_teq, v_teq2, List.length_cons, List.length_nil, List.cons_append, List.nil_append, List.append_nil, List.map_cons, List.map_nil, List.reduceReplicate, Nat.zero_add, Nat.reduceAdd, Bool.not_true, Bool.not_false, decide_true, decide_false, not_true_eq_false, not_false_eq_true, true_and, and_true, Int.reduceEq, Int.reduceLT, Int.reduceLE, Int.reduceNeg, e1, e2, e3, e4, n1, n2, f]
      · rcases Int.lt_or_gt_of_ne z1 with w | w
        · rw [sgi_neg w] at e1
          rcases Int.lt_trichotomy sb.v.1 0 with w' | w' | w'
          · rw [sgi_neg w'] at e2
            simp only [DIVg, divS, v_bnd, v_bin, v_add, v_sub, v_mul, v_div, v_mod, v_pow, v_shl, v_shr, v_and, v_xor, v_app, v_ofB, v_cmp, v_tcmp, v_eq, v_ne, v_lt, v_le, v_gt, v_ge, v_seq, v_tr_b, v_tr_i, v_tE, v_onot, v_tnot, v_not, v_neg, v_neg', v_ite, v_ite1, v_ite0, v_eand, v_eor, v_eand1, v_eand0, v_eor1, v_eor0, v_eand_i, v_eor_i, v_tand, v_tor, v_tand1, v_tand0, v_tor1, v_tor0, v_ttrue, v_tfalse, v_chain, v_var, v_int, v_bool, v_str, v_glob, v_lnil, v_lcons, v_lc, v_tup, v_lst, v_tup1, v_tup2, v_tup3, v_tup4, v_lst1, v_lst2, v_item, v_t0, v_t1, v_t2, v_t3, v_l0, v_l1, v_call, v_call', v_bits, v_bits', v_isint, v_isint', v_shift, v_shift_f, v_shift_c, v_dint, v_dabs, v_ddivmod, v_set, v_kset, v_set2, v_kset2, v_aug, v_int2, v_ret, v_kret, v_retof, v_retof', v_app_nil, v_app_cons, v_app_app, v_if, v_kif1, v_kif0, v_asrt, v_kasrt, v_un, v_unR, v_un2, v_un4, v_unR2, v_unR3, v_try, v_none, v_nil, v_for, v_kfor, v_kF_nil, v_kF_cons, v_tail, v_tail2, v_dlen2, v_while, v_kw, v_gt0, v_gts, v_up0, v_ups, v_defD, v_teq, v_teq2, List.length_cons, List.length_nil, List.cons_append, List.nil_append, List.append_nil, List.map_cons, List.map_nil, List.reduceReplicate, Nat.zero_add, Nat.reduceAdd, Bool.not_true, Bool.not_false, decide_true, decide_false, not_true_eq_false, not_false_eq_true, true_and, and_true, Int.reduceEq, Int.reduceLT, Int.reduceLE, Int.reduceNeg, e1, e2, e3, e4, n1, n2, f]
          · rw [sgi_zero w'] at e2
            simp only [DIVg, divS, v_bnd, v_bin, v_add, v_sub, v_mul, v_div, v_mod, v_pow, v_shl, v_shr, v_and, v_xor, v_app, v_ofB, v_cmp, v_tcmp, v_eq, v_ne, v_lt, v_le, v_gt, v_ge, v_seq, v_tr_b, v_tr_i, v_tE, v_onot, v_tnot, v_not, v_neg, v_neg', v_ite, v_ite1, v_ite0, v_eand, v_eor, v_eand1, v_eand0, v_eor1, v_eor0, v_eand_i, v_eor_i, v_tand, v_tor, v_tand1, v_tand0, v_tor1, v_tor0, v_ttrue, v_tfalse, v_chain, v_var, v_int, v_bool, v_str, v_glob, v_lnil, v_lcons, v_lc, v_tup, v_lst, v_tup1, v_tup2, v_tup3, v_tup4, v_lst1, v_lst2, v_item, v_t0, v_t1, v_t2, v_t3, v_l0, v_l1, v_call, v_call', v_bits, v_bits', v_isint, v_isint', v_shift, v_shift_f, v_shift_c, v_dint, v_dabs, v_ddivmod, v_set, v_kset, v_set2, v_kset2, v_aug, v_int2, v_ret, v_kret, v_retof, v_retof', v_app_nil, v_app_cons, v_app_app, v_if, v_kif1, v_kif0, v_asrt, v_kasrt, v_un, v_unR, v_un2, v_un4, v_unR2, v_unR3, v_try, v_none, v_nil, v_for, v_kfor, v_kF_nil, v_kF_cons, v_tail, v_tail2, v_dlen2, v_while, v_kw, v_gt0, v_gts, v_up0, v_ups, v_defD, v_teq, v_teq2, List.length_cons, List.length_nil, List.cons_append, List.nil_append, List.append_nil, List.map_cons, List.map_nil, List.reduceReplicate, Nat.zero_add, Nat.reduceAdd, Bool.not_true, Bool.not_false, decide_true, decide_false, not_true_eq_false, not_false_eq_true, true_and, and_true, Int.reduceEq, Int.reduceLT, Int.reduceLE, Int.reduceNeg, e1, e2, e3, e4, n1, n2, f]
          · rw [sgi_pos w'] at e2
            simp only [DIVg, divS, v_bnd, v_bin, v_add, v_sub, v_mul, v_div, v_mod, v_pow, v_shl, v_shr, v_and, v_xor, v_app, v_ofB, v_cmp, v_tcmp, v_eq, v_ne, v_lt, v_le, v_gt, v_ge, v_seq, v_tr_b, v_tr_i, v_tE, v_onot, v_tnot, v_not, v_neg, v_neg', v_ite, v_ite1, v_ite0, v_eand, v_eor, v_eand1, v_eand0, v_eor1, v_eor0, v_eand_i, v_eor_i, v_tand, v_tor, v_tand1, v_tand0, v_tor1, v_tor0, v_ttrue, v_tfalse, v_chain, v_var, v_int, v_bool, v_str, v_glob, v_lnil, v_lcons, v_lc, v_tup, v_lst, v_tup1, v_tup2, v_tup3, v_tup4, v_lst1, v_lst2, v_item, v_t0, v_t1, v_t2, v_t3, v_l0, v_l1, v_call, v_call', v_bits, v_bits', v_isint, v_isint', v_shift, v_shift_f, v_shift_c, v_dint, v_dabs, v_ddivmod, v_set, v_kset, v_set2, v_kset2, v_aug, v_int2, v_ret, v_kret, v_retof, v_retof', v_app_nil, v_app_cons, v_app_app, v_if, v_kif1, v_kif0, v_asrt, v_kasrt, v_un, v_unR, v_un2, v_un4, v_unR2, v_unR3, v_try, v_none, v_nil, v_for, v_kfor, v_kF_nil, v_kF_cons, v_tail, v_tail2, v_dlen2, v_while, v_kw, v_gt0, v_gts, v_up0, v_ups, v_defD, v_teq, v_teq2, List.length_cons, List.length_nil, List.cons_append, List.nil_append, List.append_nil, List.map_cons, List.map_nil, List.reduceReplicate, Nat.zero_add, Nat.reduceAdd, Bool.not_true, Bool.not_false, decide_true, decide_false, not_true_eq_false, not_false_eq_true, true_and, and_true, Int.reduceEq, Int.reduceLT, Int.reduceLE, Int.reduceNeg, e1, e2, e3, e4, n1, n2, f]
        · rw [sgi_pos w] at e1
          rw [sgi_pos ((fle_sign sa.pos sb.pos hs).1 w)] at e2
          simp only [DIVg, divS, v_bnd, v_bin, v_add, v_sub, v_mul, v_div, v_mod, v_pow, v_shl, v_shr, v_and, v_xor, v_app, v_ofB, v_cmp, v_tcmp, v_eq, v_ne, v_lt, v_le, v_gt, v_ge, v_seq, v_tr_b, v_tr_i, v_tE, v_onot, v_tnot, v_not, v_neg, v_neg', v_ite, v_ite1, v_ite0, v_eand, v_eor, v_eand1, v_eand0, v_eor1, v_eor0, v_eand_i, v_eor_i, v_tand, v_tor, v_tand1, v_tand0, v_tor1, v_tor0, v_ttrue, v_tfalse, v_chain, v_var, v_int, v_bool, v_str, v_glob, v_lnil, v_lcons, v_lc, v_tup, v_lst, v_tup1, v_tup2, v_tup3, v_tup4, v_lst1, v_lst2, v_item, v_t0, v_t1, v_t2, v_t3, v_l0, v_l1, v_call, v_call', v_bits, v_bits', v_isint, v_isint', v_shift, v_shift_f, v_shift_c, v_dint, v_dabs, v_ddivmod, v_set, v_kset, v_set2, v_kset2, v_aug, v_int2, v_ret, v_kret, v_retof, v_retof', v_app_nil, v_app_cons, v_app_app, v_if, v_kif1, v_kif0, v_asrt, v_kasrt, v_un, v_unR, v_un2, v_un4, v_unR2, v_unR3, v_try, v_none, v_nil, v_for, v_kfor, v_kF_nil, v_kF_cons, v_tail, v_tail2, v_dlen2, v_while, v_kw, v_gt0, v_gts, v_up0, v_ups, v_defD, v_teq, v_teq2, List.length_cons, List.length_nil, List.cons_append, List.nil_append, List.append_nil, List.map_cons, List.map_nil, List.reduceReplicate, Nat.zero_add, Nat.reduceAdd, Bool.not_true, Bool.not_false, decide_true, decide_false, not_true_eq_false, not_false_eq_true, true_and, and_true, Int.reduceEq, Int.reduceLT, Int.reduceLE, Int.reduceNeg, e1, e2, e3, e4, n1, n2, f]

/-- the divisor's low end is zero -/
theorem div_half {R : St → Option D} (z : ta.v.1 = 0) (h : 0 < tb.v.1) :
    ((sa.v.1 = 0 ∧ sb.v.1 = 0) ∨ (sa.v.1 < 0 ∧ 0 < sb.v.1) → retOf (DIVg R (divS (.tup [sa.d, sb.d]) (.tup [ta.d, tb.d]) p)) = some dInf) ∧
    (0 ≤ sa.v.1 → 0 < sb.v.1 → ∃ d, RN false p (fov sa.v tb.v) d ∧ retOf (DIVg R (divS (.tup [sa.d, sb.d]) (.tup [ta.d, tb.d]) p)) = some (.tup [d, d_finf])) ∧
    (sa.v.1 < 0 → sb.v.1 ≤ 0 → ∃ d, RN true p (fov sb.v tb.v) d ∧ retOf (DIVg R (divS (.tup [sa.d, sb.d]) (.tup [ta.d, tb.d]) p)) = some (.tup [d_fninf, d])) := by
  have e1 := Nm.sign_eval h1
  have e2 := Nm.sign_eval h2
  have e3 := Nm.sign_eval h3
  have e4 := Nm.sign_eval h4
  rw [sgi_zero z] at e3
  rw [sgi_pos h] at e4
  obtain ⟨s, m, e, r1, f1⟩ := Nm.div_eval false h1 h4 hk (by omega) hp hp2
  obtain ⟨s', m', e', r2, f2⟩ := Nm.div_eval true h2 h4 hk (by omega) hp hp2
  simp only [RR, if_true, if_false, Bool.false_eq_true] at f1 f2
  refine ⟨?_, ?_, ?_⟩
  · rintro (⟨a, b⟩ | ⟨a, b⟩)
    · rw [sgi_zero a] at e1
      rw [sgi_zero b] at e2
      simp only [DIVg, divS, v_bnd, v_bin, v_add, v_sub, v_mul, v_div, v_mod, v_pow, v_shl, v_shr, v_and, v_xor, v_app, v_ofB, v_cmp, v_tcmp, v_eq, v_ne, v_lt, v_le, v_gt, v_ge, v_seq, v_tr_b, v_tr_i, v_tE, v_onot, v_tnot, v_not, v_neg, v_neg', v_ite, v_ite1, v_ite0, v_eand, v_eor, v_eand1, v_eand0, v_eor1, v_eor0, v_eand_i, v_eor_i, v_tand, v_tor, v_tand1, v_tand0, v_tor1, v_tor0, v_ttrue, v_tfalse, v_chain, v_var, v_int, v_bool, v_str, v_glob, v_lnil, v_lcons, v_lc, v_tup, v_lst, v_tup1, v_tup2, v_tup3, v_tup4, v_lst1, v_lst2, v_item, v_t0, v_t1, v_t2, v_t3, v_l0, v_l1, v_call, v_call', v_bits, v_bits', v_isint, v_isint', v_shift, v_shift_f, v_shift_c, v_dint, v_dabs, v_ddivmod, v_set, v_kset, v_set2, v_kset2, v_aug, v_int2, v_ret, v_kret, v_retof, v_retof', v_app_nil, v_app_cons, v_app_app, v_if, v_kif1, v_kif0, v_asrt, v_kasrt, v_un, v_unR, v_un2, v_un4, v_unR2, v_unR3, v_try, v_none, v_nil, v_for, v_kfor, v_kF_nil, v_kF_cons, v_tail, v_tail2, v_dlen2, v_while, v_kw, v_gt0, v_gts, v_up0, v_ups, v_defD, v_teq, v_teq2, List.length_cons, List.length_nil, List.cons_append, List.nil_append, List.append_nil, List.map_cons, List.map_nil, List.reduceReplicate, Nat.zero_add, Nat.reduceAdd, Bool.not_true, Bool.not_false, decide_true, decide_false, not_true_eq_false, not_false_eq_true, true_and, and_true, Int.reduceEq, Int.reduceLT, Int.reduceLE, Int.reduceNeg, e1, e2, e3, e4, dInf]
    · rw [sgi_neg a] at e1
      rw [sgi_pos b] at e2
      simp only [DIVg, divS, v_bnd, v_bin, v_add, v_sub, v_mul, v_div, v_mod, v_pow, v_shl, v_shr, v_and, v_xor, v_app, v_ofB, v_cmp, v_tcmp, v_eq, v_ne, v_lt, v_le, v_gt, v_ge, v_seq, v_tr_b, v_tr_i, v_tE, v_onot, v_tnot, v_not, v_neg, v_neg', v_ite, v_ite1, v_ite0, v_eand, v_eor, v_eand1, v_eand0, v_eor1, v_eor0, v_eand_i, v_eor_i, v_tand, v_tor, v_tand1, v_tand0, v_tor1, v_tor0, v_ttrue, v_tfalse, v_chain, v_var, v_int, v_bool, v_str, v_glob, v_lnil, v_lcons, v_lc, v_tup, v_lst, v_tup1, v_tup2, v_tup3, v_tup4, v_lst1, v_lst2, v_item, v_t0, v_t1, v_t2, v_t3, v_l0, v_l1, v_call, v_call', v_bits, v_bits', v_isint, v_isint', v_shift, v_shift_f, v_shift_c, v_dint, v_dabs, v_ddivmod, v_set, v_kset, v_set2, v_kset2, v_aug, v_int2, v_ret, v_kret, v_retof, v_retof', v_app_nil, v_app_cons, v_app_app, v_if, v_kif1, v_kif0, v_asrt, v_kasrt, v_un, v_unR, v_un2, v_un4, v_unR2, v_unR3, v_try, v_none, v_nil, v_for, v_kfor, v_kF_nil, v_kF_cons, v_tail, v_tail2, v_dlen2, v_while, v_kw, v_gt0, v_gts, v_up0, v_ups, v_defD, v_teq, v_teq2, List.length_cons, List.length_nil, List.cons_append, List.nil_append, List.append_nil, List.map_cons, List.map_nil, List.reduceReplicate, Nat.zero_add, Nat.reduceAdd, Bool.not_true, Bool.not_false, decide_true, decide_false, not_true_eq_false, not_false_eq_true, true_and, and_true, Int.reduceEq, Int.reduceLT, Int.reduceLE, Int.reduceNeg, e1, e2, e3, e4, dInf]
  · intro a b
    rw [sgi_pos b] at e2
    refine ⟨_, r1, ?_⟩
    by_cases w : sa.v.1 = 0
    · rw [sgi_zero w] at e1
      simp only [DIVg, divS, v_bnd, v_bin, v_add, v_sub, v_mul, v_div, v_mod, v_pow, v_shl, v_shr, v_and, v_xor, v_app, v_ofB, v_cmp, v_tcmp, v_eq, v_ne, v_lt, v_le, v_gt, v_ge, v_seq, v_tr_b, v_tr_i, v_tE, v_onot, v_tnot, v_not, v_neg, v_neg', v_ite, v_ite1, v_ite0, v_eand, v_eor, v_eand1, v_eand0, v_eor1, v_eor0, v_eand_i, v_eor_i, v_tand, v_tor, v_tand1, v_tand0, v_tor1, v_tor0, v_ttrue, v_tfalse, v_chain, v_var, v_int, v_bool, v_str, v_glob, v_lnil, v_lcons, v_lc, v_tup, v_lst, v_tup1, v_tup2, v_tup3, v_tup4, v_lst1, v_lst2, v_item, v_t0, v_t1, v_t2, v_t3, v_l0, v_l1, v_call, v_call', v_bits, v_bits', v_isint, v_isint', v_shift, v_shift_f, v_shift_c, v_dint, v_dabs, v_ddivmod, v_set, v_kset, v_set2, v_kset2, v_aug, v_int2, v_ret, v_kret, v_retof, v_retof', v_app_nil, v_app_cons, v_app_app, v_if, v_kif1, v_kif0, v_asrt, v_kasrt, v_un, v_unR, v_un2, v_un4, v_unR2, v_unR3, v_try, v_none, v_nil, v_for, v_kfor, v_kF_nil, v_kF_cons, v_tail, v_tail2, v_dlen2, v_while, v_kw, v_gt0, v_gts, v_up0, v_ups, v_defD, v_teq, v_teq2, List.length_cons, List.length_nil, List.cons_append, List.nil_append, List.append_nil, List.map_cons, List.map_nil, List.reduceReplicate, Nat.zero_add, Nat.reduceAdd, Bool.not_true, Bool.not_false, decide_true, decide_false, not_true_eq_false, not_false_eq_true, true_and, and_true, Int.reduceEq, Int.reduceLT, Int.reduceLE, Int.reduceNeg, e1, e2, e3, e4, f1, d_rf]
    · rw [sgi_pos (by omega)] at e1
      simp only [DIVg, divS, v_bnd, v_bin, v_add, v_sub, v_mul, v_div, v_mod, v_pow, v_shl, v_shr, v_and, v_xor, v_app, v_ofB, v_cmp, v_tcmp, v_eq, v_ne, v_lt, v_le, v_gt, v_ge, v_seq, v_tr_b, v_tr_i, v_tE, v_onot, v_tnot, v_not, v_neg, v_neg', v_ite, v_ite1, v_ite0, v_eand, v_eor, v_eand1, v_eand0, v_eor1, v_eor0, v_eand_i, v_eor_i, v_tand, v_tor, v_tand1, v_tand0, v_tor1, v_tor0, v_ttrue, v_tfalse, v_chain, v_var, v_int, v_bool, v_str, v_glob, v_lnil, v_lcons, v_lc, v_tup, v_lst, v_tup1, v_tup2, v_tup3, v_tup4, v_lst1, v_lst2, v_item, v_t0, v_t1, v_t2, v_t3, v_l0, v_l1, v_call, v_call', v_bits, v_bits', v_isint, v_isint', v_shift, v_shift_f, v_shift_c, v_dint, v_dabs, v_ddivmod, v_set, v_kset, v_set2, v_kset2, v_aug, v_int2, v_ret, v_kret, v_retof, v_retof', v_app_nil, v_app_cons, v_app_app, v_if, v_kif1, v_kif0, v_asrt, v_kasrt, v_un, v_unR, v_un2, v_un4, v_unR2, v_unR3, v_try, v_none, v_nil, v_for, v_kfor, v_kF_nil, v_kF_cons, v_tail, v_tail2, v_dlen2, v_while, v_kw, v_gt0, v_gts, v_up0, v_ups, v_defD, v_teq, v_teq2, List.length_cons, List.length_nil, List.cons_append, List.nil_append, List.append_nil, List.map_cons, List.map_nil, List.reduceReplicate, Nat.zero_add, Nat.reduceAdd, Bool.not_true, Bool.not_false, decide_true, decide_false, not_true_eq_false, not_false_eq_true, true_and, and_true, Int.reduceEq, Int.reduceLT, Int.reduceLE, Int.reduceNeg, e1, e2, e3, e4, f1, d_rf]
  · intro a b
    rw [sgi_neg a] at e1
    refine ⟨_, r2, ?_⟩
    by_cases w : sb.v.1 = 0
    · rw [sgi_zero w] at e2
      simp only [DIVg, divS, v_bnd, v_bin, v_add, v_sub, v_mul, v_div, v_mod, v_pow, v_shl, v_shr, v_and, v_xor, v_app, v_ofB, v_cmp, v_tcmp, v_eq, v_ne, v_lt, v_le, v_gt, v_ge, v_seq, v_tr_b, v_tr_i, v_tE, v_onot, v_tnot, v_not, v_neg, v_neg', v_ite, v_ite1, v_ite0, v_eand, v_eor, v_eand1, v_eand0, v_eor1, v_eor0, v_eand_i, v_eor_i, v_tand, v_tor, v_tand1, v_tand0, v_tor1, v_tor0, v_ttrue, v_tfalse, v_chain, v_var, v_int, v_bool, v_str, v_glob, v_lnil, v_lcons, v_lc, v_tup, v_lst, v_tup1, v_tup2, v_tup3, v_tup4, v_lst1, v_lst2, v_item, v_t0, v_t1, v_t2, v_t3, v_l0, v_l1, v_call, v_call', v_bits, v_bits', v_isint, v_isint', v_shift, v_shift_f, v_shift_c, v_dint, v_dabs, v_ddivmod, v_set, v_kset, v_set2, v_kset2, v_aug, v_int2, v_ret, v_kret, v_retof, v_retof', v_app_nil, v_app_cons, v_app_app, v_if, v_kif1, v_kif0, v_asrt, v_kasrt, v_un, v_unR, v_un2, v_un4, v_unR2, v_unR3, v_try, v_none, v_nil, v_for, v_kfor, v_kF_nil, v_kF_cons, v_tail, v_tail2, v_dlen2, v_while, v_kw, v_gt0, v_gts, v_up0, v_ups, v_defD, v_teq, v_teq2, List.length_cons, List.length_nil, List.cons_append, List.nil_append, List.append_nil, List.map_cons, List.map_nil, List.reduceReplicate, Nat.zero_add, Nat.reduceAdd, Bool.not_true, Bool.not_false, decide_true, decide_false, not_true_eq_false, not_false_eq_true, true_and, and_true, Int.reduceEq, Int.reduceLT, Int.reduceLE, Int.reduceNeg, e1, e2, e3, e4, f2, d_rc]
    · rw [sgi_neg (by omega)] at e2
      simp only [DIVg, divS, v_bnd, v_bin, v_add, v_sub, v_mul, v_div, v_mod, v_pow, v_shl, v_shr, v_and, v_xor, v_app, v_ofB, v_cmp, v_tcmp, v_eq, v_ne, v_lt, v_le, v_gt, v_ge, v_seq, v_tr_b, v_tr_i, v_tE, v_onot, v_tnot, v_not, v_neg, v_neg', v_ite, v_ite1, v_ite0, v_eand, v_eor, v_eand1, v_eand0, v_eor1, v_eor0, v_eand_i, v_eor_i, v_tand, v_tor, v_tand1, v_tand0, v_tor1, v_tor0, v_ttrue, v_tfalse, v_chain, v_var, v_int, v_bool, v_str, v_glob, v_lnil, v_lcons, v_lc, v_tup, v_lst, v_tup1, v_tup2, v_tup3, v_tup4, v_lst1, v_lst2, v_item, v_t0, v_t1, v_t2, v_t3, v_l0, v_l1, v_call, v_call', v_bits, v_bits', v_isint, v_isint', v_shift, v_shift_f, v_shift_c, v_dint, v_dabs, v_ddivmod, v_set, v_kset, v_set2, v_kset2, v_aug, v_int2, v_ret, v_kret, v_retof, v_retof', v_app_nil, v_app_cons, v_app_app, v_if, v_kif1, v_kif0, v_asrt, v_kasrt, v_un, v_unR, v_un2, v_un4, v_unR2, v_unR3, v_try, v_none, v_nil, v_for, v_kfor, v_kF_nil, v_kF_cons, v_tail, v_tail2, v_dlen2, v_while, v_kw, v_gt0, v_gts, v_up0, v_ups, v_defD, v_teq, v_teq2, List.length_cons, List.length_nil, List.cons_append, List.nil_append, List.append_nil, List.map_cons, List.map_nil, List.reduceReplicate, Nat.zero_add, Nat.reduceAdd, Bool.not_true, Bool.not_false, decide_true, decide_false, not_true_eq_false, not_false_eq_true, true_and, and_true, Int.reduceEq, Int.reduceLT, Int.reduceLE, Int.reduceNeg, e1, e2, e3, e4, f2, d_rc]
/-- the divisor's high end is zero -/
theorem div_half' (z : tb.v.1 = 0) (h : ta.v.1 < 0) :
    ((sa.v.1 = 0 ∧ sb.v.1 = 0) ∨ (sa.v.1 < 0 ∧ 0 < sb.v.1) → F_mpi_div [.tup [sa.d, sb.d], .tup [ta.d, tb.d], .int p] = some dInf) ∧
    (sa.v.1 < 0 → sb.v.1 ≤ 0 → ∃ d, RN false p (fov sb.v ta.v) d ∧ F_mpi_div [.tup [sa.d, sb.d], .tup [ta.d, tb.d], .int p] = some (.tup [d, d_finf])) ∧
    (0 ≤ sa.v.1 → 0 < sb.v.1 → ∃ d, RN true p (fov sa.v ta.v) d ∧ F_mpi_div [.tup [sa.d, sb.d], .tup [ta.d, tb.d], .int p] = some (.tup [d_fninf, d])) := by
  have n1 := neg1_pair h1 h2
  have n2 := neg1_pair h3 h4
  have e1 := Nm.sign_eval h1
  have e2 := Nm.sign_eval h2
  have e3 := Nm.sign_eval h3
  have e4 := Nm.sign_eval h4
  rw [sgi_neg h] at e3
  rw [sgi_zero z] at e4
  obtain ⟨t1, t2, t3⟩ := div_half (R := eNone) (Nm.neg_ok h2) (Nm.neg_ok h1) (Nm.neg_ok h4) (Nm.neg_ok h3) hk hp hp2 (fle_neg hs) (fle_neg ht) (by rw [neg_num]; omega) (by rw [neg_num]; omega)
  simp only [neg_num] at t1 t2 t3
  rw [fov_neg' (by omega)] at t2 t3
  rw [← F_div0_eq] at t1 t2 t3
  refine ⟨?_, ?_, ?_⟩
  · rintro (⟨a, b⟩ | ⟨a, b⟩)
    · rw [sgi_zero a] at e1
      rw [sgi_zero b] at e2
      rw [F_div_eq]
      simp only [DIVg, divS, v_bnd, v_bin, v_add, v_sub, v_mul, v_div, v_mod, v_pow, v_shl, v_shr, v_and, v_xor, v_app, v_ofB, v_cmp, v_tcmp, v_eq, v_ne, v_lt, v_le, v_gt, v_ge, v_seq, v_tr_b, v_tr_i, v_tE, v_onot, v_tnot, v_not, v_neg, v_neg', v_ite, v_ite1, v_ite0, v_eand, v_eor, v_eand1, v_eand0, v_eor1, v_eor0, v_eand_i, v_eor_i, v_tand, v_tor, v_tand1, v_tand0, v_tor1, v_tor0, v_ttrue, v_tfalse, v_chain, v_var, v_int, v_bool, v_str, v_glob, v_lnil, v_lcons, v_lc, v_tup, v_lst, v_tup1, v_tup2, v_tup3, v_tup4, v_lst1, v_lst2, v_item, v_t0, v_t1, v_t2, v_t3, v_l0, v_l1, v_call, v_call', v_bits, v_bits', v_isint, v_isint', v_shift, v_shift_f, v_shift_c, v_dint, v_dabs, v_ddivmod, v_set, v_kset, v_set2, v_kset2, v_aug, v_int2, v_ret, v_kret, v_retof, v_retof', v_app_nil, v_app_cons, v_app_app, v_if, v_kif1, v_kif0, v_asrt, v_kasrt, v_un, v_unR, v_un2, v_un4, v_unR2, v_unR3, v_try, v_none, v_nil, v_for, v_kfor, v_kF_nil, v_kF_cons, v_tail, v_tail2, v_dlen2, v_while, v_kw, v_gt0, v_gts, v_up0, v_ups, v_defD, v_teq, v_teq2, List.length_cons, List.length_nil, List.cons_append, List.nil_append, List.append_nil, List.map_cons, List.map_nil, List.reduceReplicate, Nat.zero_add, Nat.reduceAdd, Bool.not_true, Bool.not_false, decide_true, decide_false, not_true_eq_false, not_false_eq_true, true_and, and_true, Int.reduceEq, Int.reduceLT, Int.reduceLE, Int.reduceNeg, e1, e2, e3, e4, dInf]
    · have f := t1 (.inr ⟨by omega, by omega⟩)
      rw [sgi_neg a] at e1
      rw [sgi_pos b] at e2
      rw [F_div_eq]
      simp only [DIVg, divS, v_bnd, v_bin, v_add, v_sub, v_mul, v_div, v_mod, v_pow, v_shl, v_shr, v_and, v_xor, v_app, v_ofB, v_cmp, v_tcmp, v_eq, v_ne, v_lt, v_le, v_gt, v_ge, v_seq, v_tr_b, v_tr_i, v_tE, v_onot, v_tnot, v_not, v_neg, v_neg', v_ite, v_ite1, v_ite0, v_eand, v_eor, v_eand1, v_eand0, v_eor1, v_eor0, v_eand_i, v_eor_i, v_tand, v_tor, v_tand1, v_tand0, v_tor1, v_tor0, v_ttrue, v_tfalse, v_chain, v_var, v_int, v_bool, v_str, v_glob, v_lnil, v_lcons, v_lc, v_tup, v_lst, v_tup1, v_tup2, v_tup3, v_tup4, v_lst1, v_lst2, v_item, v_t0, v_t1, v_t2, v_t3, v_l0, v_l1, v_call, v_call', v_bits, v_bits', v_isint, v_isint', v_shift, v_shift_f, v_shift_c, v_dint, v_dabs, v_ddivmod, v_set, v_kset, v_set2, v_kset2, v_aug, v_int2, v_ret, v_kret, v_retof, v_retof', v_app_nil, v_app_cons, v_app_app, v_if, v_kif1, v_kif0, v_asrt, v_kasrt, v_un, v_unR, v_un2, v_un4, v_unR2, v_unR3, v_try, v_none, v_nil, v_for, v_kfor, v_kF_nil, v_kF_cons, v_tail, v_tail2, v_dlen2, v_while, v_kw, v_gt0, v_gts, v_up0, v_ups, v_defD, v_teq, v_teq2, List.length_cons, List.length_nil, List.cons_append, List.nil_append, List.append_nil, List.map_cons, List.map_nil, List.reduceReplicate, Nat.zero_add, Nat.reduceAdd, Bool.not_true, Bool.not_false, decide_true, decide_false, not_true_eq_false, not_false_eq_true, true_and, and_true, Int.reduceEq, Int.reduceLT, Int.reduceLE, Int.reduceNeg, e1, e2, e3, e4, n1, n2, f]
  · intro a b
    obtain ⟨d, r, f⟩ := t2 (by omega) (by omega)
    refine ⟨d, r, ?_⟩
    rw [sgi_neg a] at e1
    rw [F_div_eq]
    by_cases w : sb.v.1 = 0
    · rw [sgi_zero w] at e2
      simp only [DIVg, divS, v_bnd, v_bin, v_add, v_sub, v_mul, v_div, v_mod, v_pow, v_shl, v_shr, v_and, v_xor, v_app, v_ofB, v_cmp, v_tcmp, v_eq, v_ne, v_lt, v_le, v_gt, v_ge, v_seq, v_tr_b, v_tr_i, v_tE, v_onot, v_tnot, v_not, v_neg, v_neg', v_ite, v_ite1, v_ite0, v_eand, v_eor, v_eand1, v_eand0, v_eor1, v_eor0, v_eand_i, v_eor_i, v_tand, v_tor, v_tand1, v_tand0, v_tor1, v_tor0, v_ttrue, v_tfalse, v_chain, v_var, v_int, v_bool, v_str, v_glob, v_lnil, v_lcons, v_lc, v_tup, v_lst, v_tup1, v_tup2, v_tup3, v_tup4, v_lst1, v_lst2, v_item, v_t0, v_t1, v_t2, v_t3, v_l0, v_l1, v_call, v_call', v_bits, v_bits', v_isint, v_isint', v_shift, v_shift_f, v_shift_c, v_dint, v_dabs, v_ddivmod, v_set, v_kset, v_set2, v_kset2, v_aug, v_int2, v_ret, v_kret, v_retof, v_retof', v_app_nil, v_app_cons, v_app_app, v_if, v_kif1, v_kif0, v_asrt, v_kasrt, v_un, v_unR, v_un2, v_un4, v_unR2, v_unR3, v_try, v_none, v_nil, v_for, v_kfor, v_kF_nil, v_kF_cons, v_tail, v_tail2, v_dlen2, v_while, v_kw, v_gt0, v_gts, v_up0, v_ups, v_defD, v_teq, v_teq2, List.length_cons, List.length_nil, List.cons_append, List.nil_append, List.append_nil, List.map_cons, List.map_nil, List.reduceReplicate, Nat.zero_add, Nat.reduceAdd, Bool.not_true, Bool.not_false, decide_true, decide_false, not_true_eq_false, not_false_eq_true, true_and, and_true, Int.reduceEq, Int.reduceLT, Int.reduceLE, Int.reduceNeg, e1, e2, e3, e4, n1, n2, f]
    · rw [sgi_neg (by omega)] at e2
      simp only [DIVg, divS, v_bnd, v_bin, v_add, v_sub, v_mul, v_div, v_mod, v_pow, v_shl, v_shr, v_and, v_xor, v_app, v_ofB, v_cmp, v_tcmp, v_eq, v_ne, v_lt, v_le, v_gt, v_ge, v_seq, v_tr_b, v_tr_i, v_tE, v_onot, v_tnot, v_not, v_neg, v_neg', v_ite, v_ite1, v_ite0, v_eand, v_eor, v_eand1, v_eand0, v_eor1, v_eor0, v_eand_i, v_eor_i, v_tand, v_tor, v_tand1, v_tand0, v_tor1, v_tor0, v_ttrue, v_tfalse, v_chain, v_var, v_int, v_bool, v_str, v_glob, v_lnil, v_lcons, v_lc, v_tup, v_lst, v_tup1, v_tup2, v_tup3, v_tup4, v_lst1, v_lst2, v_item, v_t0, v_t1, v_t2, v_t3, v_l0, v_l1, v_call, v_call', v_bits, v_bits', v_isint, v_isint', v_shift, v_shift_f, v_shift_c, v_dint, v_dabs, v_ddivmod, v_set, v_kset, v_set2, v_kset2, v_aug, v_int2, v_ret, v_kret, v_retof, v_retof', v_app_nil, v_app_cons, v_app_app, v_if, v_kif1, v_kif0, v_asrt, v_kasrt, v_un, v_unR, v_un2, v_un4, v_unR2, v_unR3, v_try, v_none, v_nil, v_for, v_kfor, v_kF_nil, v_kF_cons, v_tail, v_tail2, v_dlen2, v_while, v_kw, v_gt0, v_gts, v_up0, v_ups, v_defD, v_teq, v_teq2, List.length_cons, List.length_nil, List.cons_append, List.nil_append, List.append_nil, List.map_cons, List.map_nil, List.reduceReplicate, Nat.zero_add, Nat.reduceAdd, Bool.not_true, Bool.not_false, decide_true, decide_false, not_true_eq_false, not_false_eq_true, true_and, and_true, Int.reduceEq, Int.reduceLT, Int.reduceLE, Int.reduceNeg, e1, e2, e3, e4, n1, n2, f]
  · intro a b
    obtain ⟨d, r, f⟩ := t3 (by omega) (by omega)
    refine ⟨d, r, ?_⟩
    rw [sgi_pos b] at e2
    rw [F_div_eq]
    by_cases w : sa.v.1 = 0
    · rw [sgi_zero w] at e1
      simp only [DIVg, divS, v_bnd, v_bin, v_add, v_sub, v_mul, v_div, v_mod, v_pow, v_shl, v_shr, v_and, v_xor, v_app, v_ofB, v_cmp, v_tcmp, v_eq, v_ne, v_lt, v_le, v_gt, v_ge, v_seq, v_tr_b, v_tr_i, v_tE, v_onot, v_tnot, v_not, v_neg, v_neg', v_ite, v_ite1, v_ite0, v_eand, v_eor, v_eand1, v_eand0, v_eor1, v_eor0, v_eand_i, v_eor_i, v_tand, v_tor, v_tand1, v_tand0, v_tor1, v_tor0, v_ttrue, v_tfalse, v_chain, v_var, v_int, v_bool, v_str, v_glob, v_lnil, v_lcons, v_lc, v_tup, v_lst, v_tup1, v_tup2, v_tup3, v_tup4, v_lst1, v_lst2, v_item, v_t0, v_t1, v_t2, v_t3, v_l0, v_l1, v_call, v_call', v_bits, v_bits', v_isint, v_isint', v_shift, v_shift_f, v_shift_c, v_dint, v_dabs, v_ddivmod, v_set, v_kset, v_set2, v_kset2, v_aug, v_int2, v_ret, v_kret, v_retof, v_retof', v_app_nil, v_app_cons, v_app_app, v_if, v_kif1, v_kif0, v_asrt, v_kasrt, v_un, v_unR, v_un2, v_un4, v_unR2, v_unR3, v_try, v_none, v_nil, v_for, v_kfor, v_kF_nil, v_kF_cons, v_tail, v_tail2, v_dlen2, v_while, v_kw, v_gt0, v_gts, v_up0, v_ups, v_defD, v_teq, v_teq2, List.length_cons, List.length_nil, List.cons_append, List.nil_append, List.append_nil, List.map_cons, List.map_nil, List.reduceReplicate, Nat.zero_add, Nat.reduceAdd, Bool.not_true, Bool.not_false, decide_true, decide_false, not_true_eq_false, not_false_eq_true, true_and, and_true, Int.reduceEq, Int.reduceLT, Int.reduceLE, Int.reduceNeg, e1, e2, e3, e4, n1, n2, f]
    · rw [sgi_pos (by omega)] at e1
      simp only [DIVg, divS, v_bnd, v_bin, v_add, v_sub, v_mul, v_div, v_mod, v_pow, v_shl, v_shr, v_and, v_xor, v_app, v_ofB, v_cmp, v_tcmp, v_eq, v_ne, v_lt, v_le, v_gt, v_ge, v_seq, v_tr_b, v_tr_i, v_tE, v_onot, v_tnot, v_not, v_neg, v_neg', v_ite, v_ite1, v_ite0, v_eand, v_eor, v_eand1, v_eand0, v_eor1, v_eor0, v_eand_i, v_eor_i, v_tand, v_tor, v_tand1, v_tand0, v_tor1, v_tor0, v_ttrue, v_tfalse, v_chain, v_var, v_int, v_bool, v_str, v_glob, v_lnil, v_lcons, v_lc, v_tup, v_lst, v_tup1, v_tup2, v_tup3, v_tup4, v_lst1, v_lst2, v_item, v_t0, v_t1, v_t2, v_t3, v_l0, v_l1, v_call, v_call', v_bits, v_bits', v_isint, v_isint', v_shift, v_shift_f, v_shift_c, v_dint, v_dabs, v_ddivmod, v_set, v_kset, v_set2, v_kset2, v_aug, v_int2, v_ret, v_kret, v_retof, v_retof', v_app_nil, v_app_cons, v_app_app, v_if, v_kif1, v_kif0, v_asrt, v_kasrt, v_un, v_unR, v_un2, v_un4, v_unR2, v_unR3, v_try, v_none, v_nil, v_for, v_kfor, v_kF_nil, v_kF_cons, v_tail, v_tail2, v_dlen2, v_while, v_kw, v_gt0, v_gts, v_up0, v_ups, v_defD, v_teq, v_teq2, List.length_cons, List.length_nil, List.cons_append, List.nil_append, List.append_nil, List.map_cons, List.map_nil, List.reduceReplicate, Nat.zero_add, Nat.reduceAdd, Bool.not_true, Bool.not_false, decide_true, decide_false, not_true_eq_false, not_false_eq_true, true_and, and_true, Int.reduceEq, Int.reduceLT, Int.reduceLE, Int.reduceNeg, e1, e2, e3, e4, n1, n2, f]
/-- zero within the divisor, or the divisor zero -/
theorem div_wide (h : (ta.v.1 < 0 ∧ 0 < tb.v.1) ∨ (ta.v.1 = 0 ∧ tb.v.1 = 0)) : F_mpi_div [.tup [sa.d, sb.d], .tup [ta.d, tb.d], .int p] = some dInf := by
  have e1 := Nm.sign_eval h1
  have e2 := Nm.sign_eval h2
  have e3 := Nm.sign_eval h3
  have e4 := Nm.sign_eval h4
  rw [F_div_eq]
  rcases h with ⟨a, b⟩ | ⟨a, b⟩
  · rw [sgi_neg a] at e3
    rw [sgi_pos b] at e4
    rcases Int.lt_trichotomy sa.v.1 0 with w | w | w <;> rcases Int.lt_trichotomy sb.v.1 0 with w' | w' | w'
    all_goals (first | rw [sgi_neg w] at e1 | rw [sgi_zero w] at e1 | rw [sgi_pos w] at e1)
    all_goals (first | rw [sgi_neg w'] at e2 | rw [sgi_zero w'] at e2 | rw [sgi_pos w'] at e2)
    all_goals simp only [DIVg, divS, v_bnd, v_bin, v_add, v_sub, v_mul, v_div, v_mod, v_pow, v_shl, v_shr, v_and, v_xor, v_app, v_ofB, v_cmp, v_tcmp, v_eq, v_ne, v_lt, v_le, v_gt, v_ge, v_seq, v_tr_b, v_tr_i, v_tE, v_onot, v_tnot, v_not, v_neg, v_neg', v_ite, v_ite1, v_ite0, v_eand, v_eor, v_eand1, v_eand0, v_eor1, v_eor0, v_eand_i, v_eor_i, v_tand, v_tor, v_tand1, v_tand0, v_tor1, v_tor0, v_ttrue, v_tfalse, v_chain, v_var, v_int, v_bool, v_str, v_glob, v_lnil, v_lcons, v_lc, v_tup, v_lst, v_tup1, v_tup2, v_tup3, v_tup4, v_lst1, v_lst2, v_item, v_t0, v_t1, v_t2, v_t3, v_l0, v_l1, v_call, v_call', v_bits, v_bits', v_isint, v_isint', v_shift, v_shift_f, v_shift_c, v_dint, v_dabs, v_ddivmod, v_set, v_kset, v_set2, v_kset2, v_aug, v_int2, v_ret, v_kret, v_retof, v_retof', v_app_nil, v_app_cons, v_app_app, v_if, v_kif1, v_kif0, v_asrt, v_kasrt, v_un, v_unR, v_un2, v_un4, v_unR2, v_unR3, v_try, v_none, v_nil, v_for, v_kfor, v_kF_nil, v_kF_cons, v_tail, v_tail2, v_dlen2, v_while, v_kw, v_gt0, v_gts, v_up0, v_ups, v_defD, v_teq, v_teq2, List.length_cons, List.length_nil, List.cons_append, List.nil_append, List.append_nil, List.map_cons, List.map_nil, List.reduceReplicate, Nat.zero_add, Nat.reduceAdd, Bool.not_true, Bool.not_false, decide_true, decide_false, not_true_eq_false, not_false_eq_true, true_and, and_true, Int.reduceEq, Int.reduceLT, Int.reduceLE, Int.reduceNeg, e1, e2, e3, e4, dInf]
  · rw [sgi_zero a] at e3
    rw [sgi_zero b] at e4
    rcases Int.lt_trichotomy sa.v.1 0 with w | w | w <;> rcases Int.lt_trichotomy sb.v.1 0 with w' | w' | w'
    all_goals (first | rw [sgi_neg w] at e1 | rw [sgi_zero w] at e1 | rw [sgi_pos w] at e1)
    all_goals (first | rw [sgi_neg w'] at e2 | rw [sgi_zero w'] at e2 | rw [sgi_pos w'] at e2)
    all_goals simp only [DIVg, divS, v_bnd, v_bin, v_add, v_sub, v_mul, v_div, v_mod, v_pow, v_shl, v_shr, v_and, v_xor, v_app, v_ofB, v_cmp, v_tcmp, v_eq, v_ne, v_lt, v_le, v_gt, v_ge, v_seq, v_tr_b, v_tr_i, v_tE, v_onot, v_tnot, v_not, v_neg, v_neg', v_ite, v_ite1, v_ite0, v_eand, v_eor, v_eand1, v_eand0, v_eor1, v_eor0, v_eand_i, v_eor_i, v_tand, v_tor, v_tand1, v_tand0, v_tor1, v_tor0, v_ttrue, v_tfalse, v_chain, v_var, v_int, v_bool, v_str, v_glob, v_lnil, v_lcons, v_lc, v_tup, v_lst, v_tup1, v_tup2, v_tup3, v_tup4, v_lst1, v_lst2, v_item, v_t0, v_t1, v_t2, v_t3, v_l0, v_l1, v_call, v_call', v_bits, v_bits', v_isint, v_isint', v_shift, v_shift_f, v_shift_c, v_dint, v_dabs, v_ddivmod, v_set, v_kset, v_set2, v_kset2, v_aug, v_int2, v_ret, v_kret, v_retof, v_retof', v_app_nil, v_app_cons, v_app_app, v_if, v_kif1, v_kif0, v_asrt, v_kasrt, v_un, v_unR, v_un2, v_un4, v_unR2, v_unR3, v_try, v_none, v_nil, v_for, v_kfor, v_kF_nil, v_kF_cons, v_tail, v_tail2, v_dlen2, v_while, v_kw, v_gt0, v_gts, v_up0, v_ups, v_defD, v_teq, v_teq2, List.length_cons, List.length_nil, List.cons_append, List.nil_append, List.append_nil, List.map_cons, List.map_nil, List.reduceReplicate, Nat.zero_add, Nat.reduceAdd, Bool.not_true, Bool.not_false, decide_true, decide_false, not_true_eq_false, not_false_eq_true, true_and, and_true, Int.reduceEq, Int.reduceLT, Int.reduceLE, Int.reduceNeg, e1, e2, e3, e4, dInf]
end
end Mine

namespace Mine
set_option autoImplicit false
theorem pair_eq (s1 s2 : Bool) (m1 m2 : Nat) (e1 e2 : Int) : oCmp .Eq (some (.tup [MM s1 m1 e1, MM s2 m2 e2])) (some (.tup [MM s1 m1 e1, MM s2 m2 e2])) = some true := by
  unfold MM; rw [v_teq2]; simp
theorem d_finf_eq : d_finf = .tup [.int 0, .int 0, .int (-456), .int (-2)] := rfl
theorem d_fninf_eq : d_fninf = .tup [.int 1, .int 0, .int (-789), .int (-3)] := rfl
theorem pair_inf (s1 : Bool) (m1 : Nat) (e1 : Int) : oCmp .Eq (some (.tup [MM s1 m1 e1, d_finf])) (some (.tup [MM s1 m1 e1, .tup [.int 0, .int 0, .int (-456), .int (-2)]])) = some true := by
  unfold MM; rw [d_finf_eq, v_teq2]; simp
theorem pair_ninf (s1 : Bool) (m1 : Nat) (e1 : Int) : oCmp .Eq (some (.tup [d_fninf, MM s1 m1 e1])) (some (.tup [.tup [.int 1, .int 0, .int (-789), .int (-3)], MM s1 m1 e1])) = some true := by
  unfold MM; rw [d_fninf_eq, v_teq2]; simp
theorem pair_infs : oCmp .Eq (some dInf) (some (.tup [.tup [.int 1, .int 0, .int (-789), .int (-3)], .tup [.int 0, .int 0, .int (-456), .int (-2)]])) = some true := by
  unfold dInf; rw [d_fninf_eq, d_finf_eq, v_teq2]; simp
/-- told as the outward rounding of the ends -/
theorem held_eval {p : Nat} {l u l' u' : Fr} {d1 d2 : D} (hp : 1 ≤ p) (hp2 : p ≤ 1000) (r1 : RN false p l d1) (r2 : RN true p u d2) (pl : 0 < l.2) (pu : 0 < u.2) (pl' : 0 < l'.2) (pu' : 0 < u'.2)
    (bl' : Bd 2000 l') (bu' : Bd 2000 u') (q1 : l.1 * l'.2 = l'.1 * l.2) (q2 : u.1 * u'.2 = u'.1 * u.2) :
    F_law_held [.tup [d1, d2], frD l', frD u', .int p] = some (.bool true) := by
  obtain ⟨d1', w1, f1⟩ := rounded_eval false l' p pl' hp hp2 bl'
  obtain ⟨d2', w2, f2⟩ := rounded_eval true u' p pu' hp hp2 bu'
  have g1 := RN.unique hp r1 w1 pl pl' q1
  have g2 := RN.unique hp r2 w2 pu pu' q2
  subst g1 g2
  obtain ⟨s, m, e, rfl, _⟩ := r1
  obtain ⟨s', m', e', rfl, _⟩ := r2
  simp only [RR, if_true, if_false, Bool.false_eq_true] at f1 f2
  simp only [F_law_held, D_law_held, frD, v_bnd, v_bin, v_add, v_sub, v_mul, v_div, v_mod, v_pow, v_shl, v_shr, v_and, v_xor, v_app, v_ofB, v_cmp, v_tcmp, v_eq, v_ne, v_lt, v_le, v_gt, v_ge, v_seq, v_tr_b, v_tr_i, v_tE, v_onot, v_tnot, v_not, v_neg, v_neg', v_ite, v_ite1, v_ite0, v_eand, v_eor, v_eand1, v_eand0, v_eor1, v_eor0, v_eand_i, v_eor_i, v_tand, v_tor, v_tand1, v_tand0, v_tor1, v_tor0, v_ttrue, v_tfalse, v_chain, v_var, v_int, v_bool, v_str, v_glob, v_lnil, v_lcons, v_lc, v_tup, v_lst, v_tup1, v_tup2, v_tup3, v_tup4, v_lst1, v_lst2, v_item, v_t0, v_t1, v_t2, v_t3, v_l0, v_l1, v_call, v_call', v_bits, v_bits', v_isint, v_isint', v_shift, v_shift_f, v_shift_c, v_dint, v_dabs, v_ddivmod, v_set, v_kset, v_set2, v_kset2, v_aug, v_int2, v_ret, v_kret, v_retof, v_retof', v_app_nil, v_app_cons, v_app_app, v_if, v_kif1, v_kif0, v_asrt, v_kasrt, v_un, v_unR, v_un2, v_un4, v_unR2, v_unR3, v_try, v_none, v_nil, v_for, v_kfor, v_kF_nil, v_kF_cons, v_tail, v_tail2, v_dlen2, v_while, v_kw, v_gt0, v_gts, v_up0, v_ups, v_defD, v_teq, v_teq2, List.length_cons, List.length_nil, List.cons_append, List.nil_append, List.append_nil, List.map_cons, List.map_nil, List.reduceReplicate, Nat.zero_add, Nat.reduceAdd, Bool.not_true, Bool.not_false, decide_true, decide_false, not_true_eq_false, not_false_eq_true, true_and, and_true, f1, f2, pair_eq]
theorem comp_over {ρ : St} {A0 A1 B0 B1 R00 R01 R10 R11 : D} (ha : gt ρ 2 = some (.lst [A0, A1])) (hb : gt ρ 3 = some (.lst [B0, B1]))
    (e00 : F_law_over [A0, B0] = some R00) (e01 : F_law_over [A0, B1] = some R01) (e10 : F_law_over [A1, B0] = some R10) (e11 : F_law_over [A1, B1] = some R11) :
    eComp2 (pOne 3 2 3) (eVar 2) (aName 0) (eVar 2) (aName 1) (eCall F_law_over (lCons (eVar 0) (lCons (eVar 1) lNil))) ρ = some (.lst [R00, R01, R10, R11]) := by
  have p1 : pOne 3 2 3 ρ = some [none, none, some (.lst [B0, B1])] := by unfold pOne; rw [hb]; rfl
  have p2 : eVar 2 ρ = some (.lst [A0, A1]) := ha
  unfold eComp2
  rw [p1, Option.bind_some, p2, Option.bind_some]
  simp [eVar, dComp2, dSeq, cloop2, cloop, aName, up, gt, eCall, lCons, lNil, e00, e01, e10, e11]
theorem one_end {p : Nat} {c : Bool} {l l' : Fr} {d : D} (hp : 1 ≤ p) (hp2 : p ≤ 1000) (r1 : RN c p l d) (pl : 0 < l.2) (pl' : 0 < l'.2) (bl' : Bd 2000 l') (q1 : l.1 * l'.2 = l'.1 * l.2) :
    ∃ s m e, d = MM s m e ∧ F_law_rounded [.int l'.1, .int l'.2, .int p, RR c] = some (MM s m e) := by
  obtain ⟨d1', w1, f1⟩ := rounded_eval c l' p pl' hp hp2 bl'
  have g1 := RN.unique hp r1 w1 pl pl' q1
  subst g1
  obtain ⟨s, m, e, rfl, _⟩ := r1
  exact ⟨s, m, e, rfl, f1⟩
section
variable {k p : Nat} {sa sb ta tb : Nm} (h1 : sa.Ok k) (h2 : sb.Ok k) (h3 : ta.Ok k) (h4 : tb.Ok k) (hk : k ≤ 4000) (hp : 1 ≤ p) (hp2 : p ≤ 1000) (hs : fle sa.v sb.v) (ht : fle ta.v tb.v)
  (b1 : Bd 900 sa.v) (b2 : Bd 900 sb.v) (b3 : Bd 900 ta.v) (b4 : Bd 900 tb.v)
include h1 h2 h3 h4 hk hp hp2 hs ht b1 b2 b3 b4
theorem quotient_eval : F_law_quotient_right [.tup [sa.d, sb.d], .tup [ta.d, tb.d], .lst [frD sa.v, frD sb.v], .lst [frD ta.v, frD tb.v], .int p] = some (.bool true) := by
  have k9 : 900 ≤ 60000000 := by decide
  have k18 : 900 + 900 ≤ 60000000 := by decide
  have sg3 := fle_sign ta.pos tb.pos ht
  have sgs := fle_sign sa.pos sb.pos hs
  by_cases c1 : 0 < ta.v.1 ∨ tb.v.1 < 0
  · obtain ⟨d1, d2, l, u, f, r1, r2, ml, mu, ord⟩ := div_away h1 h2 h3 h4 hk hp hp2 hs ht c1
    have na : ta.v.1 ≠ 0 := by rcases c1 with c | c <;> omega
    have nb : tb.v.1 ≠ 0 := by rcases c1 with c | c <;> omega
    have o00 := over_eval k9 b1 b3
    have o01 := over_eval k9 b1 b4
    have o10 := over_eval k9 b2 b3
    have o11 := over_eval k9 b2 b4
    have all : ∀ g ∈ [fov sa.v ta.v, fov sa.v tb.v, fov sb.v ta.v, fov sb.v tb.v], Bd (900 + 900) g ∧ 0 < g.2 := by
      intro g hg
      simp only [List.mem_cons, List.not_mem_nil, or_false] at hg
      rcases hg with rfl | rfl | rfl | rfl
      · exact ⟨b1.fov b3, fov_den sa.pos na⟩
      · exact ⟨b1.fov b4, fov_den sa.pos nb⟩
      · exact ⟨b2.fov b3, fov_den sb.pos na⟩
      · exact ⟨b2.fov b4, fov_den sb.pos nb⟩
    obtain ⟨l', u', ml', mu', ord', fe⟩ := ends_eval k18 _ _ all
    have held := held_eval hp hp2 r1 r2 (all l ml).2 (all u mu).2 (all l' ml').2 (all u' mu').2 ((all l' ml').1.mono (by decide)) ((all u' mu').1.mono (by decide))
      (fle_anti (ord l' ml').1 (ord' l ml).1) (fle_anti (ord' u mu).2 (ord u' mu').2)
    simp only [List.map_cons, List.map_nil] at fe
    have i0 : oSub (some (frD ta.v)) (some (.int 0)) = some (.int ta.v.1) := rfl
    have i1 : oSub (some (frD tb.v)) (some (.int 0)) = some (.int tb.v.1) := rfl
    have cond : bOr (some (decide (0 < ta.v.1))) (bOr (some (decide (tb.v.1 < 0))) (some false)) = some true := by
      rcases c1 with c | c
      · simp [c, bOr]
      · by_cases c' : 0 < ta.v.1 <;> simp [c, c', bOr]
    have cp := fun ρ ha hb => comp_over (ρ := ρ) ha hb o00 o01 o10 o11
    simp only [F_law_quotient_right, D_law_quotient_right, v_bnd, v_bin, v_add, v_sub, v_mul, v_div, v_mod, v_pow, v_shl, v_shr, v_and, v_xor, v_app, v_ofB, v_cmp, v_tcmp, v_eq, v_ne, v_lt, v_le, v_gt, v_ge, v_seq, v_tr_b, v_tr_i, v_tE, v_onot, v_tnot, v_not, v_neg, v_neg', v_ite, v_ite1, v_ite0, v_eand, v_eor, v_eand1, v_eand0, v_eor1, v_eor0, v_eand_i, v_eor_i, v_tand, v_tor, v_tand1, v_tand0, v_tor1, v_tor0, v_ttrue, v_tfalse, v_chain, v_var, v_int, v_bool, v_str, v_glob, v_lnil, v_lcons, v_lc, v_tup, v_lst, v_tup1, v_tup2, v_tup3, v_tup4, v_lst1, v_lst2, v_item, v_t0, v_t1, v_t2, v_t3, v_l0, v_l1, v_call, v_call', v_bits, v_bits', v_isint, v_isint', v_shift, v_shift_f, v_shift_c, v_dint, v_dabs, v_ddivmod, v_set, v_kset, v_set2, v_kset2, v_aug, v_int2, v_ret, v_kret, v_retof, v_retof', v_app_nil, v_app_cons, v_app_app, v_if, v_kif1, v_kif0, v_asrt, v_kasrt, v_un, v_unR, v_un2, v_un4, v_unR2, v_unR3, v_try, v_none, v_nil, v_for, v_kfor, v_kF_nil, v_kF_cons, v_tail, v_tail2, v_dlen2, v_while, v_kw, v_gt0, v_gts, v_up0, v_ups, v_defD, v_teq, v_teq2, List.length_cons, List.length_nil, List.cons_append, List.nil_append, List.append_nil, List.map_cons, List.map_nil, List.reduceReplicate, Nat.zero_add, Nat.reduceAdd, Bool.not_true, Bool.not_false, decide_true, decide_false, not_true_eq_false, not_false_eq_true, true_and, and_true, Int.reduceEq, Int.reduceLT, Int.reduceLE, Int.reduceNeg, f, i0, i1, cond]
    rw [cp _ rfl rfl]
    simp only [v_bnd, v_bin, v_add, v_sub, v_mul, v_div, v_mod, v_pow, v_shl, v_shr, v_and, v_xor, v_app, v_ofB, v_cmp, v_tcmp, v_eq, v_ne, v_lt, v_le, v_gt, v_ge, v_seq, v_tr_b, v_tr_i, v_tE, v_onot, v_tnot, v_not, v_neg, v_neg', v_ite, v_ite1, v_ite0, v_eand, v_eor, v_eand1, v_eand0, v_eor1, v_eor0, v_eand_i, v_eor_i, v_tand, v_tor, v_tand1, v_tand0, v_tor1, v_tor0, v_ttrue, v_tfalse, v_chain, v_var, v_int, v_bool, v_str, v_glob, v_lnil, v_lcons, v_lc, v_tup, v_lst, v_tup1, v_tup2, v_tup3, v_tup4, v_lst1, v_lst2, v_item, v_t0, v_t1, v_t2, v_t3, v_l0, v_l1, v_call, v_call', v_bits, v_bits', v_isint, v_isint', v_shift, v_shift_f, v_shift_c, v_dint, v_dabs, v_ddivmod, v_set, v_kset, v_set2, v_kset2, v_aug, v_int2, v_ret, v_kret, v_retof, v_retof', v_app_nil, v_app_cons, v_app_app, v_if, v_kif1, v_kif0, v_asrt, v_kasrt, v_un, v_unR, v_un2, v_un4, v_unR2, v_unR3, v_try, v_none, v_nil, v_for, v_kfor, v_kF_nil, v_kF_cons, v_tail, v_tail2, v_dlen2, v_while, v_kw, v_gt0, v_gts, v_up0, v_ups, v_defD, v_teq, v_teq2, List.length_cons, List.length_nil, List.cons_append, List.nil_append, List.append_nil, List.map_cons, List.map_nil, List.reduceReplicate, Nat.zero_add, Nat.reduceAdd, Bool.not_true, Bool.not_false, decide_true, decide_false, not_true_eq_false, not_false_eq_true, true_and, and_true, Int.reduceEq, Int.reduceLT, Int.reduceLE, Int.reduceNeg, fe, held]
  · have i0 : oSub (some (frD ta.v)) (some (.int 0)) = some (.int ta.v.1) := rfl
    have i1 : oSub (some (frD tb.v)) (some (.int 0)) = some (.int tb.v.1) := rfl
    have i2 : oSub (some (frD sa.v)) (some (.int 0)) = some (.int sa.v.1) := rfl
    have i3 : oSub (some (frD sb.v)) (some (.int 0)) = some (.int sb.v.1) := rfl
    have cond : bOr (some (decide (0 < ta.v.1))) (bOr (some (decide (tb.v.1 < 0))) (some false)) = some false := by
      have : ¬ 0 < ta.v.1 := fun z => c1 (.inl z)
      have : ¬ tb.v.1 < 0 := fun z => c1 (.inr z)
      simp [*, bOr]
    by_cases c2 : (ta.v.1 = 0 ∧ 0 < tb.v.1)
    · skip
      obtain ⟨t1, t2, t3⟩ := div_half (R := (eCall F_mpi_div0 (lCons (eCall F_mpi_neg_1 (lCons (eVar 0) lNil)) (lCons (eCall F_mpi_neg_1 (lCons (eVar 1) lNil)) (lCons (eVar 2) lNil))))) h1 h2 h3 h4 hk hp hp2 hs ht c2.1 c2.2
      rw [← F_div_eq] at t1 t2 t3
      have o0 := over_eval k9 b1 b4
      have o1 := over_eval k9 b2 b4
      have all : ∀ g ∈ [fov sa.v tb.v, fov sb.v tb.v], Bd (900 + 900) g ∧ 0 < g.2 := by
        intro g hg
        simp only [List.mem_cons, List.not_mem_nil, or_false] at hg
        rcases hg with rfl | rfl
        · exact ⟨b1.fov b4, fov_den sa.pos (by omega)⟩
        · exact ⟨b2.fov b4, fov_den sb.pos (by omega)⟩
      obtain ⟨l', u', ml', mu', ord', fe⟩ := ends_eval k18 _ _ all
      simp only [List.map_cons, List.map_nil] at fe
      have j0 : oSub (some (frD l')) (some (.int 0)) = some (.int l'.1) := rfl
      have j1 : oSub (some (frD l')) (some (.int 1)) = some (.int l'.2) := rfl
      have j2 : oSub (some (frD u')) (some (.int 0)) = some (.int u'.1) := rfl
      have j3 : oSub (some (frD u')) (some (.int 1)) = some (.int u'.2) := rfl
      have dA : 0 < (fov sa.v tb.v).2 := fov_den sa.pos (by omega)
      have dB : 0 < (fov sb.v tb.v).2 := fov_den sb.pos (by omega)
      have xA := ord' (fov sa.v tb.v) (by simp)
      have xB := ord' (fov sb.v tb.v) (by simp)
      have dl' := (all l' ml').2
      have du' := (all u' mu').2
      have cond2 : bOr (bAnd (some (decide (ta.v.1 = 0))) (bAnd (some (decide (0 < tb.v.1))) (some true))) (bOr (bAnd (some (decide (ta.v.1 < 0))) (bAnd (some (decide (tb.v.1 = 0))) (some true))) (some false)) = some true := by
        simp [c2.1, c2.2, bOr, bAnd]
      have farf : oIte (some (decide (0 < tb.v.1))) (some (frD tb.v)) (some (frD ta.v)) = some (frD tb.v) := by simp [c2.2, oIte]
      by_cases w : (sa.v.1 = 0 ∧ sb.v.1 = 0) ∨ (sa.v.1 < 0 ∧ 0 < sb.v.1)
      · have f := t1 w
        have cond3 : bOr (bAnd (some (decide (sa.v.1 = 0))) (bAnd (some (decide (sb.v.1 = 0))) (some true))) (bOr (bAnd (some (decide (sa.v.1 < 0))) (bAnd (some (decide (0 < sb.v.1))) (some true))) (some false)) = some true := by
          rcases w with ⟨a, b⟩ | ⟨a, b⟩
          · simp [a, b, bOr, bAnd]
          · have : ¬ sa.v.1 = 0 := by omega
            simp [a, b, this, bOr, bAnd]
        simp only [F_law_quotient_right, D_law_quotient_right, v_bnd, v_bin, v_add, v_sub, v_mul, v_div, v_mod, v_pow, v_shl, v_shr, v_and, v_xor, v_app, v_ofB, v_cmp, v_tcmp, v_eq, v_ne, v_lt, v_le, v_gt, v_ge, v_seq, v_tr_b, v_tr_i, v_tE, v_onot, v_tnot, v_not, v_neg, v_neg', v_ite, v_ite1, v_ite0, v_eand, v_eor, v_eand1, v_eand0, v_eor1, v_eor0, v_eand_i, v_eor_i, v_tand, v_tor, v_tand1, v_tand0, v_tor1, v_tor0, v_ttrue, v_tfalse, v_chain, v_var, v_int, v_bool, v_str, v_glob, v_lnil, v_lcons, v_lc, v_tup, v_lst, v_tup1, v_tup2, v_tup3, v_tup4, v_lst1, v_lst2, v_item, v_t0, v_t1, v_t2, v_t3, v_l0, v_l1, v_call, v_call', v_bits, v_bits', v_isint, v_isint', v_shift, v_shift_f, v_shift_c, v_dint, v_dabs, v_ddivmod, v_set, v_kset, v_set2, v_kset2, v_aug, v_int2, v_ret, v_kret, v_retof, v_retof', v_app_nil, v_app_cons, v_app_app, v_if, v_kif1, v_kif0, v_asrt, v_kasrt, v_un, v_unR, v_un2, v_un4, v_unR2, v_unR3, v_try, v_none, v_nil, v_for, v_kfor, v_kF_nil, v_kF_cons, v_tail, v_tail2, v_dlen2, v_while, v_kw, v_gt0, v_gts, v_up0, v_ups, v_defD, v_teq, v_teq2, List.length_cons, List.length_nil, List.cons_append, List.nil_append, List.append_nil, List.map_cons, List.map_nil, List.reduceReplicate, Nat.zero_add, Nat.reduceAdd, Bool.not_true, Bool.not_false, decide_true, decide_false, not_true_eq_false, not_false_eq_true, true_and, and_true, Int.reduceEq, Int.reduceLT, Int.reduceLE, Int.reduceNeg, f, i0, i1, i2, i3, cond, cond2, farf, o0, o1, fe, cond3, pair_infs]
      · have cond3 : bOr (bAnd (some (decide (sa.v.1 = 0))) (bAnd (some (decide (sb.v.1 = 0))) (some true))) (bOr (bAnd (some (decide (sa.v.1 < 0))) (bAnd (some (decide (0 < sb.v.1))) (some true))) (some false)) = some false := by
          have w1 : ¬ (sa.v.1 = 0 ∧ sb.v.1 = 0) := fun z => w (.inl z)
          have w2 : ¬ (sa.v.1 < 0 ∧ 0 < sb.v.1) := fun z => w (.inr z)
          by_cases q : sa.v.1 = 0
          · have : ¬ sb.v.1 = 0 := fun z => w1 ⟨q, z⟩
            simp [q, this, bOr, bAnd]
          · by_cases r : sa.v.1 < 0
            · have : ¬ 0 < sb.v.1 := fun z => w2 ⟨r, z⟩
              simp [q, r, this, bOr, bAnd]
            · simp [q, r, bOr, bAnd]
        by_cases w3 : 0 ≤ sa.v.1
        · obtain ⟨d, r, f⟩ := t2 (by omega) (by omega)
          have ord : fle (fov sa.v tb.v) (fov sb.v tb.v) := fov_M1 sa.pos sb.pos c2.2 tb.pos hs
          have el : (fov sa.v tb.v).1 * l'.2 = l'.1 * (fov sa.v tb.v).2 := fle_anti (by
            simp only [List.mem_cons, List.not_mem_nil, or_false] at ml'
            rcases ml' with rfl | rfl
            · first | exact fle_refl _ | exact ord
            · first | exact fle_refl _ | exact ord) xA.1
          obtain ⟨s, m, e, rfl, f1⟩ := one_end hp hp2 r dA dl' ((all l' ml').1.mono (by decide)) el
          simp only [RR, if_true, if_false, Bool.false_eq_true] at f1
          have hl : 0 ≤ l'.1 := by
            simp only [List.mem_cons, List.not_mem_nil, or_false] at ml'
            rcases ml' with rfl | rfl
            · exact (fun (x : Fr) (px : 0 < x.2) (hx : 0 ≤ x.1) => show 0 ≤ (fov x tb.v).1 by rw [fov_p px c2.2]; exact Int.mul_nonneg hx (Int.le_of_lt tb.pos)) sa.v sa.pos (by omega)
            · exact (fun (x : Fr) (px : 0 < x.2) (hx : 0 ≤ x.1) => show 0 ≤ (fov x tb.v).1 by rw [fov_p px c2.2]; exact Int.mul_nonneg hx (Int.le_of_lt tb.pos)) sb.v sb.pos (by omega)
          simp only [F_law_quotient_right, D_law_quotient_right, v_bnd, v_bin, v_add, v_sub, v_mul, v_div, v_mod, v_pow, v_shl, v_shr, v_and, v_xor, v_app, v_ofB, v_cmp, v_tcmp, v_eq, v_ne, v_lt, v_le, v_gt, v_ge, v_seq, v_tr_b, v_tr_i, v_tE, v_onot, v_tnot, v_not, v_neg, v_neg', v_ite, v_ite1, v_ite0, v_eand, v_eor, v_eand1, v_eand0, v_eor1, v_eor0, v_eand_i, v_eor_i, v_tand, v_tor, v_tand1, v_tand0, v_tor1, v_tor0, v_ttrue, v_tfalse, v_chain, v_var, v_int, v_bool, v_str, v_glob, v_lnil, v_lcons, v_lc, v_tup, v_lst, v_tup1, v_tup2, v_tup3, v_tup4, v_lst1, v_lst2, v_item, v_t0, v_t1, v_t2, v_t3, v_l0, v_l1, v_call, v_call', v_bits, v_bits', v_isint, v_isint', v_shift, v_shift_f, v_shift_c, v_dint, v_dabs, v_ddivmod, v_set, v_kset, v_set2, v_kset2, v_aug, v_int2, v_ret, v_kret, v_retof, v_retof', v_app_nil, v_app_cons, v_app_app, v_if, v_kif1, v_kif0, v_asrt, v_kasrt, v_un, v_unR, v_un2, v_un4, v_unR2, v_unR3, v_try, v_none, v_nil, v_for, v_kfor, v_kF_nil, v_kF_cons, v_tail, v_tail2, v_dlen2, v_while, v_kw, v_gt0, v_gts, v_up0, v_ups, v_defD, v_teq, v_teq2, List.length_cons, List.length_nil, List.cons_append, List.nil_append, List.append_nil, List.map_cons, List.map_nil, List.reduceReplicate, Nat.zero_add, Nat.reduceAdd, Bool.not_true, Bool.not_false, decide_true, decide_false, not_true_eq_false, not_false_eq_true, true_and, and_true, Int.reduceEq, Int.reduceLT, Int.reduceLE, Int.reduceNeg, f, i0, i1, i2, i3, cond, cond2, farf, o0, o1, fe, cond3, j0, j1, j2, j3, hl, f1, pair_inf]
        · obtain ⟨d, r, f⟩ := t3 (by omega) (by omega)
          have ord : fle (fov sa.v tb.v) (fov sb.v tb.v) := fov_M1 sa.pos sb.pos c2.2 tb.pos hs
          have el : (fov sb.v tb.v).1 * u'.2 = u'.1 * (fov sb.v tb.v).2 := fle_anti xB.2 (by
            simp only [List.mem_cons, List.not_mem_nil, or_false] at mu'
            rcases mu' with rfl | rfl
            · first | exact fle_refl _ | exact ord
            · first | exact fle_refl _ | exact ord)
          obtain ⟨s, m, e, rfl, f1⟩ := one_end hp hp2 r dB du' ((all u' mu').1.mono (by decide)) el
          simp only [RR, if_true, if_false, Bool.false_eq_true] at f1
          have hl : ¬ 0 ≤ l'.1 := by
            have := (fle_sign dl' dA xA.1).2.1
            have := (show (fov sa.v tb.v).1 < 0 by rw [fov_p sa.pos c2.2]; exact Int.mul_neg_of_neg_of_pos (by omega) tb.pos)
            omega
          simp only [F_law_quotient_right, D_law_quotient_right, v_bnd, v_bin, v_add, v_sub, v_mul, v_div, v_mod, v_pow, v_shl, v_shr, v_and, v_xor, v_app, v_ofB, v_cmp, v_tcmp, v_eq, v_ne, v_lt, v_le, v_gt, v_ge, v_seq, v_tr_b, v_tr_i, v_tE, v_onot, v_tnot, v_not, v_neg, v_neg', v_ite, v_ite1, v_ite0, v_eand, v_eor, v_eand1, v_eand0, v_eor1, v_eor0, v_eand_i, v_eor_i, v_tand, v_tor, v_tand1, v_tand0, v_tor1, v_tor0, v_ttrue, v_tfalse, v_chain, v_var, v_int, v_bool, v_str, v_glob, v_lnil, v_lcons, v_lc, v_tup, v_lst, v_tup1, v_tup2, v_tup3, v_tup4, v_lst1, v_lst2, v_item, v_t0, v_t1, v_t2, v_t3, v_l0, v_l1, v_call, v_call', v_bits, v_bits', v_isint, v_isint', v_shift, v_shift_f, v_shift_c, v_dint, v_dabs, v_ddivmod, v_set, v_kset, v_set2, v_kset2, v_aug, v_int2, v_ret, v_kret, v_retof, v_retof', v_app_nil, v_app_cons, v_app_app, v_if, v_kif1, v_kif0, v_asrt, v_kasrt, v_un, v_unR, v_un2, v_un4, v_unR2, v_unR3, v_try, v_none, v_nil, v_for, v_kfor, v_kF_nil, v_kF_cons, v_tail, v_tail2, v_dlen2, v_while, v_kw, v_gt0, v_gts, v_up0, v_ups, v_defD, v_teq, v_teq2, List.length_cons, List.length_nil, List.cons_append, List.nil_append, List.append_nil, List.map_cons, List.map_nil, List.reduceReplicate, Nat.zero_add, Nat.reduceAdd, Bool.not_true, Bool.not_false, decide_true, decide_false, not_true_eq_false, not_false_eq_true, true_and, and_true, Int.reduceEq, Int.reduceLT, Int.reduceLE, Int.reduceNeg, f, i0, i1, i2, i3, cond, cond2, farf, o0, o1, fe, cond3, j0, j1, j2, j3, hl, f1, pair_ninf]
    · by_cases c3 : (ta.v.1 < 0 ∧ tb.v.1 = 0)
      · skip
        obtain ⟨t1, t2, t3⟩ := div_half' h1 h2 h3 h4 hk hp hp2 hs ht c3.2 c3.1
        have o0 := over_eval k9 b1 b3
        have o1 := over_eval k9 b2 b3
        have all : ∀ g ∈ [fov sa.v ta.v, fov sb.v ta.v], Bd (900 + 900) g ∧ 0 < g.2 := by
          intro g hg
          simp only [List.mem_cons, List.not_mem_nil, or_false] at hg
          rcases hg with rfl | rfl
          · exact ⟨b1.fov b3, fov_den sa.pos (by omega)⟩
          · exact ⟨b2.fov b3, fov_den sb.pos (by omega)⟩
        obtain ⟨l', u', ml', mu', ord', fe⟩ := ends_eval k18 _ _ all
        simp only [List.map_cons, List.map_nil] at fe
        have j0 : oSub (some (frD l')) (some (.int 0)) = some (.int l'.1) := rfl
        have j1 : oSub (some (frD l')) (some (.int 1)) = some (.int l'.2) := rfl
        have j2 : oSub (some (frD u')) (some (.int 0)) = some (.int u'.1) := rfl
        have j3 : oSub (some (frD u')) (some (.int 1)) = some (.int u'.2) := rfl
        have dA : 0 < (fov sa.v ta.v).2 := fov_den sa.pos (by omega)
        have dB : 0 < (fov sb.v ta.v).2 := fov_den sb.pos (by omega)
        have xA := ord' (fov sa.v ta.v) (by simp)
        have xB := ord' (fov sb.v ta.v) (by simp)
        have dl' := (all l' ml').2
        have du' := (all u' mu').2
        have cond2 : bOr (bAnd (some (decide (ta.v.1 = 0))) (bAnd (some (decide (0 < tb.v.1))) (some true))) (bOr (bAnd (some (decide (ta.v.1 < 0))) (bAnd (some (decide (tb.v.1 = 0))) (some true))) (some false)) = some true := by
          have : ¬ ta.v.1 = 0 := by omega
          simp [c3.1, c3.2, this, bOr, bAnd]
        have farf : oIte (some (decide (0 < tb.v.1))) (some (frD tb.v)) (some (frD ta.v)) = some (frD ta.v) := by
          have : ¬ 0 < tb.v.1 := by omega
          simp [this, oIte]
        have mono : fle (fov sb.v ta.v) (fov sa.v ta.v) := by
          rw [← fov_neg' (x := sb) (y := ta) (by omega), ← fov_neg' (x := sa) (y := ta) (by omega)]
          exact fov_M1 sb.neg.pos sa.neg.pos (by rw [neg_num]; omega) ta.neg.pos (fle_neg hs)
        by_cases w : (sa.v.1 = 0 ∧ sb.v.1 = 0) ∨ (sa.v.1 < 0 ∧ 0 < sb.v.1)
        · have f := t1 w
          have cond3 : bOr (bAnd (some (decide (sa.v.1 = 0))) (bAnd (some (decide (sb.v.1 = 0))) (some true))) (bOr (bAnd (some (decide (sa.v.1 < 0))) (bAnd (some (decide (0 < sb.v.1))) (some true))) (some false)) = some true := by
            rcases w with ⟨a, b⟩ | ⟨a, b⟩
            · simp [a, b, bOr, bAnd]
            · have : ¬ sa.v.1 = 0 := by omega
              simp [a, b, this, bOr, bAnd]
          simp only [F_law_quotient_right, D_law_quotient_right, v_bnd, v_bin, v_add, v_sub, v_mul, v_div, v_mod, v_pow, v_shl, v_shr, v_and, v_xor, v_app, v_ofB, v_cmp, v_tcmp, v_eq, v_ne, v_lt, v_le, v_gt, v_ge, v_seq, v_tr_b, v_tr_i, v_tE, v_onot, v_tnot, v_not, v_neg, v_neg', v_ite, v_ite1, v_ite0, v_eand, v_eor, v_eand1, v_eand0, v_eor1, v_eor0, v_eand_i, v_eor_i, v_tand, v_tor, v_tand1, v_tand0, v_tor1, v_tor0, v_ttrue, v_tfalse, v_chain, v_var, v_int, v_bool, v_str, v_glob, v_lnil, v_lcons, v_lc, v_tup, v_lst, v_tup1, v_tup2, v_tup3, v_tup4, v_lst1, v_lst2, v_item, v_t0, v_t1, v_t2, v_t3, v_l0, v_l1, v_call, v_call', v_bits, v_bits', v_isint, v_isint', v_shift, v_shift_f, v_shift_c, v_dint, v_dabs, v_ddivmod, v_set, v_kset, v_set2, v_kset2, v_aug, v_int2, v_ret, v_kret, v_retof, v_retof', v_app_nil, v_app_cons, v_app_app, v_if, v_kif1, v_kif0, v_asrt, v_kasrt, v_un, v_unR, v_un2, v_un4, v_unR2, v_unR3, v_try, v_none, v_nil, v_for, v_kfor, v_kF_nil, v_kF_cons, v_tail, v_tail2, v_dlen2, v_while, v_kw, v_gt0, v_gts, v_up0, v_ups, v_defD, v_teq, v_teq2, List.length_cons, List.length_nil, List.cons_append, List.nil_append, List.append_nil, List.map_cons, List.map_nil, List.reduceReplicate, Nat.zero_add, Nat.reduceAdd, Bool.not_true, Bool.not_false, decide_true, decide_false, not_true_eq_false, not_false_eq_true, true_and, and_true, Int.reduceEq, Int.reduceLT, Int.reduceLE, Int.reduceNeg, f, i0, i1, i2, i3, cond, cond2, farf, o0, o1, fe, cond3, pair_infs]
        · have cond3 : bOr (bAnd (some (decide (sa.v.1 = 0))) (bAnd (some (decide (sb.v.1 = 0))) (some true))) (bOr (bAnd (some (decide (sa.v.1 < 0))) (bAnd (some (decide (0 < sb.v.1))) (some true))) (some false)) = some false := by
            have w1 : ¬ (sa.v.1 = 0 ∧ sb.v.1 = 0) := fun z => w (.inl z)
            have w2 : ¬ (sa.v.1 < 0 ∧ 0 < sb.v.1) := fun z => w (.inr z)
            by_cases q : sa.v.1 = 0
            · have : ¬ sb.v.1 = 0 := fun z => w1 ⟨q, z⟩
              simp [q, this, bOr, bAnd]
            · by_cases r : sa.v.1 < 0
              · have : ¬ 0 < sb.v.1 := fun z => w2 ⟨r, z⟩
                simp [q, r, this, bOr, bAnd]
              · simp [q, r, bOr, bAnd]
          by_cases w3 : sb.v.1 ≤ 0
          · obtain ⟨d, r, f⟩ := t2 (by omega) (by omega)
            have ord : fle (fov sb.v ta.v) (fov sa.v ta.v) := mono
            have el : (fov sb.v ta.v).1 * l'.2 = l'.1 * (fov sb.v ta.v).2 := fle_anti (by
              simp only [List.mem_cons, List.not_mem_nil, or_false] at ml'
              rcases ml' with rfl | rfl
              · first | exact fle_refl _ | exact ord
              · first | exact fle_refl _ | exact ord) xB.1
            obtain ⟨s, m, e, rfl, f1⟩ := one_end hp hp2 r dB dl' ((all l' ml').1.mono (by decide)) el
            simp only [RR, if_true, if_false, Bool.false_eq_true] at f1
            have hl : 0 ≤ l'.1 := by
              simp only [List.mem_cons, List.not_mem_nil, or_false] at ml'
              rcases ml' with rfl | rfl
              · exact (fun (x : Fr) (px : 0 < x.2) (hx : x.1 ≤ 0) => show 0 ≤ (fov x ta.v).1 by rw [show fov x ta.v = (-(x.1 * ta.v.2), -(x.2 * ta.v.1)) by unfold fov; rw [if_pos (Int.mul_neg_of_pos_of_neg px c3.1)]]; show 0 ≤ -(x.1 * ta.v.2); rw [← Int.neg_mul]; exact Int.mul_nonneg (by omega) (Int.le_of_lt ta.pos)) sa.v sa.pos (by omega)
              · exact (fun (x : Fr) (px : 0 < x.2) (hx : x.1 ≤ 0) => show 0 ≤ (fov x ta.v).1 by rw [show fov x ta.v = (-(x.1 * ta.v.2), -(x.2 * ta.v.1)) by unfold fov; rw [if_pos (Int.mul_neg_of_pos_of_neg px c3.1)]]; show 0 ≤ -(x.1 * ta.v.2); rw [← Int.neg_mul]; exact Int.mul_nonneg (by omega) (Int.le_of_lt ta.pos)) sb.v sb.pos (by omega)
            simp only [F_law_quotient_right, D_law_quotient_right, v_bnd, v_bin, v_add, v_sub, v_mul, v_div, v_mod, v_pow, v_shl, v_shr, v_and, v_xor, v_app, v_ofB, v_cmp, v_tcmp, v_eq, v_ne, v_lt, v_le, v_gt, v_ge, v_seq, v_tr_b, v_tr_i, v_tE, v_onot, v_tnot, v_not, v_neg, v_neg', v_ite, v_ite1, v_ite0, v_eand, v_eor, v_eand1, v_eand0, v_eor1, v_eor0, v_eand_i, v_eor_i, v_tand, v_tor, v_tand1, v_tand0, v_tor1, v_tor0, v_ttrue, v_tfalse, v_chain, v_var, v_int, v_bool, v_str, v_glob, v_lnil, v_lcons, v_lc, v_tup, v_lst, v_tup1, v_tup2, v_tup3, v_tup4, v_lst1, v_lst2, v_item, v_t0, v_t1, v_t2, v_t3, v_l0, v_l1, v_call, v_call', v_bits, v_bits', v_isint, v_isint', v_shift, v_shift_f, v_shift_c, v_dint, v_dabs, v_ddivmod, v_set, v_kset, v_set2, v_kset2, v_aug, v_int2, v_ret, v_kret, v_retof, v_retof', v_app_nil, v_app_cons, v_app_app, v_if, v_kif1, v_kif0, v_asrt, v_kasrt, v_un, v_unR, v_un2, v_un4, v_unR2, v_unR3, v_try, v_none, v_nil, v_for, v_kfor, v_kF_nil, v_kF_cons, v_tail, v_tail2, v_dlen2, v_while, v_kw, v_gt0, v_gts, v_up0, v_ups, v_defD, v_teq, v_teq2, List.length_cons, List.length_nil, List.cons_append, List.nil_append, List.append_nil, List.map_cons, List.map_nil, List.reduceReplicate, Nat.zero_add, Nat.reduceAdd, Bool.not_true, Bool.not_false, decide_true, decide_false, not_true_eq_false, not_false_eq_true, true_and, and_true, Int.reduceEq, Int.reduceLT, Int.reduceLE, Int.reduceNeg, f, i0, i1, i2, i3, cond, cond2, farf, o0, o1, fe, cond3, j0, j1, j2, j3, hl, f1, pair_inf]
          · obtain ⟨d, r, f⟩ := t3 (by omega) (by omega)
            have ord : fle (fov sb.v ta.v) (fov sa.v ta.v) := mono
            have el : (fov sa.v ta.v).1 * u'.2 = u'.1 * (fov sa.v ta.v).2 := fle_anti xA.2 (by
              simp only [List.mem_cons, List.not_mem_nil, or_false] at mu'
              rcases mu' with rfl | rfl
              · first | exact fle_refl _ | exact ord
              · first | exact fle_refl _ | exact ord)
            obtain ⟨s, m, e, rfl, f1⟩ := one_end hp hp2 r dA du' ((all u' mu').1.mono (by decide)) el
            simp only [RR, if_true, if_false, Bool.false_eq_true] at f1
            have hl : ¬ 0 ≤ l'.1 := by
              have := (fle_sign dl' dB xB.1).2.1
              have := (show (fov sb.v ta.v).1 < 0 by rw [show fov sb.v ta.v = (-(sb.v.1 * ta.v.2), -(sb.v.2 * ta.v.1)) by unfold fov; rw [if_pos (Int.mul_neg_of_pos_of_neg sb.pos c3.1)]]; show -(sb.v.1 * ta.v.2) < 0; have := Int.mul_pos (show 0 < sb.v.1 by omega) ta.pos; omega)
              omega
            simp only [F_law_quotient_right, D_law_quotient_right, v_bnd, v_bin, v_add, v_sub, v_mul, v_div, v_mod, v_pow, v_shl, v_shr, v_and, v_xor, v_app, v_ofB, v_cmp, v_tcmp, v_eq, v_ne, v_lt, v_le, v_gt, v_ge, v_seq, v_tr_b, v_tr_i, v_tE, v_onot, v_tnot, v_not, v_neg, v_neg', v_ite, v_ite1, v_ite0, v_eand, v_eor, v_eand1, v_eand0, v_eor1, v_eor0, v_eand_i, v_eor_i, v_tand, v_tor, v_tand1, v_tand0, v_tor1, v_tor0, v_ttrue, v_tfalse, v_chain, v_var, v_int, v_bool, v_str, v_glob, v_lnil, v_lcons, v_lc, v_tup, v_lst, v_tup1, v_tup2, v_tup3, v_tup4, v_lst1, v_lst2, v_item, v_t0, v_t1, v_t2, v_t3, v_l0, v_l1, v_call, v_call', v_bits, v_bits', v_isint, v_isint', v_shift, v_shift_f, v_shift_c, v_dint, v_dabs, v_ddivmod, v_set, v_kset, v_set2, v_kset2, v_aug, v_int2, v_ret, v_kret, v_retof, v_retof', v_app_nil, v_app_cons, v_app_app, v_if, v_kif1, v_kif0, v_asrt, v_kasrt, v_un, v_unR, v_un2, v_un4, v_unR2, v_unR3, v_try, v_none, v_nil, v_for, v_kfor, v_kF_nil, v_kF_cons, v_tail, v_tail2, v_dlen2, v_while, v_kw, v_gt0, v_gts, v_up0, v_ups, v_defD, v_teq, v_teq2, List.length_cons, List.length_nil, List.cons_append, List.nil_append, List.append_nil, List.map_cons, List.map_nil, List.reduceReplicate, Nat.zero_add, Nat.reduceAdd, Bool.not_true, Bool.not_false, decide_true, decide_false, not_true_eq_false, not_false_eq_true, true_and, and_true, Int.reduceEq, Int.reduceLT, Int.reduceLE, Int.reduceNeg, f, i0, i1, i2, i3, cond, cond2, farf, o0, o1, fe, cond3, j0, j1, j2, j3, hl, f1, pair_ninf]
      · have f := div_wide h1 h2 h3 h4 hk hp hp2 hs ht (by omega)
        have cond2 : bOr (bAnd (some (decide (ta.v.1 = 0))) (bAnd (some (decide (0 < tb.v.1))) (some true))) (bOr (bAnd (some (decide (ta.v.1 < 0))) (bAnd (some (decide (tb.v.1 = 0))) (some true))) (some false)) = some false := by
          by_cases q : ta.v.1 = 0
          · have : ¬ 0 < tb.v.1 := fun z => c2 ⟨q, z⟩
            simp [*, bOr, bAnd]
          · by_cases r : ta.v.1 < 0
            · have : ¬ tb.v.1 = 0 := fun z => c3 ⟨r, z⟩
              simp [*, bOr, bAnd]
            · simp [*, bOr, bAnd]
        simp only [F_law_quotient_right, D_law_quotient_right, v_bnd, v_bin, v_add, v_sub, v_mul, v_div, v_mod, v_pow, v_shl, v_shr, v_and, v_xor, v_app, v_ofB, v_cmp, v_tcmp, v_eq, v_ne, v_lt, v_le, v_gt, v_ge, v_seq, v_tr_b, v_tr_i, v_tE, v_onot, v_tnot, v_not, v_neg, v_neg', v_ite, v_ite1, v_ite0, v_eand, v_eor, v_eand1, v_eand0, v_eor1, v_eor0, v_eand_i, v_eor_i, v_tand, v_tor, v_tand1, v_tand0, v_tor1, v_tor0, v_ttrue, v_tfalse, v_chain, v_var, v_int, v_bool, v_str, v_glob, v_lnil, v_lcons, v_lc, v_tup, v_lst, v_tup1, v_tup2, v_tup3, v_tup4, v_lst1, v_lst2, v_item, v_t0, v_t1, v_t2, v_t3, v_l0, v_l1, v_call, v_call', v_bits, v_bits', v_isint, v_isint', v_shift, v_shift_f, v_shift_c, v_dint, v_dabs, v_ddivmod, v_set, v_kset, v_set2, v_kset2, v_aug, v_int2, v_ret, v_kret, v_retof, v_retof', v_app_nil, v_app_cons, v_app_app, v_if, v_kif1, v_kif0, v_asrt, v_kasrt, v_un, v_unR, v_un2, v_un4, v_unR2, v_unR3, v_try, v_none, v_nil, v_for, v_kfor, v_kF_nil, v_kF_cons, v_tail, v_tail2, v_dlen2, v_while, v_kw, v_gt0, v_gts, v_up0, v_ups, v_defD, v_teq, v_teq2, List.length_cons, List.length_nil, List.cons_append, List.nil_append, List.append_nil, List.map_cons, List.map_nil, List.reduceReplicate, Nat.zero_add, Nat.reduceAdd, Bool.not_true, Bool.not_false, decide_true, decide_false, not_true_eq_false, not_false_eq_true, true_and, and_true, Int.reduceEq, Int.reduceLT, Int.reduceLE, Int.reduceNeg, f, i0, i1, cond, cond2, pair_infs]
end
end Mine

namespace Mine
set_option autoImplicit false
theorem sq_pow (w n : Nat) : (w * 2 ^ n) * (w * 2 ^ n) = w * w * 2 ^ (2 * n) := by
  rw [Nat.two_mul n, Nat.pow_add]; ac_rfl
theorem one_norm {x : Int} {m : Nat} {e : Int} (h : Norm 1 x m e) : m = 1 ∧ e = x := by
  obtain ⟨o, t, a, b⟩ := h
  have := odd_unique o (by decide : 1 % 2 = 1) (a.trans (by simp : 1 = 1 * 2 ^ 0))
  omega
/-- the floor of a root -/
theorem sq_floor {p mn m : Nat} {h e : Int} (hp : 1 ≤ p) (h0 : 0 < mn) (q : SqR false p mn h m e) :
    0 < m ∧ m % 2 = 1 ∧ bl m ≤ p ∧ e ≤ h + 8010 ∧ h ≤ e + 8010 ∧ dle (m * m) (2 * e) mn (2 * h) ∧
      dlt mn (2 * h) ((m * 2 ^ (p - bl m) + 1) * (m * 2 ^ (p - bl m) + 1)) (2 * (e - p + bl m)) := by
  rcases q with ⟨rfl, q⟩ | ⟨u, r, u1, u2, r1, r2, r3, q⟩
  · unfold NR at q
    rw [if_neg (by rw [bl_one]; omega)] at q
    obtain ⟨rfl, rfl⟩ := one_norm q
    refine ⟨by decide, rfl, by rw [bl_one]; exact hp, by omega, by omega, ?_, ?_⟩
    · unfold dle; simp
    · rw [bl_one]
      rw [dlt_iff (i := 2 * (p - 1)) (j := 0) (by omega)]
      rw [Nat.one_mul, Nat.one_mul, Nat.pow_zero, Nat.mul_one]
      have := sq_pow 1 (p - 1)
      simp only [Nat.one_mul] at this
      rw [← this]
      exact Nat.mul_lt_mul_of_lt_of_lt (Nat.lt_succ_self _) (Nat.lt_succ_self _)
  · rw [if_neg (by simp)] at q
    obtain ⟨d1, d2⟩ := div_bl hp r3
    unfold NR at q
    rw [if_pos r3, if_neg (by simp)] at q
    obtain ⟨n, hn⟩ : ∃ n, bl r - p = n := ⟨_, rfl⟩
    rw [hn] at q d1 d2
    obtain ⟨o, t, a, b⟩ := q
    have hd := Nat.div_add_mod r (2 ^ n)
    have hm := Nat.mod_lt r (p2_pos n)
    generalize hw : r / 2 ^ n = w at *
    have hm0 : 0 < m := by omega
    have hbw : bl w = p := by rw [bl_eq d1 (by rwa [show p - 1 + 1 = p by omega])]; omega
    have hbm := bl_mul hm0 t
    rw [a, hbw] at hbm
    have hmw : m * 2 ^ (p - bl m) = w := by rw [show p - bl m = t by omega, a]
    have wl : w * 2 ^ n ≤ r := by rw [Nat.mul_comm]; omega
    have wr : r + 1 ≤ (w + 1) * 2 ^ n := by rw [Nat.add_mul, Nat.mul_comm w]; omega
    refine ⟨hm0, o, by omega, by omega, by omega, ?_, ?_⟩
    · rw [dle_iff (i := 2 * (t + n)) (j := 2 * u) (by omega)]
      calc m * m * 2 ^ (2 * (t + n)) = (m * 2 ^ t * 2 ^ n) * (m * 2 ^ t * 2 ^ n) := by rw [← sq_pow, Nat.pow_add]; ac_rfl
        _ = (w * 2 ^ n) * (w * 2 ^ n) := by rw [a]
        _ ≤ r * r := Nat.mul_le_mul wl wl
        _ ≤ _ := r1
    · rw [hmw, dlt_iff (i := 2 * u) (j := 2 * n) (by omega)]
      calc mn * 2 ^ (2 * u) < (r + 1) * (r + 1) := r2
        _ ≤ ((w + 1) * 2 ^ n) * ((w + 1) * 2 ^ n) := Nat.mul_le_mul wr wr
        _ = _ := sq_pow _ _
theorem bl_odd {r : Nat} (h : 0 < r) : bl (2 * r + 1) = bl r + 1 := by
  have h1 := bl_ge h
  have h2 := bl_lt r
  have h3 := bl_pos h
  refine bl_eq ?_ ?_
  · have : 2 ^ bl r = 2 * 2 ^ (bl r - 1) := by rw [Nat.mul_comm, ← Nat.pow_succ]; congr 1; omega
    omega
  · rw [Nat.pow_succ]; omega
/-- the ceiling of a root -/
theorem sq_ceil {p mn m : Nat} {h e : Int} (hp : 1 ≤ p) (h0 : 0 < mn) (q : SqR true p mn h m e) :
    0 < m ∧ m % 2 = 1 ∧ bl m ≤ p ∧ e ≤ h + 8010 ∧ h ≤ e + 8010 ∧ dle mn (2 * h) (m * m) (2 * e) ∧
      dlt ((m * 2 ^ ((if m = 1 then p + 1 else p) - bl m) - 1) * (m * 2 ^ ((if m = 1 then p + 1 else p) - bl m) - 1)) (2 * (e - ((if m = 1 then p + 1 else p : Nat) : Int) + bl m)) mn (2 * h) := by
  have fin1 : ∀ x : Int, dlt ((1 * 2 ^ p - 1) * (1 * 2 ^ p - 1)) (2 * (x - ((p + 1 : Nat) : Int) + (1 : Nat))) 1 (2 * x) := by
    intro x
    rw [dlt_iff (i := 0) (j := 2 * p) (by omega)]
    rw [Nat.pow_zero, Nat.mul_one, Nat.one_mul, Nat.one_mul]
    have := sq_pow 1 p
    simp only [Nat.one_mul] at this
    rw [← this]
    have := p2_pos p
    exact Nat.mul_lt_mul_of_lt_of_lt (by omega) (by omega)
  rcases q with ⟨rfl, q⟩ | ⟨u, r, u1, u2, r1, r2, r3, q⟩
  · unfold NR at q
    rw [if_neg (by rw [bl_one]; omega)] at q
    obtain ⟨rfl, rfl⟩ := one_norm q
    refine ⟨by decide, rfl, by rw [bl_one]; exact hp, by omega, by omega, ?_, ?_⟩
    · unfold dle; simp
    · rw [bl_one, if_pos rfl]
      exact fin1 e
  · have hr0 : 0 < r := by refine Nat.pos_of_ne_zero fun z => ?_; subst z; simp [bl] at r3
    obtain ⟨d1, d2⟩ := div_bl hp r3
    obtain ⟨n, hn⟩ : ∃ n, bl r - p = n := ⟨_, rfl⟩
    have hn1 : 1 ≤ n := by omega
    have hd := Nat.div_add_mod r (2 ^ n)
    have hm := Nat.mod_lt r (p2_pos n)
    rw [hn] at d1 d2
    -- the rounded mantissa
    obtain ⟨w, N, wl, wr, w1, w2, ex⟩ : ∃ w, Norm w (h - u + n) m e ∧ mn * 2 ^ (2 * u) ≤ (w * 2 ^ n) * (w * 2 ^ n) ∧ ((w - 1) * 2 ^ n) * ((w - 1) * 2 ^ n) < mn * 2 ^ (2 * u) ∧ 2 ^ (p - 1) ≤ w ∧ w ≤ 2 ^ p ∧
        (w = 2 ^ (p - 1) → (w * 2 ^ n) * (w * 2 ^ n) ≤ mn * 2 ^ (2 * u)) := by
      by_cases z : r * r = mn * 2 ^ (2 * u)
      · rw [if_neg (by simp [z])] at q
        unfold NR at q
        rw [if_pos r3, hn] at q
        by_cases z2 : r % 2 ^ n = 0
        · rw [if_neg (by simp [z2])] at q
          have e1 : r / 2 ^ n * 2 ^ n = r := by rw [Nat.mul_comm]; omega
          refine ⟨r / 2 ^ n, q, ?_, ?_, d1, Nat.le_of_lt d2, ?_⟩
          · rw [e1, z]; exact Nat.le_refl _
          · rw [← z]
            have : (r / 2 ^ n - 1) * 2 ^ n < r := by
              rw [Nat.sub_mul, e1]; have := p2_pos n; omega
            exact Nat.mul_lt_mul_of_lt_of_lt this this
          · intro _; rw [e1, z]; exact Nat.le_refl _
        · rw [if_pos ⟨rfl, z2⟩] at q
          have e1 : r < (r / 2 ^ n + 1) * 2 ^ n := by rw [Nat.add_mul, Nat.mul_comm]; omega
          have e2 : r / 2 ^ n * 2 ^ n < r := by rw [Nat.mul_comm]; omega
          refine ⟨r / 2 ^ n + 1, q, ?_, ?_, by omega, d2, ?_⟩
          · rw [← z]; exact Nat.mul_le_mul (Nat.le_of_lt e1) (Nat.le_of_lt e1)
          · rw [← z, Nat.add_sub_cancel]; exact Nat.mul_lt_mul_of_lt_of_lt e2 e2
          · intro w'; omega
      · rw [if_pos ⟨rfl, z⟩] at q
        have hb := bl_odd hr0
        unfold NR at q
        have hd2 : (2 * r + 1) / 2 ^ (n + 1) = r / 2 ^ n := by
          rw [Nat.pow_succ, Nat.mul_comm (2 ^ n) 2, ← Nat.div_div_eq_div_mul]
          congr 1; omega
        have hne : (2 * r + 1) % 2 ^ (n + 1) ≠ 0 := by
          intro w'
          have := Nat.div_add_mod (2 * r + 1) (2 ^ (n + 1))
          rw [w', Nat.pow_succ] at this
          have e : 2 ^ n * 2 * ((2 * r + 1) / (2 ^ n * 2)) = 2 * (2 ^ n * ((2 * r + 1) / (2 ^ n * 2))) := by ac_rfl
          omega
        rw [if_pos (by omega), show bl (2 * r + 1) - p = n + 1 by omega, if_pos ⟨rfl, hne⟩, hd2] at q
        rw [show h - (u : Int) - 1 + ((n + 1 : Nat) : Int) = h - u + n by push_cast; omega] at q
        have e1 : r + 1 ≤ (r / 2 ^ n + 1) * 2 ^ n := by rw [Nat.add_mul, Nat.mul_comm]; omega
        have e2 : r / 2 ^ n * 2 ^ n ≤ r := by rw [Nat.mul_comm]; omega
        refine ⟨r / 2 ^ n + 1, q, ?_, ?_, by omega, d2, ?_⟩
        · exact Nat.le_of_lt (Nat.lt_of_lt_of_le r2 (Nat.mul_le_mul e1 e1))
        · rw [Nat.add_sub_cancel]
          have := Nat.mul_le_mul e2 e2
          omega
        · intro w'; omega
    obtain ⟨o, t, a, b⟩ := N
    have hm0 : 0 < m := by omega
    have hbm := bl_mul hm0 t
    have hbw : bl w ≤ p + 1 := bl_le (by rw [Nat.pow_succ]; have := p2_pos p; omega)
    rw [a] at hbm
    have H1 : dle mn (2 * h) (m * m) (2 * e) := by
      rw [dle_iff (i := 2 * u) (j := 2 * (t + n)) (by omega)]
      calc _ ≤ (w * 2 ^ n) * (w * 2 ^ n) := wl
        _ = (m * 2 ^ t * 2 ^ n) * (m * 2 ^ t * 2 ^ n) := by rw [a]
        _ = _ := by rw [← sq_pow, Nat.pow_add]; ac_rfl
    by_cases m1 : m = 1
    · subst m1
      rw [Nat.one_mul] at a
      have t1 : p - 1 ≤ t := (Nat.pow_le_pow_iff_right (a := 2) (by decide)).mp (by rw [a]; exact w1)
      have t2 : t ≤ p := (Nat.pow_le_pow_iff_right (a := 2) (by decide)).mp (by rw [a]; exact w2)
      refine ⟨by decide, rfl, by rw [bl_one]; exact hp, by omega, by omega, H1, ?_⟩
      rw [bl_one, if_pos rfl]
      by_cases tp : t = p
      · subst tp
        rw [dlt_iff (i := 2 * n) (j := 2 * u) (by omega), ← sq_pow, Nat.add_sub_cancel, Nat.one_mul, a]
        exact wr
      · have tp' : t = p - 1 := by omega
        have e1 := ex (by rw [← a, tp'])
        rw [dlt_iff (i := 2 * (n - 1)) (j := 2 * u) (by omega), ← sq_pow, Nat.add_sub_cancel, Nat.one_mul]
        have e2 : (2 ^ p - 1) * 2 ^ (n - 1) < w * 2 ^ n := by
          have : w * 2 ^ n = 2 ^ p * 2 ^ (n - 1) := by rw [← a, ← Nat.pow_add, ← Nat.pow_add]; congr 1; omega
          rw [this]
          exact Nat.mul_lt_mul_of_pos_right (by have := p2_pos p; omega) (p2_pos _)
        have := Nat.mul_lt_mul_of_lt_of_lt e2 e2
        omega
    · have wlt : w < 2 ^ p := by
        refine Nat.lt_of_le_of_ne w2 fun z => m1 ?_
        exact (odd_unique o (by decide : 1 % 2 = 1) (a.trans (by rw [z, Nat.one_mul] : w = 1 * 2 ^ p))).1
      have hbw2 : bl w = p := by rw [bl_eq w1 (by rwa [show p - 1 + 1 = p by omega])]; omega
      refine ⟨hm0, o, by omega, by omega, by omega, H1, ?_⟩
      rw [if_neg m1, show p - bl m = t by omega, a, dlt_iff (i := 2 * n) (j := 2 * u) (by omega), ← sq_pow]
      exact wr
end Mine

namespace Mine
set_option autoImplicit false
theorem dle_two_r {a b : Nat} {x y : Int} : dle a x (2 * b) (y - 1) ↔ dle a x b y := by
  rw [dle_iff (i := (x - (y - 1)).toNat) (j := ((y - 1) - x).toNat) (by omega), dle_iff (i := (x - (y - 1)).toNat) (j := ((y - 1) - x).toNat + 1) (by omega), Nat.pow_succ]
  rw [show 2 * b * 2 ^ ((y - 1) - x).toNat = b * (2 ^ ((y - 1) - x).toNat * 2) by ac_rfl]
theorem dlt_not {a b : Nat} {x y : Int} : dlt a x b y ↔ ¬ dle b y a x := by unfold dlt dle; omega
theorem dle_two_l {a b : Nat} {x y : Int} : dle (2 * b) (y - 1) a x ↔ dle b y a x := by
  rw [dle_iff (i := ((y - 1) - x).toNat) (j := (x - (y - 1)).toNat) (by omega), dle_iff (i := ((y - 1) - x).toNat + 1) (j := (x - (y - 1)).toNat) (by omega), Nat.pow_succ]
  rw [show 2 * b * 2 ^ ((y - 1) - x).toNat = b * (2 ^ ((y - 1) - x).toNat * 2) by ac_rfl]
theorem p2_two (k : Nat) : (2 : Int) ^ (2 * k) = 2 ^ k * 2 ^ k := by rw [Nat.two_mul, Int.pow_add]
theorem nv_nat (m : Nat) (e : Int) : nv false m e = ((m : Int) * 2 ^ e.toNat, 2 ^ (-e).toNat) := by unfold nv; push_cast; rfl
theorem nv_sq_le {m b : Nat} {e y : Int} : (nv false m e).1 * (nv false m e).1 * (nv false b y).2 ≤ (nv false b y).1 * ((nv false m e).2 * (nv false m e).2) ↔ dle (m * m) (2 * e) b y := by
  rw [dle_iff (i := 2 * e.toNat + (-y).toNat) (j := y.toNat + 2 * (-e).toNat) (by omega), nv_nat, nv_nat, ← Int.ofNat_le]
  simp only
  push_cast
  rw [Int.pow_add, Int.pow_add, p2_two, p2_two]
  have e1 : (m : Int) * 2 ^ e.toNat * (m * 2 ^ e.toNat) * 2 ^ (-y).toNat = m * m * (2 ^ e.toNat * 2 ^ e.toNat * 2 ^ (-y).toNat) := by ac_rfl
  have e2 : (b : Int) * 2 ^ y.toNat * (2 ^ (-e).toNat * 2 ^ (-e).toNat) = b * (2 ^ y.toNat * (2 ^ (-e).toNat * 2 ^ (-e).toNat)) := by ac_rfl
  rw [e1, e2]
theorem nv_sq_ge {m b : Nat} {e y : Int} : (nv false b y).1 * ((nv false m e).2 * (nv false m e).2) ≤ (nv false m e).1 * (nv false m e).1 * (nv false b y).2 ↔ dle b y (m * m) (2 * e) := by
  rw [dle_iff (i := y.toNat + 2 * (-e).toNat) (j := 2 * e.toNat + (-y).toNat) (by omega), nv_nat, nv_nat, ← Int.ofNat_le]
  simp only
  push_cast
  rw [Int.pow_add, Int.pow_add, p2_two, p2_two]
  have e1 : (m : Int) * 2 ^ e.toNat * (m * 2 ^ e.toNat) * 2 ^ (-y).toNat = m * m * (2 ^ e.toNat * 2 ^ e.toNat * 2 ^ (-y).toNat) := by ac_rfl
  have e2 : (b : Int) * 2 ^ y.toNat * (2 ^ (-e).toNat * 2 ^ (-e).toNat) = b * (2 ^ y.toNat * (2 ^ (-e).toNat * 2 ^ (-e).toNat)) := by ac_rfl
  rw [e1, e2]
theorem Nm.nonneg_s {x : Nm} (h : 0 ≤ x.v.1) (h0 : 0 < x.m) : x.s = false := by
  have := Nm.num_neg x h0
  cases hs : x.s with
  | false => rfl
  | true => have := this.mpr hs; omega
theorem low_eval {p : Nat} {x : Nm} (hx : x.Ok 900) (hp : 1 ≤ p) (hp2 : p ≤ 1000) (h : 0 ≤ x.v.1) (he : x.e ≤ 100 ∧ -x.e ≤ 100) :
    ∃ m e, F_mpf_sqrt [x.d, .int p, RR false] = some (MM false m e) ∧ bl m ≤ p ∧ e ≤ 8500 ∧ -e ≤ 8500 ∧
      dle (m * m) (2 * e) x.m x.e ∧ (0 < x.m → dlt x.m x.e ((m * 2 ^ (p - bl m) + 1) * (m * 2 ^ (p - bl m) + 1)) (2 * (e - p + bl m))) := by
  by_cases z : x.m = 0
  · refine ⟨0, 0, ?_, by simp [bl], by omega, by omega, ?_, by omega⟩
    · rw [Nm.zero hx z, sqrt_zero]; rfl
    · unfold dle; simp
  · have hs := Nm.nonneg_s h (by omega)
    obtain ⟨m, e, h1, h2⟩ := sqrt_eval false x.m p x.e (by omega) hp hx.bits hp2
    refine ⟨m, e, by rw [Nm.d, hs]; exact h2, ?_⟩
    split at h1
    · next q =>
      obtain ⟨a, b, c, d1, d2, f, g⟩ := sq_floor hp (by omega) h1
      rw [show 2 * (x.e / 2) = x.e by omega] at f g
      exact ⟨c, by omega, by omega, f, fun _ => g⟩
    · next q =>
      obtain ⟨a, b, c, d1, d2, f, g⟩ := sq_floor hp (by omega) h1
      rw [show 2 * (x.e / 2) = x.e - 1 by omega] at f g
      exact ⟨c, by omega, by omega, dle_two_r.mp f, fun _ => by rw [dlt_not, dle_two_r, ← dlt_not] at g; exact g⟩
theorem high_eval {p : Nat} {x : Nm} (hx : x.Ok 900) (hp : 1 ≤ p) (hp2 : p ≤ 1000) (h : 0 ≤ x.v.1) (he : x.e ≤ 100 ∧ -x.e ≤ 100) :
    ∃ m e, F_mpf_sqrt [x.d, .int p, RR true] = some (MM false m e) ∧ bl m ≤ p ∧ e ≤ 8500 ∧ -e ≤ 8500 ∧ (x.m = 0 → m = 0) ∧
      dle x.m x.e (m * m) (2 * e) ∧ (0 < x.m → 0 < m ∧ dlt ((m * 2 ^ ((if m = 1 then p + 1 else p) - bl m) - 1) * (m * 2 ^ ((if m = 1 then p + 1 else p) - bl m) - 1)) (2 * (e - ((if m = 1 then p + 1 else p : Nat) : Int) + bl m)) x.m x.e) := by
  by_cases z : x.m = 0
  · refine ⟨0, 0, ?_, by simp [bl], by omega, by omega, fun _ => rfl, ?_, by omega⟩
    · rw [Nm.zero hx z, sqrt_zero]; rfl
    · unfold dle; simp [z]
  · have hs := Nm.nonneg_s h (by omega)
    obtain ⟨m, e, h1, h2⟩ := sqrt_eval true x.m p x.e (by omega) hp hx.bits hp2
    refine ⟨m, e, by rw [Nm.d, hs]; exact h2, ?_⟩
    split at h1
    · next q =>
      obtain ⟨a, b, c, d1, d2, f, g⟩ := sq_ceil hp (by omega) h1
      rw [show 2 * (x.e / 2) = x.e by omega] at f g
      exact ⟨c, by omega, by omega, by omega, f, fun _ => ⟨a, g⟩⟩
    · next q =>
      obtain ⟨a, b, c, d1, d2, f, g⟩ := sq_ceil hp (by omega) h1
      rw [show 2 * (x.e / 2) = x.e - 1 by omega] at f g
      exact ⟨c, by omega, by omega, by omega, dle_two_l.mp f, fun _ => ⟨a, by rw [dlt_not, dle_two_l, ← dlt_not] at g; exact g⟩⟩
theorem worth_nat (w : Nat) (x : Int) (r : D) (b1 : bl w ≤ 10000) (b2 : x ≤ 10000) (b3 : -x ≤ 10000) : F_law_worth [.tup [.int 0, .int w, .int x, r]] = some (frD (nv false w x)) := by
  rw [worth_eval 0 w x r (by rw [ib_nat]; exact b1) b2 b3, nv_nat]
  simp
theorem Nm.v_nonneg {x : Nm} (h : 0 ≤ x.v.1) : x.v = nv false x.m x.e := by
  by_cases z : x.m = 0
  · show nv x.s x.m x.e = _
    rw [z]
    unfold nv
    cases x.s <;> simp
  · show nv x.s x.m x.e = _
    rw [Nm.nonneg_s h (by omega)]
theorem bl_shift {m p k : Nat} (h : bl m ≤ p) (hk : k ≤ 2000) : bl (m * 2 ^ k) ≤ p + k := by
  refine bl_le ?_
  rw [Nat.pow_add]
  exact Nat.mul_lt_mul_of_pos_right (lt_of_bl h) (p2_pos k)
theorem bl_succ (n : Nat) : bl (n + 1) ≤ bl n + 1 := by
  refine bl_le ?_
  have := bl_lt n
  rw [Nat.pow_succ]
  omega
theorem bl_mono {a b : Nat} (h : a ≤ b) : bl a ≤ bl b := bl_le (Nat.lt_of_le_of_lt h (bl_lt b))
end Mine

namespace Mine
set_option autoImplicit false
theorem root_eval {p : Nat} {sa sb : Nm} (h1 : sa.Ok 900) (h2 : sb.Ok 900) (hp : 1 ≤ p) (hp2 : p ≤ 1000) (hs : fle sa.v sb.v) (h : 0 ≤ sa.v.1)
    (he1 : sa.e ≤ 100 ∧ -sa.e ≤ 100) (he2 : sb.e ≤ 100 ∧ -sb.e ≤ 100) (b1 : Bd 20000 sa.v) (b2 : Bd 20000 sb.v) :
    F_law_root_right [.tup [sa.d, sb.d], .lst [frD sa.v, frD sb.v], .int p] = some (.bool true) := by
  have hb := (fle_sign sa.pos sb.pos hs).2.1 h
  obtain ⟨m, e, f1, l1, l2, l3, l4, l5⟩ := low_eval h1 hp hp2 h he1
  obtain ⟨m', e', f2, g1, g2, g3, g0, g4, g5⟩ := high_eval h2 hp hp2 hb he2
  simp only [RR, if_true, if_false, Bool.false_eq_true] at f1 f2
  have va := Nm.v_nonneg h
  have vb := Nm.v_nonneg hb
  have fs : F_mpi_sqrt [.tup [sa.d, sb.d], .int p] = some (.tup [MM false m e, MM false m' e']) := by
    simp only [F_mpi_sqrt, D_mpi_sqrt, v_bnd, v_bin, v_add, v_sub, v_mul, v_div, v_mod, v_pow, v_shl, v_shr, v_and, v_xor, v_app, v_ofB, v_cmp, v_tcmp, v_eq, v_ne, v_lt, v_le, v_gt, v_ge, v_seq, v_tr_b, v_tr_i, v_tE, v_onot, v_tnot, v_not, v_neg, v_neg', v_ite, v_ite1, v_ite0, v_eand, v_eor, v_eand1, v_eand0, v_eor1, v_eor0, v_eand_i, v_eor_i, v_tand, v_tor, v_tand1, v_tand0, v_tor1, v_tor0, v_ttrue, v_tfalse, v_chain, v_var, v_int, v_bool, v_str, v_glob, v_lnil, v_lcons, v_lc, v_tup, v_lst, v_tup1, v_tup2, v_tup3, v_tup4, v_lst1, v_lst2, v_item, v_t0, v_t1, v_t2, v_t3, v_l0, v_l1, v_call, v_call', v_bits, v_bits', v_isint, v_isint', v_shift, v_shift_f, v_shift_c, v_dint, v_dabs, v_ddivmod, v_set, v_kset, v_set2, v_kset2, v_aug, v_int2, v_ret, v_kret, v_retof, v_retof', v_app_nil, v_app_cons, v_app_app, v_if, v_kif1, v_kif0, v_asrt, v_kasrt, v_un, v_unR, v_un2, v_un4, v_unR2, v_unR3, v_try, v_none, v_nil, v_for, v_kfor, v_kF_nil, v_kF_cons, v_tail, v_tail2, v_dlen2, v_while, v_kw, v_gt0, v_gts, v_up0, v_ups, v_defD, v_teq, v_teq2, List.length_cons, List.length_nil, List.cons_append, List.nil_append, List.append_nil, List.map_cons, List.map_nil, List.reduceReplicate, Nat.zero_add, Nat.reduceAdd, Bool.not_true, Bool.not_false, decide_true, decide_false, not_true_eq_false, not_false_eq_true, true_and, and_true, d_rf, d_rc, f1, f2]
  have w1 := worth_MM false m e (by omega) (by omega) (by omega)
  have w2 := worth_MM false m' e' (by omega) (by omega) (by omega)
  have B1 : Bd 20000 (nv false m e) := Bd.nv _ _ _ (by omega) (by omega)
  have B2 : Bd 20000 (nv false m' e') := Bd.nv _ _ _ (by omega) (by omega)
  have k2 : 20000 ≤ 60000000 := by decide
  have t1 := times_eval k2 B1 B1
  have t2 := times_eval k2 B2 B2
  have k4 : 20000 + 20000 ≤ 60000000 := by decide
  have L1 := less_eval k4 (b1.mono (by decide)) (B1.mul B1)
  have L2 := less_eval k4 (B2.mul B2) (b2.mono (by decide))
  have c1 : decide (sa.v.1 * ((nv false m e).2 * (nv false m e).2) < (nv false m e).1 * (nv false m e).1 * sa.v.2) = false := by
    rw [va]
    simp only [decide_eq_false_iff_not, Int.not_lt]
    exact nv_sq_le.mpr l4
  have c2 : decide ((nv false m' e').1 * (nv false m' e').1 * sb.v.2 < sb.v.1 * ((nv false m' e').2 * (nv false m' e').2)) = false := by
    rw [vb]
    simp only [decide_eq_false_iff_not, Int.not_lt]
    exact nv_sq_ge.mpr g4
  simp only at L1 L2
  rw [c1] at L1
  rw [c2] at L2
  -- more
  have e1 : ((p : Int) - (bl m : Int)).toNat = p - bl m := by omega
  have P1 : PowG 2 ((p : Int) - (bl m : Int)) := PowG2 (by omega) (by omega)
  have hM1 : MulG (m : Int) (2 ^ (p - bl m)) := MulG_of (a := 1000) (b := 1001) (by rw [ib_nat]; omega) (by rw [ib_p2]; omega) (by decide)
  have e2 : ((m * 2 ^ (p - bl m) : Nat) : Int) + 1 = ((m * 2 ^ (p - bl m) + 1 : Nat) : Int) := by omega
  have bm1 : bl (m * 2 ^ (p - bl m) + 1) ≤ 3000 := by
    have := bl_succ (m * 2 ^ (p - bl m))
    have := bl_shift (k := p - bl m) l1 (by omega)
    omega
  have w3 := worth_nat (m * 2 ^ (p - bl m) + 1) (e - p + bl m) (.int 0) (by omega) (by omega) (by omega)
  have B3 : Bd 20000 (nv false (m * 2 ^ (p - bl m) + 1) (e - p + bl m)) := Bd.nv _ _ _ (by omega) (by omega)
  have t3 := times_eval k2 B3 B3
  have L3 := less_eval k4 (b1.mono (by decide)) (B3.mul B3)
  have c3 : bAnd (some (decide (0 < sa.v.1))) (bAnd (oNot (oTruth (F_law_less [frD sa.v, frD ((nv false (m * 2 ^ (p - bl m) + 1) (e - p + bl m)).1 * (nv false (m * 2 ^ (p - bl m) + 1) (e - p + bl m)).1, (nv false (m * 2 ^ (p - bl m) + 1) (e - p + bl m)).2 * (nv false (m * 2 ^ (p - bl m) + 1) (e - p + bl m)).2)]))) (some true)) = some false := by
    rw [L3]
    by_cases q : 0 < sa.v.1
    · have hm : 0 < sa.m := Nat.pos_of_ne_zero fun z => by have := (Nm.num_zero sa).mpr z; omega
      have := l5 hm
      have : decide (sa.v.1 * ((nv false (m * 2 ^ (p - bl m) + 1) (e - p + bl m)).2 * (nv false (m * 2 ^ (p - bl m) + 1) (e - p + bl m)).2) < (nv false (m * 2 ^ (p - bl m) + 1) (e - p + bl m)).1 * (nv false (m * 2 ^ (p - bl m) + 1) (e - p + bl m)).1 * sa.v.2) = true := by
        rw [va]
        simp only [decide_eq_true_eq]
        rw [dlt_not, ← nv_sq_le] at this
        omega
      simp only at this ⊢
      rw [this]
      simp [q, bAnd, oNot, oTruth, dTruth]
    · simp [q, bAnd]
  generalize hX3 : nv false (m * 2 ^ (p - bl m) + 1) (e - p + bl m) = X3 at *
  -- less
  obtain ⟨fn, hfn⟩ : ∃ fn, (if m' = 1 then p + 1 else p) = fn := ⟨_, rfl⟩
  have hfn1 : p ≤ fn ∧ fn ≤ p + 1 := by rw [← hfn]; split <;> omega
  have ff : oIte (some (decide ((m' : Int) = 1))) (some (.int ((p : Int) + 1))) (some (.int p)) = some (.int fn) := by
    rw [← hfn]
    by_cases q : m' = 1
    · have q' : (m' : Int) = 1 := by omega
      simp [q, q', oIte]
    · have q' : ¬ (m' : Int) = 1 := by omega
      simp [q, q', oIte]
  have e3 : ((fn : Int) - (bl m' : Int)).toNat = fn - bl m' := by omega
  have P2 : PowG 2 ((fn : Int) - (bl m' : Int)) := PowG2 (by omega) (by omega)
  have hM2 : MulG (m' : Int) (2 ^ (fn - bl m')) := MulG_of (a := 1000) (b := 1002) (by rw [ib_nat]; omega) (by rw [ib_p2]; omega) (by decide)
  have i1 : oSub (some (frD sa.v)) (some (.int 0)) = some (.int sa.v.1) := rfl
  have i2 : oSub (some (frD sb.v)) (some (.int 0)) = some (.int sb.v.1) := rfl
  have z1 : ¬ sa.v.1 < 0 := by omega
  have z2 : ¬ (p : Int) < (bl m : Int) := by omega
  have z3 : ¬ (p : Int) < (bl m' : Int) := by omega
  have s0 : sg false = 0 := rfl
  have j0 : ∀ s m e, oSub (some (MM s m e)) (some (.int 0)) = some (.int (sg s)) := fun _ _ _ => rfl
  have j1 : ∀ s m e, oSub (some (MM s m e)) (some (.int 1)) = some (.int m) := fun _ _ _ => rfl
  have j2 : ∀ s m e, oSub (some (MM s m e)) (some (.int 2)) = some (.int e) := fun _ _ _ => rfl
  have j3 : ∀ s m e, oSub (some (MM s m e)) (some (.int 3)) = some (.int (bl m)) := fun _ _ _ => rfl
  by_cases hm : sb.m = 0
  · have q := g0 hm
    have hz := (Nm.num_zero sb).mpr hm
    have w4 := worth_eval 0 (-1) (e' - (fn : Int) + bl m') (.int 0) (by decide) (by omega) (by omega)
    have e5 : ((m' * 2 ^ (fn - bl m') : Nat) : Int) - 1 = -1 := by rw [q, Nat.zero_mul]; rfl
    have n0 : ((m' : Int) = 0) = True := by simp [q]
    have hz' : (sb.v.1 = 0) = True := by simp [hz]
    simp only [F_law_root_right, D_law_root_right, v_bnd, v_bin, v_add, v_sub, v_mul, v_div, v_mod, v_pow, v_shl, v_shr, v_and, v_xor, v_app, v_ofB, v_cmp, v_tcmp, v_eq, v_ne, v_lt, v_le, v_gt, v_ge, v_seq, v_tr_b, v_tr_i, v_tE, v_onot, v_tnot, v_not, v_neg, v_neg', v_ite, v_ite1, v_ite0, v_eand, v_eor, v_eand1, v_eand0, v_eor1, v_eor0, v_eand_i, v_eor_i, v_tand, v_tor, v_tand1, v_tand0, v_tor1, v_tor0, v_ttrue, v_tfalse, v_chain, v_var, v_int, v_bool, v_str, v_glob, v_lnil, v_lcons, v_lc, v_tup, v_lst, v_tup1, v_tup2, v_tup3, v_tup4, v_lst1, v_lst2, v_item, v_t0, v_t1, v_t2, v_t3, v_l0, v_l1, v_call, v_call', v_bits, v_bits', v_isint, v_isint', v_shift, v_shift_f, v_shift_c, v_dint, v_dabs, v_ddivmod, v_set, v_kset, v_set2, v_kset2, v_aug, v_int2, v_ret, v_kret, v_retof, v_retof', v_app_nil, v_app_cons, v_app_app, v_if, v_kif1, v_kif0, v_asrt, v_kasrt, v_un, v_unR, v_un2, v_un4, v_unR2, v_unR3, v_try, v_none, v_nil, v_for, v_kfor, v_kF_nil, v_kF_cons, v_tail, v_tail2, v_dlen2, v_while, v_kw, v_gt0, v_gts, v_up0, v_ups, v_defD, v_teq, v_teq2, List.length_cons, List.length_nil, List.cons_append, List.nil_append, List.append_nil, List.map_cons, List.map_nil, List.reduceReplicate, Nat.zero_add, Nat.reduceAdd, Bool.not_true, Bool.not_false, decide_true, decide_false, not_true_eq_false, not_false_eq_true, true_and, and_true, fs, i1, i2, z1, z2, z3, s0, j0, j1, j2, j3, w1, w2, t1, t2, L1, L2, e1, P1, shl_nat, hM1, e2, w3, t3, c3, ff, e3, P2, hM2, e5, w4, hz', n0]
  · have hm0 : 0 < sb.m := Nat.pos_of_ne_zero hm
    obtain ⟨hm', g6⟩ := g5 hm0
    rw [hfn] at g6
    have hz : ¬ sb.v.1 = 0 := fun z => hm ((Nm.num_zero sb).mp z)
    have hz2 : 0 < sb.v.1 := by omega
    have n0 : ¬ (m' : Int) = 0 := by omega
    have gp : 0 < m' * 2 ^ (fn - bl m') := Nat.mul_pos hm' (p2_pos _)
    have e5 : ((m' * 2 ^ (fn - bl m') : Nat) : Int) - 1 = ((m' * 2 ^ (fn - bl m') - 1 : Nat) : Int) := by omega
    have bm2 : bl (m' * 2 ^ (fn - bl m') - 1) ≤ 3000 := by
      have := bl_mono (Nat.sub_le (m' * 2 ^ (fn - bl m')) 1)
      have := bl_shift (k := fn - bl m') g1 (by omega)
      omega
    have w4 := worth_nat (m' * 2 ^ (fn - bl m') - 1) (e' - (fn : Int) + bl m') (.int 0) (by omega) (by omega) (by omega)
    have B4 : Bd 20000 (nv false (m' * 2 ^ (fn - bl m') - 1) (e' - (fn : Int) + bl m')) := Bd.nv _ _ _ (by omega) (by omega)
    have t4 := times_eval k2 B4 B4
    have L4 := less_eval k4 (B4.mul B4) (b2.mono (by decide))
    simp only at L4
    have c4 : decide ((nv false (m' * 2 ^ (fn - bl m') - 1) (e' - (fn : Int) + bl m')).1 * (nv false (m' * 2 ^ (fn - bl m') - 1) (e' - (fn : Int) + bl m')).1 * sb.v.2 < sb.v.1 * ((nv false (m' * 2 ^ (fn - bl m') - 1) (e' - (fn : Int) + bl m')).2 * (nv false (m' * 2 ^ (fn - bl m') - 1) (e' - (fn : Int) + bl m')).2)) = true := by
      rw [vb]
      simp only [decide_eq_true_eq]
      rw [dlt_not, ← nv_sq_ge] at g6
      omega
    rw [c4] at L4
    simp only [F_law_root_right, D_law_root_right, v_bnd, v_bin, v_add, v_sub, v_mul, v_div, v_mod, v_pow, v_shl, v_shr, v_and, v_xor, v_app, v_ofB, v_cmp, v_tcmp, v_eq, v_ne, v_lt, v_le, v_gt, v_ge, v_seq, v_tr_b, v_tr_i, v_tE, v_onot, v_tnot, v_not, v_neg, v_neg', v_ite, v_ite1, v_ite0, v_eand, v_eor, v_eand1, v_eand0, v_eor1, v_eor0, v_eand_i, v_eor_i, v_tand, v_tor, v_tand1, v_tand0, v_tor1, v_tor0, v_ttrue, v_tfalse, v_chain, v_var, v_int, v_bool, v_str, v_glob, v_lnil, v_lcons, v_lc, v_tup, v_lst, v_tup1, v_tup2, v_tup3, v_tup4, v_lst1, v_lst2, v_item, v_t0, v_t1, v_t2, v_t3, v_l0, v_l1, v_call, v_call', v_bits, v_bits', v_isint, v_isint', v_shift, v_shift_f, v_shift_c, v_dint, v_dabs, v_ddivmod, v_set, v_kset, v_set2, v_kset2, v_aug, v_int2, v_ret, v_kret, v_retof, v_retof', v_app_nil, v_app_cons, v_app_app, v_if, v_kif1, v_kif0, v_asrt, v_kasrt, v_un, v_unR, v_un2, v_un4, v_unR2, v_unR3, v_try, v_none, v_nil, v_for, v_kfor, v_kF_nil, v_kF_cons, v_tail, v_tail2, v_dlen2, v_while, v_kw, v_gt0, v_gts, v_up0, v_ups, v_defD, v_teq, v_teq2, List.length_cons, List.length_nil, List.cons_append, List.nil_append, List.append_nil, List.map_cons, List.map_nil, List.reduceReplicate, Nat.zero_add, Nat.reduceAdd, Bool.not_true, Bool.not_false, decide_true, decide_false, not_true_eq_false, not_false_eq_true, true_and, and_true, fs, i1, i2, z1, z2, z3, s0, j0, j1, j2, j3, w1, w2, t1, t2, L1, L2, e1, P1, shl_nat, hM1, e2, w3, t3, c3, ff, e3, P2, hM2, e5, w4, hz, hz2, n0, t4, L4]
end Mine

namespace Mine
set_option autoImplicit false
def POWg (R : St → Option D) : St → Option Fl := (sCons (sUnpack [3, 4] (eVar 0)) (sCons (sIf (tCmp .Lt (eVar 1) (eInt 0)) (sCons (sRet (eCall F_mpi_div (lCons (eTup (lCons (eGlob d_fone) (lCons (eGlob d_fone) lNil))) (lCons R (lCons (eVar 2) lNil))))) sNil) sNil) (sCons (sIf (tCmp .Eq (eVar 1) (eInt 0)) (sCons (sRet (eTup (lCons (eGlob d_fone) (lCons (eGlob d_fone) lNil)))) sNil) sNil) (sCons (sIf (tCmp .Eq (eVar 1) (eInt 1)) (sCons (sRet (eVar 0)) sNil) sNil) (sCons (sIf (tCmp .Eq (eVar 1) (eInt 2)) (sCons (sRet (eCall F_mpi_square (lCons (eVar 0) (lCons (eVar 2) lNil)))) sNil) sNil) (sCons (sIf (tE (eBin .BitAnd (eVar 1) (eInt 1))) (sCons (sSet 5 (eCall F_mpf_pow_int (lCons (eVar 3) (lCons (eVar 1) (lCons (eVar 2) (lCons (eGlob d_rf) lNil)))))) (sCons (sSet 6 (eCall F_mpf_pow_int (lCons (eVar 4) (lCons (eVar 1) (lCons (eVar 2) (lCons (eGlob d_rc) lNil)))))) sNil)) (sCons (sSet 7 (eCall F_mpf_sign (lCons (eVar 3) lNil))) (sCons (sSet 8 (eCall F_mpf_sign (lCons (eVar 4) lNil))) (sCons (sIf (tCmp .GtE (eVar 7) (eInt 0)) (sCons (sSet 5 (eCall F_mpf_pow_int (lCons (eVar 3) (lCons (eVar 1) (lCons (eVar 2) (lCons (eGlob d_rf) lNil)))))) (sCons (sSet 6 (eCall F_mpf_pow_int (lCons (eVar 4) (lCons (eVar 1) (lCons (eVar 2) (lCons (eGlob d_rc) lNil)))))) sNil)) (sCons (sIf (tCmp .LtE (eVar 8) (eInt 0)) (sCons (sSet 5 (eCall F_mpf_pow_int (lCons (eVar 4) (lCons (eVar 1) (lCons (eVar 2) (lCons (eGlob d_rf) lNil)))))) (sCons (sSet 6 (eCall F_mpf_pow_int (lCons (eVar 3) (lCons (eVar 1) (lCons (eVar 2) (lCons (eGlob d_rc) lNil)))))) sNil)) (sCons (sSet 5 (eGlob d_fzero)) (sCons (sSet 3 (eCall F_mpf_neg_1 (lCons (eVar 3) lNil))) (sCons (sIf (tE (eCall F_mpf_ge (lCons (eVar 3) (lCons (eVar 4) lNil)))) (sCons (sSet 6 (eCall F_mpf_pow_int (lCons (eVar 3) (lCons (eVar 1) (lCons (eVar 2) (lCons (eGlob d_rc) lNil)))))) sNil) (sCons (sSet 6 (eCall F_mpf_pow_int (lCons (eVar 4) (lCons (eVar 1) (lCons (eVar 2) (lCons (eGlob d_rc) lNil)))))) sNil)) sNil)))) sNil)) sNil)))) (sCons (sRet (eTup (lCons (eVar 5) (lCons (eVar 6) lNil)))) sNil)))))))
theorem D_pow0_eq : D_mpi_pow_int0 = POWg eNone := rfl
theorem D_pow_eq : D_mpi_pow_int = POWg (eCall F_mpi_pow_int0 (lCons (eVar 0) (lCons (eNeg (eVar 1)) (lCons (eBin .Add (eVar 2) (eInt 20)) lNil)))) := rfl
def powS (a : D) (n : Int) (p : Nat) : St := [some a, some (.int n), some (.int p), none, none, none, none, none, none]
theorem F_pow_eq (S : D) (n : Int) (p : Nat) : F_mpi_pow_int [S, .int n, .int p] = retOf (POWg (eCall F_mpi_pow_int0 (lCons (eVar 0) (lCons (eNeg (eVar 1)) (lCons (eBin .Add (eVar 2) (eInt 20)) lNil)))) (powS S n p)) := by
  simp only [F_mpi_pow_int, D_pow_eq, v_bnd, v_bin, v_add, v_sub, v_mul, v_div, v_mod, v_pow, v_shl, v_shr, v_and, v_xor, v_app, v_ofB, v_cmp, v_tcmp, v_eq, v_ne, v_lt, v_le, v_gt, v_ge, v_seq, v_tr_b, v_tr_i, v_tE, v_onot, v_tnot, v_not, v_neg, v_neg', v_ite, v_ite1, v_ite0, v_eand, v_eor, v_eand1, v_eand0, v_eor1, v_eor0, v_eand_i, v_eor_i, v_tand, v_tor, v_tand1, v_tand0, v_tor1, v_tor0, v_ttrue, v_tfalse, v_chain, v_var, v_int, v_bool, v_str, v_glob, v_lnil, v_lcons, v_lc, v_tup, v_lst, v_tup1, v_tup2, v_tup3, v_tup4, v_lst1, v_lst2, v_item, v_t0, v_t1, v_t2, v_t3, v_l0, v_l1, v_call, v_call', v_bits, v_bits', v_isint, v_isint', v_shift, v_shift_f, v_shift_c, v_dint, v_dabs, v_ddivmod, v_set, v_kset, v_set2, v_kset2, v_aug, v_int2, v_ret, v_kret, v_retof, v_retof', v_app_nil, v_app_cons, v_app_app, v_if, v_kif1, v_kif0, v_asrt, v_kasrt, v_un, v_unR, v_un2, v_un4, v_unR2, v_unR3, v_try, v_none, v_nil, v_for, v_kfor, v_kF_nil, v_kF_cons, v_tail, v_tail2, v_dlen2, v_while, v_kw, v_gt0, v_gts, v_up0, v_ups, v_defD, v_teq, v_teq2, List.length_cons, List.length_nil, List.cons_append, List.nil_append, List.append_nil, List.map_cons, List.map_nil, List.reduceReplicate, Nat.zero_add, Nat.reduceAdd, Bool.not_true, Bool.not_false, decide_true, decide_false, not_true_eq_false, not_false_eq_true, true_and, and_true, powS]
theorem F_pow0_eq (S : D) (n : Int) (p : Nat) : F_mpi_pow_int0 [S, .int n, .int p] = retOf (POWg eNone (powS S n p)) := by
  simp only [F_mpi_pow_int0, D_pow0_eq, v_bnd, v_bin, v_add, v_sub, v_mul, v_div, v_mod, v_pow, v_shl, v_shr, v_and, v_xor, v_app, v_ofB, v_cmp, v_tcmp, v_eq, v_ne, v_lt, v_le, v_gt, v_ge, v_seq, v_tr_b, v_tr_i, v_tE, v_onot, v_tnot, v_not, v_neg, v_neg', v_ite, v_ite1, v_ite0, v_eand, v_eor, v_eand1, v_eand0, v_eor1, v_eor0, v_eand_i, v_eor_i, v_tand, v_tor, v_tand1, v_tand0, v_tor1, v_tor0, v_ttrue, v_tfalse, v_chain, v_var, v_int, v_bool, v_str, v_glob, v_lnil, v_lcons, v_lc, v_tup, v_lst, v_tup1, v_tup2, v_tup3, v_tup4, v_lst1, v_lst2, v_item, v_t0, v_t1, v_t2, v_t3, v_l0, v_l1, v_call, v_call', v_bits, v_bits', v_isint, v_isint', v_shift, v_shift_f, v_shift_c, v_dint, v_dabs, v_ddivmod, v_set, v_kset, v_set2, v_kset2, v_aug, v_int2, v_ret, v_kret, v_retof, v_retof', v_app_nil, v_app_cons, v_app_app, v_if, v_kif1, v_kif0, v_asrt, v_kasrt, v_un, v_unR, v_un2, v_un4, v_unR2, v_unR3, v_try, v_none, v_nil, v_for, v_kfor, v_kF_nil, v_kF_cons, v_tail, v_tail2, v_dlen2, v_while, v_kw, v_gt0, v_gts, v_up0, v_ups, v_defD, v_teq, v_teq2, List.length_cons, List.length_nil, List.cons_append, List.nil_append, List.append_nil, List.map_cons, List.map_nil, List.reduceReplicate, Nat.zero_add, Nat.reduceAdd, Bool.not_true, Bool.not_false, decide_true, decide_false, not_true_eq_false, not_false_eq_true, true_and, and_true, powS]
theorem Nm.ge0 {k : Nat} {x : Nm} (h : x.Ok k) : F_mpf_ge [x.d, d_fzero] = some (.bool (decide (0 ≤ x.v.1))) := by
  by_cases q : x.m = 0
  · rw [Nm.zero h q, ge_zero_zero, (Nm.num_zero x).mpr q]; rfl
  · have h1 := Nm.num_neg x (by omega)
    rw [Nm.d, ge_zero _ _ _ (by omega)]
    cases hs : x.s with
    | true => have := h1.mpr hs; simp; omega
    | false => have : ¬ x.v.1 < 0 := fun z => by have := h1.mp z; rw [hs] at this; cases this
               simp; omega
theorem Nm.le0 {k : Nat} {x : Nm} (h : x.Ok k) : F_mpf_le [x.d, d_fzero] = some (.bool (decide (x.v.1 ≤ 0))) := by
  by_cases q : x.m = 0
  · rw [Nm.zero h q, le_zero_zero, (Nm.num_zero x).mpr q]; rfl
  · have h1 := Nm.num_neg x (by omega)
    have h2 : ¬ x.v.1 = 0 := fun z => q ((Nm.num_zero x).mp z)
    rw [Nm.d, le_zero _ _ _ (by omega)]
    cases hs : x.s with
    | true => have := h1.mpr hs; simp; omega
    | false => have : ¬ x.v.1 < 0 := fun z => by have := h1.mp z; rw [hs] at this; cases this
               simp; omega
theorem Nm.mul_eval {p : Nat} {x : Nm} (c : Bool) (hx : x.Ok 64) (hp : 1 ≤ p) : ∃ d, RN c p (pw x.v 2) d ∧ F_mpf_mul [x.d, x.d, .int p, RR c] = some d := by
  by_cases q : x.m = 0
  · refine ⟨d_fzero, RN_zero c p ?_, ?_⟩
    · show x.v.1 ^ 2 = 0
      rw [(Nm.num_zero x).mpr q]; rfl
    · rw [Nm.zero hx q, mul_zero_eval]
  · exact mul_RN c x.s x.m p x.e (by omega) hp hx.bits
theorem Nm.pow_eval {p n : Nat} {x : Nm} (c : Bool) (hx : x.Ok 64) (hp : 1 ≤ p) (n3 : 3 ≤ n) (n9 : n ≤ 9) : ∃ d, RN c p (pw x.v n) d ∧ F_mpf_pow_int [x.d, .int n, .int p, RR c] = some d := by
  by_cases q : x.m = 0
  · refine ⟨d_fzero, RN_zero c p ?_, ?_⟩
    · show x.v.1 ^ n = 0
      rw [(Nm.num_zero x).mpr q]; exact Int.zero_pow (by omega)
    · rw [Nm.zero hx q, pow_int_zero n _ _ n3]
  · exact pow_RN c x.s x.m p n x.e (by omega) hp hx.bits n3 n9
/-- the magnitudes compared -/
theorem abs_le_of_dle {x y : Nm} (h : dle x.m x.e y.m y.e) : (x.v.1 * y.v.2).natAbs ≤ (y.v.1 * x.v.2).natAbs := by
  have e : ∀ x y : Nm, (x.v.1 * y.v.2).natAbs = x.m * 2 ^ (x.e.toNat + (-y.e).toNat) := by
    intro x y
    rw [Int.natAbs_mul]
    show ((if x.s then -(x.m : Int) else x.m) * ((2 ^ x.e.toNat : Nat) : Int)).natAbs * ((2 ^ (-y.e).toNat : Nat) : Int).natAbs = _
    rw [sgn_mul_abs, Int.natAbs_natCast, Nat.pow_add]
    ac_rfl
  rw [e, e]
  exact (dle_iff (by omega)).mp h
theorem pw_neg_even (x : Nm) {n : Nat} (hn : n % 2 = 0) : pw x.neg.v n = pw x.v n := by
  rw [Nm.neg_v]
  unfold pw
  simp only
  congr 1
  exact Int.le_antisymm (pow_even_le hn (by simp)) (pow_even_le hn (by simp))
def rows (sa sb : Fr) (n : Nat) : List Fr := if n % 2 = 0 ∧ 0 < n ∧ sa.1 ≤ 0 ∧ 0 ≤ sb.1 then [pw sa n, pw sb n, (0, 1)] else [pw sa n, pw sb n]
def ToldP (p n : Nat) (sa sb : Fr) (r : Option D) : Prop :=
  ∃ d1 d2 l u, r = some (.tup [d1, d2]) ∧ RN false p l d1 ∧ RN true p u d2 ∧ l ∈ rows sa sb n ∧ u ∈ rows sa sb n ∧ ∀ q ∈ rows sa sb n, fle l q ∧ fle q u
theorem rows_pos {sa sb : Fr} (ha : 0 < sa.2) (hb : 0 < sb.2) (n : Nat) : ∀ q ∈ rows sa sb n, 0 < q.2 := by
  intro q hq
  unfold rows at hq
  split at hq
  · simp only [List.mem_cons, List.not_mem_nil, or_false] at hq
    rcases hq with rfl | rfl | rfl
    · exact pw_den ha n
    · exact pw_den hb n
    · decide
  · simp only [List.mem_cons, List.not_mem_nil, or_false] at hq
    rcases hq with rfl | rfl
    · exact pw_den ha n
    · exact pw_den hb n
theorem even_nonneg {x : Fr} {n : Nat} (hn : n % 2 = 0) : 0 ≤ (pw x n).1 := by
  show 0 ≤ x.1 ^ n
  by_cases h0 : n = 0
  · subst h0; simp
  · have := pow_even_le (a := 0) (b := x.1) hn (by simp)
    rw [Int.zero_pow h0] at this
    exact this
/-- the order of the rows, even exponents -/
theorem rows_even {sa sb : Nm} {n : Nat} (hn : n % 2 = 0) (n0 : 0 < n) (hs : fle sa.v sb.v) :
    (0 ≤ sa.v.1 → ∀ q ∈ rows sa.v sb.v n, fle (pw sa.v n) q ∧ fle q (pw sb.v n)) ∧
    (sb.v.1 ≤ 0 → ∀ q ∈ rows sa.v sb.v n, fle (pw sb.v n) q ∧ fle q (pw sa.v n)) ∧
    (sa.v.1 < 0 → 0 < sb.v.1 → (dle sa.m sa.e sb.m sb.e → ∀ q ∈ rows sa.v sb.v n, fle (0, 1) q ∧ fle q (pw sb.v n)) ∧ (dle sb.m sb.e sa.m sa.e → ∀ q ∈ rows sa.v sb.v n, fle (0, 1) q ∧ fle q (pw sa.v n))) := by
  have za : ∀ x : Fr, x.1 = 0 → fle (pw x n) (0, 1) := by
    intro x h
    show x.1 ^ n * 1 ≤ 0 * _
    rw [h, Int.zero_pow (by omega)]; simp
  have zb : ∀ x : Fr, fle (0, 1) (pw x n) := by
    intro x
    show 0 * _ ≤ (pw x n).1 * 1
    have := even_nonneg (x := x) hn
    omega
  refine ⟨fun h q hq => ?_, fun h q hq => ?_, fun ha hb => ⟨fun h q hq => ?_, fun h q hq => ?_⟩⟩
  · have m := pw_even_nonneg hn h sb.pos hs
    unfold rows at hq
    split at hq
    · next w =>
      simp only [List.mem_cons, List.not_mem_nil, or_false] at hq
      rcases hq with rfl | rfl | rfl
      · exact ⟨fle_refl _, m⟩
      · exact ⟨m, fle_refl _⟩
      · exact ⟨za _ (by omega), zb _⟩
    · simp only [List.mem_cons, List.not_mem_nil, or_false] at hq
      rcases hq with rfl | rfl
      · exact ⟨fle_refl _, m⟩
      · exact ⟨m, fle_refl _⟩
  · have m := pw_even_nonpos hn h sa.pos hs
    unfold rows at hq
    split at hq
    · next w =>
      simp only [List.mem_cons, List.not_mem_nil, or_false] at hq
      rcases hq with rfl | rfl | rfl
      · exact ⟨m, fle_refl _⟩
      · exact ⟨fle_refl _, m⟩
      · exact ⟨za _ (by omega), zb _⟩
    · simp only [List.mem_cons, List.not_mem_nil, or_false] at hq
      rcases hq with rfl | rfl
      · exact ⟨m, fle_refl _⟩
      · exact ⟨fle_refl _, m⟩
  · have m : fle (pw sa.v n) (pw sb.v n) := pw_even hn (abs_le_of_dle h)
    unfold rows at hq
    rw [if_pos ⟨hn, n0, by omega, by omega⟩] at hq
    simp only [List.mem_cons, List.not_mem_nil, or_false] at hq
    rcases hq with rfl | rfl | rfl
    · exact ⟨zb _, m⟩
    · exact ⟨zb _, fle_refl _⟩
    · exact ⟨fle_refl _, zb _⟩
  · have m : fle (pw sb.v n) (pw sa.v n) := pw_even hn (abs_le_of_dle h)
    unfold rows at hq
    rw [if_pos ⟨hn, n0, by omega, by omega⟩] at hq
    simp only [List.mem_cons, List.not_mem_nil, or_false] at hq
    rcases hq with rfl | rfl | rfl
    · exact ⟨zb _, fle_refl _⟩
    · exact ⟨zb _, m⟩
    · exact ⟨fle_refl _, zb _⟩
theorem rows_mem {sa sb : Fr} {n : Nat} : pw sa n ∈ rows sa sb n ∧ pw sb n ∈ rows sa sb n := by
  unfold rows; split <;> simp
theorem rows_zero {sa sb : Fr} {n : Nat} (hn : n % 2 = 0) (n0 : 0 < n) (ha : sa.1 ≤ 0) (hb : 0 ≤ sb.1) : ((0, 1) : Fr) ∈ rows sa sb n := by
  unfold rows; rw [if_pos ⟨hn, n0, ha, hb⟩]; simp
end Mine

namespace Mine
set_option autoImplicit false
theorem RN_one (c : Bool) (p : Nat) (hp : 1 ≤ p) : RN c p (1, 1) d_fone := by
  have := RN_of_NR (c := c) (s := false) hp (by decide : 0 < 1) (NR_one p (c != false) 0 hp) 0 0 (by simp)
  exact this
theorem neg_odd {k : Nat} {x : Nm} (hx : x.Ok k) (h : x.v.1 < 0) : x.m % 2 = 1 ∧ x.s = true ∧ x.neg.d = MM false x.m x.e := by
  have hm : x.m ≠ 0 := fun z => by have := (Nm.num_zero x).mpr z; omega
  have hs := (Nm.num_neg x (by omega)).mp h
  refine ⟨hx.odd.resolve_right fun z => hm z.2.1, hs, ?_⟩
  unfold Nm.neg
  rw [if_neg hm, hs]
  rfl
theorem pos_odd {k : Nat} {x : Nm} (hx : x.Ok k) (h : 0 < x.v.1) : x.m % 2 = 1 ∧ x.d = MM false x.m x.e := by
  have hm : x.m ≠ 0 := fun z => by have := (Nm.num_zero x).mpr z; omega
  have hs := Nm.nonneg_s (Int.le_of_lt h) (by omega)
  exact ⟨hx.odd.resolve_right fun z => hm z.2.1, by rw [Nm.d, hs]⟩
theorem dle_total (a b : Nat) (x y : Int) : ¬ dlt a x b y → dle b y a x := by unfold dlt dle; omega
theorem dle_of_dlt {a b : Nat} {x y : Int} : dlt a x b y → dle a x b y := by unfold dlt dle; omega
section
variable {p : Nat} {sa sb : Nm} (h1 : sa.Ok 64) (h2 : sb.Ok 64) (hp : 1 ≤ p) (hs : fle sa.v sb.v) (e1 : sa.e - sb.e ≤ 100) (e2 : sb.e - sa.e ≤ 100)
include h1 h2 hp hs e1 e2
theorem square_told : ToldP p 2 sa.v sb.v (F_mpi_square [.tup [sa.d, sb.d], .int p]) := by
  obtain ⟨o1, o2, o3⟩ := rows_even (n := 2) (by decide) (by decide) hs
  have g1 := Nm.ge0 h1
  have g2 := Nm.le0 h2
  by_cases c1 : 0 ≤ sa.v.1
  · obtain ⟨d1, r1, f1⟩ := Nm.mul_eval false h1 hp
    obtain ⟨d2, r2, f2⟩ := Nm.mul_eval true h2 hp
    simp only [RR, if_true, if_false, Bool.false_eq_true] at f1 f2
    refine ⟨d1, d2, _, _, ?_, r1, r2, rows_mem.1, rows_mem.2, o1 c1⟩
    simp only [F_mpi_square, D_mpi_square, v_bnd, v_bin, v_add, v_sub, v_mul, v_div, v_mod, v_pow, v_shl, v_shr, v_and, v_xor, v_app, v_ofB, v_cmp, v_tcmp, v_eq, v_ne, v_lt, v_le, v_gt, v_ge, v_seq, v_tr_b, v_tr_i, v_tE, v_onot, v_tnot, v_not, v_neg, v_neg', v_ite, v_ite1, v_ite0, v_eand, v_eor, v_eand1, v_eand0, v_eor1, v_eor0, v_eand_i, v_eor_i, v_tand, v_tor, v_tand1, v_tand0, v_tor1, v_tor0, v_ttrue, v_tfalse, v_chain, v_var, v_int, v_bool, v_str, v_glob, v_lnil, v_lcons, v_lc, v_tup, v_lst, v_tup1, v_tup2, v_tup3, v_tup4, v_lst1, v_lst2, v_item, v_t0, v_t1, v_t2, v_t3, v_l0, v_l1, v_call, v_call', v_bits, v_bits', v_isint, v_isint', v_shift, v_shift_f, v_shift_c, v_dint, v_dabs, v_ddivmod, v_set, v_kset, v_set2, v_kset2, v_aug, v_int2, v_ret, v_kret, v_retof, v_retof', v_app_nil, v_app_cons, v_app_app, v_if, v_kif1, v_kif0, v_asrt, v_kasrt, v_un, v_unR, v_un2, v_un4, v_unR2, v_unR3, v_try, v_none, v_nil, v_for, v_kfor, v_kF_nil, v_kF_cons, v_tail, v_tail2, v_dlen2, v_while, v_kw, v_gt0, v_gts, v_up0, v_ups, v_defD, v_teq, v_teq2, List.length_cons, List.length_nil, List.cons_append, List.nil_append, List.append_nil, List.map_cons, List.map_nil, List.reduceReplicate, Nat.zero_add, Nat.reduceAdd, Bool.not_true, Bool.not_false, decide_true, decide_false, not_true_eq_false, not_false_eq_true, true_and, and_true, Int.reduceEq, Int.reduceLT, Int.reduceLE, Int.reduceNeg, g1, c1, f1, f2, d_rf, d_rc]
  · by_cases c2 : sb.v.1 ≤ 0
    · obtain ⟨d1, r1, f1⟩ := Nm.mul_eval false h2 hp
      obtain ⟨d2, r2, f2⟩ := Nm.mul_eval true h1 hp
      simp only [RR, if_true, if_false, Bool.false_eq_true] at f1 f2
      refine ⟨d1, d2, _, _, ?_, r1, r2, rows_mem.2, rows_mem.1, o2 c2⟩
      simp only [F_mpi_square, D_mpi_square, v_bnd, v_bin, v_add, v_sub, v_mul, v_div, v_mod, v_pow, v_shl, v_shr, v_and, v_xor, v_app, v_ofB, v_cmp, v_tcmp, v_eq, v_ne, v_lt, v_le, v_gt, v_ge, v_seq, v_tr_b, v_tr_i, v_tE, v_onot, v_tnot, v_not, v_neg, v_neg', v_ite, v_ite1, v_ite0, v_eand, v_eor, v_eand1, v_eand0, v_eor1, v_eor0, v_eand_i, v_eor_i, v_tand, v_tor, v_tand1, v_tand0, v_tor1, v_tor0, v_ttrue, v_tfalse, v_chain, v_var, v_int, v_bool, v_str, v_glob, v_lnil, v_lcons, v_lc, v_tup, v_lst, v_tup1, v_tup2, v_tup3, v_tup4, v_lst1, v_lst2, v_item, v_t0, v_t1, v_t2, v_t3, v_l0, v_l1, v_call, v_call', v_bits, v_bits', v_isint, v_isint', v_shift, v_shift_f, v_shift_c, v_dint, v_dabs, v_ddivmod, v_set, v_kset, v_set2, v_kset2, v_aug, v_int2, v_ret, v_kret, v_retof, v_retof', v_app_nil, v_app_cons, v_app_app, v_if, v_kif1, v_kif0, v_asrt, v_kasrt, v_un, v_unR, v_un2, v_un4, v_unR2, v_unR3, v_try, v_none, v_nil, v_for, v_kfor, v_kF_nil, v_kF_cons, v_tail, v_tail2, v_dlen2, v_while, v_kw, v_gt0, v_gts, v_up0, v_ups, v_defD, v_teq, v_teq2, List.length_cons, List.length_nil, List.cons_append, List.nil_append, List.append_nil, List.map_cons, List.map_nil, List.reduceReplicate, Nat.zero_add, Nat.reduceAdd, Bool.not_true, Bool.not_false, decide_true, decide_false, not_true_eq_false, not_false_eq_true, true_and, and_true, Int.reduceEq, Int.reduceLT, Int.reduceLE, Int.reduceNeg, g1, g2, c1, c2, f1, f2, d_rf, d_rc]
    · obtain ⟨oa, sa', da⟩ := neg_odd h1 (by omega)
      obtain ⟨ob, db⟩ := pos_odd h2 (by omega)
      have mm := min_max_pos sa.m sb.m sa.e sb.e oa ob e1 e2 (by have := h1.bits; omega) (by have := h2.bits; omega)
      have n1 := Nm.neg1_eval h1
      obtain ⟨o4, o5⟩ := o3 (by omega) (by omega)
      have z := rows_zero (sa := sa.v) (sb := sb.v) (n := 2) (by decide) (by decide) (by omega) (by omega)
      rw [← da, ← db] at mm
      by_cases q : dlt sa.m sa.e sb.m sb.e
      · rw [if_pos q] at mm
        obtain ⟨d2, r2, f2⟩ := Nm.mul_eval true h2 hp
        simp only [RR, if_true] at f2
        refine ⟨d_fzero, d2, _, _, ?_, RN_zero _ _ rfl, r2, z, rows_mem.2, o4 (dle_of_dlt q)⟩
        simp only [F_mpi_square, D_mpi_square, v_bnd, v_bin, v_add, v_sub, v_mul, v_div, v_mod, v_pow, v_shl, v_shr, v_and, v_xor, v_app, v_ofB, v_cmp, v_tcmp, v_eq, v_ne, v_lt, v_le, v_gt, v_ge, v_seq, v_tr_b, v_tr_i, v_tE, v_onot, v_tnot, v_not, v_neg, v_neg', v_ite, v_ite1, v_ite0, v_eand, v_eor, v_eand1, v_eand0, v_eor1, v_eor0, v_eand_i, v_eor_i, v_tand, v_tor, v_tand1, v_tand0, v_tor1, v_tor0, v_ttrue, v_tfalse, v_chain, v_var, v_int, v_bool, v_str, v_glob, v_lnil, v_lcons, v_lc, v_tup, v_lst, v_tup1, v_tup2, v_tup3, v_tup4, v_lst1, v_lst2, v_item, v_t0, v_t1, v_t2, v_t3, v_l0, v_l1, v_call, v_call', v_bits, v_bits', v_isint, v_isint', v_shift, v_shift_f, v_shift_c, v_dint, v_dabs, v_ddivmod, v_set, v_kset, v_set2, v_kset2, v_aug, v_int2, v_ret, v_kret, v_retof, v_retof', v_app_nil, v_app_cons, v_app_app, v_if, v_kif1, v_kif0, v_asrt, v_kasrt, v_un, v_unR, v_un2, v_un4, v_unR2, v_unR3, v_try, v_none, v_nil, v_for, v_kfor, v_kF_nil, v_kF_cons, v_tail, v_tail2, v_dlen2, v_while, v_kw, v_gt0, v_gts, v_up0, v_ups, v_defD, v_teq, v_teq2, List.length_cons, List.length_nil, List.cons_append, List.nil_append, List.append_nil, List.map_cons, List.map_nil, List.reduceReplicate, Nat.zero_add, Nat.reduceAdd, Bool.not_true, Bool.not_false, decide_true, decide_false, not_true_eq_false, not_false_eq_true, true_and, and_true, Int.reduceEq, Int.reduceLT, Int.reduceLE, Int.reduceNeg, g1, g2, c1, c2, n1, mm, f2, d_rf, d_rc]
      · rw [if_neg q] at mm
        obtain ⟨d2, r2, f2⟩ := Nm.mul_eval true (Nm.neg_ok h1) hp
        rw [pw_neg_even _ (by decide)] at r2
        simp only [RR, if_true] at f2
        refine ⟨d_fzero, d2, _, _, ?_, RN_zero _ _ rfl, r2, z, rows_mem.1, o5 (dle_total _ _ _ _ q)⟩
        simp only [F_mpi_square, D_mpi_square, v_bnd, v_bin, v_add, v_sub, v_mul, v_div, v_mod, v_pow, v_shl, v_shr, v_and, v_xor, v_app, v_ofB, v_cmp, v_tcmp, v_eq, v_ne, v_lt, v_le, v_gt, v_ge, v_seq, v_tr_b, v_tr_i, v_tE, v_onot, v_tnot, v_not, v_neg, v_neg', v_ite, v_ite1, v_ite0, v_eand, v_eor, v_eand1, v_eand0, v_eor1, v_eor0, v_eand_i, v_eor_i, v_tand, v_tor, v_tand1, v_tand0, v_tor1, v_tor0, v_ttrue, v_tfalse, v_chain, v_var, v_int, v_bool, v_str, v_glob, v_lnil, v_lcons, v_lc, v_tup, v_lst, v_tup1, v_tup2, v_tup3, v_tup4, v_lst1, v_lst2, v_item, v_t0, v_t1, v_t2, v_t3, v_l0, v_l1, v_call, v_call', v_bits, v_bits', v_isint, v_isint', v_shift, v_shift_f, v_shift_c, v_dint, v_dabs, v_ddivmod, v_set, v_kset, v_set2, v_kset2, v_aug, v_int2, v_ret, v_kret, v_retof, v_retof', v_app_nil, v_app_cons, v_app_app, v_if, v_kif1, v_kif0, v_asrt, v_kasrt, v_un, v_unR, v_un2, v_un4, v_unR2, v_unR3, v_try, v_none, v_nil, v_for, v_kfor, v_kF_nil, v_kF_cons, v_tail, v_tail2, v_dlen2, v_while, v_kw, v_gt0, v_gts, v_up0, v_ups, v_defD, v_teq, v_teq2, List.length_cons, List.length_nil, List.cons_append, List.nil_append, List.append_nil, List.map_cons, List.map_nil, List.reduceReplicate, Nat.zero_add, Nat.reduceAdd, Bool.not_true, Bool.not_false, decide_true, decide_false, not_true_eq_false, not_false_eq_true, true_and, and_true, Int.reduceEq, Int.reduceLT, Int.reduceLE, Int.reduceNeg, g1, g2, c1, c2, n1, mm, f2, d_rf, d_rc]
theorem pow_told {R : St → Option D} {n : Nat} (n9 : n ≤ 9) (n1 : n ≠ 1) : ToldP p n sa.v sb.v (retOf (POWg R (powS (.tup [sa.d, sb.d]) n p))) := by
  have kn : ¬ (n : Int) < 0 := by omega
  have k1 : ¬ (n : Int) = 1 := by omega
  by_cases n0 : n = 0
  · subst n0
    have pz : ∀ x : Fr, pw x 0 = (1, 1) := fun x => by unfold pw; rw [Int.pow_zero, Int.pow_zero]
    refine ⟨d_fone, d_fone, pw sa.v 0, pw sa.v 0, ?_, ?_, ?_, rows_mem.1, rows_mem.1, ?_⟩
    · have z : ((0 : Nat) : Int) = 0 := rfl
      simp only [POWg, powS, z, v_bnd, v_bin, v_add, v_sub, v_mul, v_div, v_mod, v_pow, v_shl, v_shr, v_and, v_xor, v_app, v_ofB, v_cmp, v_tcmp, v_eq, v_ne, v_lt, v_le, v_gt, v_ge, v_seq, v_tr_b, v_tr_i, v_tE, v_onot, v_tnot, v_not, v_neg, v_neg', v_ite, v_ite1, v_ite0, v_eand, v_eor, v_eand1, v_eand0, v_eor1, v_eor0, v_eand_i, v_eor_i, v_tand, v_tor, v_tand1, v_tand0, v_tor1, v_tor0, v_ttrue, v_tfalse, v_chain, v_var, v_int, v_bool, v_str, v_glob, v_lnil, v_lcons, v_lc, v_tup, v_lst, v_tup1, v_tup2, v_tup3, v_tup4, v_lst1, v_lst2, v_item, v_t0, v_t1, v_t2, v_t3, v_l0, v_l1, v_call, v_call', v_bits, v_bits', v_isint, v_isint', v_shift, v_shift_f, v_shift_c, v_dint, v_dabs, v_ddivmod, v_set, v_kset, v_set2, v_kset2, v_aug, v_int2, v_ret, v_kret, v_retof, v_retof', v_app_nil, v_app_cons, v_app_app, v_if, v_kif1, v_kif0, v_asrt, v_kasrt, v_un, v_unR, v_un2, v_un4, v_unR2, v_unR3, v_try, v_none, v_nil, v_for, v_kfor, v_kF_nil, v_kF_cons, v_tail, v_tail2, v_dlen2, v_while, v_kw, v_gt0, v_gts, v_up0, v_ups, v_defD, v_teq, v_teq2, List.length_cons, List.length_nil, List.cons_append, List.nil_append, List.append_nil, List.map_cons, List.map_nil, List.reduceReplicate, Nat.zero_add, Nat.reduceAdd, Bool.not_true, Bool.not_false, decide_true, decide_false, not_true_eq_false, not_false_eq_true, true_and, and_true, Int.reduceEq, Int.reduceLT, Int.reduceLE, Int.reduceNeg]
    · rw [pz]; exact RN_one false p hp
    · rw [pz]; exact RN_one true p hp
    · intro q hq
      unfold rows at hq
      rw [if_neg (by simp)] at hq
      simp only [List.mem_cons, List.not_mem_nil, or_false] at hq
      rcases hq with rfl | rfl
      · exact ⟨fle_refl _, fle_refl _⟩
      · rw [pz, pz]; exact ⟨fle_refl _, fle_refl _⟩
  · have k0 : ¬ (n : Int) = 0 := by omega
    by_cases n2 : n = 2
    · subst n2
      have T := square_told h1 h2 hp hs e1 e2
      have z : ((2 : Nat) : Int) = 2 := rfl
      have : retOf (POWg R (powS (.tup [sa.d, sb.d]) ((2 : Nat) : Int) p)) = F_mpi_square [.tup [sa.d, sb.d], .int p] := by
        simp only [POWg, powS, z, v_bnd, v_bin, v_add, v_sub, v_mul, v_div, v_mod, v_pow, v_shl, v_shr, v_and, v_xor, v_app, v_ofB, v_cmp, v_tcmp, v_eq, v_ne, v_lt, v_le, v_gt, v_ge, v_seq, v_tr_b, v_tr_i, v_tE, v_onot, v_tnot, v_not, v_neg, v_neg', v_ite, v_ite1, v_ite0, v_eand, v_eor, v_eand1, v_eand0, v_eor1, v_eor0, v_eand_i, v_eor_i, v_tand, v_tor, v_tand1, v_tand0, v_tor1, v_tor0, v_ttrue, v_tfalse, v_chain, v_var, v_int, v_bool, v_str, v_glob, v_lnil, v_lcons, v_lc, v_tup, v_lst, v_tup1, v_tup2, v_tup3, v_tup4, v_lst1, v_lst2, v_item, v_t0, v_t1, v_t2, v_t3, v_l0, v_l1, v_call, v_call', v_bits, v_bits', v_isint, v_isint', v_shift, v_shift_f, v_shift_c, v_dint, v_dabs, v_ddivmod, v_set, v_kset, v_set2, v_kset2, v_aug, v_int2, v_ret, v_kret, v_retof, v_retof', v_app_nil, v_app_cons, v_app_app, v_if, v_kif1, v_kif0, v_asrt, v_kasrt, v_un, v_unR, v_un2, v_un4, v_unR2, v_unR3, v_try, v_none, v_nil, v_for, v_kfor, v_kF_nil, v_kF_cons, v_tail, v_tail2, v_dlen2, v_while, v_kw, v_gt0, v_gts, v_up0, v_ups, v_defD, v_teq, v_teq2, List.length_cons, List.length_nil, List.cons_append, List.nil_append, List.append_nil, List.map_cons, List.map_nil, List.reduceReplicate, Nat.zero_add, Nat.reduceAdd, Bool.not_true, Bool.not_false, decide_true, decide_false, not_true_eq_false, not_false_eq_true, true_and, and_true, Int.reduceEq, Int.reduceLT, Int.reduceLE, Int.reduceNeg]
      rw [this]
      exact T
    · have k2 : ¬ (n : Int) = 2 := by omega
      have n3 : 3 ≤ n := by omega
      by_cases od : n % 2 = 1
      · have hb : Builtin.bitAnd (n : Int) 1 = 1 := odd_and od
        obtain ⟨d1, r1, f1⟩ := Nm.pow_eval false h1 hp n3 n9
        obtain ⟨d2, r2, f2⟩ := Nm.pow_eval true h2 hp n3 n9
        simp only [RR, if_true, if_false, Bool.false_eq_true] at f1 f2
        refine ⟨d1, d2, _, _, ?_, r1, r2, rows_mem.1, rows_mem.2, ?_⟩
        · simp only [POWg, powS, v_bnd, v_bin, v_add, v_sub, v_mul, v_div, v_mod, v_pow, v_shl, v_shr, v_and, v_xor, v_app, v_ofB, v_cmp, v_tcmp, v_eq, v_ne, v_lt, v_le, v_gt, v_ge, v_seq, v_tr_b, v_tr_i, v_tE, v_onot, v_tnot, v_not, v_neg, v_neg', v_ite, v_ite1, v_ite0, v_eand, v_eor, v_eand1, v_eand0, v_eor1, v_eor0, v_eand_i, v_eor_i, v_tand, v_tor, v_tand1, v_tand0, v_tor1, v_tor0, v_ttrue, v_tfalse, v_chain, v_var, v_int, v_bool, v_str, v_glob, v_lnil, v_lcons, v_lc, v_tup, v_lst, v_tup1, v_tup2, v_tup3, v_tup4, v_lst1, v_lst2, v_item, v_t0, v_t1, v_t2, v_t3, v_l0, v_l1, v_call, v_call', v_bits, v_bits', v_isint, v_isint', v_shift, v_shift_f, v_shift_c, v_dint, v_dabs, v_ddivmod, v_set, v_kset, v_set2, v_kset2, v_aug, v_int2, v_ret, v_kret, v_retof, v_retof', v_app_nil, v_app_cons, v_app_app, v_if, v_kif1, v_kif0, v_asrt, v_kasrt, v_un, v_unR, v_un2, v_un4, v_unR2, v_unR3, v_try, v_none, v_nil, v_for, v_kfor, v_kF_nil, v_kF_cons, v_tail, v_tail2, v_dlen2, v_while, v_kw, v_gt0, v_gts, v_up0, v_ups, v_defD, v_teq, v_teq2, List.length_cons, List.length_nil, List.cons_append, List.nil_append, List.append_nil, List.map_cons, List.map_nil, List.reduceReplicate, Nat.zero_add, Nat.reduceAdd, Bool.not_true, Bool.not_false, decide_true, decide_false, not_true_eq_false, not_false_eq_true, true_and, and_true, Int.reduceEq, Int.reduceLT, Int.reduceLE, Int.reduceNeg, kn, k0, k1, k2, hb, f1, f2, d_rf, d_rc]
        · have m := pw_odd od hs
          intro q hq
          unfold rows at hq
          rw [if_neg (by omega)] at hq
          simp only [List.mem_cons, List.not_mem_nil, or_false] at hq
          rcases hq with rfl | rfl
          · exact ⟨fle_refl _, m⟩
          · exact ⟨m, fle_refl _⟩
      · have ev : n % 2 = 0 := by omega
        have hb : Builtin.bitAnd (n : Int) 1 = 0 := even_and ev
        obtain ⟨o1, o2, o3⟩ := rows_even ev (by omega) hs
        have s1 := Nm.sign_eval h1
        have s2 := Nm.sign_eval h2
        by_cases c1 : 0 ≤ sa.v.1
        · obtain ⟨d1, r1, f1⟩ := Nm.pow_eval false h1 hp n3 n9
          obtain ⟨d2, r2, f2⟩ := Nm.pow_eval true h2 hp n3 n9
          simp only [RR, if_true, if_false, Bool.false_eq_true] at f1 f2
          refine ⟨d1, d2, _, _, ?_, r1, r2, rows_mem.1, rows_mem.2, o1 c1⟩
          by_cases z : sa.v.1 = 0
          · rw [sgi_zero z] at s1
            simp only [POWg, powS, v_bnd, v_bin, v_add, v_sub, v_mul, v_div, v_mod, v_pow, v_shl, v_shr, v_and, v_xor, v_app, v_ofB, v_cmp, v_tcmp, v_eq, v_ne, v_lt, v_le, v_gt, v_ge, v_seq, v_tr_b, v_tr_i, v_tE, v_onot, v_tnot, v_not, v_neg, v_neg', v_ite, v_ite1, v_ite0, v_eand, v_eor, v_eand1, v_eand0, v_eor1, v_eor0, v_eand_i, v_eor_i, v_tand, v_tor, v_tand1, v_tand0, v_tor1, v_tor0, v_ttrue, v_tfalse, v_chain, v_var, v_int, v_bool, v_str, v_glob, v_lnil, v_lcons, v_lc, v_tup, v_lst, v_tup1, v_tup2, v_tup3, v_tup4, v_lst1, v_lst2, v_item, v_t0, v_t1, v_t2, v_t3, v_l0, v_l1, v_call, v_call', v_bits, v_bits', v_isint, v_isint', v_shift, v_shift_f, v_shift_c, v_dint, v_dabs, v_ddivmod, v_set, v_kset, v_set2, v_kset2, v_aug, v_int2, v_ret, v_kret, v_retof, v_retof', v_app_nil, v_app_cons, v_app_app, v_if, v_kif1, v_kif0, v_asrt, v_kasrt, v_un, v_unR, v_un2, v_un4, v_unR2, v_unR3, v_try, v_none, v_nil, v_for, v_kfor, v_kF_nil, v_kF_cons, v_tail, v_tail2, v_dlen2, v_while, v_kw, v_gt0, v_gts, v_up0, v_ups, v_defD, v_teq, v_teq2, List.length_cons, List.length_nil, List.cons_append, List.nil_append, List.append_nil, List.map_cons, List.map_nil, List.reduceReplicate, Nat.zero_add, Nat.reduceAdd, Bool.not_true, Bool.not_false, decide_true, decide_false, not_true_eq_false, not_false_eq_true, true_and, and_true, Int.reduceEq, Int.reduceLT, Int.reduceLE, Int.reduceNeg, kn, k0, k1, k2, hb, s1, s2, f1, f2, d_rf, d_rc]
          · rw [sgi_pos (by omega)] at s1
            simp only [POWg, powS, v_bnd, v_bin, v_add, v_sub, v_mul, v_div, v_mod, v_pow, v_shl, v_shr, v_and, v_xor, v_app, v_ofB, v_cmp, v_tcmp, v_eq, v_ne, v_lt, v_le, v_gt, v_ge, v_seq, v_tr_b, v_tr_i, v_tE, v_onot, v_tnot, v_not, v_neg, v_neg', v_ite, v_ite1, v_ite0, v_eand, v_eor, v_eand1, v_eand0, v_eor1, v_eor0, v_eand_i, v_eor_i, v_tand, v_tor, v_tand1, v_tand0, v_tor1, v_tor0, v_ttrue, v_tfalse, v_chain, v_var, v_int, v_bool, v_str, v_glob, v_lnil, v_lcons, v_lc, v_tup, v_lst, v_tup1, v_tup2, v_tup3, v_tup4, v_lst1, v_lst2, v_item, v_t0, v_t1, v_t2, v_t3, v_l0, v_l1, v_call, v_call', v_bits, v_bits', v_isint, v_isint', v_shift, v_shift_f, v_shift_c, v_dint, v_dabs, v_ddivmod, v_set, v_kset, v_set2, v_kset2, v_aug, v_int2, v_ret, v_kret, v_retof, v_retof', v_app_nil, v_app_cons, v_app_app, v_if, v_kif1, v_kif0, v_asrt, v_kasrt, v_un, v_unR, v_un2, v_un4, v_unR2, v_unR3, v_try, v_none, v_nil, v_for, v_kfor, v_kF_nil, v_kF_cons, v_tail, v_tail2, v_dlen2, v_while, v_kw, v_gt0, v_gts, v_up0, v_ups, v_defD, v_teq, v_teq2, List.length_cons, List.length_nil, List.cons_append, List.nil_append, List.append_nil, List.map_cons, List.map_nil, List.reduceReplicate, Nat.zero_add, Nat.reduceAdd, Bool.not_true, Bool.not_false, decide_true, decide_false, not_true_eq_false, not_false_eq_true, true_and, and_true, Int.reduceEq, Int.reduceLT, Int.reduceLE, Int.reduceNeg, kn, k0, k1, k2, hb, s1, s2, f1, f2, d_rf, d_rc]
        · rw [sgi_neg (by omega)] at s1
          by_cases c2 : sb.v.1 ≤ 0
          · obtain ⟨d1, r1, f1⟩ := Nm.pow_eval false h2 hp n3 n9
            obtain ⟨d2, r2, f2⟩ := Nm.pow_eval true h1 hp n3 n9
            simp only [RR, if_true, if_false, Bool.false_eq_true] at f1 f2
            refine ⟨d1, d2, _, _, ?_, r1, r2, rows_mem.2, rows_mem.1, o2 c2⟩
            by_cases z : sb.v.1 = 0
            · rw [sgi_zero z] at s2
              simp only [POWg, powS, v_bnd, v_bin, v_add, v_sub, v_mul, v_div, v_mod, v_pow, v_shl, v_shr, v_and, v_xor, v_app, v_ofB, v_cmp, v_tcmp, v_eq, v_ne, v_lt, v_le, v_gt, v_ge, v_seq, v_tr_b, v_tr_i, v_tE, v_onot, v_tnot, v_not, v_neg, v_neg', v_ite, v_ite1, v_ite0, v_eand, v_eor, v_eand1, v_eand0, v_eor1, v_eor0, v_eand_i, v_eor_i, v_tand, v_tor, v_tand1, v_tand0, v_tor1, v_tor0, v_ttrue, v_tfalse, v_chain, v_var, v_int, v_bool, v_str, v_glob, v_lnil, v_lcons, v_lc, v_tup, v_lst, v_tup1, v_tup2, v_tup3, v_tup4, v_lst1, v_lst2, v_item, v_t0, v_t1, v_t2, v_t3, v_l0, v_l1, v_call, v_call', v_bits, v_bits', v_isint, v_isint', v_shift, v_shift_f, v_shift_c, v_dint, v_dabs, v_ddivmod, v_set, v_kset, v_set2, v_kset2, v_aug, v_int2, v_ret, v_kret, v_retof, v_retof', v_app_nil, v_app_cons, v_app_app, v_if, v_kif1, v_kif0, v_asrt, v_kasrt, v_un, v_unR, v_un2, v_un4, v_unR2, v_unR3, v_try, v_none, v_nil, v_for, v_kfor, v_kF_nil, v_kF_cons, v_tail, v_tail2, v_dlen2, v_while, v_kw, v_gt0, v_gts, v_up0, v_ups, v_defD, v_teq, v_teq2, List.length_cons, List.length_nil, List.cons_append, List.nil_append, List.append_nil, List.map_cons, List.map_nil, List.reduceReplicate, Nat.zero_add, Nat.reduceAdd, Bool.not_true, Bool.not_false, decide_true, decide_false, not_true_eq_false, not_false_eq_true, true_and, and_true, Int.reduceEq, Int.reduceLT, Int.reduceLE, Int.reduceNeg, kn, k0, k1, k2, hb, s1, s2, f1, f2, d_rf, d_rc]
            · rw [sgi_neg (by omega)] at s2
              simp only [POWg, powS, v_bnd, v_bin, v_add, v_sub, v_mul, v_div, v_mod, v_pow, v_shl, v_shr, v_and, v_xor, v_app, v_ofB, v_cmp, v_tcmp, v_eq, v_ne, v_lt, v_le, v_gt, v_ge, v_seq, v_tr_b, v_tr_i, v_tE, v_onot, v_tnot, v_not, v_neg, v_neg', v_ite, v_ite1, v_ite0, v_eand, v_eor, v_eand1, v_eand0, v_eor1, v_eor0, v_eand_i, v_eor_i, v_tand, v_tor, v_tand1, v_tand0, v_tor1, v_tor0, v_ttrue, v_tfalse, v_chain, v_var, v_int, v_bool, v_str, v_glob, v_lnil, v_lcons, v_lc, v_tup, v_lst, v_tup1, v_tup2, v_tup3, v_tup4, v_lst1, v_lst2, v_item, v_t0, v_t1, v_t2, v_t3, v_l0, v_l1, v_call, v_call', v_bits, v_bits', v_isint, v_isint', v_shift, v_shift_f, v_shift_c, v_dint, v_dabs, v_ddivmod, v_set, v_kset, v_set2, v_kset2, v_aug, v_int2, v_ret, v_kret, v_retof, v_retof', v_app_nil, v_app_cons, v_app_app, v_if, v_kif1, v_kif0, v_asrt, v_kasrt, v_un, v_unR, v_un2, v_un4, v_unR2, v_unR3, v_try, v_none, v_nil, v_for, v_kfor, v_kF_nil, v_kF_cons, v_tail, v_tail2, v_dlen2, v_while, v_kw, v_gt0, v_gts, v_up0, v_ups, v_defD, v_teq, v_teq2, List.length_cons, List.length_nil, List.cons_append, List.nil_append, List.append_nil, List.map_cons, List.map_nil, List.reduceReplicate, Nat.zero_add, Nat.reduceAdd, Bool.not_true, Bool.not_false, decide_true, decide_false, not_true_eq_false, not_false_eq_true, true_and, and_true, Int.reduceEq, Int.reduceLT, Int.reduceLE, Int.reduceNeg, kn, k0, k1, k2, hb, s1, s2, f1, f2, d_rf, d_rc]
          · rw [sgi_pos (by omega)] at s2
            obtain ⟨oa, sa', da⟩ := neg_odd h1 (by omega)
            obtain ⟨ob, db⟩ := pos_odd h2 (by omega)
            have ge := ge_pos sa.m sb.m sa.e sb.e oa ob e1 e2 (by have := h1.bits; omega) (by have := h2.bits; omega)
            have ng := Nm.neg1_eval h1
            obtain ⟨o4, o5⟩ := o3 (by omega) (by omega)
            have z := rows_zero (sa := sa.v) (sb := sb.v) (n := n) ev (by omega) (by omega) (by omega)
            rw [← da, ← db] at ge
            by_cases q : dlt sa.m sa.e sb.m sb.e
            · obtain ⟨d2, r2, f2⟩ := Nm.pow_eval true h2 hp n3 n9
              simp only [RR, if_true] at f2
              refine ⟨d_fzero, d2, _, _, ?_, RN_zero _ _ rfl, r2, z, rows_mem.2, o4 (dle_of_dlt q)⟩
              simp only [POWg, powS, v_bnd, v_bin, v_add, v_sub, v_mul, v_div, v_mod, v_pow, v_shl, v_shr, v_and, v_xor, v_app, v_ofB, v_cmp, v_tcmp, v_eq, v_ne, v_lt, v_le, v_gt, v_ge, v_seq, v_tr_b, v_tr_i, v_tE, v_onot, v_tnot, v_not, v_neg, v_neg', v_ite, v_ite1, v_ite0, v_eand, v_eor, v_eand1, v_eand0, v_eor1, v_eor0, v_eand_i, v_eor_i, v_tand, v_tor, v_tand1, v_tand0, v_tor1, v_tor0, v_ttrue, v_tfalse, v_chain, v_var, v_int, v_bool, v_str, v_glob, v_lnil, v_lcons, v_lc, v_tup, v_lst, v_tup1, v_tup2, v_tup3, v_tup4, v_lst1, v_lst2, v_item, v_t0, v_t1, v_t2, v_t3, v_l0, v_l1, v_call, v_call', v_bits, v_bits', v_isint, v_isint', v_shift, v_shift_f, v_shift_c, v_dint, v_dabs, v_ddivmod, v_set, v_kset, v_set2, v_kset2, v_aug, v_int2, v_ret, v_kret, v_retof, v_retof', v_app_nil, v_app_cons, v_app_app, v_if, v_kif1, v_kif0, v_asrt, v_kasrt, v_un, v_unR, v_un2, v_un4, v_unR2, v_unR3, v_try, v_none, v_nil, v_for, v_kfor, v_kF_nil, v_kF_cons, v_tail, v_tail2, v_dlen2, v_while, v_kw, v_gt0, v_gts, v_up0, v_ups, v_defD, v_teq, v_teq2, List.length_cons, List.length_nil, List.cons_append, List.nil_append, List.append_nil, List.map_cons, List.map_nil, List.reduceReplicate, Nat.zero_add, Nat.reduceAdd, Bool.not_true, Bool.not_false, decide_true, decide_false, not_true_eq_false, not_false_eq_true, true_and, and_true, Int.reduceEq, Int.reduceLT, Int.reduceLE, Int.reduceNeg, kn, k0, k1, k2, hb, s1, s2, ng, ge, q, f2, d_rf, d_rc]
            · obtain ⟨d2, r2, f2⟩ := Nm.pow_eval true (Nm.neg_ok h1) hp n3 n9
              rw [pw_neg_even _ ev] at r2
              simp only [RR, if_true] at f2
              refine ⟨d_fzero, d2, _, _, ?_, RN_zero _ _ rfl, r2, z, rows_mem.1, o5 (dle_total _ _ _ _ q)⟩
              simp only [POWg, powS, v_bnd, v_bin, v_add, v_sub, v_mul, v_div, v_mod, v_pow, v_shl, v_shr, v_and, v_xor, v_app, v_ofB, v_cmp, v_tcmp, v_eq, v_ne, v_lt, v_le, v_gt, v_ge, v_seq, v_tr_b, v_tr_i, v_tE, v_onot, v_tnot, v_not, v_neg, v_neg', v_ite, v_ite1, v_ite0, v_eand, v_eor, v_eand1, v_eand0, v_eor1, v_eor0, v_eand_i, v_eor_i, v_tand, v_tor, v_tand1, v_tand0, v_tor1, v_tor0, v_ttrue, v_tfalse, v_chain, v_var, v_int, v_bool, v_str, v_glob, v_lnil, v_lcons, v_lc, v_tup, v_lst, v_tup1, v_tup2, v_tup3, v_tup4, v_lst1, v_lst2, v_item, v_t0, v_t1, v_t2, v_t3, v_l0, v_l1, v_call, v_call', v_bits, v_bits', v_isint, v_isint', v_shift, v_shift_f, v_shift_c, v_dint, v_dabs, v_ddivmod, v_set, v_kset, v_set2, v_kset2, v_aug, v_int2, v_ret, v_kret, v_retof, v_retof', v_app_nil, v_app_cons, v_app_app, v_if, v_kif1, v_kif0, v_asrt, v_kasrt, v_un, v_unR, v_un2, v_un4, v_unR2, v_unR3, v_try, v_none, v_nil, v_for, v_kfor, v_kF_nil, v_kF_cons, v_tail, v_tail2, v_dlen2, v_while, v_kw, v_gt0, v_gts, v_up0, v_ups, v_defD, v_teq, v_teq2, List.length_cons, List.length_nil, List.cons_append, List.nil_append, List.append_nil, List.map_cons, List.map_nil, List.reduceReplicate, Nat.zero_add, Nat.reduceAdd, Bool.not_true, Bool.not_false, decide_true, decide_false, not_true_eq_false, not_false_eq_true, true_and, and_true, Int.reduceEq, Int.reduceLT, Int.reduceLE, Int.reduceNeg, kn, k0, k1, k2, hb, s1, s2, ng, ge, q, f2, d_rf, d_rc]
end
end Mine

namespace Mine
set_option autoImplicit false
theorem RN.congr {c p f d f'} (a : RN c p f d) (h : 0 < f.2) (h' : 0 < f'.2) (q : f.1 * f'.2 = f'.1 * f.2) : RN c p f' d := by
  obtain ⟨s, m, e, rfl, a⟩ := a
  refine ⟨s, m, e, rfl, ?_⟩
  rcases a with ⟨z, rfl, rfl, rfl⟩ | ⟨z, hs, r⟩
  · refine .inl ⟨?_, rfl, rfl, rfl⟩
    rw [z, Int.zero_mul] at q
    rcases Int.mul_eq_zero.mp q.symm with w | w
    · exact w
    · omega
  · have z' : f'.1 ≠ 0 := by
      intro z'
      rw [z', Int.zero_mul] at q
      rcases Int.mul_eq_zero.mp q with w | w
      · exact z w
      · omega
    have neg : f.1 < 0 ↔ f'.1 < 0 := by
      constructor
      · intro w
        have := Int.mul_neg_of_neg_of_pos w h'
        rw [q] at this
        refine Int.lt_of_not_ge fun u => ?_
        have := Int.mul_nonneg u (Int.le_of_lt h)
        omega
      · intro w
        have := Int.mul_neg_of_neg_of_pos w h
        rw [← q] at this
        refine Int.lt_of_not_ge fun u => ?_
        have := Int.mul_nonneg u (Int.le_of_lt h')
        omega
    refine .inr ⟨z', by rw [hs]; simp only [neg], ?_⟩
    have q' : f.1.natAbs * f'.2.toNat = f'.1.natAbs * f.2.toNat := by
      have := congrArg Int.natAbs q
      rw [Int.natAbs_mul, Int.natAbs_mul] at this
      rwa [show f'.2.toNat = f'.2.natAbs by omega, show f.2.toNat = f.2.natAbs by omega]
    exact r.congr (by omega) (by omega) q'

/-- what a rounding tells: an odd mantissa of at most p bits, near to and on its side of the value -/
theorem Rd.facts {p : Nat} {up : Bool} {A B m : Nat} {e : Int} (hp : 1 ≤ p) (hB : 0 < B) (h : Rd p up A B m e) :
    m % 2 = 1 ∧ bl m ≤ p ∧ e ≤ bl A + p ∧ -e ≤ p + bl B ∧
      (up = false → m * 2 ^ e.toNat * B ≤ A * 2 ^ (-e).toNat ∧ (A * 2 ^ (-e).toNat - m * 2 ^ e.toNat * B) * 2 ^ (p - 1) ≤ A * 2 ^ (-e).toNat) ∧
      (up = true → A * 2 ^ (-e).toNat ≤ m * 2 ^ e.toNat * B ∧ (m * 2 ^ e.toNat * B - A * 2 ^ (-e).toNat) * 2 ^ (p - 1) ≤ A * 2 ^ (-e).toNat) := by
  obtain ⟨w, j, k, ⟨b1, b2, b3, b4⟩, o, t, hm, he⟩ := h
  have hw' : m * 2 ^ t ≤ 2 ^ p := by rw [hm]; split <;> omega
  have hm0 : 0 < m := by omega
  have hbl := bl_mul hm0 t
  have ht : t ≤ p := by
    have : 2 ^ t ≤ 2 ^ p := Nat.le_trans (Nat.le_mul_of_pos_left _ hm0) hw'
    exact (Nat.pow_le_pow_iff_right (a := 2) (by decide)).mp this
  have hb : bl m ≤ p := by
    by_cases q : m * 2 ^ t = 2 ^ p
    · have := (odd_unique o (by decide : 1 % 2 = 1) (q.trans (Nat.one_mul _).symm)).1
      rw [this, bl_one]; exact hp
    · have := bl_le (show m * 2 ^ t < 2 ^ p by omega)
      omega
  have hA : 0 < A := by
    refine Nat.pos_of_ne_zero fun z => ?_
    rw [z, Nat.zero_mul] at b3
    have h1 := p2_pos (p - 1)
    have : 0 < w * 2 ^ j * B := Nat.mul_pos (Nat.mul_pos (by omega) (p2_pos j)) hB
    omega
  -- bounds on the exponent
  have lo : p - 1 + j < bl A + k := by
    refine Nat.lt_of_not_le fun q => ?_
    have h1 : A * 2 ^ k < 2 ^ (bl A + k) := by rw [Nat.pow_add]; exact Nat.mul_lt_mul_of_pos_right (bl_lt A) (p2_pos k)
    have h2 : 2 ^ (p - 1 + j) ≤ w * 2 ^ j * B := by
      rw [Nat.pow_add]
      exact Nat.le_trans (Nat.mul_le_mul_right _ b1) (Nat.le_mul_of_pos_right _ hB)
    have h3 : 2 ^ (bl A + k) ≤ 2 ^ (p - 1 + j) := Nat.pow_le_pow_right (by decide) q
    omega
  have hi : k < p + j + bl B := by
    refine Nat.lt_of_not_le fun q => ?_
    have h1 : (w + 1) * 2 ^ j * B ≤ 2 ^ (p + j + bl B) := by
      rw [Nat.pow_add, Nat.pow_add]
      exact Nat.mul_le_mul (Nat.mul_le_mul_right _ (by omega)) (Nat.le_of_lt (bl_lt B))
    have h2 : 2 ^ (p + j + bl B) ≤ 2 ^ k := Nat.pow_le_pow_right (by decide) q
    have h3 : 2 ^ k ≤ A * 2 ^ k := Nat.le_mul_of_pos_left _ hA
    omega
  refine ⟨o, hb, by omega, by omega, ?_⟩
  -- transfer between (j + t, k) and (e⁺, e⁻)
  have tr : ∀ {x y : Nat}, (x * 2 ^ (j + t) ≤ y * 2 ^ k ↔ x * 2 ^ e.toNat ≤ y * 2 ^ (-e).toNat) := fun {x y} => pw_le (by omega)
  have tr' : ∀ {x y : Nat}, (x * 2 ^ k ≤ y * 2 ^ (j + t) ↔ x * 2 ^ (-e).toNat ≤ y * 2 ^ e.toNat) := fun {x y} => pw_le (by omega)
  have e1 : m * 2 ^ (j + t) * B = m * 2 ^ t * 2 ^ j * B := by rw [Nat.pow_add]; ac_rfl
  have step : 2 ^ (p - 1) * (2 ^ j * B) ≤ A * 2 ^ k := by
    refine Nat.le_trans ?_ b3
    rw [← Nat.mul_assoc]
    exact Nat.mul_le_mul_right _ (Nat.mul_le_mul_right _ b1)
  have e4 : (w + 1) * 2 ^ j * B = w * 2 ^ j * B + 2 ^ j * B := by rw [Nat.add_mul, Nat.add_mul, Nat.one_mul]
  constructor
  · intro hu
    rw [if_neg (by simp [hu])] at hm
    have c1 : m * B * 2 ^ (j + t) ≤ A * 2 ^ k := by
      calc _ = m * 2 ^ (j + t) * B := by ac_rfl
        _ = w * 2 ^ j * B := by rw [e1, hm]
        _ ≤ _ := b3
    have c2 := tr.mp c1
    refine ⟨by calc _ = m * B * 2 ^ e.toNat := by ac_rfl
                 _ ≤ _ := c2, ?_⟩
    -- (A 2^k - m 2^(j+t) B) 2^(p-1) ≤ A 2^k, as A 2^(p-1) 2^k ≤ (A 2^k + m B 2^(p-1) 2^(j+t))
    have c3 : A * 2 ^ (p - 1) * 2 ^ k ≤ A * 2 ^ k + m * B * 2 ^ (p - 1) * 2 ^ (j + t) := by
      have h1 : A * 2 ^ k * 2 ^ (p - 1) ≤ (w + 1) * 2 ^ j * B * 2 ^ (p - 1) := Nat.mul_le_mul_right _ (Nat.le_of_lt b4)
      rw [e4, Nat.add_mul] at h1
      have h2 : m * B * 2 ^ (p - 1) * 2 ^ (j + t) = w * 2 ^ j * B * 2 ^ (p - 1) := by
        calc _ = m * 2 ^ (j + t) * B * 2 ^ (p - 1) := by ac_rfl
          _ = _ := by rw [e1, hm]
      have h3 : A * 2 ^ (p - 1) * 2 ^ k = A * 2 ^ k * 2 ^ (p - 1) := by ac_rfl
      have h4 : 2 ^ j * B * 2 ^ (p - 1) = 2 ^ (p - 1) * (2 ^ j * B) := by ac_rfl
      omega
    have c4 : A * 2 ^ (p - 1) * 2 ^ (-e).toNat ≤ A * 2 ^ (-e).toNat + m * B * 2 ^ (p - 1) * 2 ^ e.toNat := by
      have h5 : (A * 2 ^ (p - 1) - A) * 2 ^ k ≤ m * B * 2 ^ (p - 1) * 2 ^ (j + t) := by rw [Nat.sub_mul]; omega
      have h6 := tr'.mp h5
      rw [Nat.sub_mul] at h6
      omega
    rw [Nat.sub_mul]
    have h7 : A * 2 ^ (-e).toNat * 2 ^ (p - 1) = A * 2 ^ (p - 1) * 2 ^ (-e).toNat := by ac_rfl
    have h8 : m * 2 ^ e.toNat * B * 2 ^ (p - 1) = m * B * 2 ^ (p - 1) * 2 ^ e.toNat := by ac_rfl
    omega
  · intro hu
    by_cases ex : w * 2 ^ j * B = A * 2 ^ k
    · rw [if_neg (by simp [ex])] at hm
      have c1 : A * 2 ^ k ≤ m * B * 2 ^ (j + t) := by
        calc _ = w * 2 ^ j * B := ex.symm
          _ = m * 2 ^ (j + t) * B := by rw [e1, hm]
          _ = m * B * 2 ^ (j + t) := by ac_rfl
          _ ≤ _ := Nat.le_refl _
      have c1' : m * B * 2 ^ (j + t) ≤ A * 2 ^ k := by
        calc _ = m * 2 ^ (j + t) * B := by ac_rfl
          _ = w * 2 ^ j * B := by rw [e1, hm]
          _ ≤ _ := b3
      have c2 := tr'.mp c1
      have c2' := tr.mp c1'
      have h8 : m * 2 ^ e.toNat * B = m * B * 2 ^ e.toNat := by ac_rfl
      refine ⟨by omega, ?_⟩
      rw [show m * 2 ^ e.toNat * B - A * 2 ^ (-e).toNat = 0 by omega, Nat.zero_mul]
      exact Nat.zero_le _
    · rw [if_pos ⟨hu, ex⟩] at hm
      have c1 : A * 2 ^ k ≤ m * B * 2 ^ (j + t) := by
        calc _ ≤ (w + 1) * 2 ^ j * B := Nat.le_of_lt b4
          _ = m * 2 ^ (j + t) * B := by rw [e1, hm]
          _ = m * B * 2 ^ (j + t) := by ac_rfl
          _ ≤ _ := Nat.le_refl _
      have c2 := tr'.mp c1
      have h8 : m * 2 ^ e.toNat * B = m * B * 2 ^ e.toNat := by ac_rfl
      refine ⟨by omega, ?_⟩
      have c3 : m * B * 2 ^ (p - 1) * 2 ^ (j + t) ≤ A * 2 ^ k + A * 2 ^ (p - 1) * 2 ^ k := by
        have h2 : m * B * 2 ^ (p - 1) * 2 ^ (j + t) = (w + 1) * 2 ^ j * B * 2 ^ (p - 1) := by
          calc _ = m * 2 ^ (j + t) * B * 2 ^ (p - 1) := by ac_rfl
            _ = _ := by rw [e1, hm]
        rw [h2, e4, Nat.add_mul]
        have h1 : w * 2 ^ j * B * 2 ^ (p - 1) ≤ A * 2 ^ k * 2 ^ (p - 1) := Nat.mul_le_mul_right _ b3
        have h3 : A * 2 ^ (p - 1) * 2 ^ k = A * 2 ^ k * 2 ^ (p - 1) := by ac_rfl
        have h4 : 2 ^ j * B * 2 ^ (p - 1) = 2 ^ (p - 1) * (2 ^ j * B) := by ac_rfl
        omega
      have c4 : m * B * 2 ^ (p - 1) * 2 ^ e.toNat ≤ A * 2 ^ (-e).toNat + A * 2 ^ (p - 1) * 2 ^ (-e).toNat := by
        have h5 : m * B * 2 ^ (p - 1) * 2 ^ (j + t) ≤ (A + A * 2 ^ (p - 1)) * 2 ^ k := by rw [Nat.add_mul]; exact c3
        have h6 := tr.mp h5
        rw [Nat.add_mul] at h6
        exact h6
      rw [Nat.sub_mul]
      have h7 : A * 2 ^ (-e).toNat * 2 ^ (p - 1) = A * 2 ^ (p - 1) * 2 ^ (-e).toNat := by ac_rfl
      have h8 : m * 2 ^ e.toNat * B * 2 ^ (p - 1) = m * B * 2 ^ (p - 1) * 2 ^ e.toNat := by ac_rfl
      omega
end Mine

namespace Mine
set_option autoImplicit false
def Err (p : Nat) (t f : Fr) : Prop := (t.1 * f.2 - f.1 * t.2).natAbs * 2 ^ (p - 1) ≤ f.1.natAbs * t.2.natAbs
theorem RN.facts {c : Bool} {p k : Nat} {f : Fr} {d : D} (hp : 1 ≤ p) (hf : f.1 ≠ 0) (hf2 : 0 < f.2) (hB : Bd k f) (h : RN c p f d) :
    ∃ x : Nm, d = x.d ∧ x.Ok p ∧ x.e ≤ k + p ∧ -x.e ≤ k + p ∧ (c = false → fle x.v f) ∧ (c = true → fle f x.v) ∧ Err p x.v f ∧ (f.1 < 0 ↔ x.v.1 < 0) ∧ x.v.1 ≠ 0 := by
  obtain ⟨s, m, e, rfl, h⟩ := h
  obtain ⟨_, hs, r⟩ := h.resolve_left fun z => hf z.1
  obtain ⟨o, b, b1, b2, r1, r2⟩ := r.facts hp (by omega)
  have k1 : bl f.1.natAbs ≤ k := by rw [← ib_abs]; exact hB.1
  have k2 : bl f.2.toNat ≤ k := by have := hB.2; rw [ib_abs] at this; rwa [show f.2.natAbs = f.2.toNat by omega] at this
  have hm : (⟨s, m, e⟩ : Nm).m ≠ 0 := by show m ≠ 0; omega
  have nz : (⟨s, m, e⟩ : Nm).v.1 ≠ 0 := fun z => hm ((Nm.num_zero _).mp z)
  have ng := Nm.num_neg ⟨s, m, e⟩ (by omega)
  have sgn : f.1 < 0 ↔ (⟨s, m, e⟩ : Nm).v.1 < 0 := by
    rw [ng]
    show _ ↔ s = true
    rw [hs]; simp
  have hnum := Nm.num ⟨s, m, e⟩
  simp only at hnum
  have hden : (⟨s, m, e⟩ : Nm).v.2 = ((2 ^ (-e).toNat : Nat) : Int) := rfl
  generalize hv : (⟨s, m, e⟩ : Nm).v = v at *
  obtain ⟨v1, v2⟩ := v
  obtain ⟨f1, f2⟩ := f
  simp only at *
  obtain ⟨F2, rfl⟩ : ∃ n : Nat, f2 = (n : Int) := ⟨f2.toNat, by omega⟩
  rw [Int.toNat_natCast] at *
  generalize m * 2 ^ e.toNat = g at *
  generalize 2 ^ (-e).toNat = q at *
  obtain ⟨A, hA⟩ : ∃ A : Nat, f1.natAbs = A := ⟨_, rfl⟩
  rw [hA] at r1 r2
  have main : (c = false → fle (v1, v2) (f1, (F2 : Int))) ∧ (c = true → fle (f1, (F2 : Int)) (v1, v2)) ∧ Err p (v1, v2) (f1, (F2 : Int)) := by
    unfold fle Err
    simp only
    subst hden
    have gF : ((g * F2 : Nat) : Int) = (g : Int) * F2 := by push_cast; rfl
    have Aq : ((A * q : Nat) : Int) = (A : Int) * q := by push_cast; rfl
    rw [hA, Int.natAbs_natCast]
    cases s with
    | false =>
      have hf1 : f1 = A := by simp at hs; omega
      rw [if_neg (by simp)] at hnum
      subst hnum hf1
      rw [← gF, ← Aq]
      cases c with
      | false =>
        obtain ⟨x1, x2⟩ := r1 rfl
        refine ⟨(fun _ => by omega), (fun z => nomatch z), ?_⟩
        rw [show (((g * F2 : Nat) : Int) - ((A * q : Nat) : Int)).natAbs = A * q - g * F2 by omega]
        exact x2
      | true =>
        obtain ⟨x1, x2⟩ := r2 rfl
        refine ⟨(fun z => nomatch z), (fun _ => by omega), ?_⟩
        rw [show (((g * F2 : Nat) : Int) - ((A * q : Nat) : Int)).natAbs = g * F2 - A * q by omega]
        exact x2
    | true =>
      have hf1 : f1 = -(A : Int) := by simp at hs; omega
      rw [if_pos rfl] at hnum
      subst hnum hf1
      rw [Int.neg_mul, Int.neg_mul, ← gF, ← Aq]
      cases c with
      | false =>
        obtain ⟨x1, x2⟩ := r2 rfl
        refine ⟨(fun _ => by omega), (fun z => nomatch z), ?_⟩
        rw [show (-((g * F2 : Nat) : Int) - -((A * q : Nat) : Int)).natAbs = g * F2 - A * q by omega]
        exact x2
      | true =>
        obtain ⟨x1, x2⟩ := r1 rfl
        refine ⟨(fun z => nomatch z), (fun _ => by omega), ?_⟩
        rw [show (-((g * F2 : Nat) : Int) - -((A * q : Nat) : Int)).natAbs = A * q - g * F2 by omega]
        exact x2
  refine ⟨⟨s, m, e⟩, rfl, ⟨.inl o, b⟩, ?_, ?_, ?_, ?_, ?_, ?_, ?_⟩
  · show e ≤ _; omega
  · show -e ≤ _; omega
  · rw [hv]; exact main.1
  · rw [hv]; exact main.2.1
  · rw [hv]; exact main.2.2
  · rw [hv]; exact sgn
  · rw [hv]; exact nz

/-- the two errors of a power's inverse -/
theorem gap_core {p P : Nat} {u1 u2 t1 t2 c2 : Nat} {c1 : Int} (hp : 1 ≤ p) (hP : p + 2 ≤ P) (hu2 : 0 < u2) (ht1 : 0 < t1) (hc2 : 0 < c2)
    (a : ((t1 : Int) * u2 - u1 * t2).natAbs * 2 ^ (P - 1) ≤ u1 * t2) (b : (c1 * t1 - t2 * c2).natAbs * 2 ^ (p - 1) ≤ t2 * c2) :
    ((u2 : Int) * c2 - c1 * u1).natAbs * 2 ^ p < 8 * (u2 * c2) := by
  obtain ⟨K, hK⟩ : ∃ K, K = 2 ^ (p - 1) := ⟨_, rfl⟩
  have hK1 : 2 ^ p = 2 * K := by rw [hK, Nat.mul_comm, ← Nat.pow_succ]; congr 1; omega
  obtain ⟨L, hL, hL2⟩ : ∃ L, 2 ^ (P - 1) = 2 * K * L ∧ 2 ≤ 2 * K * L := by
    refine ⟨2 ^ (P - 1 - p), ?_, ?_⟩
    · rw [← hK1, ← Nat.pow_add]; congr 1; omega
    · rw [← hK1, ← Nat.pow_add, show p + (P - 1 - p) = (P - 2) + 1 by omega, Nat.pow_succ]
      have := p2_pos (P - 2); omega
  rw [hL] at a
  rw [← hK] at b
  rw [hK1]
  have hL0 : 0 < L := Nat.pos_of_ne_zero fun z => by rw [z] at hL2; omega
  generalize hA : ((t1 : Int) * u2 - u1 * t2).natAbs = x at *
  generalize hB : (c1 * t1 - t2 * c2).natAbs = y at *
  generalize hG : ((u2 : Int) * c2 - c1 * u1).natAbs = g at *
  -- t1 g ≤ c2 x + u1 y
  have tri : t1 * g ≤ c2 * x + u1 * y := by
    have id : (t1 : Int) * (u2 * c2 - c1 * u1) = c2 * (t1 * u2 - u1 * t2) + -(u1 * (c1 * t1 - t2 * c2)) := by
      simp only [Int.mul_sub]
      have e1 : (t1 : Int) * (u2 * c2) = c2 * (t1 * u2) := by ac_rfl
      have e2 : (t1 : Int) * (c1 * u1) = u1 * (c1 * t1) := by ac_rfl
      have e3 : (c2 : Int) * (u1 * t2) = u1 * (t2 * c2) := by ac_rfl
      omega
    have h := congrArg Int.natAbs id
    rw [Int.natAbs_mul, hG, Int.natAbs_natCast] at h
    have t := Int.natAbs_add_le ((c2 : Int) * (t1 * u2 - u1 * t2)) (-(u1 * (c1 * t1 - t2 * c2)))
    rw [Int.natAbs_neg, Int.natAbs_mul, Int.natAbs_mul, Int.natAbs_natCast, Int.natAbs_natCast, hA, hB] at t
    omega
  have a' : x * (2 * K) ≤ u1 * t2 := Nat.le_trans (by rw [← Nat.mul_assoc x (2 * K) L] at a; exact Nat.le_trans (Nat.le_mul_of_pos_right _ hL0) a) (Nat.le_refl _)
  have a2 : x * 2 ≤ u1 * t2 := Nat.le_trans (Nat.mul_le_mul_left _ hL2) a
  -- u1 t2 ≤ 2 t1 u2
  have near : u1 * t2 ≤ 2 * (t1 * u2) := by
    have e1 : ((t1 * u2 : Nat) : Int) = (t1 : Int) * u2 := by push_cast; rfl
    have e2 : ((u1 * t2 : Nat) : Int) = (u1 : Int) * t2 := by push_cast; rfl
    rw [← e1, ← e2] at hA
    omega
  have s1 : t1 * (g * (2 * K)) ≤ 3 * (c2 * (u1 * t2)) := by
    calc t1 * (g * (2 * K)) = (t1 * g) * (2 * K) := by ac_rfl
      _ ≤ (c2 * x + u1 * y) * (2 * K) := Nat.mul_le_mul_right _ tri
      _ = c2 * (x * (2 * K)) + 2 * (u1 * (y * K)) := by rw [Nat.add_mul]; congr 1; · ac_rfl
                                                        · ac_rfl
      _ ≤ c2 * (u1 * t2) + 2 * (u1 * (t2 * c2)) := Nat.add_le_add (Nat.mul_le_mul_left _ a') (Nat.mul_le_mul_left _ (Nat.mul_le_mul_left _ b))
      _ = c2 * (u1 * t2) + 2 * (c2 * (u1 * t2)) := by congr 2; ac_rfl
      _ = _ := by omega
  have s2 : 3 * (c2 * (u1 * t2)) ≤ 6 * (t1 * (u2 * c2)) := by
    have : c2 * (u1 * t2) ≤ c2 * (2 * (t1 * u2)) := Nat.mul_le_mul_left _ near
    have e : c2 * (2 * (t1 * u2)) = 2 * (t1 * (u2 * c2)) := by ac_rfl
    omega
  have s3 : 6 * (t1 * (u2 * c2)) < t1 * (8 * (u2 * c2)) := by
    have e : t1 * (8 * (u2 * c2)) = 8 * (t1 * (u2 * c2)) := by ac_rfl
    have : 0 < t1 * (u2 * c2) := Nat.mul_pos ht1 (Nat.mul_pos hu2 hc2)
    omega
  exact Nat.lt_of_mul_lt_mul_left (Nat.lt_of_le_of_lt (Nat.le_trans s1 s2) s3)
def one : Nm := ⟨false, 1, 0⟩
theorem one_v : one.v = (1, 1) := rfl
theorem one_d : one.d = d_fone := rfl
theorem one_ok : one.Ok 1 := ⟨.inl rfl, by decide⟩
theorem inv_anti {x y : Fr} (h : 0 < x.1 ∨ y.1 < 0) (hx : 0 < x.2) (hy : 0 < y.2) (q : fle x y) : fle (fov (1, 1) y) (fov (1, 1) x) := by
  have sg := fle_sign hx hy q
  rcases h with h | h
  · exact fov_M2 (x := (1, 1)) (by decide) h (sg.1 h) (by decide) q
  · have hx0 := sg.2.2.1 h
    rw [← fov_neg (1, 1) y (by decide) (by omega), ← fov_neg (1, 1) x (by decide) (by omega)]
    refine fov_M3 (x := (-1, 1)) (by decide) ?_ ?_ (by decide) ?_
    · show 0 < -y.1; omega
    · show 0 < -x.1; omega
    · unfold fle at *; simp only [Int.neg_mul]; omega
/-- the law's bound on the gap -/
theorem gap_bound {p P : Nat} {U T C : Fr} (hp : 1 ≤ p) (hP : p + 2 ≤ P) (hU : 0 < U.2) (hT : 0 < T.2) (hC : 0 < C.2) (hs : (0 < U.1 ∧ 0 < T.1) ∨ (U.1 < 0 ∧ T.1 < 0))
    (a : Err P T U) (b : Err p C (fov (1, 1) T)) :
    ((fov (1, 1) U).1 * C.2 - C.1 * (fov (1, 1) U).2).natAbs * 2 ^ p < 8 * ((fov (1, 1) U).1.natAbs * C.2.natAbs) ∧ (fov (1, 1) U).2 = U.1.natAbs := by
  obtain ⟨u1, u2⟩ := U
  obtain ⟨t1, t2⟩ := T
  obtain ⟨c1, c2⟩ := C
  simp only at *
  obtain ⟨u2, rfl⟩ : ∃ n : Nat, u2 = (n : Int) := ⟨u2.toNat, by omega⟩
  obtain ⟨t2, rfl⟩ : ∃ n : Nat, t2 = (n : Int) := ⟨t2.toNat, by omega⟩
  obtain ⟨c2, rfl⟩ : ∃ n : Nat, c2 = (n : Int) := ⟨c2.toNat, by omega⟩
  rcases hs with ⟨s1, s2⟩ | ⟨s1, s2⟩
  · obtain ⟨u1, rfl⟩ : ∃ n : Nat, u1 = (n : Int) := ⟨u1.toNat, by omega⟩
    obtain ⟨t1, rfl⟩ : ∃ n : Nat, t1 = (n : Int) := ⟨t1.toNat, by omega⟩
    have eU : fov (1, 1) ((u1 : Int), (u2 : Int)) = ((u2 : Int), (u1 : Int)) := by rw [fov_p (by decide) s1]; simp
    have eT : fov (1, 1) ((t1 : Int), (t2 : Int)) = ((t2 : Int), (t1 : Int)) := by rw [fov_p (by decide) s2]; simp
    rw [eU]
    rw [eT] at b
    unfold Err at a b
    simp only [Int.natAbs_natCast] at *
    refine ⟨gap_core hp hP (by omega) (by omega) (by omega) a b, trivial⟩
  · obtain ⟨u1', rfl⟩ : ∃ n : Nat, u1 = -(n : Int) := ⟨(-u1).toNat, by omega⟩
    obtain ⟨t1', rfl⟩ : ∃ n : Nat, t1 = -(n : Int) := ⟨(-t1).toNat, by omega⟩
    have eU : fov (1, 1) (-(u1' : Int), (u2 : Int)) = (-(u2 : Int), (u1' : Int)) := by
      unfold fov; rw [if_pos (by simpa using s1)]; simp
    have eT : fov (1, 1) (-(t1' : Int), (t2 : Int)) = (-(t2 : Int), (t1' : Int)) := by
      unfold fov; rw [if_pos (by simpa using s2)]; simp
    rw [eU]
    rw [eT] at b
    unfold Err at a b
    simp only [Int.natAbs_natCast, Int.natAbs_neg] at *
    have a' : ((t1' : Int) * u2 - u1' * t2).natAbs * 2 ^ (P - 1) ≤ u1' * t2 := by
      have : (-(t1' : Int) * u2 - -(u1' : Int) * t2) = -((t1' : Int) * u2 - u1' * t2) := by rw [Int.neg_mul, Int.neg_mul]; omega
      rw [this, Int.natAbs_neg] at a
      exact a
    have b' : ((-c1) * t1' - t2 * c2).natAbs * 2 ^ (p - 1) ≤ t2 * c2 := by
      have : (c1 * (t1' : Int) - -(t2 : Int) * c2) = -((-c1) * t1' - t2 * c2) := by rw [Int.neg_mul, Int.neg_mul]; omega
      rw [this, Int.natAbs_neg] at b
      exact b
    have r := gap_core hp hP (by omega) (by omega) (by omega) a' b'
    refine ⟨?_, trivial⟩
    have : (-(u2 : Int) * c2 - c1 * u1') = -((u2 : Int) * c2 - -c1 * u1') := by rw [Int.neg_mul, Int.neg_mul]; omega
    rw [this, Int.natAbs_neg]
    exact r
end Mine

namespace Mine
set_option autoImplicit false
theorem pair_eq_d (x y : Nm) : oCmp .Eq (some (.tup [x.d, y.d])) (some (.tup [x.d, y.d])) = some true := pair_eq _ _ _ _ _ _
section
variable {p : Nat} {sa sb : Nm} (h1 : sa.Ok 64) (h2 : sb.Ok 64) (hp : 1 ≤ p) (hp2 : p ≤ 900) (hs : fle sa.v sb.v) (e1 : sa.e - sb.e ≤ 100) (e2 : sb.e - sa.e ≤ 100) (b1 : Bd 100 sa.v) (b2 : Bd 100 sb.v)
include h1 h2 hp hp2 hs e1 e2 b1 b2
theorem power_one : F_law_power_right [.tup [sa.d, sb.d], .lst [frD sa.v, frD sb.v], .int 1, .int p] = some (.bool true) := by
  have f : F_mpi_pow_int [.tup [sa.d, sb.d], .int 1, .int p] = some (.tup [sa.d, sb.d]) := by
    rw [F_pow_eq]
    simp only [POWg, powS, v_bnd, v_bin, v_add, v_sub, v_mul, v_div, v_mod, v_pow, v_shl, v_shr, v_and, v_xor, v_app, v_ofB, v_cmp, v_tcmp, v_eq, v_ne, v_lt, v_le, v_gt, v_ge, v_seq, v_tr_b, v_tr_i, v_tE, v_onot, v_tnot, v_not, v_neg, v_neg', v_ite, v_ite1, v_ite0, v_eand, v_eor, v_eand1, v_eand0, v_eor1, v_eor0, v_eand_i, v_eor_i, v_tand, v_tor, v_tand1, v_tand0, v_tor1, v_tor0, v_ttrue, v_tfalse, v_chain, v_var, v_int, v_bool, v_str, v_glob, v_lnil, v_lcons, v_lc, v_tup, v_lst, v_tup1, v_tup2, v_tup3, v_tup4, v_lst1, v_lst2, v_item, v_t0, v_t1, v_t2, v_t3, v_l0, v_l1, v_call, v_call', v_bits, v_bits', v_isint, v_isint', v_shift, v_shift_f, v_shift_c, v_dint, v_dabs, v_ddivmod, v_set, v_kset, v_set2, v_kset2, v_aug, v_int2, v_ret, v_kret, v_retof, v_retof', v_app_nil, v_app_cons, v_app_app, v_if, v_kif1, v_kif0, v_asrt, v_kasrt, v_un, v_unR, v_un2, v_un4, v_unR2, v_unR3, v_try, v_none, v_nil, v_for, v_kfor, v_kF_nil, v_kF_cons, v_tail, v_tail2, v_dlen2, v_while, v_kw, v_gt0, v_gts, v_up0, v_ups, v_defD, v_teq, v_teq2, List.length_cons, List.length_nil, List.cons_append, List.nil_append, List.append_nil, List.map_cons, List.map_nil, List.reduceReplicate, Nat.zero_add, Nat.reduceAdd, Bool.not_true, Bool.not_false, decide_true, decide_false, not_true_eq_false, not_false_eq_true, true_and, and_true, Int.reduceEq, Int.reduceLT, Int.reduceLE, Int.reduceNeg]
  simp only [F_law_power_right, D_law_power_right, v_bnd, v_bin, v_add, v_sub, v_mul, v_div, v_mod, v_pow, v_shl, v_shr, v_and, v_xor, v_app, v_ofB, v_cmp, v_tcmp, v_eq, v_ne, v_lt, v_le, v_gt, v_ge, v_seq, v_tr_b, v_tr_i, v_tE, v_onot, v_tnot, v_not, v_neg, v_neg', v_ite, v_ite1, v_ite0, v_eand, v_eor, v_eand1, v_eand0, v_eor1, v_eor0, v_eand_i, v_eor_i, v_tand, v_tor, v_tand1, v_tand0, v_tor1, v_tor0, v_ttrue, v_tfalse, v_chain, v_var, v_int, v_bool, v_str, v_glob, v_lnil, v_lcons, v_lc, v_tup, v_lst, v_tup1, v_tup2, v_tup3, v_tup4, v_lst1, v_lst2, v_item, v_t0, v_t1, v_t2, v_t3, v_l0, v_l1, v_call, v_call', v_bits, v_bits', v_isint, v_isint', v_shift, v_shift_f, v_shift_c, v_dint, v_dabs, v_ddivmod, v_set, v_kset, v_set2, v_kset2, v_aug, v_int2, v_ret, v_kret, v_retof, v_retof', v_app_nil, v_app_cons, v_app_app, v_if, v_kif1, v_kif0, v_asrt, v_kasrt, v_un, v_unR, v_un2, v_un4, v_unR2, v_unR3, v_try, v_none, v_nil, v_for, v_kfor, v_kF_nil, v_kF_cons, v_tail, v_tail2, v_dlen2, v_while, v_kw, v_gt0, v_gts, v_up0, v_ups, v_defD, v_teq, v_teq2, List.length_cons, List.length_nil, List.cons_append, List.nil_append, List.append_nil, List.map_cons, List.map_nil, List.reduceReplicate, Nat.zero_add, Nat.reduceAdd, Bool.not_true, Bool.not_false, decide_true, decide_false, not_true_eq_false, not_false_eq_true, true_and, and_true, Int.reduceEq, Int.reduceLT, Int.reduceLE, Int.reduceNeg, f, pair_eq_d]
theorem power_nonneg {n : Nat} (n9 : n ≤ 9) (n1 : n ≠ 1) : F_law_power_right [.tup [sa.d, sb.d], .lst [frD sa.v, frD sb.v], .int n, .int p] = some (.bool true) := by
  obtain ⟨d1, d2, l, u, f, r1, r2, ml, mu, ord⟩ := pow_told (R := (eCall F_mpi_pow_int0 (lCons (eVar 0) (lCons (eNeg (eVar 1)) (lCons (eBin .Add (eVar 2) (eInt 20)) lNil))))) h1 h2 hp hs e1 e2 n9 n1
  rw [← F_pow_eq] at f
  have kn : ¬ (n : Int) < 0 := by omega
  have k1 : ¬ (n : Int) = 1 := by omega
  have k2 : (0 : Int) ≤ n := by omega
  have fm : (n : Int).fmod 2 = ((n % 2 : Nat) : Int) := fmod_nat n 2
  have hn100 : 100 * n ≤ 134217728 := by omega
  have q1 := power_eval b1 hn100
  have q2 := power_eval b2 hn100
  have k9 : 901 ≤ 60000000 := by decide
  have m1 : Bd 901 (pw sa.v n) := (b1.pw n).mono (by omega)
  have m2 : Bd 901 (pw sb.v n) := (b2.pw n).mono (by omega)
  have dp := rows_pos sa.pos sb.pos n
  have i1 : oSub (some (frD sa.v)) (some (.int 0)) = some (.int sa.v.1) := rfl
  have i2 : oSub (some (frD sb.v)) (some (.int 0)) = some (.int sb.v.1) := rfl
  have i3 : ∀ s : Str, (D.tup [.int 0, .int 1]) = frD (0, 1) := fun _ => rfl
  by_cases c : n % 2 = 0 ∧ 0 < n ∧ sa.v.1 ≤ 0 ∧ 0 ≤ sb.v.1
  · have hr : rows sa.v sb.v n = [pw sa.v n, pw sb.v n, (0, 1)] := by unfold rows; rw [if_pos c]
    rw [hr] at ml mu ord dp
    have all : ∀ g ∈ [pw sa.v n, pw sb.v n, ((0, 1) : Fr)], Bd 901 g ∧ 0 < g.2 := by
      intro g hg
      refine ⟨?_, dp g hg⟩
      simp only [List.mem_cons, List.not_mem_nil, or_false] at hg
      rcases hg with rfl | rfl | rfl
      · exact m1
      · exact m2
      · exact ⟨by decide, by decide⟩
    obtain ⟨l', u', ml', mu', ord', fe⟩ := ends_eval k9 _ _ all
    have held := held_eval hp (by omega) r1 r2 (all l ml).2 (all u mu).2 (all l' ml').2 (all u' mu').2 ((all l' ml').1.mono (by decide)) ((all u' mu').1.mono (by decide))
      (fle_anti (ord l' ml').1 (ord' l ml).1) (fle_anti (ord' u mu).2 (ord u' mu').2)
    simp only [List.map_cons, List.map_nil] at fe
    have z : frD (0, 1) = .tup [.int 0, .int 1] := rfl
    rw [z] at fe
    have cond : bAnd (some (decide (((n % 2 : Nat) : Int) = 0))) (bAnd (some (decide (0 < (n : Int)))) (bAnd (some (decide (sa.v.1 ≤ 0))) (bAnd (some (decide (0 ≤ sb.v.1))) (some true)))) = some true := by
      have w1 : ((n % 2 : Nat) : Int) = 0 := by omega
      have w2 : 0 < (n : Int) := by omega
      rw [w1]
      simp only [c.2.2.1, c.2.2.2, w2, decide_true, bAnd]
      rfl
    simp only [F_law_power_right, D_law_power_right, v_bnd, v_bin, v_add, v_sub, v_mul, v_div, v_mod, v_pow, v_shl, v_shr, v_and, v_xor, v_app, v_ofB, v_cmp, v_tcmp, v_eq, v_ne, v_lt, v_le, v_gt, v_ge, v_seq, v_tr_b, v_tr_i, v_tE, v_onot, v_tnot, v_not, v_neg, v_neg', v_ite, v_ite1, v_ite0, v_eand, v_eor, v_eand1, v_eand0, v_eor1, v_eor0, v_eand_i, v_eor_i, v_tand, v_tor, v_tand1, v_tand0, v_tor1, v_tor0, v_ttrue, v_tfalse, v_chain, v_var, v_int, v_bool, v_str, v_glob, v_lnil, v_lcons, v_lc, v_tup, v_lst, v_tup1, v_tup2, v_tup3, v_tup4, v_lst1, v_lst2, v_item, v_t0, v_t1, v_t2, v_t3, v_l0, v_l1, v_call, v_call', v_bits, v_bits', v_isint, v_isint', v_shift, v_shift_f, v_shift_c, v_dint, v_dabs, v_ddivmod, v_set, v_kset, v_set2, v_kset2, v_aug, v_int2, v_ret, v_kret, v_retof, v_retof', v_app_nil, v_app_cons, v_app_app, v_if, v_kif1, v_kif0, v_asrt, v_kasrt, v_un, v_unR, v_un2, v_un4, v_unR2, v_unR3, v_try, v_none, v_nil, v_for, v_kfor, v_kF_nil, v_kF_cons, v_tail, v_tail2, v_dlen2, v_while, v_kw, v_gt0, v_gts, v_up0, v_ups, v_defD, v_teq, v_teq2, List.length_cons, List.length_nil, List.cons_append, List.nil_append, List.append_nil, List.map_cons, List.map_nil, List.reduceReplicate, Nat.zero_add, Nat.reduceAdd, Bool.not_true, Bool.not_false, decide_true, decide_false, not_true_eq_false, not_false_eq_true, true_and, and_true, Int.reduceEq, Int.reduceLT, Int.reduceLE, Int.reduceNeg, f, kn, k1, k2, fm, if_false, q1, q2, i1, i2, cond, fe, held, Nat.reduceLeDiff]
  · have hr : rows sa.v sb.v n = [pw sa.v n, pw sb.v n] := by unfold rows; rw [if_neg c]
    rw [hr] at ml mu ord dp
    have all : ∀ g ∈ [pw sa.v n, pw sb.v n], Bd 901 g ∧ 0 < g.2 := by
      intro g hg
      refine ⟨?_, dp g hg⟩
      simp only [List.mem_cons, List.not_mem_nil, or_false] at hg
      rcases hg with rfl | rfl
      · exact m1
      · exact m2
    obtain ⟨l', u', ml', mu', ord', fe⟩ := ends_eval k9 _ _ all
    have held := held_eval hp (by omega) r1 r2 (all l ml).2 (all u mu).2 (all l' ml').2 (all u' mu').2 ((all l' ml').1.mono (by decide)) ((all u' mu').1.mono (by decide))
      (fle_anti (ord l' ml').1 (ord' l ml).1) (fle_anti (ord' u mu).2 (ord u' mu').2)
    simp only [List.map_cons, List.map_nil] at fe
    have cond : bAnd (some (decide (((n % 2 : Nat) : Int) = 0))) (bAnd (some (decide (0 < (n : Int)))) (bAnd (some (decide (sa.v.1 ≤ 0))) (bAnd (some (decide (0 ≤ sb.v.1))) (some true)))) = some false := by
      by_cases w1 : n % 2 = 0
      · by_cases w2 : 0 < n
        · by_cases w3 : sa.v.1 ≤ 0
          · have w4 : ¬ 0 ≤ sb.v.1 := fun z => c ⟨w1, w2, w3, z⟩
            have v1 : ((n % 2 : Nat) : Int) = 0 := by omega
            have v2 : 0 < (n : Int) := by omega
            rw [v1]; simp only [v2, w3, w4, decide_true, decide_false, bAnd]; rfl
          · have v1 : ((n % 2 : Nat) : Int) = 0 := by omega
            have v2 : 0 < (n : Int) := by omega
            rw [v1]; simp only [v2, w3, decide_true, decide_false, bAnd]; rfl
        · have v1 : ((n % 2 : Nat) : Int) = 0 := by omega
          have v2 : ¬ 0 < (n : Int) := by omega
          rw [v1]; simp only [v2, decide_true, decide_false, bAnd]; rfl
      · have v1 : ¬ ((n % 2 : Nat) : Int) = 0 := by omega
        simp only [v1, decide_false, bAnd]; rfl
    simp only [F_law_power_right, D_law_power_right, v_bnd, v_bin, v_add, v_sub, v_mul, v_div, v_mod, v_pow, v_shl, v_shr, v_and, v_xor, v_app, v_ofB, v_cmp, v_tcmp, v_eq, v_ne, v_lt, v_le, v_gt, v_ge, v_seq, v_tr_b, v_tr_i, v_tE, v_onot, v_tnot, v_not, v_neg, v_neg', v_ite, v_ite1, v_ite0, v_eand, v_eor, v_eand1, v_eand0, v_eor1, v_eor0, v_eand_i, v_eor_i, v_tand, v_tor, v_tand1, v_tand0, v_tor1, v_tor0, v_ttrue, v_tfalse, v_chain, v_var, v_int, v_bool, v_str, v_glob, v_lnil, v_lcons, v_lc, v_tup, v_lst, v_tup1, v_tup2, v_tup3, v_tup4, v_lst1, v_lst2, v_item, v_t0, v_t1, v_t2, v_t3, v_l0, v_l1, v_call, v_call', v_bits, v_bits', v_isint, v_isint', v_shift, v_shift_f, v_shift_c, v_dint, v_dabs, v_ddivmod, v_set, v_kset, v_set2, v_kset2, v_aug, v_int2, v_ret, v_kret, v_retof, v_retof', v_app_nil, v_app_cons, v_app_app, v_if, v_kif1, v_kif0, v_asrt, v_kasrt, v_un, v_unR, v_un2, v_un4, v_unR2, v_unR3, v_try, v_none, v_nil, v_for, v_kfor, v_kF_nil, v_kF_cons, v_tail, v_tail2, v_dlen2, v_while, v_kw, v_gt0, v_gts, v_up0, v_ups, v_defD, v_teq, v_teq2, List.length_cons, List.length_nil, List.cons_append, List.nil_append, List.append_nil, List.map_cons, List.map_nil, List.reduceReplicate, Nat.zero_add, Nat.reduceAdd, Bool.not_true, Bool.not_false, decide_true, decide_false, not_true_eq_false, not_false_eq_true, true_and, and_true, Int.reduceEq, Int.reduceLT, Int.reduceLE, Int.reduceNeg, f, kn, k1, k2, fm, if_false, q1, q2, i1, i2, cond, fe, held]
end
end Mine

namespace Mine
set_option autoImplicit false
theorem Err.congr {P : Nat} {t f f' : Fr} (h : Err P t f) (hf : 0 < f.2) (hf' : 0 < f'.2) (q : f.1 * f'.2 = f'.1 * f.2) : Err P t f' := by
  unfold Err at *
  have id : f.2 * (t.1 * f'.2 - f'.1 * t.2) = f'.2 * (t.1 * f.2 - f.1 * t.2) := by
    rw [Int.mul_sub, Int.mul_sub]
    have e1 : f.2 * (t.1 * f'.2) = f'.2 * (t.1 * f.2) := by ac_rfl
    have e2 : f.2 * (f'.1 * t.2) = f'.1 * f.2 * t.2 := by ac_rfl
    have e3 : f'.2 * (f.1 * t.2) = f.1 * f'.2 * t.2 := by ac_rfl
    rw [e1, e2, e3, q]
  have n1 := congrArg Int.natAbs id
  rw [Int.natAbs_mul, Int.natAbs_mul] at n1
  have n2 := congrArg Int.natAbs q
  rw [Int.natAbs_mul, Int.natAbs_mul] at n2
  generalize (t.1 * f'.2 - f'.1 * t.2).natAbs = X' at *
  generalize (t.1 * f.2 - f.1 * t.2).natAbs = X at *
  have hp : 0 < f.2.natAbs := by omega
  refine Nat.le_of_mul_le_mul_left (c := f.2.natAbs) ?_ hp
  calc f.2.natAbs * (X' * 2 ^ (P - 1)) = f.2.natAbs * X' * 2 ^ (P - 1) := by ac_rfl
    _ = f'.2.natAbs * (X * 2 ^ (P - 1)) := by rw [n1]; ac_rfl
    _ ≤ f'.2.natAbs * (f.1.natAbs * t.2.natAbs) := Nat.mul_le_mul_left _ h
    _ = f.1.natAbs * f'.2.natAbs * t.2.natAbs := by ac_rfl
    _ = f.2.natAbs * (f'.1.natAbs * t.2.natAbs) := by rw [n2]; ac_rfl
theorem fov_fov {u : Fr} (h : u.1 ≠ 0) (h2 : 0 < u.2) : fov (1, 1) (fov (1, 1) u) = u := by
  obtain ⟨a, b⟩ := u
  simp only at h h2
  rcases Int.lt_or_gt_of_ne h with q | q
  · have e : fov (1, 1) (a, b) = (-b, -a) := by unfold fov; rw [if_pos (by simpa using q)]; simp
    rw [e]
    unfold fov
    rw [if_pos (by simp; omega)]
    simp
  · have e : fov (1, 1) (a, b) = (b, a) := by unfold fov; rw [if_neg (by simp; omega)]; simp
    rw [e]
    unfold fov
    rw [if_neg (by simp; omega)]
    simp
theorem fov_sign {u : Fr} (h : u.1 ≠ 0) (h2 : 0 < u.2) : (fov (1, 1) u).1 < 0 ↔ u.1 < 0 := by
  obtain ⟨a, b⟩ := u
  simp only at h h2
  rcases Int.lt_or_gt_of_ne h with q | q
  · have e : fov (1, 1) (a, b) = (-b, -a) := by unfold fov; rw [if_pos (by simpa using q)]; simp
    rw [e]; simp only; constructor <;> intro _ <;> omega
  · have e : fov (1, 1) (a, b) = (b, a) := by unfold fov; rw [if_neg (by simp; omega)]; simp
    rw [e]; simp only; constructor <;> intro _ <;> omega
theorem gap_test {L C : Fr} {p : Nat} (hL : 0 < L.2) (hC : 0 < C.2) (h : (L.1 * C.2 - C.1 * L.2).natAbs * 2 ^ p < 8 * (L.1.natAbs * C.2.natAbs)) :
    (L.1 * C.2 - C.1 * L.2) * 2 ^ p * L.2 < 8 * (L.2 * C.2) * (if L.1 < 0 then -L.1 else L.1) ∧ (C.1 * L.2 - L.1 * C.2) * 2 ^ p * L.2 < 8 * (L.2 * C.2) * (if L.1 < 0 then -L.1 else L.1) := by
  have ab : (if L.1 < 0 then -L.1 else L.1) = (L.1.natAbs : Int) := by split <;> omega
  rw [ab]
  generalize hg : L.1 * C.2 - C.1 * L.2 = g at *
  have hg' : C.1 * L.2 - L.1 * C.2 = -g := by omega
  rw [hg']
  have key : ∀ z : Int, z ≤ g.natAbs → z * 2 ^ p * L.2 < 8 * (L.2 * C.2) * (L.1.natAbs : Int) := by
    intro z hz
    have h1 : (z * 2 ^ p) ≤ ((g.natAbs * 2 ^ p : Nat) : Int) := by
      push_cast
      exact Int.mul_le_mul_of_nonneg_right hz (Int.le_of_lt (Int.pow_pos (by decide)))
    have h2 : z * 2 ^ p < 8 * ((L.1.natAbs : Int) * C.2) := by
      have e : ((8 * (L.1.natAbs * C.2.natAbs) : Nat) : Int) = 8 * ((L.1.natAbs : Int) * C.2) := by
        have hC' : (C.2.natAbs : Int) = C.2 := by omega
        rw [Int.natCast_mul, Int.natCast_mul, hC']; rfl
      omega
    calc z * 2 ^ p * L.2 < 8 * ((L.1.natAbs : Int) * C.2) * L.2 := Int.mul_lt_mul_of_pos_right h2 hL
      _ = _ := by ac_rfl
  exact ⟨key g (by omega), key (-g) (by omega)⟩

theorem comp_two {g : St → Option D} {ρ : St} {A B A' B' : D} (h : gt ρ 5 = some (.lst [A, B])) (h1 : g [some A] = some A') (h2 : g [some B] = some B') :
    sComp 5 (pNo 1) (eVar 5) (aName 0) g ρ = some (.nxt (up ρ 5 (.lst [A', B']))) := by
  have p2 : eVar 5 ρ = some (.lst [A, B]) := h
  unfold sComp
  rw [p2]
  simp [pNo, dComp, dSeq, cloop, aName, up, h1, h2]
theorem comp_near {g : St → Option D} {ρ : St} {P g1 b1 r1 g2 b2 r2 v1 v2 : D} (hP : gt ρ 3 = some P) (h : gt ρ 10 = some (.lst [.tup [g1, b1, r1], .tup [g2, b2, r2]]))
    (h1 : g [some g1, some b1, some r1, some P] = some v1) (h2 : g [some g2, some b2, some r2, some P] = some v2) :
    eComp (pOne 3 3 4) (eVar 10) (aTup [0, 1, 2]) g ρ = some (.lst [v1, v2]) := by
  have p1 : pOne 3 3 4 ρ = some [none, none, none, some P] := by unfold pOne; rw [hP]; rfl
  have p2 : eVar 10 ρ = some (.lst [.tup [g1, b1, r1], .tup [g2, b2, r2]]) := h
  unfold eComp
  rw [p1, Option.bind_some, p2, Option.bind_some]
  simp [dComp, dSeq, cloop, aTup, dUnpack, ups, up, h1, h2]
def gTest : St → Option D := (eCmp .Lt (eBin .Mult (eBin .Mult (eVar 0) (eBin .Pow (eInt 2) (eVar 3))) (eSub (eVar 2) (eInt 1))) (eBin .Mult (eBin .Mult (eInt 8) (eVar 1)) (eCall dAbs (lCons (eSub (eVar 2) (eInt 0)) lNil))))
theorem gTest_eval {gap below : Int} {row : Fr} {p : Nat} (hp : p ≤ 1000) (b1 : ib gap ≤ 20000) (b2 : ib below ≤ 20000) (b3 : Bd 20000 row) (h : gap * 2 ^ p * row.2 < 8 * below * (if row.1 < 0 then -row.1 else row.1)) :
    gTest [some (.int gap), some (.int below), some (frD row), some (.int p)] = some (.bool true) := by
  have P1 : PowG 2 p := PowG2 (by omega) (by omega)
  have m1 : MulG gap (2 ^ p) := MulG_of (a := 20000) (b := 1001) b1 (by rw [ib_p2]; omega) (by decide)
  have m2 : MulG (gap * 2 ^ p) row.2 := MulG_of (a := 30000) (b := 20000) (by have := ib_mul_le gap (2 ^ p); rw [ib_p2] at this; omega) b3.2 (by decide)
  have m3 : MulG 8 below := .inl (by decide)
  have hab : ib (if row.1 < 0 then -row.1 else row.1) ≤ 20000 := by
    split
    · rw [ib_neg]; exact b3.1
    · exact b3.1
  have h8 : ib (8 * below) ≤ 20010 := by
    have := ib_mul_le 8 below
    have : ib 8 = 4 := by decide
    omega
  have m4 : MulG (8 * below) (if row.1 < 0 then -row.1 else row.1) := MulG_of h8 hab (by decide)
  have i0 : oSub (some (frD row)) (some (.int 0)) = some (.int row.1) := rfl
  have i1 : oSub (some (frD row)) (some (.int 1)) = some (.int row.2) := rfl
  simp only [gTest, v_bnd, v_bin, v_add, v_sub, v_mul, v_div, v_mod, v_pow, v_shl, v_shr, v_and, v_xor, v_app, v_ofB, v_cmp, v_tcmp, v_eq, v_ne, v_lt, v_le, v_gt, v_ge, v_seq, v_tr_b, v_tr_i, v_tE, v_onot, v_tnot, v_not, v_neg, v_neg', v_ite, v_ite1, v_ite0, v_eand, v_eor, v_eand1, v_eand0, v_eor1, v_eor0, v_eand_i, v_eor_i, v_tand, v_tor, v_tand1, v_tand0, v_tor1, v_tor0, v_ttrue, v_tfalse, v_chain, v_var, v_int, v_bool, v_str, v_glob, v_lnil, v_lcons, v_lc, v_tup, v_lst, v_tup1, v_tup2, v_tup3, v_tup4, v_lst1, v_lst2, v_item, v_t0, v_t1, v_t2, v_t3, v_l0, v_l1, v_call, v_call', v_bits, v_bits', v_isint, v_isint', v_shift, v_shift_f, v_shift_c, v_dint, v_dabs, v_ddivmod, v_set, v_kset, v_set2, v_kset2, v_aug, v_int2, v_ret, v_kret, v_retof, v_retof', v_app_nil, v_app_cons, v_app_app, v_if, v_kif1, v_kif0, v_asrt, v_kasrt, v_un, v_unR, v_un2, v_un4, v_unR2, v_unR3, v_try, v_none, v_nil, v_for, v_kfor, v_kF_nil, v_kF_cons, v_tail, v_tail2, v_dlen2, v_while, v_kw, v_gt0, v_gts, v_up0, v_ups, v_defD, v_teq, v_teq2, List.length_cons, List.length_nil, List.cons_append, List.nil_append, List.append_nil, List.map_cons, List.map_nil, List.reduceReplicate, Nat.zero_add, Nat.reduceAdd, Bool.not_true, Bool.not_false, decide_true, decide_false, not_true_eq_false, not_false_eq_true, true_and, and_true, P1, m1, m2, m3, m4, i0, i1, Int.toNat_natCast, h]
theorem ib_sub_le (a b : Int) {k : Nat} (h1 : ib a ≤ k) (h2 : ib b ≤ k) : ib (a - b) ≤ k + 1 := by
  rw [ib_abs] at *
  refine bl_le ?_
  have := lt_of_bl h1
  have := lt_of_bl h2
  rw [Nat.pow_succ]
  omega
end Mine

namespace Mine
set_option autoImplicit false
theorem Nm.Ok.mono {a b : Nat} {x : Nm} (h : x.Ok a) (q : a ≤ b) : x.Ok b := ⟨h.odd, Nat.le_trans h.bits q⟩
theorem Nm.Bd {k K : Nat} {x : Nm} (h : x.Ok k) (e1 : x.e ≤ K) (e2 : -x.e ≤ K) : Bd (k + K + 1) x.v := Bd.nv _ _ _ (by have := h.bits; omega) (by omega)
theorem pw_one (f : Fr) : pw f 1 = f := by unfold pw; rw [Int.pow_one, Int.pow_one]
theorem Err_self (P : Nat) (f : Fr) : Err P f f := by unfold Err; simp
theorem pow_num_ne {x : Fr} {n : Nat} (h : x.1 ≠ 0) : (pw x n).1 ≠ 0 := Int.pow_ne_zero h
section
variable {p : Nat} {sa sb : Nm} (h1 : sa.Ok 64) (h2 : sb.Ok 64) (hp : 1 ≤ p) (hp2 : p ≤ 900) (hs : fle sa.v sb.v) (e1 : sa.e - sb.e ≤ 100) (e2 : sb.e - sa.e ≤ 100) (b1 : Bd 100 sa.v) (b2 : Bd 100 sb.v)
  (x1 : sa.e ≤ 100 ∧ -sa.e ≤ 100) (x2 : sb.e ≤ 100 ∧ -sb.e ≤ 100) (away : 0 < sa.v.1 ∨ sb.v.1 < 0)
include h1 h2 hp hp2 hs e1 e2 b1 b2 x1 x2 away
/-- the inner power: two numbers around the powers' ends, near to them -/
theorem inner_power {k : Nat} (k1 : 1 ≤ k) (k4 : k ≤ 4) :
    ∃ (t1 t2 : Nm) (l u : Fr), F_mpi_pow_int0 [.tup [sa.d, sb.d], .int k, .int (p + 20 : Nat)] = some (.tup [t1.d, t2.d]) ∧ t1.Ok 1000 ∧ t2.Ok 1000 ∧ Bd 4000 t1.v ∧ Bd 4000 t2.v ∧
      l ∈ [pw sa.v k, pw sb.v k] ∧ u ∈ [pw sa.v k, pw sb.v k] ∧ (∀ q ∈ [pw sa.v k, pw sb.v k], fle l q ∧ fle q u) ∧ fle t1.v l ∧ fle u t2.v ∧ Err (p + 20) t1.v l ∧ Err (p + 20) t2.v u ∧
      (l.1 < 0 ↔ t1.v.1 < 0) ∧ (u.1 < 0 ↔ t2.v.1 < 0) ∧ t1.v.1 ≠ 0 ∧ t2.v.1 ≠ 0 := by
  have na : sa.v.1 ≠ 0 := by
    rcases away with a | a
    · omega
    · have := (fle_sign sa.pos sb.pos hs).2.2.1 a; omega
  have nb : sb.v.1 ≠ 0 := by
    rcases away with a | a
    · have := (fle_sign sa.pos sb.pos hs).1 a; omega
    · omega
  have hr : ∀ n, rows sa.v sb.v n = [pw sa.v n, pw sb.v n] := by
    intro n
    unfold rows
    rw [if_neg]
    rintro ⟨_, _, a, b⟩
    rcases away with c | c <;> omega
  by_cases q : k = 1
  · subst q
    refine ⟨sa, sb, sa.v, sb.v, ?_, h1.mono (by decide), h2.mono (by decide), b1.mono (by decide), b2.mono (by decide), by simp [pw_one], by simp [pw_one], ?_, fle_refl _, fle_refl _, Err_self _ _, Err_self _ _, Iff.rfl, Iff.rfl, na, nb⟩
    · rw [F_pow0_eq]
      have z : ((1 : Nat) : Int) = 1 := rfl
      simp only [POWg, powS, z, v_bnd, v_bin, v_add, v_sub, v_mul, v_div, v_mod, v_pow, v_shl, v_shr, v_and, v_xor, v_app, v_ofB, v_cmp, v_tcmp, v_eq, v_ne, v_lt, v_le, v_gt, v_ge, v_seq, v_tr_b, v_tr_i, v_tE, v_onot, v_tnot, v_not, v_neg, v_neg', v_ite, v_ite1, v_ite0, v_eand, v_eor, v_eand1, v_eand0, v_eor1, v_eor0, v_eand_i, v_eor_i, v_tand, v_tor, v_tand1, v_tand0, v_tor1, v_tor0, v_ttrue, v_tfalse, v_chain, v_var, v_int, v_bool, v_str, v_glob, v_lnil, v_lcons, v_lc, v_tup, v_lst, v_tup1, v_tup2, v_tup3, v_tup4, v_lst1, v_lst2, v_item, v_t0, v_t1, v_t2, v_t3, v_l0, v_l1, v_call, v_call', v_bits, v_bits', v_isint, v_isint', v_shift, v_shift_f, v_shift_c, v_dint, v_dabs, v_ddivmod, v_set, v_kset, v_set2, v_kset2, v_aug, v_int2, v_ret, v_kret, v_retof, v_retof', v_app_nil, v_app_cons, v_app_app, v_if, v_kif1, v_kif0, v_asrt, v_kasrt, v_un, v_unR, v_un2, v_un4, v_unR2, v_unR3, v_try, v_none, v_nil, v_for, v_kfor, v_kF_nil, v_kF_cons, v_tail, v_tail2, v_dlen2, v_while, v_kw, v_gt0, v_gts, v_up0, v_ups, v_defD, v_teq, v_teq2, List.length_cons, List.length_nil, List.cons_append, List.nil_append, List.append_nil, List.map_cons, List.map_nil, List.reduceReplicate, Nat.zero_add, Nat.reduceAdd, Bool.not_true, Bool.not_false, decide_true, decide_false, not_true_eq_false, not_false_eq_true, true_and, and_true, Int.reduceEq, Int.reduceLT, Int.reduceLE, Int.reduceNeg]
    · intro w hw
      simp only [pw_one, List.mem_cons, List.not_mem_nil, or_false] at hw
      rcases hw with rfl | rfl
      · exact ⟨fle_refl _, hs⟩
      · exact ⟨hs, fle_refl _⟩
  · obtain ⟨d1, d2, l, u, f, r1, r2, ml, mu, ord⟩ := pow_told (R := eNone) (p := p + 20) h1 h2 (by omega) hs e1 e2 (show k ≤ 9 by omega) q
    rw [← F_pow0_eq] at f
    rw [hr] at ml mu ord
    have all : ∀ g ∈ [pw sa.v k, pw sb.v k], Mine.Bd 401 g ∧ 0 < g.2 ∧ g.1 ≠ 0 := by
      intro g hg
      simp only [List.mem_cons, List.not_mem_nil, or_false] at hg
      rcases hg with rfl | rfl
      · exact ⟨(b1.pw k).mono (by omega), pw_den sa.pos k, pow_num_ne na⟩
      · exact ⟨(b2.pw k).mono (by omega), pw_den sb.pos k, pow_num_ne nb⟩
    obtain ⟨t1, rfl, a1, a2, a3, a4, _, a6, a7, a8⟩ := r1.facts (by omega) (all l ml).2.2 (all l ml).2.1 (all l ml).1
    obtain ⟨t2, rfl, c1, c2, c3, _, c5, c6, c7, c8⟩ := r2.facts (by omega) (all u mu).2.2 (all u mu).2.1 (all u mu).1
    exact ⟨t1, t2, l, u, f, a1.mono (by omega), c1.mono (by omega), (Nm.Bd a1 a2 a3).mono (by omega), (Nm.Bd c1 c2 c3).mono (by omega), ml, mu, ord, a4 rfl, c5 rfl, a6, c6, a7, c7, a8, c8⟩
end
end Mine

namespace Mine
set_option autoImplicit false
theorem bAnd_f (b : Bool) : bAnd (some b) (some false) = some false := by cases b <;> rfl
theorem sCons_nxt {f k : St → Option Fl} {ρ ρ' : St} (h : f ρ = some (.nxt ρ')) : sCons f k ρ = k ρ' := by unfold sCons; rw [h]; rfl
theorem all_two : dAll [.lst [.bool true, .bool true]] = some (.bool true) := rfl
theorem frD_one : frD (1, 1) = .tup [.int 1, .int 1] := rfl
section
variable {p : Nat} {sa sb : Nm} (h1 : sa.Ok 64) (h2 : sb.Ok 64) (hp : 1 ≤ p) (hp2 : p ≤ 900) (hs : fle sa.v sb.v) (e1 : sa.e - sb.e ≤ 100) (e2 : sb.e - sa.e ≤ 100) (b1 : Bd 100 sa.v) (b2 : Bd 100 sb.v)
  (x1 : sa.e ≤ 100 ∧ -sa.e ≤ 100) (x2 : sb.e ≤ 100 ∧ -sb.e ≤ 100)
include h1 h2 hp hp2 hs e1 e2 b1 b2 x1 x2
theorem power_neg {k : Nat} (k1 : 1 ≤ k) (k4 : k ≤ 4) : F_law_power_right [.tup [sa.d, sb.d], .lst [frD sa.v, frD sb.v], .int (-(k : Int)), .int p] = some (.bool true) := by
  obtain ⟨N, hN⟩ : ∃ N : Int, N = -(k : Int) := ⟨_, rfl⟩
  rw [← hN]
  have n1 : N < 0 := by omega
  have n2 : ¬ N = 1 := by omega
  have n3 : ¬ 0 < N := by omega
  have n4 : ¬ 0 ≤ N := by omega
  have n5 : -N = (k : Int) := by omega
  have i1 : oSub (some (frD sa.v)) (some (.int 0)) = some (.int sa.v.1) := rfl
  have i2 : oSub (some (frD sb.v)) (some (.int 0)) = some (.int sb.v.1) := rfl
  by_cases c : sa.v.1 ≤ 0 ∧ 0 ≤ sb.v.1
  · simp only [F_law_power_right, D_law_power_right, v_bnd, v_bin, v_add, v_sub, v_mul, v_div, v_mod, v_pow, v_shl, v_shr, v_and, v_xor, v_app, v_ofB, v_cmp, v_tcmp, v_eq, v_ne, v_lt, v_le, v_gt, v_ge, v_seq, v_tr_b, v_tr_i, v_tE, v_onot, v_tnot, v_not, v_neg, v_neg', v_ite, v_ite1, v_ite0, v_eand, v_eor, v_eand1, v_eand0, v_eor1, v_eor0, v_eand_i, v_eor_i, v_tand, v_tor, v_tand1, v_tand0, v_tor1, v_tor0, v_ttrue, v_tfalse, v_chain, v_var, v_int, v_bool, v_str, v_glob, v_lnil, v_lcons, v_lc, v_tup, v_lst, v_tup1, v_tup2, v_tup3, v_tup4, v_lst1, v_lst2, v_item, v_t0, v_t1, v_t2, v_t3, v_l0, v_l1, v_call, v_call', v_bits, v_bits', v_isint, v_isint', v_shift, v_shift_f, v_shift_c, v_dint, v_dabs, v_ddivmod, v_set, v_kset, v_set2, v_kset2, v_aug, v_int2, v_ret, v_kret, v_retof, v_retof', v_app_nil, v_app_cons, v_app_app, v_if, v_kif1, v_kif0, v_asrt, v_kasrt, v_un, v_unR, v_un2, v_un4, v_unR2, v_unR3, v_try, v_none, v_nil, v_for, v_kfor, v_kF_nil, v_kF_cons, v_tail, v_tail2, v_dlen2, v_while, v_kw, v_gt0, v_gts, v_up0, v_ups, v_defD, v_teq, v_teq2, List.length_cons, List.length_nil, List.cons_append, List.nil_append, List.append_nil, List.map_cons, List.map_nil, List.reduceReplicate, Nat.zero_add, Nat.reduceAdd, Bool.not_true, Bool.not_false, decide_true, decide_false, not_true_eq_false, not_false_eq_true, true_and, and_true, Int.reduceEq, Int.reduceLT, Int.reduceLE, Int.reduceNeg, n1, i1, i2, c.1, c.2]
  · have away : 0 < sa.v.1 ∨ sb.v.1 < 0 := by omega
    have cond1 : bAnd (some (decide (sa.v.1 ≤ 0))) (bAnd (some (decide (0 ≤ sb.v.1))) (some true)) = some false := by
      by_cases w3 : sa.v.1 ≤ 0
      · have w4 : ¬ 0 ≤ sb.v.1 := fun z => c ⟨w3, z⟩
        simp only [w3, w4, decide_true, decide_false]; rfl
      · simp only [w3, decide_false]; rfl
    have na : sa.v.1 ≠ 0 := by
      rcases away with a | a
      · omega
      · have := (fle_sign sa.pos sb.pos hs).2.2.1 a; omega
    have nb : sb.v.1 ≠ 0 := by
      rcases away with a | a
      · have := (fle_sign sa.pos sb.pos hs).1 a; omega
      · omega
    obtain ⟨t1, t2, l, u, f, o1, o2, B1, B2, ml, mu, ord, ft1, ft2, E1, E2, s1, s2, z1, z2⟩ := inner_power h1 h2 hp hp2 hs e1 e2 b1 b2 x1 x2 away k1 k4
    have all : ∀ g ∈ [pw sa.v k, pw sb.v k], Bd 401 g ∧ 0 < g.2 ∧ g.1 ≠ 0 := by
      intro g hg
      simp only [List.mem_cons, List.not_mem_nil, or_false] at hg
      rcases hg with rfl | rfl
      · exact ⟨(b1.pw k).mono (by omega), pw_den sa.pos k, pow_num_ne na⟩
      · exact ⟨(b2.pw k).mono (by omega), pw_den sb.pos k, pow_num_ne nb⟩
    -- all the rows are of one sign
    have same : (∀ g ∈ [pw sa.v k, pw sb.v k], 0 < g.1) ∨ (∀ g ∈ [pw sa.v k, pw sb.v k], g.1 < 0) := by
      have od : k % 2 = 0 ∨ k % 2 = 1 := by omega
      have P : ∀ x : Fr, 0 < x.1 → 0 < (pw x k).1 := fun x h => Int.pow_pos h
      rcases away with a | a
      · left
        have b := (fle_sign sa.pos sb.pos hs).1 a
        intro g hg
        simp only [List.mem_cons, List.not_mem_nil, or_false] at hg
        rcases hg with rfl | rfl
        · exact P _ a
        · exact P _ b
      · have b := (fle_sign sa.pos sb.pos hs).2.2.1 a
        rcases od with od | od
        · left
          have Q : ∀ x : Fr, x.1 ≠ 0 → 0 < (pw x k).1 := fun x h => by
            have := even_nonneg (x := x) od
            have := pow_num_ne (n := k) h
            omega
          intro g hg
          simp only [List.mem_cons, List.not_mem_nil, or_false] at hg
          rcases hg with rfl | rfl
          · exact Q _ na
          · exact Q _ nb
        · right
          have Q : ∀ x : Fr, x.1 < 0 → (pw x k).1 < 0 := fun x h => by
            have h1 := pow_odd_le od (Int.le_of_lt h)
            rw [Int.zero_pow (by omega)] at h1
            have := pow_num_ne (n := k) (x := x) (by omega)
            have h2 : (pw x k).1 = x.1 ^ k := rfl
            omega
          intro g hg
          simp only [List.mem_cons, List.not_mem_nil, or_false] at hg
          rcases hg with rfl | rfl
          · exact Q _ b
          · exact Q _ a
    have hlu := (ord l ml).2
    have ht : fle t1.v t2.v := fle_trans t1.pos (all l ml).2.1 t2.pos ft1 (fle_trans (all l ml).2.1 (all u mu).2.1 t2.pos hlu ft2)
    have taway : 0 < t1.v.1 ∨ t2.v.1 < 0 := by
      rcases same with a | a
      · left; have := a l ml; omega
      · right; have := a u mu; omega
    obtain ⟨c1, c2, l2, u2, fd, r1, r2, ml2, mu2, ord2⟩ := div_away (k := 1000) (one_ok.mono (by decide)) (one_ok.mono (by decide)) o1 o2 (by decide) hp (by omega) (fle_refl one.v) ht taway
    rw [one_d] at fd
    rw [one_v] at ml2 mu2 ord2
    have d1 : 0 < (fov (1, 1) t1.v).2 := fov_den (by decide) z1
    have d2 : 0 < (fov (1, 1) t2.v).2 := fov_den (by decide) z2
    have anti := inv_anti taway t1.pos t2.pos ht
    have g1 : fle (fov (1, 1) t2.v) l2 ∧ 0 < l2.2 := by
      simp only [List.mem_cons, List.not_mem_nil, or_false] at ml2
      rcases ml2 with rfl | rfl | rfl | rfl
      · exact ⟨anti, d1⟩
      · exact ⟨fle_refl _, d2⟩
      · exact ⟨anti, d1⟩
      · exact ⟨fle_refl _, d2⟩
    have g2 : fle u2 (fov (1, 1) t1.v) ∧ 0 < u2.2 := by
      simp only [List.mem_cons, List.not_mem_nil, or_false] at mu2
      rcases mu2 with rfl | rfl | rfl | rfl
      · exact ⟨fle_refl _, d1⟩
      · exact ⟨anti, d2⟩
      · exact ⟨fle_refl _, d1⟩
      · exact ⟨anti, d2⟩
    have r1 := r1.congr g1.2 d2 (fle_anti (ord2 (fov (1, 1) t2.v) (by simp)).1 g1.1)
    have r2 := r2.congr g2.2 d1 (fle_anti g2.1 (ord2 (fov (1, 1) t1.v) (by simp)).2)
    have B11 : Bd 1 ((1, 1) : Fr) := ⟨by decide, by decide⟩
    have F1 := B11.fov B1
    have F2 := B11.fov B2
    have nz1 : (fov (1, 1) t1.v).1 ≠ 0 := fun z => by
      have := fov_fov z1 t1.pos
      have h := t1.pos
      unfold fov at z; split at z <;> simp at z <;> omega
    have nz2 : (fov (1, 1) t2.v).1 ≠ 0 := fun z => by
      have := fov_fov z2 t2.pos
      have h := t2.pos
      unfold fov at z; split at z <;> simp at z <;> omega
    obtain ⟨y1, rfl, yo1, ya1, yb1, yc1, _, yE1, _, _⟩ := r1.facts hp nz2 d2 F2
    obtain ⟨y2, rfl, yo2, ya2, yb2, _, yc2, yE2, _, _⟩ := r2.facts hp nz1 d1 F1
    have yc1 := yc1 rfl
    have yc2 := yc2 rfl
    have Y1 : Bd 6000 y1.v := (Nm.Bd yo1 ya1 yb1).mono (by omega)
    have Y2 : Bd 6000 y2.v := (Nm.Bd yo2 ya2 yb2).mono (by omega)
    have w1 := worth_MM y1.s y1.m y1.e (by have := yo1.bits; omega) (by omega) (by omega)
    have w2 := worth_MM y2.s y2.m y2.e (by have := yo2.bits; omega) (by omega) (by omega)
    -- the told value
    have ft : F_mpi_pow_int [.tup [sa.d, sb.d], .int N, .int p] = some (.tup [y1.d, y2.d]) := by
      rw [F_pow_eq]
      have e : (p : Int) + 20 = ((p + 20 : Nat) : Int) := by push_cast; rfl
      simp only [POWg, powS, v_bnd, v_bin, v_add, v_sub, v_mul, v_div, v_mod, v_pow, v_shl, v_shr, v_and, v_xor, v_app, v_ofB, v_cmp, v_tcmp, v_eq, v_ne, v_lt, v_le, v_gt, v_ge, v_seq, v_tr_b, v_tr_i, v_tE, v_onot, v_tnot, v_not, v_neg, v_neg', v_ite, v_ite1, v_ite0, v_eand, v_eor, v_eand1, v_eand0, v_eor1, v_eor0, v_eand_i, v_eor_i, v_tand, v_tor, v_tand1, v_tand0, v_tor1, v_tor0, v_ttrue, v_tfalse, v_chain, v_var, v_int, v_bool, v_str, v_glob, v_lnil, v_lcons, v_lc, v_tup, v_lst, v_tup1, v_tup2, v_tup3, v_tup4, v_lst1, v_lst2, v_item, v_t0, v_t1, v_t2, v_t3, v_l0, v_l1, v_call, v_call', v_bits, v_bits', v_isint, v_isint', v_shift, v_shift_f, v_shift_c, v_dint, v_dabs, v_ddivmod, v_set, v_kset, v_set2, v_kset2, v_aug, v_int2, v_ret, v_kret, v_retof, v_retof', v_app_nil, v_app_cons, v_app_app, v_if, v_kif1, v_kif0, v_asrt, v_kasrt, v_un, v_unR, v_un2, v_un4, v_unR2, v_unR3, v_try, v_none, v_nil, v_for, v_kfor, v_kF_nil, v_kF_cons, v_tail, v_tail2, v_dlen2, v_while, v_kw, v_gt0, v_gts, v_up0, v_ups, v_defD, v_teq, v_teq2, List.length_cons, List.length_nil, List.cons_append, List.nil_append, List.append_nil, List.map_cons, List.map_nil, List.reduceReplicate, Nat.zero_add, Nat.reduceAdd, Bool.not_true, Bool.not_false, decide_true, decide_false, not_true_eq_false, not_false_eq_true, true_and, and_true, Int.reduceEq, Int.reduceLT, Int.reduceLE, Int.reduceNeg, n1, n5, e, f, fd]
    -- the law's rows
    have hk100 : 100 * k ≤ 134217728 := by omega
    have q1 := power_eval b1 hk100
    have q2 := power_eval b2 hk100
    have k4' : 401 ≤ 60000000 := by decide
    have v1 := over_eval k4' (B11.mono (by decide)) (all (pw sa.v k) (by simp)).1
    have v2 := over_eval k4' (B11.mono (by decide)) (all (pw sb.v k) (by simp)).1
    rw [frD_one] at v1 v2
    have allR : ∀ g ∈ [fov (1, 1) (pw sa.v k), fov (1, 1) (pw sb.v k)], Bd 402 g ∧ 0 < g.2 := by
      intro g hg
      simp only [List.mem_cons, List.not_mem_nil, or_false] at hg
      rcases hg with rfl | rfl
      · exact ⟨(B11.fov (all (pw sa.v k) (by simp)).1).mono (by decide), fov_den (by decide) (all (pw sa.v k) (by simp)).2.2⟩
      · exact ⟨(B11.fov (all (pw sb.v k) (by simp)).1).mono (by decide), fov_den (by decide) (all (pw sb.v k) (by simp)).2.2⟩
    obtain ⟨l', u', ml', mu', ord', fe⟩ := ends_eval (by decide : 402 ≤ 60000000) _ _ allR
    simp only [List.map_cons, List.map_nil] at fe
    -- the inverses' order
    have inv : ∀ x ∈ [pw sa.v k, pw sb.v k], ∀ y ∈ [pw sa.v k, pw sb.v k], fle x y → fle (fov (1, 1) y) (fov (1, 1) x) := by
      intro x hx y hy h
      refine inv_anti ?_ (all x hx).2.1 (all y hy).2.1 h
      rcases same with a | a
      · exact .inl (a x hx)
      · exact .inr (a y hy)
    have inInv : ∀ x ∈ [pw sa.v k, pw sb.v k], fov (1, 1) x ∈ [fov (1, 1) (pw sa.v k), fov (1, 1) (pw sb.v k)] := by
      intro x hx
      simp only [List.mem_cons, List.not_mem_nil, or_false] at hx ⊢
      rcases hx with rfl | rfl <;> simp
    have ofInv : ∀ x ∈ [fov (1, 1) (pw sa.v k), fov (1, 1) (pw sb.v k)], ∃ y ∈ [pw sa.v k, pw sb.v k], x = fov (1, 1) y := by
      intro x hx
      simp only [List.mem_cons, List.not_mem_nil, or_false] at hx
      rcases hx with rfl | rfl
      · exact ⟨_, by simp, rfl⟩
      · exact ⟨_, by simp, rfl⟩
    have back : ∀ x ∈ [pw sa.v k, pw sb.v k], ∀ y ∈ [pw sa.v k, pw sb.v k], fle (fov (1, 1) x) (fov (1, 1) y) → fle y x := by
      intro x hx y hy h
      have := inv_anti (x := fov (1, 1) x) (y := fov (1, 1) y) ?_ (allR _ (inInv x hx)).2 (allR _ (inInv y hy)).2 h
      · rwa [fov_fov (all x hx).2.2 (all x hx).2.1, fov_fov (all y hy).2.2 (all y hy).2.1] at this
      · have px := fov_sign (all x hx).2.2 (all x hx).2.1
        have py := fov_sign (all y hy).2.2 (all y hy).2.1
        rcases same with a | a
        · left
          have := a x hx
          have h0 : (fov (1, 1) x).1 ≠ 0 := fun z => by
            have := (all x hx).2.1
            unfold fov at z; split at z <;> simp at z <;> omega
          omega
        · right
          have := a y hy
          omega
    obtain ⟨U, hU, rfl⟩ := ofInv l' ml'
    obtain ⟨W, hW, rfl⟩ := ofInv u' mu'
    have Uu : fle u U := back U hU u mu (ord' _ (inInv u mu)).1
    have lW : fle W l := back l ml W hW (ord' _ (inInv l ml)).2
    have vU : u.1 * U.2 = U.1 * u.2 := fle_anti Uu (ord U hU).2
    have vW : l.1 * W.2 = W.1 * l.2 := fle_anti (ord W hW).1 lW
    have EU := E2.congr (all u mu).2.1 (all U hU).2.1 vU
    have EW := E1.congr (all l ml).2.1 (all W hW).2.1 vW
    have sU : (0 < U.1 ∧ 0 < t2.v.1) ∨ (U.1 < 0 ∧ t2.v.1 < 0) := by
      rcases same with a | a
      · left; have := a u mu; have := a U hU; omega
      · right; have := a u mu; have := a U hU; omega
    have sW : (0 < W.1 ∧ 0 < t1.v.1) ∨ (W.1 < 0 ∧ t1.v.1 < 0) := by
      rcases same with a | a
      · left; have := a l ml; have := a W hW; omega
      · right; have := a l ml; have := a W hW; omega
    have G1 := gap_bound hp (show p + 2 ≤ p + 20 by omega) (all U hU).2.1 t2.pos y1.pos sU EU yE1
    have G2 := gap_bound hp (show p + 2 ≤ p + 20 by omega) (all W hW).2.1 t1.pos y2.pos sW EW yE2
    have T1 := (gap_test (allR _ ml').2 y1.pos G1.1).1
    have T2 := (gap_test (allR _ mu').2 y2.pos G2.1).2
    -- the two tests of the order
    have Ut : fle U t2.v := fle_trans (all U hU).2.1 (all u mu).2.1 t2.pos (ord U hU).2 ft2
    have tW : fle t1.v W := fle_trans t1.pos (all l ml).2.1 (all W hW).2.1 ft1 (ord W hW).1
    have A1 : fle y1.v (fov (1, 1) U) := fle_trans y1.pos d2 (allR _ ml').2 yc1 (inv_anti (by omega) (all U hU).2.1 t2.pos Ut)
    have A2 : fle (fov (1, 1) W) y2.v := fle_trans (allR _ mu').2 d1 y2.pos (inv_anti (by omega) t1.pos (all W hW).2.1 tW) yc2
    have L1 := less_eval (by decide : 6000 ≤ 60000000) ((allR _ ml').1.mono (by decide)) Y1
    have L2 := less_eval (by decide : 6000 ≤ 60000000) Y2 ((allR _ mu').1.mono (by decide))
    have c1 : decide ((fov (1, 1) U).1 * y1.v.2 < y1.v.1 * (fov (1, 1) U).2) = false := by unfold fle at A1; simp; omega
    have c2 : decide (y2.v.1 * (fov (1, 1) W).2 < (fov (1, 1) W).1 * y2.v.2) = false := by unfold fle at A2; simp; omega
    rw [c1] at L1
    rw [c2] at L2
    have BU := (allR _ ml').1
    have BW := (allR _ mu').1
    generalize fov (1, 1) U = X at *
    generalize fov (1, 1) W = Z at *
    have m1 : MulG X.1 y1.v.2 := MulG_of BU.1 Y1.2 (by decide)
    have m2 : MulG y1.v.1 X.2 := MulG_of Y1.1 BU.2 (by decide)
    have m3 : MulG X.2 y1.v.2 := MulG_of BU.2 Y1.2 (by decide)
    have m4 : MulG y2.v.1 Z.2 := MulG_of Y2.1 BW.2 (by decide)
    have m5 : MulG Z.1 y2.v.2 := MulG_of BW.1 Y2.2 (by decide)
    have m6 : MulG Z.2 y2.v.2 := MulG_of BW.2 Y2.2 (by decide)
    have I1 : ib (X.1 * y1.v.2) ≤ 10000 := Nat.le_trans (ib_mul_le _ _) (by have := BU.1; have := Y1.2; omega)
    have I2 : ib (y1.v.1 * X.2) ≤ 10000 := Nat.le_trans (ib_mul_le _ _) (by have := BU.2; have := Y1.1; omega)
    have I3 : ib (X.2 * y1.v.2) ≤ 20000 := Nat.le_trans (ib_mul_le _ _) (by have := BU.2; have := Y1.2; omega)
    have I4 : ib (y2.v.1 * Z.2) ≤ 10000 := Nat.le_trans (ib_mul_le _ _) (by have := BW.2; have := Y2.1; omega)
    have I5 : ib (Z.1 * y2.v.2) ≤ 10000 := Nat.le_trans (ib_mul_le _ _) (by have := BW.1; have := Y2.2; omega)
    have I6 : ib (Z.2 * y2.v.2) ≤ 20000 := Nat.le_trans (ib_mul_le _ _) (by have := BW.2; have := Y2.2; omega)
    have H1 := gTest_eval (show p ≤ 1000 by omega) (Nat.le_trans (ib_sub_le _ _ I1 I2) (by decide)) I3 (BU.mono (by decide)) T1
    have H2 := gTest_eval (show p ≤ 1000 by omega) (Nat.le_trans (ib_sub_le _ _ I4 I5) (by decide)) I6 (BW.mono (by decide)) T2
    have j1 : oSub (some (frD X)) (some (.int 0)) = some (.int X.1) := rfl
    have j2 : oSub (some (frD X)) (some (.int 1)) = some (.int X.2) := rfl
    have j3 : oSub (some (frD Z)) (some (.int 0)) = some (.int Z.1) := rfl
    have j4 : oSub (some (frD Z)) (some (.int 1)) = some (.int Z.2) := rfl
    have j5 : oSub (some (frD y1.v)) (some (.int 0)) = some (.int y1.v.1) := rfl
    have j6 : oSub (some (frD y1.v)) (some (.int 1)) = some (.int y1.v.2) := rfl
    have j7 : oSub (some (frD y2.v)) (some (.int 0)) = some (.int y2.v.1) := rfl
    have j8 : oSub (some (frD y2.v)) (some (.int 1)) = some (.int y2.v.2) := rfl
    have w1' : F_law_worth [y1.d] = some (frD y1.v) := w1
    have w2' : F_law_worth [y2.d] = some (frD y2.v) := w2
    unfold gTest at H1 H2
    simp only [F_law_power_right, D_law_power_right, v_bnd, v_bin, v_add, v_sub, v_mul, v_div, v_mod, v_pow, v_shl, v_shr, v_and, v_xor, v_app, v_ofB, v_cmp, v_tcmp, v_eq, v_ne, v_lt, v_le, v_gt, v_ge, v_seq, v_tr_b, v_tr_i, v_tE, v_onot, v_tnot, v_not, v_neg, v_neg', v_ite, v_ite1, v_ite0, v_eand, v_eor, v_eand1, v_eand0, v_eor1, v_eor0, v_eand_i, v_eor_i, v_tand, v_tor, v_tand1, v_tand0, v_tor1, v_tor0, v_ttrue, v_tfalse, v_chain, v_var, v_int, v_bool, v_str, v_glob, v_lnil, v_lcons, v_lc, v_tup, v_lst, v_tup1, v_tup2, v_tup3, v_tup4, v_lst1, v_lst2, v_item, v_t0, v_t1, v_t2, v_t3, v_l0, v_l1, v_call, v_call', v_bits, v_bits', v_isint, v_isint', v_shift, v_shift_f, v_shift_c, v_dint, v_dabs, v_ddivmod, v_set, v_kset, v_set2, v_kset2, v_aug, v_int2, v_ret, v_kret, v_retof, v_retof', v_app_nil, v_app_cons, v_app_app, v_if, v_kif1, v_kif0, v_asrt, v_kasrt, v_un, v_unR, v_un2, v_un4, v_unR2, v_unR3, v_try, v_none, v_nil, v_for, v_kfor, v_kF_nil, v_kF_cons, v_tail, v_tail2, v_dlen2, v_while, v_kw, v_gt0, v_gts, v_up0, v_ups, v_defD, v_teq, v_teq2, List.length_cons, List.length_nil, List.cons_append, List.nil_append, List.append_nil, List.map_cons, List.map_nil, List.reduceReplicate, Nat.zero_add, Nat.reduceAdd, Bool.not_true, Bool.not_false, decide_true, decide_false, not_true_eq_false, not_false_eq_true, true_and, and_true, Int.reduceEq, Int.reduceLT, Int.reduceLE, Int.reduceNeg, n1, n2, n3, n5, if_true, i1, i2, cond1, ft, q1, q2, bAnd_f]
    rw [sCons_nxt (comp_two (A' := frD (fov (1, 1) (pw sa.v k))) (B' := frD (fov (1, 1) (pw sb.v k))) rfl (by simp only [v_bnd, v_bin, v_add, v_sub, v_mul, v_div, v_mod, v_pow, v_shl, v_shr, v_and, v_xor, v_app, v_ofB, v_cmp, v_tcmp, v_eq, v_ne, v_lt, v_le, v_gt, v_ge, v_seq, v_tr_b, v_tr_i, v_tE, v_onot, v_tnot, v_not, v_neg, v_neg', v_ite, v_ite1, v_ite0, v_eand, v_eor, v_eand1, v_eand0, v_eor1, v_eor0, v_eand_i, v_eor_i, v_tand, v_tor, v_tand1, v_tand0, v_tor1, v_tor0, v_ttrue, v_tfalse, v_chain, v_var, v_int, v_bool, v_str, v_glob, v_lnil, v_lcons, v_lc, v_tup, v_lst, v_tup1, v_tup2, v_tup3, v_tup4, v_lst1, v_lst2, v_item, v_t0, v_t1, v_t2, v_t3, v_l0, v_l1, v_call, v_call', v_bits, v_bits', v_isint, v_isint', v_shift, v_shift_f, v_shift_c, v_dint, v_dabs, v_ddivmod, v_set, v_kset, v_set2, v_kset2, v_aug, v_int2, v_ret, v_kret, v_retof, v_retof', v_app_nil, v_app_cons, v_app_app, v_if, v_kif1, v_kif0, v_asrt, v_kasrt, v_un, v_unR, v_un2, v_un4, v_unR2, v_unR3, v_try, v_none, v_nil, v_for, v_kfor, v_kF_nil, v_kF_cons, v_tail, v_tail2, v_dlen2, v_while, v_kw, v_gt0, v_gts, v_up0, v_ups, v_defD, v_teq, v_teq2, List.length_cons, List.length_nil, List.cons_append, List.nil_append, List.append_nil, List.map_cons, List.map_nil, List.reduceReplicate, Nat.zero_add, Nat.reduceAdd, Bool.not_true, Bool.not_false, decide_true, decide_false, not_true_eq_false, not_false_eq_true, true_and, and_true, v1]) (by simp only [v_bnd, v_bin, v_add, v_sub, v_mul, v_div, v_mod, v_pow, v_shl, v_shr, v_and, v_xor, v_app, v_ofB, v_cmp, v_tcmp, v_eq, v_ne, v_lt, v_le, v_gt, v_ge, v_seq, v_tr_b, v_tr_i, v_tE, v_onot, v_tnot, v_not, v_neg, v_neg', v_ite, v_ite1, v_ite0, v_eand, v_eor, v_eand1, v_eand0, v_eor1, v_eor0, v_eand_i, v_eor_i, v_tand, v_tor, v_tand1, v_tand0, v_tor1, v_tor0, v_ttrue, v_tfalse, v_chain, v_var, v_int, v_bool, v_str, v_glob, v_lnil, v_lcons, v_lc, v_tup, v_lst, v_tup1, v_tup2, v_tup3, v_tup4, v_lst1, v_lst2, v_item, v_t0, v_t1, v_t2, v_t3, v_l0, v_l1, v_call, v_call', v_bits, v_bits', v_isint, v_isint', v_shift, v_shift_f, v_shift_c, v_dint, v_dabs, v_ddivmod, v_set, v_kset, v_set2, v_kset2, v_aug, v_int2, v_ret, v_kret, v_retof, v_retof', v_app_nil, v_app_cons, v_app_app, v_if, v_kif1, v_kif0, v_asrt, v_kasrt, v_un, v_unR, v_un2, v_un4, v_unR2, v_unR3, v_try, v_none, v_nil, v_for, v_kfor, v_kF_nil, v_kF_cons, v_tail, v_tail2, v_dlen2, v_while, v_kw, v_gt0, v_gts, v_up0, v_ups, v_defD, v_teq, v_teq2, List.length_cons, List.length_nil, List.cons_append, List.nil_append, List.append_nil, List.map_cons, List.map_nil, List.reduceReplicate, Nat.zero_add, Nat.reduceAdd, Bool.not_true, Bool.not_false, decide_true, decide_false, not_true_eq_false, not_false_eq_true, true_and, and_true, v2]))]
    simp only [v_bnd, v_bin, v_add, v_sub, v_mul, v_div, v_mod, v_pow, v_shl, v_shr, v_and, v_xor, v_app, v_ofB, v_cmp, v_tcmp, v_eq, v_ne, v_lt, v_le, v_gt, v_ge, v_seq, v_tr_b, v_tr_i, v_tE, v_onot, v_tnot, v_not, v_neg, v_neg', v_ite, v_ite1, v_ite0, v_eand, v_eor, v_eand1, v_eand0, v_eor1, v_eor0, v_eand_i, v_eor_i, v_tand, v_tor, v_tand1, v_tand0, v_tor1, v_tor0, v_ttrue, v_tfalse, v_chain, v_var, v_int, v_bool, v_str, v_glob, v_lnil, v_lcons, v_lc, v_tup, v_lst, v_tup1, v_tup2, v_tup3, v_tup4, v_lst1, v_lst2, v_item, v_t0, v_t1, v_t2, v_t3, v_l0, v_l1, v_call, v_call', v_bits, v_bits', v_isint, v_isint', v_shift, v_shift_f, v_shift_c, v_dint, v_dabs, v_ddivmod, v_set, v_kset, v_set2, v_kset2, v_aug, v_int2, v_ret, v_kret, v_retof, v_retof', v_app_nil, v_app_cons, v_app_app, v_if, v_kif1, v_kif0, v_asrt, v_kasrt, v_un, v_unR, v_un2, v_un4, v_unR2, v_unR3, v_try, v_none, v_nil, v_for, v_kfor, v_kF_nil, v_kF_cons, v_tail, v_tail2, v_dlen2, v_while, v_kw, v_gt0, v_gts, v_up0, v_ups, v_defD, v_teq, v_teq2, List.length_cons, List.length_nil, List.cons_append, List.nil_append, List.append_nil, List.map_cons, List.map_nil, List.reduceReplicate, Nat.zero_add, Nat.reduceAdd, Bool.not_true, Bool.not_false, decide_true, decide_false, not_true_eq_false, not_false_eq_true, true_and, and_true, Int.reduceEq, Int.reduceLT, Int.reduceLE, Int.reduceNeg, n4, fe, w1', w2', L1, L2, j1, j2, j3, j4, j5, j6, j7, j8, m1, m2, m3, m4, m5, m6]
    rw [comp_near rfl rfl H1 H2]
    simp only [v_bnd, v_bin, v_add, v_sub, v_mul, v_div, v_mod, v_pow, v_shl, v_shr, v_and, v_xor, v_app, v_ofB, v_cmp, v_tcmp, v_eq, v_ne, v_lt, v_le, v_gt, v_ge, v_seq, v_tr_b, v_tr_i, v_tE, v_onot, v_tnot, v_not, v_neg, v_neg', v_ite, v_ite1, v_ite0, v_eand, v_eor, v_eand1, v_eand0, v_eor1, v_eor0, v_eand_i, v_eor_i, v_tand, v_tor, v_tand1, v_tand0, v_tor1, v_tor0, v_ttrue, v_tfalse, v_chain, v_var, v_int, v_bool, v_str, v_glob, v_lnil, v_lcons, v_lc, v_tup, v_lst, v_tup1, v_tup2, v_tup3, v_tup4, v_lst1, v_lst2, v_item, v_t0, v_t1, v_t2, v_t3, v_l0, v_l1, v_call, v_call', v_bits, v_bits', v_isint, v_isint', v_shift, v_shift_f, v_shift_c, v_dint, v_dabs, v_ddivmod, v_set, v_kset, v_set2, v_kset2, v_aug, v_int2, v_ret, v_kret, v_retof, v_retof', v_app_nil, v_app_cons, v_app_app, v_if, v_kif1, v_kif0, v_asrt, v_kasrt, v_un, v_unR, v_un2, v_un4, v_unR2, v_unR3, v_try, v_none, v_nil, v_for, v_kfor, v_kF_nil, v_kF_cons, v_tail, v_tail2, v_dlen2, v_while, v_kw, v_gt0, v_gts, v_up0, v_ups, v_defD, v_teq, v_teq2, List.length_cons, List.length_nil, List.cons_append, List.nil_append, List.append_nil, List.map_cons, List.map_nil, List.reduceReplicate, Nat.zero_add, Nat.reduceAdd, Bool.not_true, Bool.not_false, decide_true, decide_false, not_true_eq_false, not_false_eq_true, true_and, and_true, Int.reduceEq, Int.reduceLT, Int.reduceLE, Int.reduceNeg, all_two]
end
end Mine

namespace Mine
set_option autoImplicit false
theorem v_len {l : List D} : dLen [.lst l] = bnd (l.length ≤ 1000) (.int l.length) := (rfl)
def M_tail : St → Option Fl := (sCons (sIf (tCmp .GtE (eVar 2) (eBin .Pow (eInt 2) (eInt 64))) (sCons (sRet (eVar 2)) sNil) sNil) (sCons (sRet (eBin .Mod (eBin .Add (eBin .Mult (eVar 2) (eInt 6364136223846793005)) (eBin .Mult (eBin .Add (eVar 1) (eInt 1)) (eInt 1442695040888963407))) (eBin .Pow (eInt 2) (eInt 190)))) sNil))
theorem D_mixed_eq : D_law_mixed = (sCons (sSet 2 (eIte (tCmp .Lt (eVar 1) (eCall dLen (lCons (eVar 0) lNil))) (eSub (eVar 0) (eVar 1)) (eInt 0))) M_tail) := rfl
theorem mixed_eval (ns : List Int) (k : Int) (hk0 : 0 ≤ k) (hk : k ≤ 900) (hn : ns.length ≤ 1000) : ∃ r : Nat, F_law_mixed [.lst (ns.map .int), .int k] = some (.int r) := by
  have fin : ∀ z : Int, ∃ r : Nat, M_tail [some (.lst (ns.map .int)), some (.int k), some (.int z)] = some (.ret (.int r)) := by
    intro z
    have p1 : PowG 2 64 := by unfold PowG; decide
    have p2 : PowG 2 190 := by unfold PowG; decide
    have m1 : MulG z 6364136223846793005 := .inr (.inl (by decide))
    have m2 : MulG (k + 1) 1442695040888963407 := .inr (.inl (by decide))
    have nz : ¬ (2 : Int) ^ (190 : Int).toNat = 0 := by decide
    by_cases q : (2 : Int) ^ (64 : Int).toNat ≤ z
    · refine ⟨z.toNat, ?_⟩
      have h0 : (0 : Int) ≤ z := Int.le_trans (by decide) q
      simp only [M_tail, v_bnd, v_bin, v_add, v_sub, v_mul, v_div, v_mod, v_pow, v_shl, v_shr, v_and, v_xor, v_app, v_ofB, v_cmp, v_tcmp, v_eq, v_ne, v_lt, v_le, v_gt, v_ge, v_seq, v_tr_b, v_tr_i, v_tE, v_onot, v_tnot, v_not, v_neg, v_neg', v_ite, v_ite1, v_ite0, v_eand, v_eor, v_eand1, v_eand0, v_eor1, v_eor0, v_eand_i, v_eor_i, v_tand, v_tor, v_tand1, v_tand0, v_tor1, v_tor0, v_ttrue, v_tfalse, v_chain, v_var, v_int, v_bool, v_str, v_glob, v_lnil, v_lcons, v_lc, v_tup, v_lst, v_tup1, v_tup2, v_tup3, v_tup4, v_lst1, v_lst2, v_item, v_t0, v_t1, v_t2, v_t3, v_l0, v_l1, v_call, v_call', v_bits, v_bits', v_isint, v_isint', v_shift, v_shift_f, v_shift_c, v_dint, v_dabs, v_ddivmod, v_set, v_kset, v_set2, v_kset2, v_aug, v_int2, v_ret, v_kret, v_retof, v_retof', v_app_nil, v_app_cons, v_app_app, v_if, v_kif1, v_kif0, v_asrt, v_kasrt, v_un, v_unR, v_un2, v_un4, v_unR2, v_unR3, v_try, v_none, v_nil, v_for, v_kfor, v_kF_nil, v_kF_cons, v_tail, v_tail2, v_dlen2, v_while, v_kw, v_gt0, v_gts, v_up0, v_ups, v_defD, v_teq, v_teq2, List.length_cons, List.length_nil, List.cons_append, List.nil_append, List.append_nil, List.map_cons, List.map_nil, List.reduceReplicate, Nat.zero_add, Nat.reduceAdd, Bool.not_true, Bool.not_false, decide_true, decide_false, not_true_eq_false, not_false_eq_true, true_and, and_true, Int.reduceEq, Int.reduceLT, Int.reduceLE, Int.reduceNeg, p1, q]
      rw [show ((z.toNat : Nat) : Int) = z by omega]
    · have h0 : 0 ≤ (z * 6364136223846793005 + (k + 1) * 1442695040888963407).fmod (2 ^ (190 : Int).toNat) := Int.fmod_nonneg_of_pos _ (by decide)
      obtain ⟨r, hr⟩ : ∃ r : Nat, (z * 6364136223846793005 + (k + 1) * 1442695040888963407).fmod (2 ^ (190 : Int).toNat) = r := ⟨_, (Int.toNat_of_nonneg h0).symm⟩
      refine ⟨r, ?_⟩
      simp only [M_tail, v_bnd, v_bin, v_add, v_sub, v_mul, v_div, v_mod, v_pow, v_shl, v_shr, v_and, v_xor, v_app, v_ofB, v_cmp, v_tcmp, v_eq, v_ne, v_lt, v_le, v_gt, v_ge, v_seq, v_tr_b, v_tr_i, v_tE, v_onot, v_tnot, v_not, v_neg, v_neg', v_ite, v_ite1, v_ite0, v_eand, v_eor, v_eand1, v_eand0, v_eor1, v_eor0, v_eand_i, v_eor_i, v_tand, v_tor, v_tand1, v_tand0, v_tor1, v_tor0, v_ttrue, v_tfalse, v_chain, v_var, v_int, v_bool, v_str, v_glob, v_lnil, v_lcons, v_lc, v_tup, v_lst, v_tup1, v_tup2, v_tup3, v_tup4, v_lst1, v_lst2, v_item, v_t0, v_t1, v_t2, v_t3, v_l0, v_l1, v_call, v_call', v_bits, v_bits', v_isint, v_isint', v_shift, v_shift_f, v_shift_c, v_dint, v_dabs, v_ddivmod, v_set, v_kset, v_set2, v_kset2, v_aug, v_int2, v_ret, v_kret, v_retof, v_retof', v_app_nil, v_app_cons, v_app_app, v_if, v_kif1, v_kif0, v_asrt, v_kasrt, v_un, v_unR, v_un2, v_un4, v_unR2, v_unR3, v_try, v_none, v_nil, v_for, v_kfor, v_kF_nil, v_kF_cons, v_tail, v_tail2, v_dlen2, v_while, v_kw, v_gt0, v_gts, v_up0, v_ups, v_defD, v_teq, v_teq2, List.length_cons, List.length_nil, List.cons_append, List.nil_append, List.append_nil, List.map_cons, List.map_nil, List.reduceReplicate, Nat.zero_add, Nat.reduceAdd, Bool.not_true, Bool.not_false, decide_true, decide_false, not_true_eq_false, not_false_eq_true, true_and, and_true, Int.reduceEq, Int.reduceLT, Int.reduceLE, Int.reduceNeg, p1, p2, q, m1, m2, nz, hr]
  have hl : (ns.map D.int).length ≤ 1000 := by rw [List.length_map]; exact hn
  have ln : ((ns.map D.int).length : Int) = (ns.length : Int) := by rw [List.length_map]
  by_cases c : k.toNat < ns.length
  · obtain ⟨r, hr⟩ := fin ns[k.toNat]
    refine ⟨r, ?_⟩
    have c' : k < ((ns.map D.int).length : Int) := by rw [ln]; omega
    have it : oSub (some (.lst (ns.map .int))) (some (.int k)) = some (.int ns[k.toNat]) := by
      unfold oSub
      rw [Option.bind_some, Option.bind_some]
      unfold dItem
      simp only
      rw [if_pos ⟨by omega, by omega⟩, List.getElem?_map, List.getElem?_eq_getElem c]
      rfl
    generalize ns.map D.int = L at *
    simp only [F_law_mixed, D_mixed_eq, v_bnd, v_bin, v_add, v_sub, v_mul, v_div, v_mod, v_pow, v_shl, v_shr, v_and, v_xor, v_app, v_ofB, v_cmp, v_tcmp, v_eq, v_ne, v_lt, v_le, v_gt, v_ge, v_seq, v_tr_b, v_tr_i, v_tE, v_onot, v_tnot, v_not, v_neg, v_neg', v_ite, v_ite1, v_ite0, v_eand, v_eor, v_eand1, v_eand0, v_eor1, v_eor0, v_eand_i, v_eor_i, v_tand, v_tor, v_tand1, v_tand0, v_tor1, v_tor0, v_ttrue, v_tfalse, v_chain, v_var, v_int, v_bool, v_str, v_glob, v_lnil, v_lcons, v_lc, v_tup, v_lst, v_tup1, v_tup2, v_tup3, v_tup4, v_lst1, v_lst2, v_item, v_t0, v_t1, v_t2, v_t3, v_l0, v_l1, v_call, v_call', v_bits, v_bits', v_isint, v_isint', v_shift, v_shift_f, v_shift_c, v_dint, v_dabs, v_ddivmod, v_set, v_kset, v_set2, v_kset2, v_aug, v_int2, v_ret, v_kret, v_retof, v_retof', v_app_nil, v_app_cons, v_app_app, v_if, v_kif1, v_kif0, v_asrt, v_kasrt, v_un, v_unR, v_un2, v_un4, v_unR2, v_unR3, v_try, v_none, v_nil, v_for, v_kfor, v_kF_nil, v_kF_cons, v_tail, v_tail2, v_dlen2, v_while, v_kw, v_gt0, v_gts, v_up0, v_ups, v_defD, v_teq, v_teq2, List.length_cons, List.length_nil, List.cons_append, List.nil_append, List.append_nil, List.map_cons, List.map_nil, List.reduceReplicate, Nat.zero_add, Nat.reduceAdd, Bool.not_true, Bool.not_false, decide_true, decide_false, not_true_eq_false, not_false_eq_true, true_and, and_true, v_len, hl, c', it, hr]
  · obtain ⟨r, hr⟩ := fin 0
    refine ⟨r, ?_⟩
    have c' : ¬ k < ((ns.map D.int).length : Int) := by rw [ln]; omega
    generalize ns.map D.int = L at *
    simp only [F_law_mixed, D_mixed_eq, v_bnd, v_bin, v_add, v_sub, v_mul, v_div, v_mod, v_pow, v_shl, v_shr, v_and, v_xor, v_app, v_ofB, v_cmp, v_tcmp, v_eq, v_ne, v_lt, v_le, v_gt, v_ge, v_seq, v_tr_b, v_tr_i, v_tE, v_onot, v_tnot, v_not, v_neg, v_neg', v_ite, v_ite1, v_ite0, v_eand, v_eor, v_eand1, v_eand0, v_eor1, v_eor0, v_eand_i, v_eor_i, v_tand, v_tor, v_tand1, v_tand0, v_tor1, v_tor0, v_ttrue, v_tfalse, v_chain, v_var, v_int, v_bool, v_str, v_glob, v_lnil, v_lcons, v_lc, v_tup, v_lst, v_tup1, v_tup2, v_tup3, v_tup4, v_lst1, v_lst2, v_item, v_t0, v_t1, v_t2, v_t3, v_l0, v_l1, v_call, v_call', v_bits, v_bits', v_isint, v_isint', v_shift, v_shift_f, v_shift_c, v_dint, v_dabs, v_ddivmod, v_set, v_kset, v_set2, v_kset2, v_aug, v_int2, v_ret, v_kret, v_retof, v_retof', v_app_nil, v_app_cons, v_app_app, v_if, v_kif1, v_kif0, v_asrt, v_kasrt, v_un, v_unR, v_un2, v_un4, v_unR2, v_unR3, v_try, v_none, v_nil, v_for, v_kfor, v_kF_nil, v_kF_cons, v_tail, v_tail2, v_dlen2, v_while, v_kw, v_gt0, v_gts, v_up0, v_ups, v_defD, v_teq, v_teq2, List.length_cons, List.length_nil, List.cons_append, List.nil_append, List.append_nil, List.map_cons, List.map_nil, List.reduceReplicate, Nat.zero_add, Nat.reduceAdd, Bool.not_true, Bool.not_false, decide_true, decide_false, not_true_eq_false, not_false_eq_true, true_and, and_true, v_len, hl, c', hr]

/-- the drawn number -/
theorem raw_eval (r : Nat) : ∃ x : Nm, x.Ok 30 ∧ x.e ≤ 30 ∧ -x.e ≤ 30 ∧ F_law_raw [.int r, .int 30, .int 30] = some x.d := by
  obtain ⟨m, hm⟩ : ∃ m : Nat, r / 65536 = m := ⟨_, rfl⟩
  have a1 : (r : Int).fdiv 2 = ((r / 2 : Nat) : Int) := fdiv_nat r 2
  have a2 : ((r / 2 : Nat) : Int).fmod 8 = ((r / 2 % 8 : Nat) : Int) := fmod_nat _ 8
  have a3 : (r : Int).fdiv 16 = ((r / 16 : Nat) : Int) := fdiv_nat r 16
  have a4 : ((r / 16 : Nat) : Int).fmod (2 * 30 + 1) = ((r / 16 % 61 : Nat) : Int) := fmod_nat _ 61
  have a5 : (r : Int).fdiv (2 ^ (16 : Int).toNat) = (m : Int) := by rw [← hm]; exact fdiv_nat r 65536
  have a6 : (m : Int).fmod 30 = ((m % 30 : Nat) : Int) := fmod_nat _ 30
  have a7 : (m : Int).fmod (30 - 1) = ((m % 29 : Nat) : Int) := fmod_nat _ 29
  have a8 : (r : Int).fmod 2 = ((r % 2 : Nat) : Int) := fmod_nat _ 2
  have g2 : DivG 2 := by unfold DivG; decide
  have g16 : DivG 16 := by unfold DivG; decide
  have gP : DivG (2 ^ (16 : Int).toNat) := by unfold DivG; decide
  have p16 : PowG 2 16 := by unfold PowG; decide
  have m61 : MulG 2 30 := by unfold MulG; decide
  have n8 : ¬ (8 : Int) = 0 := by decide
  have n61 : ¬ (2 * 30 + 1 : Int) = 0 := by decide
  have n30 : ¬ (30 : Int) = 0 := by decide
  have n29 : ¬ (30 - 1 : Int) = 0 := by decide
  have n2 : ¬ (2 : Int) = 0 := by decide
  obtain ⟨b, hb, hb2⟩ : ∃ b : Nat, 1 + m % 30 = b ∧ b ≤ 30 := ⟨_, rfl, by omega⟩
  obtain ⟨b', hb', hb2'⟩ : ∃ b : Nat, 1 + m % 29 = b ∧ b ≤ 29 := ⟨_, rfl, by omega⟩
  have c1 : (1 : Int) + ((m % 30 : Nat) : Int) = (b : Int) := by omega
  have c1' : (1 : Int) + ((m % 29 : Nat) : Int) = (b' : Int) := by omega
  have pb : PowG 2 b := PowG2 (by omega) (by omega)
  have pb' : PowG 2 b' := PowG2 (by omega) (by omega)
  have e2 : (2 : Int) ^ (b : Int).toNat = ((2 ^ b : Nat) : Int) := by rw [Int.toNat_natCast]; push_cast; rfl
  have e2' : (2 : Int) ^ (b' : Int).toNat = ((2 ^ b' : Nat) : Int) := by rw [Int.toNat_natCast]; push_cast; rfl
  have nb : ¬ ((2 ^ b : Nat) : Int) = 0 := by have := p2_pos b; omega
  have q1 : (m : Int).fmod ((2 ^ b : Nat) : Int) = ((m % 2 ^ b : Nat) : Int) := fmod_nat _ _
  have q2 : ((m % 2 ^ b : Nat) : Int).fdiv 2 = ((m % 2 ^ b / 2 : Nat) : Int) := fdiv_nat _ 2
  have q3 : ((m % 2 ^ b / 2 : Nat) : Int) * 2 + 1 = ((m % 2 ^ b / 2 * 2 + 1 : Nat) : Int) := by omega
  have q4 : ((2 ^ b : Nat) : Int) - 1 = ((2 ^ b - 1 : Nat) : Int) := by have := p2_pos b; omega
  have q5 : ((2 ^ b' : Nat) : Int) + 1 = ((2 ^ b' + 1 : Nat) : Int) := by omega
  have g5 : MulG ((m % 2 ^ b / 2 : Nat) : Int) 2 := .inr (.inl (by decide))
  have P30 : 2 ^ b ≤ 2 ^ 30 := Nat.pow_le_pow_right (by decide) hb2
  have P29 : 2 ^ b' ≤ 2 ^ 29 := Nat.pow_le_pow_right (by decide) hb2'
  have lt := Nat.mod_lt m (p2_pos b)
  have ev : 2 ^ b % 2 = 0 := by rw [← hb, Nat.add_comm, Nat.pow_succ]; omega
  have ev' : 2 ^ b' % 2 = 0 := by rw [← hb', Nat.add_comm, Nat.pow_succ]; omega
  have pp := p2_pos b
  have sgr : ∃ s : Bool, ((r % 2 : Nat) : Int) = sg s := by
    rcases Nat.mod_two_eq_zero_or_one r with h | h
    · exact ⟨false, by rw [h]; rfl⟩
    · exact ⟨true, by rw [h]; rfl⟩
  obtain ⟨s, hs⟩ := sgr
  have l3 : (1 : Int) < 30 := by decide
  have fin : ∀ M : Nat, M % 2 = 1 → M < 2 ^ 30 → (⟨s, M, ((r / 16 % 61 : Nat) : Int) - 30⟩ : Nm).Ok 30 ∧ (⟨s, M, ((r / 16 % 61 : Nat) : Int) - 30⟩ : Nm).e ≤ 30 ∧ -(⟨s, M, ((r / 16 % 61 : Nat) : Int) - 30⟩ : Nm).e ≤ 30 := by
    intro M h1 h2
    exact ⟨⟨.inl h1, bl_le h2⟩, by simp only; omega, by simp only; omega⟩
  obtain ⟨kd, hkd⟩ : ∃ kd : Nat, r / 2 % 8 = kd := ⟨_, rfl⟩
  rw [hkd] at a2
  by_cases k0 : kd = 0
  · refine ⟨⟨false, 0, 0⟩, ⟨.inr ⟨rfl, rfl, rfl⟩, by decide⟩, by decide, by decide, ?_⟩
    have k0' : ((kd : Int) = 0) = True := by simp [k0]
    simp only [F_law_raw, D_law_raw, v_bnd, v_bin, v_add, v_sub, v_mul, v_div, v_mod, v_pow, v_shl, v_shr, v_and, v_xor, v_app, v_ofB, v_cmp, v_tcmp, v_eq, v_ne, v_lt, v_le, v_gt, v_ge, v_seq, v_tr_b, v_tr_i, v_tE, v_onot, v_tnot, v_not, v_neg, v_neg', v_ite, v_ite1, v_ite0, v_eand, v_eor, v_eand1, v_eand0, v_eor1, v_eor0, v_eand_i, v_eor_i, v_tand, v_tor, v_tand1, v_tand0, v_tor1, v_tor0, v_ttrue, v_tfalse, v_chain, v_var, v_int, v_bool, v_str, v_glob, v_lnil, v_lcons, v_lc, v_tup, v_lst, v_tup1, v_tup2, v_tup3, v_tup4, v_lst1, v_lst2, v_item, v_t0, v_t1, v_t2, v_t3, v_l0, v_l1, v_call, v_call', v_bits, v_bits', v_isint, v_isint', v_shift, v_shift_f, v_shift_c, v_dint, v_dabs, v_ddivmod, v_set, v_kset, v_set2, v_kset2, v_aug, v_int2, v_ret, v_kret, v_retof, v_retof', v_app_nil, v_app_cons, v_app_app, v_if, v_kif1, v_kif0, v_asrt, v_kasrt, v_un, v_unR, v_un2, v_un4, v_unR2, v_unR3, v_try, v_none, v_nil, v_for, v_kfor, v_kF_nil, v_kF_cons, v_tail, v_tail2, v_dlen2, v_while, v_kw, v_gt0, v_gts, v_up0, v_ups, v_defD, v_teq, v_teq2, List.length_cons, List.length_nil, List.cons_append, List.nil_append, List.append_nil, List.map_cons, List.map_nil, List.reduceReplicate, Nat.zero_add, Nat.reduceAdd, Bool.not_true, Bool.not_false, decide_true, decide_false, not_true_eq_false, not_false_eq_true, true_and, and_true, a1, a2, a3, a4, a5, g2, g16, gP, p16, m61, n8, n61, k0']
    rfl
  · have k0' : ¬ (kd : Int) = 0 := by omega
    by_cases k1 : kd = 1
    · have k1' : ((kd : Int) = 1) = True := by simp [k1]
      obtain ⟨f1, f2, f3⟩ := fin 1 rfl (by decide)
      refine ⟨_, f1, f2, f3, ?_⟩
      simp only [F_law_raw, D_law_raw, v_bnd, v_bin, v_add, v_sub, v_mul, v_div, v_mod, v_pow, v_shl, v_shr, v_and, v_xor, v_app, v_ofB, v_cmp, v_tcmp, v_eq, v_ne, v_lt, v_le, v_gt, v_ge, v_seq, v_tr_b, v_tr_i, v_tE, v_onot, v_tnot, v_not, v_neg, v_neg', v_ite, v_ite1, v_ite0, v_eand, v_eor, v_eand1, v_eand0, v_eor1, v_eor0, v_eand_i, v_eor_i, v_tand, v_tor, v_tand1, v_tand0, v_tor1, v_tor0, v_ttrue, v_tfalse, v_chain, v_var, v_int, v_bool, v_str, v_glob, v_lnil, v_lcons, v_lc, v_tup, v_lst, v_tup1, v_tup2, v_tup3, v_tup4, v_lst1, v_lst2, v_item, v_t0, v_t1, v_t2, v_t3, v_l0, v_l1, v_call, v_call', v_bits, v_bits', v_isint, v_isint', v_shift, v_shift_f, v_shift_c, v_dint, v_dabs, v_ddivmod, v_set, v_kset, v_set2, v_kset2, v_aug, v_int2, v_ret, v_kret, v_retof, v_retof', v_app_nil, v_app_cons, v_app_app, v_if, v_kif1, v_kif0, v_asrt, v_kasrt, v_un, v_unR, v_un2, v_un4, v_unR2, v_unR3, v_try, v_none, v_nil, v_for, v_kfor, v_kF_nil, v_kF_cons, v_tail, v_tail2, v_dlen2, v_while, v_kw, v_gt0, v_gts, v_up0, v_ups, v_defD, v_teq, v_teq2, List.length_cons, List.length_nil, List.cons_append, List.nil_append, List.append_nil, List.map_cons, List.map_nil, List.reduceReplicate, Nat.zero_add, Nat.reduceAdd, Bool.not_true, Bool.not_false, decide_true, decide_false, not_true_eq_false, not_false_eq_true, true_and, and_true, a1, a2, a3, a4, a5, a6, a8, g2, g16, gP, p16, m61, n8, n61, n30, n2, k0', k1', c1, pb, e2, nb, q1, q2, q3, g5, hs, Nm.d, MM]
      rfl
    · have k1' : ¬ (kd : Int) = 1 := by omega
      by_cases k2 : kd = 2
      · have k2' : ((kd : Int) = 2) = True := by simp [k2]
        obtain ⟨f1, f2, f3⟩ := fin (2 ^ b - 1) (by omega) (by omega)
        refine ⟨_, f1, f2, f3, ?_⟩
        simp only [F_law_raw, D_law_raw, v_bnd, v_bin, v_add, v_sub, v_mul, v_div, v_mod, v_pow, v_shl, v_shr, v_and, v_xor, v_app, v_ofB, v_cmp, v_tcmp, v_eq, v_ne, v_lt, v_le, v_gt, v_ge, v_seq, v_tr_b, v_tr_i, v_tE, v_onot, v_tnot, v_not, v_neg, v_neg', v_ite, v_ite1, v_ite0, v_eand, v_eor, v_eand1, v_eand0, v_eor1, v_eor0, v_eand_i, v_eor_i, v_tand, v_tor, v_tand1, v_tand0, v_tor1, v_tor0, v_ttrue, v_tfalse, v_chain, v_var, v_int, v_bool, v_str, v_glob, v_lnil, v_lcons, v_lc, v_tup, v_lst, v_tup1, v_tup2, v_tup3, v_tup4, v_lst1, v_lst2, v_item, v_t0, v_t1, v_t2, v_t3, v_l0, v_l1, v_call, v_call', v_bits, v_bits', v_isint, v_isint', v_shift, v_shift_f, v_shift_c, v_dint, v_dabs, v_ddivmod, v_set, v_kset, v_set2, v_kset2, v_aug, v_int2, v_ret, v_kret, v_retof, v_retof', v_app_nil, v_app_cons, v_app_app, v_if, v_kif1, v_kif0, v_asrt, v_kasrt, v_un, v_unR, v_un2, v_un4, v_unR2, v_unR3, v_try, v_none, v_nil, v_for, v_kfor, v_kF_nil, v_kF_cons, v_tail, v_tail2, v_dlen2, v_while, v_kw, v_gt0, v_gts, v_up0, v_ups, v_defD, v_teq, v_teq2, List.length_cons, List.length_nil, List.cons_append, List.nil_append, List.append_nil, List.map_cons, List.map_nil, List.reduceReplicate, Nat.zero_add, Nat.reduceAdd, Bool.not_true, Bool.not_false, decide_true, decide_false, not_true_eq_false, not_false_eq_true, true_and, and_true, a1, a2, a3, a4, a5, a6, a8, g2, g16, gP, p16, m61, n8, n61, n30, n2, k0', k1', k2', c1, pb, e2, nb, q1, q2, q3, q4, g5, hs, Nm.d, MM, ib_nat]
      · have k2' : ¬ (kd : Int) = 2 := by omega
        by_cases k3 : kd = 3
        · have k3' : ((kd : Int) = 3) = True := by simp [k3]
          obtain ⟨f1, f2, f3⟩ := fin (2 ^ b' + 1) (by omega) (by omega)
          refine ⟨_, f1, f2, f3, ?_⟩
          simp only [F_law_raw, D_law_raw, v_bnd, v_bin, v_add, v_sub, v_mul, v_div, v_mod, v_pow, v_shl, v_shr, v_and, v_xor, v_app, v_ofB, v_cmp, v_tcmp, v_eq, v_ne, v_lt, v_le, v_gt, v_ge, v_seq, v_tr_b, v_tr_i, v_tE, v_onot, v_tnot, v_not, v_neg, v_neg', v_ite, v_ite1, v_ite0, v_eand, v_eor, v_eand1, v_eand0, v_eor1, v_eor0, v_eand_i, v_eor_i, v_tand, v_tor, v_tand1, v_tand0, v_tor1, v_tor0, v_ttrue, v_tfalse, v_chain, v_var, v_int, v_bool, v_str, v_glob, v_lnil, v_lcons, v_lc, v_tup, v_lst, v_tup1, v_tup2, v_tup3, v_tup4, v_lst1, v_lst2, v_item, v_t0, v_t1, v_t2, v_t3, v_l0, v_l1, v_call, v_call', v_bits, v_bits', v_isint, v_isint', v_shift, v_shift_f, v_shift_c, v_dint, v_dabs, v_ddivmod, v_set, v_kset, v_set2, v_kset2, v_aug, v_int2, v_ret, v_kret, v_retof, v_retof', v_app_nil, v_app_cons, v_app_app, v_if, v_kif1, v_kif0, v_asrt, v_kasrt, v_un, v_unR, v_un2, v_un4, v_unR2, v_unR3, v_try, v_none, v_nil, v_for, v_kfor, v_kF_nil, v_kF_cons, v_tail, v_tail2, v_dlen2, v_while, v_kw, v_gt0, v_gts, v_up0, v_ups, v_defD, v_teq, v_teq2, List.length_cons, List.length_nil, List.cons_append, List.nil_append, List.append_nil, List.map_cons, List.map_nil, List.reduceReplicate, Nat.zero_add, Nat.reduceAdd, Bool.not_true, Bool.not_false, decide_true, decide_false, not_true_eq_false, not_false_eq_true, true_and, and_true, a1, a2, a3, a4, a5, a6, a7, a8, g2, g16, gP, p16, m61, n8, n61, n30, n29, n2, k0', k1', k2', k3', l3, c1, c1', pb, pb', e2, e2', nb, q1, q2, q3, q5, g5, hs, Nm.d, MM, ib_nat]
        · have k3' : ¬ (kd : Int) = 3 := by omega
          obtain ⟨f1, f2, f3⟩ := fin (m % 2 ^ b / 2 * 2 + 1) (by omega) (by omega)
          refine ⟨_, f1, f2, f3, ?_⟩
          simp only [F_law_raw, D_law_raw, v_bnd, v_bin, v_add, v_sub, v_mul, v_div, v_mod, v_pow, v_shl, v_shr, v_and, v_xor, v_app, v_ofB, v_cmp, v_tcmp, v_eq, v_ne, v_lt, v_le, v_gt, v_ge, v_seq, v_tr_b, v_tr_i, v_tE, v_onot, v_tnot, v_not, v_neg, v_neg', v_ite, v_ite1, v_ite0, v_eand, v_eor, v_eand1, v_eand0, v_eor1, v_eor0, v_eand_i, v_eor_i, v_tand, v_tor, v_tand1, v_tand0, v_tor1, v_tor0, v_ttrue, v_tfalse, v_chain, v_var, v_int, v_bool, v_str, v_glob, v_lnil, v_lcons, v_lc, v_tup, v_lst, v_tup1, v_tup2, v_tup3, v_tup4, v_lst1, v_lst2, v_item, v_t0, v_t1, v_t2, v_t3, v_l0, v_l1, v_call, v_call', v_bits, v_bits', v_isint, v_isint', v_shift, v_shift_f, v_shift_c, v_dint, v_dabs, v_ddivmod, v_set, v_kset, v_set2, v_kset2, v_aug, v_int2, v_ret, v_kret, v_retof, v_retof', v_app_nil, v_app_cons, v_app_app, v_if, v_kif1, v_kif0, v_asrt, v_kasrt, v_un, v_unR, v_un2, v_un4, v_unR2, v_unR3, v_try, v_none, v_nil, v_for, v_kfor, v_kF_nil, v_kF_cons, v_tail, v_tail2, v_dlen2, v_while, v_kw, v_gt0, v_gts, v_up0, v_ups, v_defD, v_teq, v_teq2, List.length_cons, List.length_nil, List.cons_append, List.nil_append, List.append_nil, List.map_cons, List.map_nil, List.reduceReplicate, Nat.zero_add, Nat.reduceAdd, Bool.not_true, Bool.not_false, decide_true, decide_false, not_true_eq_false, not_false_eq_true, true_and, and_true, a1, a2, a3, a4, a5, a6, a8, g2, g16, gP, p16, m61, n8, n61, n30, n2, k0', k1', k2', k3', c1, pb, e2, nb, q1, q2, q3, g5, hs, Nm.d, MM, ib_nat]
end Mine

namespace Mine
set_option autoImplicit false
/-- an end as the law draws it -/
structure End (x : Nm) : Prop where
  ok : x.Ok 30
  hi : x.e ≤ 30
  lo : -x.e ≤ 30
theorem End.bd {x : Nm} (h : End x) : Bd 61 x.v := Nm.Bd h.ok h.hi h.lo
theorem End.worth {x : Nm} (h : End x) : F_law_worth [x.d] = some (frD x.v) := worth_MM x.s x.m x.e (by have := h.ok.bits; omega) (by have := h.hi; omega) (by have := h.lo; omega)
theorem span_eval (ns : List Int) (k : Int) (hk0 : 0 ≤ k) (hk : k ≤ 800) (hn : ns.length ≤ 1000) :
    ∃ a b : Nm, End a ∧ End b ∧ fle a.v b.v ∧ F_law_span [.lst (ns.map .int), .int k, .int 30, .int 30] = some (.tup [a.d, b.d]) := by
  obtain ⟨r, hr⟩ := mixed_eval ns (k + 2) (by omega) (by omega) hn
  obtain ⟨r1, hr1⟩ := mixed_eval ns k (by omega) (by omega) hn
  obtain ⟨r2, hr2⟩ := mixed_eval ns (k + 1) (by omega) (by omega) hn
  obtain ⟨s, s1, s2, s3, hs⟩ := raw_eval r1
  obtain ⟨t, t1, t2, t3, ht⟩ := raw_eval r2
  have Es : End s := ⟨s1, s2, s3⟩
  have Et : End t := ⟨t1, t2, t3⟩
  generalize ns.map D.int = L at *
  have a6 : (r : Int).fmod 6 = ((r % 6 : Nat) : Int) := fmod_nat r 6
  have n6 : ¬ (6 : Int) = 0 := by decide
  -- the end of the function
  have fin : ∀ x y : Nm, End x → End y → ∃ a b : Nm, End a ∧ End b ∧ fle a.v b.v ∧
      oIte (some (decide (x.v.1 * y.v.2 ≤ y.v.1 * x.v.2))) (some (.tup [x.d, y.d])) (some (.tup [y.d, x.d])) = some (.tup [a.d, b.d]) := by
    intro x y hx hy
    by_cases q : x.v.1 * y.v.2 ≤ y.v.1 * x.v.2
    · exact ⟨x, y, hx, hy, q, by simp [q, oIte]⟩
    · exact ⟨y, x, hy, hx, by unfold fle; omega, by simp [q, oIte]⟩
  have j0 : ∀ f : Fr, oSub (some (frD f)) (some (.int 0)) = some (.int f.1) := fun _ => rfl
  have j1 : ∀ f : Fr, oSub (some (frD f)) (some (.int 1)) = some (.int f.2) := fun _ => rfl
  have g : ∀ x y : Nm, End x → End y → MulG x.v.1 y.v.2 := fun x y hx hy => MulG_of hx.bd.1 hy.bd.2 (by decide)
  by_cases q0 : r % 6 = 0
  · have z0 : (((r % 6 : Nat) : Int) = 0) = True := by simp [q0]
    have z1 : ¬ ((r % 6 : Nat) : Int) = 1 := by omega
    obtain ⟨a, b, ha, hb, hab, e⟩ := fin s s Es Es
    refine ⟨a, b, ha, hb, hab, ?_⟩
    simp only [F_law_span, D_law_span, v_bnd, v_bin, v_add, v_sub, v_mul, v_div, v_mod, v_pow, v_shl, v_shr, v_and, v_xor, v_app, v_ofB, v_cmp, v_tcmp, v_eq, v_ne, v_lt, v_le, v_gt, v_ge, v_seq, v_tr_b, v_tr_i, v_tE, v_onot, v_tnot, v_not, v_neg, v_neg', v_ite, v_ite1, v_ite0, v_eand, v_eor, v_eand1, v_eand0, v_eor1, v_eor0, v_eand_i, v_eor_i, v_tand, v_tor, v_tand1, v_tand0, v_tor1, v_tor0, v_ttrue, v_tfalse, v_chain, v_var, v_int, v_bool, v_str, v_glob, v_lnil, v_lcons, v_lc, v_tup, v_lst, v_tup1, v_tup2, v_tup3, v_tup4, v_lst1, v_lst2, v_item, v_t0, v_t1, v_t2, v_t3, v_l0, v_l1, v_call, v_call', v_bits, v_bits', v_isint, v_isint', v_shift, v_shift_f, v_shift_c, v_dint, v_dabs, v_ddivmod, v_set, v_kset, v_set2, v_kset2, v_aug, v_int2, v_ret, v_kret, v_retof, v_retof', v_app_nil, v_app_cons, v_app_app, v_if, v_kif1, v_kif0, v_asrt, v_kasrt, v_un, v_unR, v_un2, v_un4, v_unR2, v_unR3, v_try, v_none, v_nil, v_for, v_kfor, v_kF_nil, v_kF_cons, v_tail, v_tail2, v_dlen2, v_while, v_kw, v_gt0, v_gts, v_up0, v_ups, v_defD, v_teq, v_teq2, List.length_cons, List.length_nil, List.cons_append, List.nil_append, List.append_nil, List.map_cons, List.map_nil, List.reduceReplicate, Nat.zero_add, Nat.reduceAdd, Bool.not_true, Bool.not_false, decide_true, decide_false, not_true_eq_false, not_false_eq_true, true_and, and_true, hr, hr1, hr2, hs, ht, a6, n6, z0, z1, Es.worth, j0, j1, g s s Es Es, e]
  · have z0 : ¬ ((r % 6 : Nat) : Int) = 0 := by omega
    by_cases q1 : r % 6 = 1
    · have z1 : (((r % 6 : Nat) : Int) = 1) = True := by simp [q1]
      have Ez : End ⟨false, 0, 0⟩ := ⟨⟨.inr ⟨rfl, rfl, rfl⟩, by decide⟩, by decide, by decide⟩
      have ot : t.m % 2 = 1 ∨ (false = false ∧ t.m = 0 ∧ t.e = 0) := by
        rcases t1.odd with h | h
        · exact .inl h
        · exact .inr ⟨rfl, h.2.1, h.2.2⟩
      have Et' : End ⟨false, t.m, t.e⟩ := ⟨⟨ot, t1.bits⟩, t2, t3⟩
      obtain ⟨a, b, ha, hb, hab, e⟩ := fin _ _ Ez Et'
      refine ⟨a, b, ha, hb, hab, ?_⟩
      have w1 := Ez.worth
      have w2 := Et'.worth
      have g1 := g _ _ Ez Et'
      have g2 := g _ _ Et' Ez
      have d1 : (.tup [.int 0, .int 0, .int 0, .int 0] : D) = (⟨false, 0, 0⟩ : Nm).d := rfl
      have d2 : (.tup [.int 0, .int t.m, .int t.e, .int (bl t.m)] : D) = (⟨false, t.m, t.e⟩ : Nm).d := rfl
      have i1 : oSub (some t.d) (some (.int 1)) = some (.int t.m) := rfl
      have i2 : oSub (some t.d) (some (.int 2)) = some (.int t.e) := rfl
      have i3 : oSub (some t.d) (some (.int 3)) = some (.int (bl t.m)) := rfl
      generalize (⟨false, 0, 0⟩ : Nm) = Z at *
      generalize (⟨false, t.m, t.e⟩ : Nm) = Y at *
      simp only [F_law_span, D_law_span, v_bnd, v_bin, v_add, v_sub, v_mul, v_div, v_mod, v_pow, v_shl, v_shr, v_and, v_xor, v_app, v_ofB, v_cmp, v_tcmp, v_eq, v_ne, v_lt, v_le, v_gt, v_ge, v_seq, v_tr_b, v_tr_i, v_tE, v_onot, v_tnot, v_not, v_neg, v_neg', v_ite, v_ite1, v_ite0, v_eand, v_eor, v_eand1, v_eand0, v_eor1, v_eor0, v_eand_i, v_eor_i, v_tand, v_tor, v_tand1, v_tand0, v_tor1, v_tor0, v_ttrue, v_tfalse, v_chain, v_var, v_int, v_bool, v_str, v_glob, v_lnil, v_lcons, v_lc, v_tup, v_lst, v_tup1, v_tup2, v_tup3, v_tup4, v_lst1, v_lst2, v_item, v_t0, v_t1, v_t2, v_t3, v_l0, v_l1, v_call, v_call', v_bits, v_bits', v_isint, v_isint', v_shift, v_shift_f, v_shift_c, v_dint, v_dabs, v_ddivmod, v_set, v_kset, v_set2, v_kset2, v_aug, v_int2, v_ret, v_kret, v_retof, v_retof', v_app_nil, v_app_cons, v_app_app, v_if, v_kif1, v_kif0, v_asrt, v_kasrt, v_un, v_unR, v_un2, v_un4, v_unR2, v_unR3, v_try, v_none, v_nil, v_for, v_kfor, v_kF_nil, v_kF_cons, v_tail, v_tail2, v_dlen2, v_while, v_kw, v_gt0, v_gts, v_up0, v_ups, v_defD, v_teq, v_teq2, List.length_cons, List.length_nil, List.cons_append, List.nil_append, List.append_nil, List.map_cons, List.map_nil, List.reduceReplicate, Nat.zero_add, Nat.reduceAdd, Bool.not_true, Bool.not_false, decide_true, decide_false, not_true_eq_false, not_false_eq_true, true_and, and_true, hr, hr1, hr2, hs, ht, a6, n6, z0, z1, i1, i2, i3, d1, d2, w1, w2, j0, j1, g1, g2, e]
    · have z1 : ¬ ((r % 6 : Nat) : Int) = 1 := by omega
      obtain ⟨a, b, ha, hb, hab, e⟩ := fin s t Es Et
      refine ⟨a, b, ha, hb, hab, ?_⟩
      simp only [F_law_span, D_law_span, v_bnd, v_bin, v_add, v_sub, v_mul, v_div, v_mod, v_pow, v_shl, v_shr, v_and, v_xor, v_app, v_ofB, v_cmp, v_tcmp, v_eq, v_ne, v_lt, v_le, v_gt, v_ge, v_seq, v_tr_b, v_tr_i, v_tE, v_onot, v_tnot, v_not, v_neg, v_neg', v_ite, v_ite1, v_ite0, v_eand, v_eor, v_eand1, v_eand0, v_eor1, v_eor0, v_eand_i, v_eor_i, v_tand, v_tor, v_tand1, v_tand0, v_tor1, v_tor0, v_ttrue, v_tfalse, v_chain, v_var, v_int, v_bool, v_str, v_glob, v_lnil, v_lcons, v_lc, v_tup, v_lst, v_tup1, v_tup2, v_tup3, v_tup4, v_lst1, v_lst2, v_item, v_t0, v_t1, v_t2, v_t3, v_l0, v_l1, v_call, v_call', v_bits, v_bits', v_isint, v_isint', v_shift, v_shift_f, v_shift_c, v_dint, v_dabs, v_ddivmod, v_set, v_kset, v_set2, v_kset2, v_aug, v_int2, v_ret, v_kret, v_retof, v_retof', v_app_nil, v_app_cons, v_app_app, v_if, v_kif1, v_kif0, v_asrt, v_kasrt, v_un, v_unR, v_un2, v_un4, v_unR2, v_unR3, v_try, v_none, v_nil, v_for, v_kfor, v_kF_nil, v_kF_cons, v_tail, v_tail2, v_dlen2, v_while, v_kw, v_gt0, v_gts, v_up0, v_ups, v_defD, v_teq, v_teq2, List.length_cons, List.length_nil, List.cons_append, List.nil_append, List.append_nil, List.map_cons, List.map_nil, List.reduceReplicate, Nat.zero_add, Nat.reduceAdd, Bool.not_true, Bool.not_false, decide_true, decide_false, not_true_eq_false, not_false_eq_true, true_and, and_true, hr, hr1, hr2, hs, ht, a6, n6, z0, z1, Es.worth, Et.worth, j0, j1, g s t Es Et, g t s Et Es, e]
theorem comp_worth {i : Nat} {ρ : St} {A B A' B' : D} (h : gt ρ i = some (.tup [A, B])) (h1 : F_law_worth [A] = some A') (h2 : F_law_worth [B] = some B') :
    eComp (pNo 1) (eVar i) (aName 0) (eCall F_law_worth (lCons (eVar 0) lNil)) ρ = some (.lst [A', B']) := by
  have p2 : eVar i ρ = some (.tup [A, B]) := h
  unfold eComp
  rw [p2]
  simp [pNo, dComp, dSeq, cloop, aName, up, gt, eVar, eCall, lCons, lNil, h1, h2]
def D_lawG (RT : List D → Option D) : St → Option Fl := (sCons (sSet 1 (eCall F_law_mixed (lCons (eVar 0) (lCons (eInt 0) lNil)))) (sCons (sUnpackR [2, 3] (eTup (lCons (eBin .Add (eInt 1) (eBin .Mod (eVar 1) (eInt 90))) (lCons (eBin .Sub (eBin .Mod (eBin .FloorDiv (eVar 1) (eInt 90)) (eInt 14)) (eInt 4)) lNil)))) (sCons (sUnpackR [4, 5] (eTup (lCons (eCall F_law_span (lCons (eVar 0) (lCons (eInt 1) (lCons (eInt 30) (lCons (eInt 30) lNil))))) (lCons (eCall F_law_span (lCons (eVar 0) (lCons (eInt 4) (lCons (eInt 30) (lCons (eInt 30) lNil))))) lNil)))) (sCons (sUnpackR [6, 7] (eTup (lCons (eComp (pNo 1) (eVar 4) (aName 0) (eCall F_law_worth (lCons (eVar 0) lNil))) (lCons (eComp (pNo 1) (eVar 5) (aName 0) (eCall F_law_worth (lCons (eVar 0) lNil))) lNil)))) (sCons (sIf (tOr (tNot (tE (eCall F_law_quotient_right (lCons (eVar 4) (lCons (eVar 5) (lCons (eVar 6) (lCons (eVar 7) (lCons (eVar 2) lNil)))))))) (tOr (tNot (tE (eCall F_law_quotient_right (lCons (eVar 5) (lCons (eVar 4) (lCons (eVar 7) (lCons (eVar 6) (lCons (eVar 2) lNil)))))))) tFalse)) (sCons (sRet (eBool false)) sNil) sNil) (sCons (sIf (tOr (tNot (tE (eCall RT (lCons (eVar 4) (lCons (eVar 6) (lCons (eVar 2) lNil)))))) (tOr (tNot (tE (eCall RT (lCons (eVar 5) (lCons (eVar 7) (lCons (eVar 2) lNil)))))) tFalse)) (sCons (sRet (eBool false)) sNil) sNil) (sCons (sRet (eAnd (eCall F_law_power_right (lCons (eVar 4) (lCons (eVar 6) (lCons (eVar 3) (lCons (eVar 2) lNil))))) (eCall F_law_power_right (lCons (eVar 5) (lCons (eVar 7) (lCons (eVar 3) (lCons (eVar 2) lNil))))))) sNil)))))))
theorem D_law_eq : D_law = D_lawG F_law_root_right := rfl
def F_lawG (RT : List D → Option D) : List D → Option D := defD 1 7 [] (D_lawG RT)
/-- the law answers True, given a right answer of _law_root_right wherever it is called -/
theorem law_eval (RT : List D → Option D) (hRT : ∀ (a b : Nm) (p : Nat), End a → End b → fle a.v b.v → 1 ≤ p → p ≤ 90 → RT [.tup [a.d, b.d], .lst [frD a.v, frD b.v], .int p] = some (.bool true))
    (ns : List Int) (hn : ns.length ≤ 1000) : F_lawG RT [.lst (ns.map .int)] = some (.bool true) := by
  obtain ⟨r, hr⟩ := mixed_eval ns 0 (by decide) (by decide) hn
  obtain ⟨a, b, ha, hb, hab, es⟩ := span_eval ns 1 (by decide) (by decide) hn
  obtain ⟨c, d, hc, hd, hcd, et⟩ := span_eval ns 4 (by decide) (by decide) hn
  generalize ns.map D.int = L at *
  obtain ⟨p, hp, hp1, hp2⟩ : ∃ p : Nat, 1 + r % 90 = p ∧ 1 ≤ p ∧ p ≤ 90 := ⟨_, rfl, by omega, by omega⟩
  have a1 : (r : Int).fmod 90 = ((r % 90 : Nat) : Int) := fmod_nat r 90
  have a2 : (1 : Int) + ((r % 90 : Nat) : Int) = (p : Int) := by omega
  have a3 : (r : Int).fdiv 90 = ((r / 90 : Nat) : Int) := fdiv_nat r 90
  have a4 : ((r / 90 : Nat) : Int).fmod 14 = ((r / 90 % 14 : Nat) : Int) := fmod_nat _ 14
  obtain ⟨n, hn⟩ : ∃ n : Int, ((r / 90 % 14 : Nat) : Int) - 4 = n := ⟨_, rfl⟩
  have g90 : DivG 90 := by unfold DivG; decide
  have z90 : ¬ (90 : Int) = 0 := by decide
  have z14 : ¬ (14 : Int) = 0 := by decide
  have Q1 := quotient_eval (k := 30) ha.ok hb.ok hc.ok hd.ok (by decide) hp1 (by omega) hab hcd (ha.bd.mono (by decide)) (hb.bd.mono (by decide)) (hc.bd.mono (by decide)) (hd.bd.mono (by decide))
  have Q2 := quotient_eval (k := 30) hc.ok hd.ok ha.ok hb.ok (by decide) hp1 (by omega) hcd hab (hc.bd.mono (by decide)) (hd.bd.mono (by decide)) (ha.bd.mono (by decide)) (hb.bd.mono (by decide))
  have R1 := hRT a b p ha hb hab hp1 hp2
  have R2 := hRT c d p hc hd hcd hp1 hp2
  have pw : ∀ a b : Nm, End a → End b → fle a.v b.v → F_law_power_right [.tup [a.d, b.d], .lst [frD a.v, frD b.v], .int n, .int p] = some (.bool true) := by
    intro a b ha hb hab
    have h1 := ha.ok.mono (show 30 ≤ 64 by decide)
    have h2 := hb.ok.mono (show 30 ≤ 64 by decide)
    have e1 : a.e - b.e ≤ 100 := by have := ha.hi; have := hb.lo; omega
    have e2 : b.e - a.e ≤ 100 := by have := hb.hi; have := ha.lo; omega
    have B1 := ha.bd.mono (show 61 ≤ 100 by decide)
    have B2 := hb.bd.mono (show 61 ≤ 100 by decide)
    rcases (by omega : n < 0 ∨ 0 ≤ n) with q | q
    · obtain ⟨k, rfl⟩ : ∃ k : Nat, n = -(k : Int) := ⟨(-n).toNat, by omega⟩
      exact power_neg h1 h2 hp1 (by omega) hab e1 e2 B1 B2 ⟨by have := ha.hi; omega, by have := ha.lo; omega⟩ ⟨by have := hb.hi; omega, by have := hb.lo; omega⟩ (by omega) (by omega)
    · obtain ⟨k, rfl⟩ : ∃ k : Nat, n = (k : Int) := ⟨n.toNat, by omega⟩
      by_cases k1 : k = 1
      · subst k1
        exact power_one h1 h2 hp1 (by omega) hab e1 e2 B1 B2
      · exact power_nonneg h1 h2 hp1 (by omega) hab e1 e2 B1 B2 (by omega) k1
  have P1 := pw a b ha hb hab
  have P2 := pw c d hc hd hcd
  have cw1 := fun ρ h => comp_worth (i := 4) (ρ := ρ) h ha.worth hb.worth
  have cw2 := fun ρ h => comp_worth (i := 5) (ρ := ρ) h hc.worth hd.worth
  simp only [F_lawG, D_lawG, v_bnd, v_bin, v_add, v_sub, v_mul, v_div, v_mod, v_pow, v_shl, v_shr, v_and, v_xor, v_app, v_ofB, v_cmp, v_tcmp, v_eq, v_ne, v_lt, v_le, v_gt, v_ge, v_seq, v_tr_b, v_tr_i, v_tE, v_onot, v_tnot, v_not, v_neg, v_neg', v_ite, v_ite1, v_ite0, v_eand, v_eor, v_eand1, v_eand0, v_eor1, v_eor0, v_eand_i, v_eor_i, v_tand, v_tor, v_tand1, v_tand0, v_tor1, v_tor0, v_ttrue, v_tfalse, v_chain, v_var, v_int, v_bool, v_str, v_glob, v_lnil, v_lcons, v_lc, v_tup, v_lst, v_tup1, v_tup2, v_tup3, v_tup4, v_lst1, v_lst2, v_item, v_t0, v_t1, v_t2, v_t3, v_l0, v_l1, v_call, v_call', v_bits, v_bits', v_isint, v_isint', v_shift, v_shift_f, v_shift_c, v_dint, v_dabs, v_ddivmod, v_set, v_kset, v_set2, v_kset2, v_aug, v_int2, v_ret, v_kret, v_retof, v_retof', v_app_nil, v_app_cons, v_app_app, v_if, v_kif1, v_kif0, v_asrt, v_kasrt, v_un, v_unR, v_un2, v_un4, v_unR2, v_unR3, v_try, v_none, v_nil, v_for, v_kfor, v_kF_nil, v_kF_cons, v_tail, v_tail2, v_dlen2, v_while, v_kw, v_gt0, v_gts, v_up0, v_ups, v_defD, v_teq, v_teq2, List.length_cons, List.length_nil, List.cons_append, List.nil_append, List.append_nil, List.map_cons, List.map_nil, List.reduceReplicate, Nat.zero_add, Nat.reduceAdd, Bool.not_true, Bool.not_false, decide_true, decide_false, not_true_eq_false, not_false_eq_true, true_and, and_true, hr, es, et, a1, a2, a3, a4, hn, g90, z90, z14]
  rw [cw1 _ rfl, cw2 _ rfl]
  simp only [v_bnd, v_bin, v_add, v_sub, v_mul, v_div, v_mod, v_pow, v_shl, v_shr, v_and, v_xor, v_app, v_ofB, v_cmp, v_tcmp, v_eq, v_ne, v_lt, v_le, v_gt, v_ge, v_seq, v_tr_b, v_tr_i, v_tE, v_onot, v_tnot, v_not, v_neg, v_neg', v_ite, v_ite1, v_ite0, v_eand, v_eor, v_eand1, v_eand0, v_eor1, v_eor0, v_eand_i, v_eor_i, v_tand, v_tor, v_tand1, v_tand0, v_tor1, v_tor0, v_ttrue, v_tfalse, v_chain, v_var, v_int, v_bool, v_str, v_glob, v_lnil, v_lcons, v_lc, v_tup, v_lst, v_tup1, v_tup2, v_tup3, v_tup4, v_lst1, v_lst2, v_item, v_t0, v_t1, v_t2, v_t3, v_l0, v_l1, v_call, v_call', v_bits, v_bits', v_isint, v_isint', v_shift, v_shift_f, v_shift_c, v_dint, v_dabs, v_ddivmod, v_set, v_kset, v_set2, v_kset2, v_aug, v_int2, v_ret, v_kret, v_retof, v_retof', v_app_nil, v_app_cons, v_app_app, v_if, v_kif1, v_kif0, v_asrt, v_kasrt, v_un, v_unR, v_un2, v_un4, v_unR2, v_unR3, v_try, v_none, v_nil, v_for, v_kfor, v_kF_nil, v_kF_cons, v_tail, v_tail2, v_dlen2, v_while, v_kw, v_gt0, v_gts, v_up0, v_ups, v_defD, v_teq, v_teq2, List.length_cons, List.length_nil, List.cons_append, List.nil_append, List.append_nil, List.map_cons, List.map_nil, List.reduceReplicate, Nat.zero_add, Nat.reduceAdd, Bool.not_true, Bool.not_false, decide_true, decide_false, not_true_eq_false, not_false_eq_true, true_and, and_true, Q1, Q2, R1, R2, P1, P2]
end Mine

namespace Mine
set_option autoImplicit false
/-- _law_root_right, the raise with it -/
def RTx : List D → Option D
  | [.tup [.tup [.int s, .int m, .int e, .int b], y], .lst (.tup (.int a :: l) :: l2), p] =>
    if s = 1 then (if a < 0 then some (.bool true) else none) else F_law_root_right [.tup [.tup [.int s, .int m, .int e, .int b], y], .lst (.tup (.int a :: l) :: l2), p]
  | _ => none
theorem rtx_eval (a b : Nm) (p : Nat) (ha : End a) (hb : End b) (hab : fle a.v b.v) (hp : 1 ≤ p) (hp2 : p ≤ 90) :
    RTx [.tup [a.d, b.d], .lst [frD a.v, frD b.v], .int p] = some (.bool true) := by
  have e : RTx [.tup [a.d, b.d], .lst [frD a.v, frD b.v], .int p] =
      if sg a.s = 1 then (if a.v.1 < 0 then some (.bool true) else none) else F_law_root_right [.tup [a.d, b.d], .lst [frD a.v, frD b.v], .int p] := rfl
  rw [e]
  by_cases q : a.s = true
  · have hm : 0 < a.m := by
      rcases ha.ok.odd with h | h
      · omega
      · rw [h.1] at q; cases q
    rw [if_pos (by rw [q]; rfl), if_pos ((Nm.num_neg a hm).mpr q)]
  · have q' : a.s = false := by simpa using q
    rw [if_neg (by rw [q']; decide)]
    have h0 : 0 ≤ a.v.1 := by
      rw [Nm.num, if_neg q]; exact Int.natCast_nonneg _
    exact root_eval (ha.ok.mono (by decide)) (hb.ok.mono (by decide)) hp (by omega) hab h0 ⟨by have := ha.hi; omega, by have := ha.lo; omega⟩ ⟨by have := hb.hi; omega, by have := hb.lo; omega⟩
      (ha.bd.mono (by decide)) (hb.bd.mono (by decide))
theorem law_true (ns : List Int) (hn : ns.length ≤ 1000) : F_lawG RTx [.lst (ns.map .int)] = some (.bool true) := law_eval RTx rtx_eval ns hn
end Mine

namespace Mine
set_option autoImplicit false
theorem rootx (w : World) (mg mb : Str → Option Value) {base : Heap} {mean : ExcName → Option Value} (XB : (WW w mg mb).K.In base) (TB : Top (WW w mg mb).p (WW w mg mb).loose mean mg mb base) : CSemF (WW w mg mb) base 13 (.ref 320) RTx := by
  intro A s vs ds d L envL Q E R gd r B hf hns e hQ
  unfold RTx at e
  split at e
  · rename_i s' m e' b y a l l2 p
    split at e
    · rename_i hs
      subst hs
      split at e
      · rename_i ha
        cases e
        have hfm : [envL].filterMap (·.frame) = [L] := by simp [hf]
        refine raise_root w mg mb (outer := [envL]) (R.le (by decide)) gd r B XB TB ?_ (fun g' h' tk T k => ?_)
        · rw [hfm]
          intro b hb
          obtain ⟨mm, o, es, ep, ho, hd, _⟩ := hns
          simp only [List.mem_cons, List.not_mem_nil, or_false] at hb
          subst hb
          exact ⟨o, es, ep, ho, hd⟩
        · rw [hfm] at T
          rw [decide_eq_true ha]
          refine hQ _ _ _ ⟨fun b o n e => k _ _ (T.other b o e (by simpa using n)), fun o e => ?_⟩ (.bool _)
          obtain ⟨sl, hs⟩ := T.frame L o e (by simp)
          exact ⟨sl, k _ _ hs⟩
      · cases e
    · exact c_law_root_right w mg mb (as := []) (R.le (by decide)) gd (fun a m => by cases m) r e (fun v h tk k r => hQ _ _ _ (Turn.of_stays k) r)
  · cases e
theorem BSemF.run {W : Wd} {base : Heap} {n : Nat} {sc : Scope} {tab : List Str} {A : Around} {env : Env} {s : Shared} {ρ : St} {fl : Fl} {b : List Stmt} {g : St → Option Fl} {Q : Flow → Shared → Prop} {E : Value → Shared → Prop} (R : Room n A) (O : EnvOk sc env) (F : FrOk W env tab [] s.heap ρ) (LI : LawIn base A env s.heap) (e : g ρ = some fl)
    (h1 : ∀ ρ' h tk, fl = .nxt ρ' → FrOk W env tab [] h ρ' → Heap.ExtBut env.locals s.heap h → Q .next { s with heap := h, toks := tk })
    (h2 : ∀ d v h tk, fl = .ret d → Heap.ExtBut env.locals s.heap h → Rep [] h v d → Q (.ret v) { s with heap := h, toks := tk }) (B : BSemF W base n sc tab b g) : wpAny W.M A (execs b env) Q E s := B R O F LI e h1 h2

theorem law_call (w : World) (mg mb : Str → Option Value) {A : Around} {s : Shared} {vs : List Value} {ds : List D} {d : D} {Q : Value → Shared → Prop} {E : Value → Shared → Prop} {mean : ExcName → Option Value}
    (R : Room 14 A) (hfr : A.frames = some []) (gd : (WW w mg mb).Gd s.heap) (TB : Top (WW w mg mb).p (WW w mg mb).loose mean mg mb s.heap) (hr : RepAll [] s.heap vs ds) (e : F_lawG RTx ds = some d)
    (hQ : ∀ v h tk, s.heap.StaysIn h → Rep [] h v d → Q v { s with heap := h, toks := tk }) : wpAny (WW w mg mb).M A (call (.ref 337) vs) Q E s := by
  have XB : (WW w mg mb).K.In s.heap := gd.k
  have hnd : ([Str.ofString "script", Str.ofString "first", Str.ofString "prec", Str.ofString "n", Str.ofString "s", Str.ofString "t", Str.ofString "a", Str.ofString "b"] : List Str).Nodup := by decide +kernel
  obtain ⟨ρ₀, e₀, e⟩ := Option.bind_eq_some_iff.mp e
  have eg : ∃ d', D_lawG RTx ρ₀ = some (.ret d') ∧ d' = d := by
    unfold retOf at e
    split at e
    · rename_i d' eg; exact ⟨d', eg, Option.some.inj e⟩
    · cases e
  obtain ⟨d', eg, rfl⟩ := eg
  refine call_enter (n := 13) (tab := [Str.ofString "script", Str.ofString "first", Str.ofString "prec", Str.ofString "n", Str.ofString "s", Str.ofString "t", Str.ofString "a", Str.ofString "b"]) (names := [Str.ofString "script"]) (k := 1) (m := 7) (dv := []) (dd := []) (by rfl) rfl rfl rfl rfl rfl (by kernel_rfl) rfl rfl rfl
    (fun s vs X hl => by
      match vs, hl with
      | [a0], _ => exact kp_binds X (fun S => by kernel_rfl))
    rfl (fun _ _ => .nil) rfl (by decide +kernel) (by decide +kernel) (fun _ => rfl) R gd hr e₀ (fun L h₁ tk mm F Fo O k₁ R' _ => ?_)
  refine BSemF.run R' O Fo ⟨Around.frames_deeper hfr, rfl, mm, F⟩ eg (fun ρ' h tk q => by cases q) (fun d₂ v h₂ tk₂ q k₂ r₂ => ?_) ?_
  · cases q
    exact hQ _ _ _ (fun b o e => k₂ _ _ (fun q => by
      have h1 := ltN (Heap.lt_size e)
      have h2 := F.above
      rw [q] at h1
      exact Nat.lt_irrefl _ (Nat.lt_of_lt_of_le h1 h2)) (k₁ _ _ e)) r₂
  · exact (BSemF.cons (SSem.set 1 (ESem.call hv_law_mixed (hk_law_mixed w) (CSem.le (c_law_mixed w mg mb) (by decide)) (LSem.cons (ESem.var 0) (LSem.cons ESem.int LSem.nil))) hnd) (BSemF.cons (SSem.unpackN (names := [Str.ofString "prec", Str.ofString "n"]) (rn := [Str.ofString "n", Str.ofString "prec"]) (is := [2, 3]) (ri := [3, 2]) (.cons 3 rfl rfl (.cons 2 rfl rfl .nil)) rfl rfl rfl (ESem.tuple (LSem.cons (ESem.binop ESem.int (ESem.binop (ESem.var 1) ESem.int)) (LSem.cons (ESem.binop (ESem.binop (ESem.binop (ESem.var 1) ESem.int) ESem.int) ESem.int) LSem.nil))) hnd (fun env h => by cases env; cases h; rfl)) (BSemF.cons (SSem.unpackN (names := [Str.ofString "s", Str.ofString "t"]) (rn := [Str.ofString "t", Str.ofString "s"]) (is := [4, 5]) (ri := [5, 4]) (.cons 5 rfl rfl (.cons 4 rfl rfl .nil)) rfl rfl rfl (ESem.tuple (LSem.cons (ESem.call hv_law_span (hk_law_span w) (CSem.le (c_law_span w mg mb) (by decide)) (LSem.cons (ESem.var 0) (LSem.cons ESem.int (LSem.cons ESem.int (LSem.cons ESem.int LSem.nil))))) (LSem.cons (ESem.call hv_law_span (hk_law_span w) (CSem.le (c_law_span w mg mb) (by decide)) (LSem.cons (ESem.var 0) (LSem.cons ESem.int (LSem.cons ESem.int (LSem.cons ESem.int LSem.nil))))) LSem.nil))) hnd (fun env h => by cases env; cases h; rfl)) (BSemF.cons (SSem.unpackN (names := [Str.ofString "a", Str.ofString "b"]) (rn := [Str.ofString "b", Str.ofString "a"]) (is := [6, 7]) (ri := [7, 6]) (.cons 7 rfl rfl (.cons 6 rfl rfl .nil)) rfl rfl rfl (ESem.tuple (LSem.cons (ESem.comp1N (tab' := [Str.ofString "end"]) 1 (ESem.var 4) (ESem.call hv_law_worth (hk_law_worth w) (CSem.le (c_law_worth w mg mb) (by decide)) (LSem.cons (ESem.var 0) LSem.nil)) (ASem.name 0 (by decide)) ) (LSem.cons (ESem.comp1N (tab' := [Str.ofString "end"]) 1 (ESem.var 5) (ESem.call hv_law_worth (hk_law_worth w) (CSem.le (c_law_worth w mg mb) (by decide)) (LSem.cons (ESem.var 0) LSem.nil)) (ASem.name 0 (by decide)) ) LSem.nil))) hnd (fun env h => by cases env; cases h; rfl)) (BSemF.cons (SSem.ife (TSem.or1 (TSem.not (TSem.plain (ESem.call hv_law_quotient_right (hk_law_quotient_right w) (CSem.le (c_law_quotient_right w mg mb) (by decide)) (LSem.cons (ESem.var 4) (LSem.cons (ESem.var 5) (LSem.cons (ESem.var 6) (LSem.cons (ESem.var 7) (LSem.cons (ESem.var 2) LSem.nil)))))))) (TSem.or1 (TSem.not (TSem.plain (ESem.call hv_law_quotient_right (hk_law_quotient_right w) (CSem.le (c_law_quotient_right w mg mb) (by decide)) (LSem.cons (ESem.var 5) (LSem.cons (ESem.var 4) (LSem.cons (ESem.var 7) (LSem.cons (ESem.var 6) (LSem.cons (ESem.var 2) LSem.nil)))))))) TSem.or0)) (BSem.cons (SSem.ret ESem.bool) BSem.nil) BSem.nil) (BSemF.consF (SSemF.ife (TSemF.or1 (TSemF.not (TSemF.plain (ESemF.call hv_law_root_right (hk_law_root_right w) (rootx w mg mb XB TB) (LSem.cons (ESem.var 4) (LSem.cons (ESem.var 6) (LSem.cons (ESem.var 2) LSem.nil)))))) (TSemF.or1 (TSemF.not (TSemF.plain (ESemF.call hv_law_root_right (hk_law_root_right w) (rootx w mg mb XB TB) (LSem.cons (ESem.var 5) (LSem.cons (ESem.var 7) (LSem.cons (ESem.var 2) LSem.nil)))))) TSemF.or0)) (BSem.cons (SSem.ret ESem.bool) BSem.nil) BSem.nil) (BSem.cons (SSem.ret (ESem.and (ESem.call hv_law_power_right (hk_law_power_right w) (CSem.le (c_law_power_right w mg mb) (by decide)) (LSem.cons (ESem.var 4) (LSem.cons (ESem.var 6) (LSem.cons (ESem.var 3) (LSem.cons (ESem.var 2) LSem.nil))))) (ESem.bop1 (ESem.call hv_law_power_right (hk_law_power_right w) (CSem.le (c_law_power_right w mg mb) (by decide)) (LSem.cons (ESem.var 5) (LSem.cons (ESem.var 7) (LSem.cons (ESem.var 3) (LSem.cons (ESem.var 2) LSem.nil)))))))) BSem.nil)))))))

end Mine

namespace Mine
theorem ints_rep {h : Heap} {vs : List Value} {ns : List Int} (x : IntsAre vs ns) : RepAll [] h vs (ns.map D.int) := by
  induction x with
  | nil => exact .nil
  | cons n t _ ih => exact .cons (.int n t) ih
theorem holds : PySem.Challenge.rw_ah5013_01.Holds := hd (by
  k_fill
  intro w s₀ s₁ mg mb G Y fa o pm cd doc dV kV ho hd' hcd hD hmg hg args vals as hpre hlay hrd hwl hlo
  have KX := kIn_of Y
  refine Ground.open G ?_
  intro T B D TE TW
  wrow_args hpre hlay hrd hwl hlo
  rename_i ns hsh hl0 hL0 hr1 hl2 q4 q3 la vs q0 hL ra w1 r0 hI hr hc1 hc2
  have hrep : RepAll [] s₁.heap [.ref la] [.lst (ns.map .int)] := by
    obtain ⟨o', h1, h2, n', h3⟩ := hL
    exact .cons (.lst (n := n') (V_in h1 (by simp)) h2 h3 (by simpa using ints_rep hI)) .nil
  have hlen : ns.length ≤ 1000 := by omega
  have TR : TopRead _ _ _ _ _ := topRead_of T
  have hfa : fa = 337 := by
    have h1 := mg_of KX TR.g (show nsIn (hd.heap_39 w.params) mainGlobals (Str.ofString "law") = some (some (.ref 337)) by kernel_rfl)
    have h2 : mg (Str.ofString "law") = some (.ref fa) := hmg
    rw [h2] at h1
    exact Value.ref.inj (Option.some.inj h1)
  subst hfa
  have key : ∀ (Q E : Value → Shared → Prop), (∀ h tk, s₁.heap.StaysIn h → Q (.bool true) { s₁ with heap := h, toks := tk }) → wpAny (model Challenge.rw_ah5013_01.row.prog w) callerA (call (.ref 337) [.ref la]) Q E s₁ := by
    intro Q E hQ
    refine law_call w mg mb (A := callerA) (s := s₁) (mean := ExcName.means s₀.heap) ⟨by decide +kernel, by decide +kernel, rfl⟩ rfl ⟨KX, TR⟩ T hrep (law_true ns hlen) fun v h tk k r => ?_
    cases r
    exact hQ h tk k
  refine key _ _ fun h tk k => ?_
  refine ⟨.inl ⟨_, .bool true, [], rfl, ?_, ?_, ?_, ?_⟩, ?_, rfl, ?_⟩
  · intro cls; rfl
  · exact .bool true
  · wrow_post
  · exact fun _ => ⟨List.nodup_nil, fun a m => by cases m⟩
  · exact .of_keep k
  · exact .of_eq hg)
end Mine
theorem PySem.Challenge.cw_ah5013_01_holds : PySem.Challenge.rw_ah5013_01.Holds :=
  Mine.holds
