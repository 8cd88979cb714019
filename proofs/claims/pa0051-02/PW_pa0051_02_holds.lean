import PyProof.Rows.All
import Wide.All
import OpenK.AllK
import Wide.FinOn
import PySem.Challenge.RW_pa0051_02
open PySem PySem.W PyProof.Rows
set_option Elab.async false
set_option autoImplicit false
namespace Mine

/-! ## abstract values -/
inductive V where
  | none
  | bool (b : Bool)
  | int (i : Int)
  | str (s : Str)
  | bytes (b : Array UInt8)
  | ty (n : String)
  | bi (n : String)
  | fn (a : Addr)
  | list (xs : List V)
  | tup (xs : List V)
  | own (k : Nat)
  | iset (n : Nat)
  | sdict (hs : Str → Int) (es : List (Str × Str))
  | rng (a b c : Int)

/-- an object that is a dict within (a frame's locals too) -/
def Dk (o : Obj) : Prop := ∃ es n, o.data = .dict es n
theorem Dk.no {o : Obj} {d : Data} (h : o.data = d) (k : ∀ es n, d ≠ .dict es n) : ¬ Dk o := fun ⟨es, n, q⟩ => k es n (h ▸ q)
def Ke (S : Addr → Prop) (h h' : Heap) : Prop :=
  ∀ b, S b → ∀ o, h.get? b = some o → (∃ sl, h'.get? b = some { o with slots := sl }) ∧ (¬ Dk o → h'.get? b = some o)
theorem Ke.refl (S : Addr → Prop) (h : Heap) : Ke S h h := fun _ _ o e => ⟨⟨o.slots, e⟩, fun _ => e⟩
theorem Ke.trans {S T : Addr → Prop} {h h' h'' : Heap} (x : Ke S h h') (y : Ke T h' h'') (st : ∀ a, S a → T a) : Ke S h h'' := by
  intro b sb o e
  obtain ⟨⟨sl, e1⟩, f1⟩ := x b sb o e
  obtain ⟨⟨sl2, e2⟩, f2⟩ := y b (st b sb) _ e1
  refine ⟨⟨sl2, e2⟩, fun hc => ?_⟩
  have := f1 hc
  exact (y b (st b sb) _ this).2 hc
theorem Ke.mono {S T : Addr → Prop} {h h' : Heap} (x : Ke T h h') (st : ∀ a, S a → T a) : Ke S h h' := fun b sb => x b (st b sb)
theorem Ke.of_keeps {S : Addr → Prop} {h h' : Heap} (k : ∀ b o, S b → h.get? b = some o → h'.get? b = some o) : Ke S h h' :=
  fun b sb o e => ⟨⟨o.slots, k b o sb e⟩, fun _ => k b o sb e⟩
theorem Ke.isList {S : Addr → Prop} {h h' : Heap} (x : Ke S h h') {a : Addr} {vs : Array Value} (sa : S a) (l : h.IsList a vs) : h'.IsList a vs := by
  obtain ⟨o, e, hc, n, hd⟩ := l
  exact ⟨o, (x a sa o e).2 (Dk.no hd fun _ _ q => by cases q), hc, n, hd⟩
/-- a list of one's own -/
def OwnL (h : Heap) (a : Addr) (vs : Array Value) : Prop := ∃ n, h.get? a = some { cls := .type "list", data := .seq vs n }
theorem OwnL.isList {h : Heap} {a : Addr} {vs : Array Value} (x : OwnL h a vs) : h.IsList a vs := let ⟨n, e⟩ := x; ⟨_, e, rfl, n, rfl⟩
theorem Ke.isOL {S : Addr → Prop} {h h' : Heap} (x : Ke S h h') {a : Addr} {vs : Array Value} (sa : S a) (l : OwnL h a vs) : OwnL h' a vs := by
  obtain ⟨n, e⟩ := l
  exact ⟨n, (x a sa _ e).2 (Dk.no rfl fun _ _ q => by cases q)⟩
theorem Ke.isTuple {S : Addr → Prop} {h h' : Heap} (x : Ke S h h') {a : Addr} {vs : Array Value} (sa : S a) (l : h.IsTuple a vs) : h'.IsTuple a vs := by
  obtain ⟨o, e, hc, n, hd⟩ := l
  exact ⟨o, (x a sa o e).2 (Dk.no hd fun _ _ q => by cases q), hc, n, hd⟩
theorem Ke.ns {S : Addr → Prop} {h h' : Heap} (x : Ke S h h') {a : Addr} {m : Str → Option Value} (sa : S a) (l : h.Ns a m) : h'.Ns a m := by
  obtain ⟨o, es, ep, e, hd, r⟩ := l
  obtain ⟨⟨sl, e1⟩, _⟩ := x a sa o e
  exact ⟨_, es, ep, e1, hd, r⟩
theorem Ke.isCell {S : Addr → Prop} {h h' : Heap} (x : Ke S h h') {a : Addr} {v : Option Value} (sa : S a) (l : h.IsCell a v) : h'.IsCell a v := by
  obtain ⟨o, e, hd⟩ := l
  obtain ⟨⟨sl, e1⟩, _⟩ := x a sa o e
  exact ⟨_, e1, hd⟩
theorem Ke.live {S : Addr → Prop} {h h' : Heap} (x : Ke S h h') {a : Addr} (sa : S a) (l : ∃ o, h.get? a = some o) : ∃ o, h'.get? a = some o := by
  obtain ⟨o, e⟩ := l
  obtain ⟨⟨sl, e1⟩, _⟩ := x a sa o e
  exact ⟨_, e1⟩

def IsSetN (h : Heap) (a : Addr) (n : Nat) : Prop := ∃ o es ep t, h.get? a = some o ∧ o.cls = .type "set" ∧ o.ExactSet ∧ o.data = .set es ep t ∧ t.fits es.size = true ∧ es.size = n
theorem Ke.isSetN {S : Addr → Prop} {h h' : Heap} (x : Ke S h h') {a : Addr} {n : Nat} (sa : S a) (l : IsSetN h a n) : IsSetN h' a n := by
  obtain ⟨o, es, ep, t, e, hc, r⟩ := l
  exact ⟨o, es, ep, t, (x a sa o e).2 (Dk.no r.2.1 fun _ _ q => by cases q), hc, r⟩
/-- the object that a dict of texts by texts is -/
def sEntry (e : DictEntry) : Option (Int × Str × Str) := match e.key, e.val with | .str k _, .str v _ => some (e.hash, k, v) | _, _ => none
def IsSDict (h : Heap) (a : Addr) (hs : Str → Int) (es : List (Str × Str)) : Prop :=
  ∃ o ds ep, h.get? a = some o ∧ (a == sysModules) = false ∧ o.cls = .type "dict" ∧ o.dict = none ∧ o.data = .dict ds ep ∧ ds.toList.map sEntry = es.map fun p => some (hs p.1, p.1, p.2)
theorem Ke.isSDict {S : Addr → Prop} {h h' : Heap} (x : Ke S h h') {a : Addr} {hs : Str → Int} {es : List (Str × Str)} (sa : S a) (l : IsSDict h a hs es) : IsSDict h' a hs es := by
  obtain ⟨o, ds, ep, e, hc, r⟩ := l
  obtain ⟨⟨sl, e1⟩, _⟩ := x a sa o e
  exact ⟨_, ds, ep, e1, hc, r⟩

theorem Ke.isRange {S : Addr → Prop} {h h' : Heap} (x : Ke S h h') {r : Addr} {a b c : Int} {t u v : Tok} (sa : S r) (l : IsRange h r a b c t u v) : IsRange h' r a b c t u v := (x r sa _ l).2 (Dk.no rfl fun _ _ q => by cases q)

mutual
inductive VR (h : Heap) (G : Addr → Prop) (O : List Addr) : Value → V → Prop
  | none : VR h G O .none .none
  | bool (b) : VR h G O (.bool b) (.bool b)
  | int (i t) : VR h G O (.int i t) (.int i)
  | str (x t) : VR h G O (.str x t) (.str x)
  | bytes (b t) : VR h G O (.bytes b t) (.bytes b)
  | ty (n) : VR h G O (.type n) (.ty n)
  | bi (n) : VR h G O (.builtin n) (.bi n)
  | fn (a) : VR h G O (.ref a) (.fn a)
  | list {a vs xs} : G a → h.IsList a vs → VRs h G O vs.toList xs → VR h G O (.ref a) (.list xs)
  | tup {a vs xs} : G a → h.IsTuple a vs → VRs h G O vs.toList xs → VR h G O (.ref a) (.tup xs)
  | own {k a} : O[k]? = some a → VR h G O (.ref a) (.own k)
  | iset {a n} : G a → IsSetN h a n → VR h G O (.ref a) (.iset n)
  | sdict {a hs es} : G a → IsSDict h a hs es → VR h G O (.ref a) (.sdict hs es)
  | rng {r a b c t u v} : G r → IsRange h r a b c t u v → VR h G O (.ref r) (.rng a b c)
inductive VRs (h : Heap) (G : Addr → Prop) (O : List Addr) : List Value → List V → Prop
  | nil : VRs h G O [] []
  | cons {v vs x xs} : VR h G O v x → VRs h G O vs xs → VRs h G O (v :: vs) (x :: xs)
end

mutual
theorem VR.mono {h h' : Heap} {G G' : Addr → Prop} {O O' : List Addr} (k : Ke G h h') (g : ∀ a, G a → G' a) (o : ∃ l, O' = O ++ l) : ∀ {v : Value} {x : V}, VR h G O v x → VR h' G' O' v x
  | _, _, .none => .none
  | _, _, .bool b => .bool b
  | _, _, .int i t => .int i t
  | _, _, .str x t => .str x t
  | _, _, .bytes b t => .bytes b t
  | _, _, .ty n => .ty n
  | _, _, .bi n => .bi n
  | _, _, .fn a => .fn a
  | _, _, .list ga l r => .list (g _ ga) (k.isList ga l) (VRs.mono k g o r)
  | _, _, .tup ga l r => .tup (g _ ga) (k.isTuple ga l) (VRs.mono k g o r)
  | _, _, .own (k := j) (a := a) e => .own (by
      obtain ⟨l, rfl⟩ := o
      have : j < O.length := by
        rcases Nat.lt_or_ge j O.length with q | q
        · exact q
        · rw [List.getElem?_eq_none q] at e; cases e
      rw [List.getElem?_append_left this]; exact e)
  | _, _, .iset ga l => .iset (g _ ga) (k.isSetN ga l)
  | _, _, .sdict ga l => .sdict (g _ ga) (k.isSDict ga l)
  | _, _, .rng ga l => .rng (g _ ga) (k.isRange ga l)
theorem VRs.mono {h h' : Heap} {G G' : Addr → Prop} {O O' : List Addr} (k : Ke G h h') (g : ∀ a, G a → G' a) (o : ∃ l, O' = O ++ l) : ∀ {vs : List Value} {xs : List V}, VRs h G O vs xs → VRs h' G' O' vs xs
  | _, _, .nil => .nil
  | _, _, .cons a b => .cons (VR.mono k g o a) (VRs.mono k g o b)
end

section
variable {h : Heap} {G : Addr → Prop} {O : List Addr}
def VRw (h : Heap) (G : Addr → Prop) (O : List Addr) (v : Value) : V → Prop
  | .none => v = .none
  | .bool b => v = .bool b
  | .int i => ∃ t, v = .int i t
  | .str i => ∃ t, v = .str i t
  | .bytes i => ∃ t, v = .bytes i t
  | .ty n => v = .type n
  | .bi n => v = .builtin n
  | .fn a => v = .ref a
  | .list xs => ∃ a vs, v = .ref a ∧ G a ∧ h.IsList a vs ∧ VRs h G O vs.toList xs
  | .tup xs => ∃ a vs, v = .ref a ∧ G a ∧ h.IsTuple a vs ∧ VRs h G O vs.toList xs
  | .own k => ∃ a, v = .ref a ∧ O[k]? = some a
  | .iset n => ∃ a, v = .ref a ∧ G a ∧ IsSetN h a n
  | .sdict hs es => ∃ a, v = .ref a ∧ G a ∧ IsSDict h a hs es
  | .rng a b c => ∃ r t u w, v = .ref r ∧ G r ∧ IsRange h r a b c t u w
theorem VR.inv {v : Value} {x : V} (r : VR h G O v x) : VRw h G O v x := by
  cases r with
  | none => exact rfl
  | bool b => exact rfl
  | int i t => exact ⟨t, rfl⟩
  | str i t => exact ⟨t, rfl⟩
  | bytes i t => exact ⟨t, rfl⟩
  | ty => exact rfl
  | bi => exact rfl
  | fn => exact rfl
  | list h1 h2 h3 => exact ⟨_, _, rfl, h1, h2, h3⟩
  | tup h1 h2 h3 => exact ⟨_, _, rfl, h1, h2, h3⟩
  | own h1 => exact ⟨_, rfl, h1⟩
  | iset h1 h2 => exact ⟨_, rfl, h1, h2⟩
  | sdict h1 h2 => exact ⟨_, rfl, h1, h2⟩
  | rng h1 h2 => exact ⟨_, _, _, _, rfl, h1, h2⟩
theorem VRs.length {vs : List Value} {xs : List V} (r : VRs h G O vs xs) : vs.length = xs.length := by
  induction vs generalizing xs with
  | nil => cases r; rfl
  | cons v vs ih => cases r with | cons a b => rw [List.length_cons, List.length_cons, ih b]
theorem VRs.append {vs ws : List Value} {xs ys : List V} (r : VRs h G O vs xs) (q : VRs h G O ws ys) : VRs h G O (vs ++ ws) (xs ++ ys) := by
  induction vs generalizing xs with
  | nil => cases r; exact q
  | cons v vs ih => cases r with | cons a b => exact .cons a (ih b)
theorem VRs.get {vs : List Value} {xs : List V} (r : VRs h G O vs xs) {k : Nat} {x : V} (e : xs[k]? = some x) : ∃ v, vs[k]? = some v ∧ VR h G O v x := by
  induction vs generalizing xs k with
  | nil => cases r; cases e
  | cons v vs ih =>
    cases r with
    | cons a b =>
      cases k with
      | zero => simp only [List.getElem?_cons_zero, Option.some.injEq] at e; subst e; exact ⟨v, rfl, a⟩
      | succ k => exact ih b (by simpa using e)
theorem VRs.take {vs : List Value} {xs : List V} (r : VRs h G O vs xs) (n : Nat) : VRs h G O (vs.take n) (xs.take n) := by
  induction vs generalizing xs n with
  | nil => cases r; simp; exact .nil
  | cons v vs ih =>
    cases r with
    | cons a b =>
      cases n with
      | zero => exact .nil
      | succ n => exact .cons a (ih b n)
theorem VRs.drop {vs : List Value} {xs : List V} (r : VRs h G O vs xs) (n : Nat) : VRs h G O (vs.drop n) (xs.drop n) := by
  induction vs generalizing xs n with
  | nil => cases r; simp; exact .nil
  | cons v vs ih =>
    cases r with
    | cons a b =>
      cases n with
      | zero => exact .cons a b
      | succ n => exact ih b n
end

end Mine
namespace Mine

structure Gc where
  prog : Program
  w : World
  base : Heap

/-- a global or built-in name -/
def Glb (g : Gc) (x : Str) (X : V) : Prop :=
  ∃ v mg mb, g.base.Ns mainGlobals mg ∧ g.base.Ns builtinsNs mb ∧ (mg x = some v ∨ (mg x = none ∧ mb x = some v)) ∧ VR g.base (fun a => ∃ o, g.base.get? a = some o) [] v X
def AllG (g : Gc) (l : List (Str × V)) : Prop := ∀ p ∈ l, Glb g p.1 p.2
theorem AllG.nil {g : Gc} : AllG g [] := fun _ h => nomatch h
theorem AllG.cons {g : Gc} {x : Str} {X : V} {l : List (Str × V)} (h : Glb g x X) (r : AllG g l) : AllG g ((x, X) :: l) := fun p hp => by
  cases hp with
  | head => exact h
  | tail _ hp => exact r p hp
structure AS where
  vars : List (Option V)
  own : List (List V)

structure Cx where
  g : Gc
  A : Around
  E : Value → Shared → Prop
  he : Heap
  G₀ : Addr → Prop
  env : Env
  fenv : Env
  outer : List Env
  names : List Str
  cap : List (Str × V)
  priv : List Addr
  gls : List (Str × V)
  hx : Bool := false
abbrev Cx.M (c : Cx) : Model := model c.g.prog c.g.w

inductive At : List Str → Nat → Str → Prop
  | here {x l} : At (x :: l) 0 x
  | there {x y l k} : At l k x → At (y :: l) (k + 1) x
inductive Vat : List (Option V) → Nat → V → Prop
  | here {x l} : Vat (some x :: l) 0 x
  | there {x y l k} : Vat l k x → Vat (y :: l) (k + 1) x
inductive Upd : List (Option V) → Nat → V → List (Option V) → Prop
  | here {x y l} : Upd (y :: l) 0 x (some x :: l)
  | there {x y l l' k} : Upd l k x l' → Upd (y :: l) (k + 1) x (y :: l')

theorem At.mem {l : List Str} {k : Nat} {x : Str} (a : At l k x) : x ∈ l := by
  induction a with
  | here => exact .head _
  | there _ ih => exact .tail _ ih
theorem At.get {l : List Str} {k : Nat} {x : Str} (a : At l k x) : l[k]? = some x := by
  induction a with
  | here => rfl
  | there _ ih => simpa using ih
theorem Vat.get {l : List (Option V)} {k : Nat} {x : V} (a : Vat l k x) : l[k]? = some (some x) := by
  induction a with
  | here => rfl
  | there _ ih => simpa using ih
theorem Vat.of_get {l : List (Option V)} {k : Nat} {x : V} (a : l[k]? = some (some x)) : Vat l k x := by
  induction l generalizing k with
  | nil => simp at a
  | cons y l ih =>
    cases k with
    | zero => simp at a; subst a; exact .here
    | succ k => exact .there (ih (by simpa using a))
theorem Upd.same {l l' : List (Option V)} {k : Nat} {x : V} (u : Upd l k x l') : Vat l' k x := by
  induction u with
  | here => exact .here
  | there _ ih => exact .there ih
theorem Upd.other {l l' : List (Option V)} {k : Nat} {x : V} (u : Upd l k x l') : ∀ {j : Nat} {y : V}, j ≠ k → Vat l' j y → Vat l j y := by
  induction u with
  | here => intro j y hj v; cases v with
    | here => exact absurd rfl hj
    | there v => exact .there v
  | there _ ih => intro j y hj v; cases v with
    | here => exact .here
    | there v => exact .there (ih (fun e => hj (by rw [e])) v)
theorem nodup_at {l : List Str} (h : l.Nodup) {k j : Nat} {x : Str} (a : At l k x) (b : At l j x) : k = j := by
  induction a generalizing j with
  | here =>
    cases b with
    | here => rfl
    | there b => exact absurd b.mem (List.nodup_cons.mp h).1
  | there a ih =>
    cases b with
    | here => exact absurd a.mem (List.nodup_cons.mp h).1
    | there b => rw [ih (List.nodup_cons.mp h).2 b]

theorem ns_unique {h : Heap} {a : Addr} {m m' : Str → Option Value} (x : h.Ns a m) (y : h.Ns a m') : m = m' := by
  obtain ⟨o, es, ep, e, hd, _, f⟩ := x
  obtain ⟨o', es', ep', e', hd', _, f'⟩ := y
  rw [e] at e'; cases e'
  rw [hd] at hd'; cases hd'
  funext n
  rw [← f n, ← f' n]

def VarIs (env : Env) (h : Heap) (G : Addr → Prop) (O : List Addr) (x : Str) (X : V) : Prop :=
  ∃ v, VR h G O v X ∧ ((env.kindOf x = some .local ∧ ∃ m, h.Ns env.locals m ∧ m x = some v) ∨ (env.kindOf x = some .cell ∧ ∃ a, env.cells.lookup x = some a ∧ h.IsCell a (some v)))

structure Rl (c : Cx) (σ : AS) (s : Shared) (G : Addr → Prop) (O : List Addr) : Prop where
  base : c.g.base.StaysIn s.heap
  kept : Ke (fun _ => True) c.he s.heap
  frames : s.heap.FunFrames c.g.base (c.fenv :: c.outer)
  fdk : ∀ L ∈ (c.fenv :: c.outer).filterMap (·.frame), ∃ o, s.heap.get? L = some o ∧ Dk o
  glive : ∀ a, G a → ∃ o, s.heap.get? a = some o
  gnew : ∀ a, G a → c.G₀ a ∨ c.he.get? a = none
  g0 : ∀ a, c.G₀ a → G a
  priv : ∀ a ∈ c.priv, c.he.get? a = none ∧ ¬ G a ∧ a ∉ O ∧ ∃ o, s.heap.get? a = some o
  onew : ∀ a ∈ O, c.he.get? a = none ∧ ¬ G a
  onod : O.Nodup
  ns : ∃ m, s.heap.Ns c.env.locals m
  cells : ∀ x ∈ c.names, c.env.kindOf x = some .cell → ∀ a, c.env.cells.lookup x = some a → ∃ vo, s.heap.IsCell a vo
  vars : ∀ k x X, At c.names k x → Vat σ.vars k X → VarIs c.env s.heap G O x X
  olen : O.length = σ.own.length
  own : ∀ (k : Nat) (xs : List V), σ.own[k]? = some xs → ∃ a vs, O[k]? = some a ∧ OwnL s.heap a vs ∧ VRs s.heap G O vs.toList xs
  cap : ∀ p ∈ c.cap, ∃ v a, VR s.heap c.G₀ [] v p.2 ∧ c.env.cells.lookup p.1 = some a ∧ s.heap.IsCell a (some v) ∧ (∃ o, c.he.get? a = some o)

structure Ok (c : Cx) : Prop where
  hd : c.hx = false → c.A.handled = none
  fr : c.A.frames = some (c.fenv :: c.outer)
  kind : c.env.scope.kind = .function
  globals : c.env.globals = mainGlobals
  builtins : c.env.builtins = builtinsNs
  nodup : c.names.Nodup
  nk : ∀ x ∈ c.names, c.env.kindOf x = some .local ∨ (c.env.kindOf x = some .cell ∧ ∃ a ∈ c.priv, c.env.cells.lookup x = some a)
  lp : c.env.locals ∈ c.priv
  cl : ∀ x ∈ c.names, c.env.kindOf x = some .cell → ∀ a, c.env.cells.lookup x = some a → a ≠ c.env.locals
  ci : ∀ x ∈ c.names, ∀ y ∈ c.names, c.env.kindOf x = some .cell → c.env.kindOf y = some .cell → ∀ a, c.env.cells.lookup x = some a → c.env.cells.lookup y = some a → x = y
  capk : ∀ p ∈ c.cap, c.env.kindOf p.1 = some .cell
  units : c.A.units ≤ 3 * c.A.depth
  depth : c.A.depth ≤ 500
  nolim : c.g.base.NoLimit
  ffr : ∀ L ∈ (c.fenv :: c.outer).filterMap (·.frame), L ∈ c.priv ∨ ∃ o, c.he.get? L = some o
  bg : ∀ a o, c.g.base.get? a = some o → c.G₀ a
  gk : ∀ p ∈ c.gls, c.env.kindOf p.1 = some .globalImplicit ∧ Glb c.g p.1 p.2 ∧ (p.1 == ("__debug__" : Str)) = false
  dbg : ∀ x ∈ c.names, (x == ("__debug__" : Str)) = false

structure LeS (c : Cx) (s : Shared) (G : Addr → Prop) (O : List Addr) (s' : Shared) (G' : Addr → Prop) (O' : List Addr) : Prop where
  same : ∃ h tk, s' = { s with heap := h, toks := tk }
  g : ∀ a, G a → G' a
  ke : Ke (fun a => a ∉ c.priv ∧ a ∉ O) s.heap s'.heap
  on : ∀ a ∈ O', a ∈ O ∨ s.heap.get? a = none
  gn : ∀ a, G' a → G a ∨ s.heap.get? a = none
  live : ∀ a o, s.heap.get? a = some o → ∃ o', s'.heap.get? a = some o'
structure Le (c : Cx) (s : Shared) (G : Addr → Prop) (O : List Addr) (s' : Shared) (G' : Addr → Prop) (O' : List Addr) : Prop extends LeS c s G O s' G' O' where
  o : ∃ l, O' = O ++ l
section
variable {c : Cx} {σ : AS} {s s' s'' : Shared} {G G' G'' : Addr → Prop} {O O' O'' : List Addr}
theorem LeS.refl : LeS c s G O s G O := ⟨⟨s.heap, s.toks, rfl⟩, fun _ h => h, Ke.refl _ _, fun _ h => .inl h, fun _ h => .inl h, fun _ o e => ⟨o, e⟩⟩
theorem LeS.trans (x : LeS c s G O s' G' O') (y : LeS c s' G' O' s'' G'' O'') : LeS c s G O s'' G'' O'' := by
  obtain ⟨h, tk, rfl⟩ := x.same
  obtain ⟨h', tk', rfl⟩ := y.same
  refine ⟨⟨h', tk', rfl⟩, fun a q => y.g a (x.g a q), fun b sb o e => ?_, fun a ha => ?_, fun a ha => ?_, fun a o e => ?_⟩
  · obtain ⟨⟨sl, e1⟩, f1⟩ := x.ke b sb o e
    have nb : b ∉ c.priv ∧ b ∉ O' := ⟨sb.1, fun q => by
      rcases x.on b q with q | q
      · exact sb.2 q
      · rw [e] at q; cases q⟩
    obtain ⟨⟨sl2, e2⟩, _⟩ := y.ke b nb _ e1
    exact ⟨⟨sl2, e2⟩, fun hc => (y.ke b nb _ (f1 hc)).2 hc⟩
  · rcases y.on a ha with q | q
    · exact x.on a q
    · refine .inr ?_
      cases e : s.heap.get? a with
      | none => rfl
      | some o => obtain ⟨o', e'⟩ := x.live a o e; rw [q] at e'; cases e'
  · rcases y.gn a ha with q | q
    · exact x.gn a q
    · refine .inr ?_
      cases e : s.heap.get? a with
      | none => rfl
      | some o => obtain ⟨o', e'⟩ := x.live a o e; rw [q] at e'; cases e'
  · obtain ⟨o', e'⟩ := x.live a o e
    exact y.live a o' e'
theorem LeS.keG (x : LeS c s G O s' G' O') (R : Rl c σ s G O) : Ke G s.heap s'.heap := x.ke.mono fun a g => ⟨fun q => (R.priv a q).2.1 g, fun q => (R.onew a q).2 g⟩
theorem Le.refl : Le c s G O s G O := ⟨LeS.refl, [], by simp⟩
theorem Le.trans (x : Le c s G O s' G' O') (y : Le c s' G' O' s'' G'' O'') : Le c s G O s'' G'' O'' := by
  obtain ⟨l, hl⟩ := x.o
  obtain ⟨l', hl'⟩ := y.o
  exact ⟨x.toLeS.trans y.toLeS, l ++ l', by rw [hl', hl, List.append_assoc]⟩
theorem Le.vr (x : Le c s G O s' G' O') (R : Rl c σ s G O) {v : Value} {y : V} (r : VR s.heap G O v y) : VR s'.heap G' O' v y := r.mono (x.keG R) x.g x.o
theorem Le.vrs (x : Le c s G O s' G' O') (R : Rl c σ s G O) {v : List Value} {y : List V} (r : VRs s.heap G O v y) : VRs s'.heap G' O' v y := r.mono (x.keG R) x.g x.o
end

/-- what a tree that hands back a value does -/
def Po (c : Cx) (s : Shared) (G : Addr → Prop) (O : List Addr) (P : V → AS → Prop) (v : Value) (s' : Shared) : Prop :=
  ∃ x σ' G' O', P x σ' ∧ Rl c σ' s' G' O' ∧ Le c s G O s' G' O' ∧ VR s'.heap G' O' v x
def PoB (c : Cx) (s : Shared) (G : Addr → Prop) (O : List Addr) (P : Bool → AS → Prop) (b : Bool) (s' : Shared) : Prop :=
  ∃ σ' G' O', P b σ' ∧ Rl c σ' s' G' O' ∧ Le c s G O s' G' O'
def PoL (c : Cx) (s : Shared) (G : Addr → Prop) (O : List Addr) (P : List V → AS → Prop) (v : List Value) (s' : Shared) : Prop :=
  ∃ x σ' G' O', P x σ' ∧ Rl c σ' s' G' O' ∧ Le c s G O s' G' O' ∧ VRs s'.heap G' O' v x
def TV (c : Cx) (t : Sem Value) (σ : AS) (P : V → AS → Prop) : Prop :=
  ∀ s G O, Rl c σ s G O → wpAny c.M c.A t (Po c s G O P) c.E s
abbrev EV (c : Cx) (e : Expr) (σ : AS) (P : V → AS → Prop) : Prop := TV c (eval e c.env) σ P
def TL (c : Cx) (t : Sem (List Value)) (σ : AS) (P : List V → AS → Prop) : Prop :=
  ∀ s G O, Rl c σ s G O → wpAny c.M c.A t (PoL c s G O P) c.E s
def TB (c : Cx) (t : Sem Bool) (σ : AS) (P : Bool → AS → Prop) : Prop :=
  ∀ s G O, Rl c σ s G O → wpAny c.M c.A t (PoB c s G O P) c.E s
abbrev EB (c : Cx) (e : Expr) (σ : AS) (P : Bool → AS → Prop) : Prop := TB c (isTrue e c.env (eval e c.env)) σ P
def O2 (c : Cx) (f : Value → Value → Sem Value) (x y : V) (σ : AS) (P : V → AS → Prop) : Prop :=
  ∀ s G O v u, Rl c σ s G O → VR s.heap G O v x → VR s.heap G O u y → wpAny c.M c.A (f v u) (Po c s G O P) c.E s
def B1 (c : Cx) (f : Value → Sem Bool) (x : V) (σ : AS) (P : Bool → AS → Prop) : Prop :=
  ∀ s G O v, Rl c σ s G O → VR s.heap G O v x → wpAny c.M c.A (f v) (PoB c s G O P) c.E s

inductive Fl where
  | next | brk | cont
  | ret (v : V)
inductive FR (h : Heap) (G : Addr → Prop) (O : List Addr) : Flow → Fl → Prop
  | next : FR h G O .next .next
  | brk : FR h G O .brk .brk
  | cont : FR h G O .cont .cont
  | ret {v x} : VR h G O v x → FR h G O (.ret v) (.ret x)
def PoF (c : Cx) (s : Shared) (G : Addr → Prop) (O : List Addr) (P : Fl → AS → Prop) (f : Flow) (s' : Shared) : Prop :=
  ∃ x σ' G' O', P x σ' ∧ Rl c σ' s' G' O' ∧ Le c s G O s' G' O' ∧ FR s'.heap G' O' f x
def TF (c : Cx) (t : Sem Flow) (σ : AS) (P : Fl → AS → Prop) : Prop :=
  ∀ s G O, Rl c σ s G O → wpAny c.M c.A t (PoF c s G O P) c.E s
abbrev EX (c : Cx) (st : Stmt) (σ : AS) (P : Fl → AS → Prop) : Prop := TF c (exec st c.env) σ P
abbrev XS (c : Cx) (ss : List Stmt) (σ : AS) (P : Fl → AS → Prop) : Prop := TF c (execs ss c.env) σ P

section
variable {c : Cx} {σ : AS}

theorem Rl.toks {s : Shared} {G : Addr → Prop} {O : List Addr} (r : Rl c σ s G O) (tk : Nat) : Rl c σ { s with toks := tk } G O := ⟨r.base, r.kept, r.frames, r.fdk, r.glive, r.gnew, r.g0, r.priv, r.onew, r.onod, r.ns, r.cells, r.vars, r.olen, r.own, r.cap⟩
theorem Le.toks (s : Shared) (G : Addr → Prop) (O : List Addr) (tk : Nat) : Le c s G O { s with toks := tk } G O := ⟨⟨⟨s.heap, tk, rfl⟩, fun _ h => h, Ke.refl _ _, fun _ h => .inl h, fun _ h => .inl h, fun _ o e => ⟨o, e⟩⟩, [], by simp⟩

theorem TV.mono {t : Sem Value} {P P' : V → AS → Prop} (h : TV c t σ P) (k : ∀ x σ', P x σ' → P' x σ') : TV c t σ P' := by
  intro s G O R
  exact wpAny_mono (h s G O R) (fun v s' ⟨x, σ', G', O', p, r⟩ => ⟨x, σ', G', O', k _ _ p, r⟩) fun _ _ e => e
theorem TB.mono {t : Sem Bool} {P P' : Bool → AS → Prop} (h : TB c t σ P) (k : ∀ x σ', P x σ' → P' x σ') : TB c t σ P' := by
  intro s G O R
  exact wpAny_mono (h s G O R) (fun v s' ⟨σ', G', O', p, r⟩ => ⟨σ', G', O', k _ _ p, r⟩) fun _ _ e => e
theorem TF.mono {t : Sem Flow} {P P' : Fl → AS → Prop} (h : TF c t σ P) (k : ∀ x σ', P x σ' → P' x σ') : TF c t σ P' := by
  intro s G O R
  exact wpAny_mono (h s G O R) (fun v s' ⟨x, σ', G', O', p, r⟩ => ⟨x, σ', G', O', k _ _ p, r⟩) fun _ _ e => e


theorem Po.le {s s₁ : Shared} {G G₁ : Addr → Prop} {O O₁ : List Addr} {P : V → AS → Prop} {v : Value} {s' : Shared} (l : Le c s G O s₁ G₁ O₁) (p : Po c s₁ G₁ O₁ P v s') : Po c s G O P v s' :=
  let ⟨x, σ', G', O', h1, h2, h3, h4⟩ := p; ⟨x, σ', G', O', h1, h2, l.trans h3, h4⟩
theorem PoB.le {s s₁ : Shared} {G G₁ : Addr → Prop} {O O₁ : List Addr} {P : Bool → AS → Prop} {v : Bool} {s' : Shared} (l : Le c s G O s₁ G₁ O₁) (p : PoB c s₁ G₁ O₁ P v s') : PoB c s G O P v s' :=
  let ⟨σ', G', O', h1, h2, h3⟩ := p; ⟨σ', G', O', h1, h2, l.trans h3⟩
theorem PoF.le {s s₁ : Shared} {G G₁ : Addr → Prop} {O O₁ : List Addr} {P : Fl → AS → Prop} {v : Flow} {s' : Shared} (l : Le c s G O s₁ G₁ O₁) (p : PoF c s₁ G₁ O₁ P v s') : PoF c s G O P v s' :=
  let ⟨x, σ', G', O', h1, h2, h3, h4⟩ := p; ⟨x, σ', G', O', h1, h2, l.trans h3, h4⟩

theorem TV.use {t : Sem Value} {P : V → AS → Prop} {s : Shared} {G : Addr → Prop} {O : List Addr} {Q : Value → Shared → Prop} (h : TV c t σ P) (R : Rl c σ s G O)
    (k : ∀ a s₁ x σ₁ G₁ O₁, P x σ₁ → Rl c σ₁ s₁ G₁ O₁ → Le c s G O s₁ G₁ O₁ → VR s₁.heap G₁ O₁ a x → Q a s₁) : wpAny c.M c.A t Q c.E s :=
  wpAny_mono (h s G O R) (fun a s₁ p => let ⟨x, σ₁, G₁, O₁, h1, h2, h3, h4⟩ := p; k a s₁ x σ₁ G₁ O₁ h1 h2 h3 h4) fun _ _ e => e
theorem TL.use {t : Sem (List Value)} {P : List V → AS → Prop} {s : Shared} {G : Addr → Prop} {O : List Addr} {Q : List Value → Shared → Prop} (h : TL c t σ P) (R : Rl c σ s G O)
    (k : ∀ a s₁ x σ₁ G₁ O₁, P x σ₁ → Rl c σ₁ s₁ G₁ O₁ → Le c s G O s₁ G₁ O₁ → VRs s₁.heap G₁ O₁ a x → Q a s₁) : wpAny c.M c.A t Q c.E s :=
  wpAny_mono (h s G O R) (fun a s₁ p => let ⟨x, σ₁, G₁, O₁, h1, h2, h3, h4⟩ := p; k a s₁ x σ₁ G₁ O₁ h1 h2 h3 h4) fun _ _ e => e
theorem TB.use {t : Sem Bool} {P : Bool → AS → Prop} {s : Shared} {G : Addr → Prop} {O : List Addr} {Q : Bool → Shared → Prop} (h : TB c t σ P) (R : Rl c σ s G O)
    (k : ∀ a s₁ σ₁ G₁ O₁, P a σ₁ → Rl c σ₁ s₁ G₁ O₁ → Le c s G O s₁ G₁ O₁ → Q a s₁) : wpAny c.M c.A t Q c.E s :=
  wpAny_mono (h s G O R) (fun a s₁ p => let ⟨σ₁, G₁, O₁, h1, h2, h3⟩ := p; k a s₁ σ₁ G₁ O₁ h1 h2 h3) fun _ _ e => e
theorem TF.use {t : Sem Flow} {P : Fl → AS → Prop} {s : Shared} {G : Addr → Prop} {O : List Addr} {Q : Flow → Shared → Prop} (h : TF c t σ P) (R : Rl c σ s G O)
    (k : ∀ a s₁ x σ₁ G₁ O₁, P x σ₁ → Rl c σ₁ s₁ G₁ O₁ → Le c s G O s₁ G₁ O₁ → FR s₁.heap G₁ O₁ a x → Q a s₁) : wpAny c.M c.A t Q c.E s :=
  wpAny_mono (h s G O R) (fun a s₁ p => let ⟨x, σ₁, G₁, O₁, h1, h2, h3, h4⟩ := p; k a s₁ x σ₁ G₁ O₁ h1 h2 h3 h4) fun _ _ e => e

theorem funFrames_of {h h' base : Heap} : ∀ {l : List Env}, (∀ b ∈ l.filterMap (·.frame), ∀ o, h.get? b = some o → (∀ vs, o.data ≠ .fields vs) → ∃ o', h'.get? b = some o' ∧ (∀ vs, o'.data ≠ .fields vs)) → h.FunFrames base l → h'.FunFrames base l
  | [], _, _ => trivial
  | _ :: _, k, ⟨hk, ⟨L, o, hf, hn, ho, hd⟩, hr⟩ =>
    let ⟨o', ho', hd'⟩ := k L (by rw [List.filterMap_cons, hf]; exact .head _) o ho hd
    ⟨hk, ⟨L, o', hf, hn, ho', hd'⟩, funFrames_of (fun b hb => k b (by rw [List.filterMap_cons, hf]; exact .tail _ hb)) hr⟩

/-- how the relation goes on when the heap turns at D alone -/
theorem Rl.move {σ' : AS} {s : Shared} {G G' : Addr → Prop} {O O' : List Addr} {h' : Heap} {tk : Nat} (R : Rl c σ s G O) (D : Addr → Prop) (k : Ke (fun b => ¬ D b) s.heap h') (hb : c.g.base.StaysIn h') (hD : ∀ b, D b → ¬ G b ∧ c.he.get? b = none)
    (hf : ∀ b, D b → b ∈ c.priv ∨ b ∈ (c.fenv :: c.outer).filterMap (·.frame) → ∀ o, s.heap.get? b = some o → ∃ o', h'.get? b = some o' ∧ ((∀ vs, o.data ≠ .fields vs) → ∀ vs, o'.data ≠ .fields vs) ∧ (Dk o → Dk o'))
    (gG : ∀ a, G a → G' a) (gn : ∀ a, G' a → G a ∨ (c.he.get? a = none ∧ a ∉ c.priv ∧ ∃ o, h'.get? a = some o))
    (oO : ∀ a ∈ O', c.he.get? a = none ∧ ¬ G' a ∧ a ∉ c.priv) (on : O'.Nodup)
    (ns : ∃ m, h'.Ns c.env.locals m) (cells : ∀ x ∈ c.names, c.env.kindOf x = some .cell → ∀ a, c.env.cells.lookup x = some a → ∃ vo, h'.IsCell a vo)
    (vars : ∀ k x X, At c.names k x → Vat σ'.vars k X → VarIs c.env h' G' O' x X) (olen : O'.length = σ'.own.length)
    (own : ∀ (k : Nat) (xs : List V), σ'.own[k]? = some xs → ∃ a vs, O'[k]? = some a ∧ OwnL h' a vs ∧ VRs h' G' O' vs.toList xs) : Rl c σ' { s with heap := h', toks := tk } G' O' := by
  have keG : Ke G s.heap h' := k.mono fun a ga da => (hD a da).1 ga
  have kept : Ke (fun _ => True) c.he h' := by
    intro b _ o e
    obtain ⟨⟨sl, e1⟩, f1⟩ := R.kept b trivial o e
    have nd : ¬ D b := fun d => by rw [(hD b d).2] at e; cases e
    obtain ⟨⟨sl2, e2⟩, _⟩ := k b nd _ e1
    exact ⟨⟨sl2, e2⟩, fun q => (k b nd _ (f1 q)).2 q⟩
  refine ⟨hb, kept, ?_, ?_, fun a ga => ?_, fun a ga => ?_, fun a ga => gG a (R.g0 a ga), fun a ha => ?_, fun a ha => ⟨(oO a ha).1, (oO a ha).2.1⟩, on, ns, cells, vars, olen, own, fun p hp => ?_⟩
  · refine funFrames_of (fun b hb o e hd => ?_) R.frames
    by_cases d : D b
    · exact (hf b d (.inr hb) o e).imp fun o' q => ⟨q.1, q.2.1 hd⟩
    · obtain ⟨⟨sl, e1⟩, _⟩ := k b d o e
      exact ⟨_, e1, hd⟩
  · intro L hL
    obtain ⟨o, e, hd⟩ := R.fdk L hL
    by_cases d : D L
    · exact (hf L d (.inr hL) o e).imp fun o' q => ⟨q.1, q.2.2 hd⟩
    · obtain ⟨⟨sl, e1⟩, _⟩ := k L d o e
      exact ⟨_, e1, hd⟩
  · rcases gn a ga with g | g
    · exact keG.live g (R.glive a g)
    · exact g.2.2
  · rcases gn a ga with g | g
    · exact R.gnew a g
    · exact .inr g.1
  · obtain ⟨h1, h2, h3, hl⟩ := R.priv a ha
    refine ⟨h1, fun g => ?_, fun q => (oO a q).2.2 ha, ?_⟩
    · rcases gn a g with g | g
      · exact h2 g
      · exact g.2.1 ha
    · by_cases d : D a
      · obtain ⟨o, e⟩ := hl
        exact (hf a d (.inl ha) o e).imp fun o' q => q.1
      · exact k.live d hl
  · obtain ⟨u, b, h1, h2, h3, o, h4⟩ := R.cap p hp
    have nd : ¬ D b := fun d => by rw [(hD b d).2] at h4; cases h4
    exact ⟨u, b, h1.mono (keG.mono R.g0) (fun _ q => q) ⟨[], by simp⟩, h2, k.isCell nd h3, o, h4⟩

/-- the same for the order: what turns is ours, or was made after the start -/
theorem LeS.move {s₀ s : Shared} {G₀ G G' : Addr → Prop} {O₀ O O' : List Addr} {h' : Heap} {tk : Nat} (L : LeS c s₀ G₀ O₀ s G O) (D : Addr → Prop) (k : Ke (fun b => ¬ D b) s.heap h') (hD : ∀ b, D b → b ∈ c.priv ∨ b ∈ O ∨ s₀.heap.get? b = none)
    (hf : ∀ b, D b → b ∈ c.priv ∨ b ∈ O → ∀ o, s.heap.get? b = some o → ∃ o', h'.get? b = some o') (gG : ∀ a, G a → G' a) (on : ∀ a ∈ O', a ∈ O ∨ s.heap.get? a = none) (gn : ∀ a, G' a → G a ∨ s₀.heap.get? a = none) : LeS c s₀ G₀ O₀ { s with heap := h', toks := tk } G' O' := by
  obtain ⟨h, t, rfl⟩ := L.same
  refine ⟨⟨h', tk, rfl⟩, fun a q => gG a (L.g a q), fun b sb o e => ?_, fun a ha => ?_, fun a ga => (gn a ga).elim (L.gn a) .inr, fun a o e => ?_⟩
  · obtain ⟨⟨sl, e1⟩, f1⟩ := L.ke b sb o e
    have nd : ¬ D b := fun d => by
      rcases hD b d with q | q | q
      · exact sb.1 q
      · rcases L.on b q with q | q
        · exact sb.2 q
        · rw [e] at q; cases q
      · rw [e] at q; cases q
    obtain ⟨⟨sl2, e2⟩, _⟩ := k b nd _ e1
    exact ⟨⟨sl2, e2⟩, fun hc => (k b nd _ (f1 hc)).2 hc⟩
  · rcases on a ha with q | q
    · exact L.on a q
    · refine .inr ?_
      cases e : s₀.heap.get? a with
      | none => rfl
      | some o => obtain ⟨o', e'⟩ := L.live a o e; rw [q] at e'; cases e'
  · obtain ⟨o', e'⟩ := L.live a o e
    by_cases d : D a
    · rcases hD a d with q | q | q
      · exact hf a d (.inl q) o' e'
      · exact hf a d (.inr q) o' e'
      · rw [e] at q; cases q
    · exact k.live d ⟨o', e'⟩

/-- the heap turns where nothing of ours lies -/
theorem Rl.keep {s : Shared} {G G' : Addr → Prop} {O : List Addr} {h' : Heap} {tk : Nat} (R : Rl c σ s G O) (D : Addr → Prop) (k : Ke (fun b => ¬ D b) s.heap h') (hb : c.g.base.StaysIn h') (hD : ∀ b, D b → ¬ G b ∧ c.he.get? b = none ∧ b ∉ c.priv ∧ b ∉ O)
    (ok : Ok c) (gG : ∀ a, G a → G' a) (gn : ∀ a, G' a → G a ∨ (c.he.get? a = none ∧ a ∉ c.priv ∧ a ∉ O ∧ ∃ o, h'.get? a = some o)) : Rl c σ { s with heap := h', toks := tk } G' O := by
  have keG : Ke G s.heap h' := k.mono fun a ga da => (hD a da).1 ga
  have ns' : ∀ m, s.heap.Ns c.env.locals m → h'.Ns c.env.locals m := fun m q => k.ns (fun d => (hD _ d).2.2.1 ok.lp) q
  have cell' : ∀ x ∈ c.names, c.env.kindOf x = some .cell → ∀ a, c.env.cells.lookup x = some a → ∀ vo, s.heap.IsCell a vo → h'.IsCell a vo := by
    intro x hx hk a ha vo hc
    refine k.isCell (fun d => ?_) hc
    rcases ok.nk x hx with q | ⟨_, a', hp, e⟩
    · rw [hk] at q; cases q
    · rw [ha] at e; cases e
      exact (hD _ d).2.2.1 hp
  refine R.move (σ' := σ) (O' := O) (tk := tk) D k hb (fun b d => ⟨(hD b d).1, (hD b d).2.1⟩) (fun b d hb => absurd (hb.elim .inl (ok.ffr b)) fun r => r.elim (hD b d).2.2.1 fun ⟨o2, e2⟩ => by rw [(hD b d).2.1] at e2; cases e2) gG (fun a ga => (gn a ga).imp id fun q => ⟨q.1, q.2.1, q.2.2.2⟩) (fun a ha => ⟨(R.onew a ha).1, fun g => ?_, fun q => (R.priv a q).2.2.1 ha⟩) R.onod
    (R.ns.imp ns') (fun x hx hk a ha => (R.cells x hx hk a ha).imp fun vo q => cell' x hx hk a ha vo q) (fun j x X hx hX => ?_) R.olen (fun j xs e => ?_)
  · rcases gn a g with g | g
    · exact (R.onew a ha).2 g
    · exact g.2.2.1 ha
  · obtain ⟨v, h1, h2⟩ := R.vars j x X hx hX
    refine ⟨v, h1.mono keG gG ⟨[], by simp⟩, h2.imp (fun q => ⟨q.1, q.2.imp fun m r => ⟨ns' m r.1, r.2⟩⟩) fun q => ⟨q.1, q.2.imp fun a r => ⟨r.1, cell' x hx.mem q.1 a r.1 _ r.2⟩⟩⟩
  · obtain ⟨b, vs, h1, h2, h3⟩ := R.own j xs e
    exact ⟨b, vs, h1, k.isOL (fun d => (hD b d).2.2.2 (List.mem_of_getElem? h1)) h2, h3.mono keG gG ⟨[], by simp⟩⟩

theorem Rl.oalive {s : Shared} {G : Addr → Prop} {O : List Addr} (R : Rl c σ s G O) {a : Addr} (ha : a ∈ O) : ∃ o, s.heap.get? a = some o := by
  obtain ⟨j, e⟩ := List.getElem?_of_mem ha
  have hj : j < σ.own.length := by rw [← R.olen]; exact (List.getElem?_eq_some_iff.mp e).1
  obtain ⟨b, vs, h1, ⟨n, h2⟩, _⟩ := R.own j _ (List.getElem?_eq_getElem hj)
  rw [e] at h1; cases h1
  exact ⟨_, h2⟩
/-- an address where nothing lies is no one's -/
theorem Rl.free {s : Shared} {G : Addr → Prop} {O : List Addr} (R : Rl c σ s G O) {a : Addr} (q : s.heap.get? a = none) : ¬ G a ∧ c.he.get? a = none ∧ a ∉ c.priv ∧ a ∉ O := by
  refine ⟨fun g => ?_, ?_, fun hp => ?_, fun ho => ?_⟩
  · obtain ⟨o, e⟩ := R.glive a g; rw [q] at e; cases e
  · cases e : c.he.get? a with
    | none => rfl
    | some o => obtain ⟨⟨sl, e1⟩, _⟩ := R.kept a trivial o e; rw [q] at e1; cases e1
  · obtain ⟨_, _, _, o, e⟩ := R.priv a hp; rw [q] at e; cases e
  · obtain ⟨o, e⟩ := R.oalive ho; rw [q] at e; cases e
/-- the heap only grows -/
theorem Rl.grow {s : Shared} {G G' : Addr → Prop} {O : List Addr} {h' : Heap} {tk : Nat} (R : Rl c σ s G O) (ok : Ok c) (k : ∀ b o, s.heap.get? b = some o → h'.get? b = some o) (gG : ∀ a, G a → G' a)
    (gn : ∀ a, G' a → G a ∨ (s.heap.get? a = none ∧ ∃ o, h'.get? a = some o)) : Rl c σ { s with heap := h', toks := tk } G' O ∧ Le c s G O { s with heap := h', toks := tk } G' O := by
  refine ⟨R.keep (fun _ => False) (Ke.of_keeps fun b o _ e => k b o e) (fun b o e => k b o (R.base b o e)) (fun _ d => d.elim) ok gG fun a ga => (gn a ga).imp id fun q => ⟨(R.free q.1).2.1, (R.free q.1).2.2.1, (R.free q.1).2.2.2, q.2⟩, ?_⟩
  exact ⟨⟨⟨h', tk, rfl⟩, gG, Ke.of_keeps fun b o _ e => k b o e, fun _ h => .inl h, fun a ga => (gn a ga).imp id fun q => q.1, fun a o e => ⟨o, k a o e⟩⟩, [], by simp⟩
theorem Rl.grow0 {s : Shared} {G : Addr → Prop} {O : List Addr} {h' : Heap} {tk : Nat} (R : Rl c σ s G O) (ok : Ok c) (k : ∀ b o, s.heap.get? b = some o → h'.get? b = some o) : Rl c σ { s with heap := h', toks := tk } G O ∧ Le c s G O { s with heap := h', toks := tk } G O :=
  R.grow ok k (fun _ q => q) fun _ q => .inl q

/-- a name is stored -/
theorem store_ (ok : Ok c) {s : Shared} {G : Addr → Prop} {O : List Addr} (R : Rl c σ s G O) {k : Nat} {x : Str} {v : Value} {X : V} {vars' : List (Option V)} (hx : At c.names k x) (hu : Upd σ.vars k X vars') (hv : VR s.heap G O v X)
    {Q : Unit → Shared → Prop} (h : ∀ s', Rl c { σ with vars := vars' } s' G O → Le c s G O s' G O → Q () s') : wpAny c.M c.A (storeName c.env x v) Q c.E s := by
  have gen : ∀ (a : Addr) (h' : Heap) (tk : Nat), a ∈ c.priv → Heap.SameBut a s.heap h' → (∃ m, h'.Ns c.env.locals m) → (∃ o, h'.get? a = some o ∧ (∀ vs, o.data ≠ .fields vs) ∧ ∀ o₀, s.heap.get? a = some o₀ → Dk o₀ → Dk o) → (∀ y ∈ c.names, c.env.kindOf y = some .cell → ∀ b, c.env.cells.lookup y = some b → ∃ vo, h'.IsCell b vo) →
      (∀ j y Y, j ≠ k → At c.names j y → Vat σ.vars j Y → VarIs c.env h' G O y Y) → VarIs c.env h' G O x X → Rl c { σ with vars := vars' } { s with heap := h', toks := tk } G O ∧ Le c s G O { s with heap := h', toks := tk } G O := by
    intro a h' tk ha hs hns hal hcells hoth hself
    have keep : ∀ b o, b ≠ a → s.heap.get? b = some o → h'.get? b = some o := fun b o hb e => (hs.2 b hb).trans e
    have an : c.he.get? a = none := (R.priv a ha).1
    have ga : ¬ G a := (R.priv a ha).2.1
    have oa : a ∉ O := (R.priv a ha).2.2.1
    have kk : Ke (fun b => ¬ b = a) s.heap h' := Ke.of_keeps fun b o nb e => keep b o nb e
    have keG : Ke G s.heap h' := kk.mono fun b gb q => ga (q ▸ gb)
    have hf : ∀ b, b = a → ∀ o, s.heap.get? b = some o → ∃ o', h'.get? b = some o' ∧ ((∀ vs, o.data ≠ .fields vs) → ∀ vs, o'.data ≠ .fields vs) ∧ (Dk o → Dk o') := fun b d o e => by subst d; exact hal.imp fun o' q => ⟨q.1, fun _ => q.2.1, q.2.2 o e⟩
    have mv := R.move (σ' := { σ with vars := vars' }) (O' := O) (G' := G) (tk := tk) (fun b => b = a) kk (fun b o e => keep b o (fun q => ga (R.g0 _ (ok.bg a o (q ▸ e)))) (R.base b o e)) (fun b d => d ▸ ⟨ga, an⟩) (fun b d _ => hf b d) (fun _ q => q) (fun _ q => .inl q)
      (fun b hb => ⟨(R.onew b hb).1, (R.onew b hb).2, fun q => (R.priv b q).2.2.1 hb⟩) R.onod hns hcells (fun j y Y hy hY => ?_) R.olen (fun j xs e => ?_)
    · exact ⟨mv, ⟨LeS.refl.move (fun b => b = a) kk (fun b d => .inl (d ▸ ha)) (fun b d _ o e => (hf b d o e).imp fun _ q => q.1) (fun _ q => q) (fun _ q => .inl q) fun _ q => .inl q, [], by simp⟩⟩
    · by_cases hj : j = k
      · subst hj
        have e1 := hu.same.get
        have e2 := hY.get
        rw [e1] at e2; cases e2
        have e3 := hx.get
        have e4 := hy.get
        rw [e3] at e4; cases e4
        exact hself
      · exact hoth j y Y hj hy (hu.other hj hY)
    · obtain ⟨b, vs, h1, h2, h3⟩ := R.own j xs e
      have hb : b ∈ O := List.mem_of_getElem? h1
      exact ⟨b, vs, h1, kk.isOL (fun q => oa (q ▸ hb)) h2, h3.mono keG (fun _ q => q) ⟨[], by simp⟩⟩
  obtain ⟨m, hm⟩ := R.ns
  have ga : ∀ a ∈ c.priv, ¬ G a := fun a ha => (R.priv a ha).2.1
  rcases ok.nk x hx.mem with hl | ⟨hl, a, hap, hal⟩
  · -- a local
    refine wpAny_storeName_local hl hm (fun h' hn hs => ?_) (by rw [ok.kind]; rfl)
    have keep : ∀ b o, b ≠ c.env.locals → s.heap.get? b = some o → h'.get? b = some o := fun b o hb e => (hs.2 b hb).trans e
    have keG : Ke G s.heap h' := Ke.of_keeps fun b o gb e => keep b o (fun q => ga _ ok.lp (q ▸ gb)) e
    have cc : ∀ y ∈ c.names, c.env.kindOf y = some .cell → ∀ b, c.env.cells.lookup y = some b → ∀ vo, s.heap.IsCell b vo → h'.IsCell b vo := fun y hy hk b hb vo hc => hc.sameBut hs (ok.cl y hy hk b hb)
    have hg := gen c.env.locals h' (s.toks + 1) ok.lp hs ⟨_, hn⟩ (by obtain ⟨o, es, ep, e, hd, _⟩ := hn; exact ⟨o, e, (fun vs => by rw [hd]; intro q; cases q), fun _ _ _ => ⟨es, ep, hd⟩⟩)
      (fun y hy hk b hb => (R.cells y hy hk b hb).imp fun vo q => cc y hy hk b hb vo q) (fun j y Y hj hy hY => ?_) ⟨v, hv.mono keG (fun _ q => q) ⟨[], by simp⟩, .inl ⟨hl, _, hn, by simp⟩⟩
    · exact h _ hg.1 hg.2
    · obtain ⟨u, h1, h2⟩ := R.vars j y Y hy hY
      refine ⟨u, h1.mono keG (fun _ q => q) ⟨[], by simp⟩, h2.imp (fun q => ⟨q.1, _, hn, ?_⟩) fun q => ⟨q.1, q.2.imp fun b r => ⟨r.1, cc y hy.mem q.1 b r.1 _ r.2⟩⟩⟩
      obtain ⟨m', hm', e⟩ := q.2
      rw [ns_unique hm hm']
      have : y ≠ x := fun q => hj (nodup_at ok.nodup hy (q ▸ hx))
      simp [this, e]
  · -- a cell
    obtain ⟨v0, hc0⟩ := R.cells x hx.mem hl a hal
    refine wpAny_storeName_cell ok.kind hl hal hc0 fun h' hc hs => ?_
    have keep : ∀ b o, b ≠ a → s.heap.get? b = some o → h'.get? b = some o := fun b o hb e => (hs.2 b hb).trans e
    have keG : Ke G s.heap h' := Ke.of_keeps fun b o gb e => keep b o (fun q => ga _ hap (q ▸ gb)) e
    have nn : ∀ m, s.heap.Ns c.env.locals m → h'.Ns c.env.locals m := fun m q => q.sameBut hs (Ne.symm (ok.cl x hx.mem hl a hal))
    have cc : ∀ y ∈ c.names, y ≠ x → c.env.kindOf y = some .cell → ∀ b, c.env.cells.lookup y = some b → ∀ vo, s.heap.IsCell b vo → h'.IsCell b vo := fun y hy hyx hk b hb vo hc => hc.sameBut hs fun q => hyx (ok.ci y hy x hx.mem hk hl b hb (q ▸ hal))
    have hg := gen a h' s.toks hap hs ⟨m, nn m hm⟩ (by obtain ⟨o, e, hd⟩ := hc; exact ⟨o, e, (fun vs => by rw [hd]; intro q; cases q), fun o₀ e₀ dk => by obtain ⟨o1, e1, hd1⟩ := hc0; rw [e1] at e₀; cases e₀; exact absurd dk (Dk.no hd1 fun _ _ q => by cases q)⟩)
      (fun y hy hk b hb => by
        by_cases hyx : y = x
        · subst hyx; rw [hal] at hb; cases hb; exact ⟨_, hc⟩
        · exact (R.cells y hy hk b hb).imp fun vo q => cc y hy hyx hk b hb vo q)
      (fun j y Y hj hy hY => ?_) ⟨v, hv.mono keG (fun _ q => q) ⟨[], by simp⟩, .inr ⟨hl, a, hal, hc⟩⟩
    · exact h _ hg.1 hg.2
    · have hyx : y ≠ x := fun q => hj (nodup_at ok.nodup hy (q ▸ hx))
      obtain ⟨u, h1, h2⟩ := R.vars j y Y hy hY
      exact ⟨u, h1.mono keG (fun _ q => q) ⟨[], by simp⟩, h2.imp (fun q => ⟨q.1, q.2.imp fun m r => ⟨nn m r.1, r.2⟩⟩) fun q => ⟨q.1, q.2.imp fun b r => ⟨r.1, cc y hy.mem hyx q.1 b r.1 _ r.2⟩⟩⟩
end

end Mine
set_option linter.unusedVariables false
namespace Mine

section
variable {c : Cx} {σ : AS} {P : V → AS → Prop}

/-! ### ends -/
theorem fin_ {s : Shared} {G : Addr → Prop} {O : List Addr} {v : Value} {x : V} {tk : Nat} (R : Rl c σ s G O) (h : P x σ) (r : VR s.heap G O v x) : Po c s G O P v { s with toks := tk } :=
  ⟨x, σ, G, O, h, R.toks tk, Le.toks s G O tk, r⟩
theorem fin0 {s : Shared} {G : Addr → Prop} {O : List Addr} {v : Value} {x : V} (R : Rl c σ s G O) (h : P x σ) (r : VR s.heap G O v x) : Po c s G O P v s :=
  ⟨x, σ, G, O, h, R, Le.refl, r⟩
theorem finB {s : Shared} {G : Addr → Prop} {O : List Addr} {b : Bool} {P : Bool → AS → Prop} (R : Rl c σ s G O) (h : P b σ) : PoB c s G O P b s := ⟨σ, G, O, h, R, Le.refl⟩

/-! ### constants and names -/
theorem EV_int {i : Int} {k : Nat} {pos : Pos} (h : P (.int i) σ) : EV c (.Constant (.int i) k pos) σ P := fun _ _ _ R _ _ _ => fin_ R h (.int i _)
theorem EV_str {i : Str} {k : Nat} {pos : Pos} (h : P (.str i) σ) : EV c (.Constant (.str i) k pos) σ P := fun _ _ _ R _ _ _ => fin_ R h (.str i _)
theorem EV_bytes {i : List UInt8} {k : Nat} {pos : Pos} (h : P (.bytes i.toArray) σ) : EV c (.Constant (.bytes i) k pos) σ P := fun _ _ _ R _ _ _ => fin_ R h (.bytes _ _)
theorem EV_bool {i : Bool} {k : Nat} {pos : Pos} (h : P (.bool i) σ) : EV c (.Constant (.bool i) k pos) σ P := fun _ _ _ R _ _ _ => fin0 R h (.bool i)
theorem EV_none {k : Nat} {pos : Pos} (h : P .none σ) : EV c (.Constant .none k pos) σ P := fun _ _ _ R _ _ _ => fin0 R h .none

theorem loadVar (ok : Ok c) {s : Shared} {G : Addr → Prop} {O : List Addr} {x : Str} {X : V} (v : VarIs c.env s.heap G O x X) {Q : Value → Shared → Prop} {E : Value → Shared → Prop} (h : ∀ v, VR s.heap G O v X → Q v s) : wpAny c.M c.A (loadName c.env x) Q E s := by
  obtain ⟨v, hv, ⟨hk, m, hm, e⟩ | ⟨hk, a, ha, e⟩⟩ := v
  · exact wpAny_loadName_local ok.kind hk hm e (h v hv)
  · exact wpAny_loadName_cell ok.kind hk ha e (h v hv)
theorem EV_name (ok : Ok c) {k : Nat} {x : Str} {X : V} {pos : Pos} (hx : At c.names k x) (hv : Vat σ.vars k X) (h : P X σ) (hd : (x == ("__debug__" : Str)) = false := by decide +kernel) : EV c (.Name x pos) σ P :=
  fun s G O R => wpAny_Name (loadVar ok (R.vars k x X hx hv) fun _ r => fin0 R h r) hd
theorem EV_cap (ok : Ok c) {x : Str} {X : V} {pos : Pos} (hx : (x, X) ∈ c.cap) (h : P X σ) (hd : (x == ("__debug__" : Str)) = false := by decide +kernel) : EV c (.Name x pos) σ P := by
  intro s G O R
  obtain ⟨v, a, h1, h2, h3, _⟩ := R.cap _ hx
  exact wpAny_Name (wpAny_loadName_cell ok.kind (ok.capk _ hx) h2 h3 (fin0 R h (h1.mono (Ke.refl _ _) R.g0 ⟨O, rfl⟩))) hd

theorem Glb.vr (ok : Ok c) {s : Shared} {G : Addr → Prop} {O : List Addr} (R : Rl c σ s G O) {v : Value} {X : V} (h : VR c.g.base (fun a => ∃ o, c.g.base.get? a = some o) [] v X) : VR s.heap G O v X :=
  h.mono (Ke.of_keeps fun b o _ e => R.base b o e) (fun a ⟨o, e⟩ => R.g0 _ (ok.bg a o e)) ⟨O, rfl⟩
theorem loadGlb (ok : Ok c) {s : Shared} {G : Addr → Prop} {O : List Addr} (R : Rl c σ s G O) {x : Str} {X : V} (hk : c.env.kindOf x = some .globalImplicit) (g : Glb c.g x X) {Q : Value → Shared → Prop} {E : Value → Shared → Prop} (h : ∀ v, VR s.heap G O v X → Q v s) :
    wpAny c.M c.A (loadName c.env x) Q E s := by
  obtain ⟨v, mg, mb, hg, hb, hv, r⟩ := g
  rw [loadName_read ok.kind hk]
  have hg' : s.heap.Ns c.env.globals mg := by rw [ok.globals]; exact hg.keeps R.base
  have hb' : s.heap.Ns c.env.builtins mb := by rw [ok.builtins]; exact hb.keeps R.base
  rcases hv with e | ⟨e, e'⟩
  · exact Calls.loadGlobal_global hg' e (h v (Glb.vr ok R r))
  · exact Calls.loadGlobal_builtin hg' e hb' e' (h v (Glb.vr ok R r))
theorem EV_glob (ok : Ok c) {x : Str} {X : V} {pos : Pos} (hk : c.env.kindOf x = some .globalImplicit) (g : Glb c.g x X) (h : P X σ) (hd : (x == ("__debug__" : Str)) = false := by decide +kernel) : EV c (.Name x pos) σ P :=
  fun s G O R => wpAny_Name (loadGlb ok R hk g fun _ r => fin0 R h r) hd

/-! ### operators -/
theorem O2.at {f : Value → Value → Sem Value} {x y : V} {σ₁ σ₂ : AS} {s s₁ s₂ : Shared} {G G₁ G₂ : Addr → Prop} {O O₁ O₂ : List Addr} {a b : Value} (h : O2 c f x y σ₂ P) (R : Rl c σ₂ s₂ G₂ O₂) (L₁ : Le c s G O s₁ G₁ O₁) (R₁ : Rl c σ₁ s₁ G₁ O₁) (L₂ : Le c s₁ G₁ O₁ s₂ G₂ O₂) (v₁ : VR s₁.heap G₁ O₁ a x) (v₂ : VR s₂.heap G₂ O₂ b y) :
    wpAny c.M c.A (f a b) (Po c s G O P) c.E s₂ := wpAny_mono (h s₂ G₂ O₂ a b R (L₂.vr R₁ v₁) v₂) (fun _ _ p => p.le (L₁.trans L₂)) fun _ _ e => e
theorem EV_bin {l r : Expr} {op : Operator} {pos : Pos} (h : EV c l σ fun x σ₁ => EV c r σ₁ fun y σ₂ => O2 c (binaryOp op) x y σ₂ P) : EV c (.BinOp l op r pos) σ P :=
  fun _ _ _ R => wpAny_BinOp (TV.use h R fun _ _ _ _ _ _ h₁ R₁ L₁ v₁ => TV.use h₁ R₁ fun _ _ _ _ _ _ h₂ R₂ L₂ v₂ => h₂.at R₂ L₁ R₁ L₂ v₁ v₂)

theorem O2_add {a b : Int} (h : P (.int (a + b)) σ) : O2 c (binaryOp .Add) (.int a) (.int b) σ P := by
  intro s G O v u R hv hu; obtain ⟨t, rfl⟩ := hv.inv; obtain ⟨t', rfl⟩ := hu.inv; exact add_int (fin_ R h (.int _ _))
theorem O2_sub {a b : Int} (h : P (.int (a - b)) σ) : O2 c (binaryOp .Sub) (.int a) (.int b) σ P := by
  intro s G O v u R hv hu; obtain ⟨t, rfl⟩ := hv.inv; obtain ⟨t', rfl⟩ := hu.inv; exact sub_int (fin_ R h (.int _ _))
theorem O2_mul {a b : Int} (hs : a.natAbs < 2 ^ 64) (h : P (.int (a * b)) σ) : O2 c (binaryOp .Mult) (.int a) (.int b) σ P := by
  intro s G O v u R hv hu; obtain ⟨t, rfl⟩ := hv.inv; obtain ⟨t', rfl⟩ := hu.inv; exact mul_int (fin_ R h (.int _ _)) (.of_left (intBits_le_iff.mpr hs))
theorem O2_div {a b : Int} (hb : 0 < b) (hs : b < 1073741824) (h : P (.int (a / b)) σ) : O2 c (binaryOp .FloorDiv) (.int a) (.int b) σ P := by
  intro s G O v u R hv hu; obtain ⟨t, rfl⟩ := hv.inv; obtain ⟨t', rfl⟩ := hu.inv
  refine floordiv_int (by omega) ?_ (Or.inl (PyProof.noPylong_small (by omega)))
  rw [Int.fdiv_eq_ediv_of_nonneg _ (by omega)]
  exact fin_ R h (.int _ _)
theorem O2_mod {a b : Int} (hb : 0 < b) (h : P (.int (a % b)) σ) : O2 c (binaryOp .Mod) (.int a) (.int b) σ P := by
  intro s G O v u R hv hu; obtain ⟨t, rfl⟩ := hv.inv; obtain ⟨t', rfl⟩ := hu.inv
  refine mod_int' (by omega) ?_
  rw [Int.fmod_eq_emod_of_nonneg _ (by omega)]
  exact fin_ R h (.int _ _)
theorem O2_pow {a : Int} {b : Int} (h0 : 0 ≤ b) (h1 : b ≤ 1000) (hs : a.natAbs < 2 ^ 64) (h : P (.int (a ^ b.toNat)) σ) : O2 c (binaryOp .Pow) (.int a) (.int b) σ P := by
  intro s G O v u R hv hu; obtain ⟨t, rfl⟩ := hv.inv; obtain ⟨t', rfl⟩ := hu.inv
  refine pow_int h0 ?_ (fin_ R h (.int _ _))
  have q := intBits_le_iff.mpr hs
  have : (Builtin.Int.intBits a : Int) * b ≤ 64 * 1000 := by
    have e1 : (Builtin.Int.intBits a : Int) ≤ 64 := by omega
    calc (Builtin.Int.intBits a : Int) * b ≤ 64 * b := Int.mul_le_mul_of_nonneg_right e1 h0
      _ ≤ 64 * 1000 := by omega
  omega
theorem O2_shl {a : Int} {b : Int} (h0 : 0 ≤ b) (h1 : b ≤ 1000) (hs : a.natAbs < 2 ^ 64) (h : P (.int (a * 2 ^ b.toNat)) σ) : O2 c (binaryOp .LShift) (.int a) (.int b) σ P := by
  intro s G O v u R hv hu; obtain ⟨t, rfl⟩ := hv.inv; obtain ⟨t', rfl⟩ := hu.inv
  exact lshift_int_small h0 (by omega) hs (fin_ R h (.int _ _))
theorem O2_shr {a : Int} {b : Int} (h0 : 0 ≤ b) (h : P (.int (a / 2 ^ b.toNat)) σ) : O2 c (binaryOp .RShift) (.int a) (.int b) σ P := by
  intro s G O v u R hv hu; obtain ⟨t, rfl⟩ := hv.inv; obtain ⟨t', rfl⟩ := hu.inv
  refine rshift_int h0 ?_
  rw [Int.fdiv_eq_ediv_of_nonneg _ (Int.pow_nonneg (by omega))]
  exact fin_ R h (.int _ _)
theorem O2_and {a b : Int} (h : P (.int (Builtin.bitAnd a b)) σ) : O2 c (binaryOp .BitAnd) (.int a) (.int b) σ P := by
  intro s G O v u R hv hu; obtain ⟨t, rfl⟩ := hv.inv; obtain ⟨t', rfl⟩ := hu.inv; exact and_int (fin_ R h (.int _ _))
theorem O2_or {a b : Int} (h : P (.int (Builtin.bitOr a b)) σ) : O2 c (binaryOp .BitOr) (.int a) (.int b) σ P := by
  intro s G O v u R hv hu; obtain ⟨t, rfl⟩ := hv.inv; obtain ⟨t', rfl⟩ := hu.inv; exact or_int (fin_ R h (.int _ _))
theorem O2_xor {a b : Int} (h : P (.int (Builtin.bitXor a b)) σ) : O2 c (binaryOp .BitXor) (.int a) (.int b) σ P := by
  intro s G O v u R hv hu; obtain ⟨t, rfl⟩ := hv.inv; obtain ⟨t', rfl⟩ := hu.inv; exact xor_int (fin_ R h (.int _ _))

/-! ### comparisons -/
theorem B1.at {f : Value → Sem Bool} {x : V} {σ₁ : AS} {s s₁ : Shared} {G G₁ : Addr → Prop} {O O₁ : List Addr} {a : Value} {P : Bool → AS → Prop} (h : B1 c f x σ₁ P) (R : Rl c σ₁ s₁ G₁ O₁) (L₁ : Le c s G O s₁ G₁ O₁) (v₁ : VR s₁.heap G₁ O₁ a x) :
    wpAny c.M c.A (f a) (PoB c s G O P) c.E s₁ := wpAny_mono (h s₁ G₁ O₁ a R v₁) (fun _ _ p => p.le L₁) fun _ _ e => e
theorem O2.use {f : Value → Value → Sem Value} {x y : V} {P : V → AS → Prop} {s : Shared} {G : Addr → Prop} {O : List Addr} {a b : Value} {Q : Value → Shared → Prop} (h : O2 c f x y σ P) (R : Rl c σ s G O) (va : VR s.heap G O a x) (vb : VR s.heap G O b y)
    (k : ∀ a s₁ x σ₁ G₁ O₁, P x σ₁ → Rl c σ₁ s₁ G₁ O₁ → Le c s G O s₁ G₁ O₁ → VR s₁.heap G₁ O₁ a x → Q a s₁) : wpAny c.M c.A (f a b) Q c.E s :=
  wpAny_mono (h s G O a b R va vb) (fun a s₁ p => let ⟨x, σ₁, G₁, O₁, h1, h2, h3, h4⟩ := p; k a s₁ x σ₁ G₁ O₁ h1 h2 h3 h4) fun _ _ e => e
theorem EB_cmp {l r : Expr} {op : CmpOp} {pos : Pos} {P : Bool → AS → Prop} (h : EV c l σ fun x σ₁ => EV c r σ₁ fun y σ₂ => O2 c (compareOp op) x y σ₂ fun z σ₃ => B1 c truthy z σ₃ P) (hm : behindInMarks op r = false := by with_unfolding_all rfl) : EB c (.Compare l [op] [r] pos) σ P :=
  fun _ _ _ R => wpAny_isTrue_Compare1 (TV.use h R fun _ _ _ _ _ _ h₁ R₁ L₁ v₁ => TV.use h₁ R₁ fun _ _ _ _ _ _ h₂ R₂ L₂ v₂ => h₂.use R₂ (L₂.vr R₁ v₁) v₂ fun _ _ _ _ _ _ h₃ R₃ L₃ v₃ => B1.at h₃ R₃ ((L₁.trans L₂).trans L₃) v₃) hm
theorem B1_bool {b : Bool} {P : Bool → AS → Prop} (h : P b σ) : B1 c truthy (.bool b) σ P := by
  intro s G O v R hv; obtain rfl := hv.inv; exact wpAny_truthy_bool (finB R h)
theorem B1_int {i : Int} {P : Bool → AS → Prop} (h : P (i != 0) σ) : B1 c truthy (.int i) σ P := by
  intro s G O v R hv; obtain ⟨t, rfl⟩ := hv.inv; exact truthy_int (finB R h)
theorem O2_eq {a b : Int} (h : P (.bool (a == b)) σ) : O2 c (compareOp .Eq) (.int a) (.int b) σ P := by
  intro s G O v u R hv hu; obtain ⟨t, rfl⟩ := hv.inv; obtain ⟨t', rfl⟩ := hu.inv; exact eq_int (fin0 R h (.bool _))
theorem O2_ne {a b : Int} (h : P (.bool (a != b)) σ) : O2 c (compareOp .NotEq) (.int a) (.int b) σ P := by
  intro s G O v u R hv hu; obtain ⟨t, rfl⟩ := hv.inv; obtain ⟨t', rfl⟩ := hu.inv; exact ne_int (fin0 R h (.bool _))
theorem O2_lt {a b : Int} (h : P (.bool (decide (a < b))) σ) : O2 c (compareOp .Lt) (.int a) (.int b) σ P := by
  intro s G O v u R hv hu; obtain ⟨t, rfl⟩ := hv.inv; obtain ⟨t', rfl⟩ := hu.inv; exact lt_int (fin0 R h (.bool _))
theorem O2_le {a b : Int} (h : P (.bool (decide (a ≤ b))) σ) : O2 c (compareOp .LtE) (.int a) (.int b) σ P := by
  intro s G O v u R hv hu; obtain ⟨t, rfl⟩ := hv.inv; obtain ⟨t', rfl⟩ := hu.inv; exact le_int (fin0 R h (.bool _))
theorem O2_gt {a b : Int} (h : P (.bool (decide (a > b))) σ) : O2 c (compareOp .Gt) (.int a) (.int b) σ P := by
  intro s G O v u R hv hu; obtain ⟨t, rfl⟩ := hv.inv; obtain ⟨t', rfl⟩ := hu.inv; exact gt_int (fin0 R h (.bool _))
theorem O2_ge {a b : Int} (h : P (.bool (decide (a ≥ b))) σ) : O2 c (compareOp .GtE) (.int a) (.int b) σ P := by
  intro s G O v u R hv hu; obtain ⟨t, rfl⟩ := hv.inv; obtain ⟨t', rfl⟩ := hu.inv; exact ge_int (fin0 R h (.bool _))
theorem O2_neB {a b : Array UInt8} (h : P (.bool (a.toList != b.toList)) σ) : O2 c (compareOp .NotEq) (.bytes a) (.bytes b) σ P := by
  intro s G O v u R hv hu; obtain ⟨t, rfl⟩ := hv.inv; obtain ⟨t', rfl⟩ := hu.inv; exact ne_bytes (fin0 R h (.bool _))
theorem O2_eqS {a b : Str} (h : P (.bool (a == b)) σ) : O2 c (compareOp .Eq) (.str a) (.str b) σ P := by
  intro s G O v u R hv hu; obtain ⟨t, rfl⟩ := hv.inv; obtain ⟨t', rfl⟩ := hu.inv; exact PyProof.Rows.eq_str (fin0 R h (.bool _))
end
end Mine
namespace Mine

section
variable {c : Cx} {σ : AS} {P : V → AS → Prop}

/-! ### tests -/
theorem EB_not {x : Expr} {pos : Pos} {P : Bool → AS → Prop} (h : EB c x σ fun b σ₁ => P (!b) σ₁) : EB c (.UnaryOp .Not x pos) σ P :=
  fun _ _ _ R => isTrue_not (TB.use h R fun _ _ σ₁ G₁ O₁ h₁ R₁ L₁ => ⟨σ₁, G₁, O₁, h₁, R₁, L₁⟩)
theorem EB_and0 {pos : Pos} {P : Bool → AS → Prop} (h : P true σ) : EB c (.BoolOp .And [] pos) σ P := fun _ _ _ R => isTrue_and_nil (finB R h)
theorem EB_or0 {pos : Pos} {P : Bool → AS → Prop} (h : P false σ) : EB c (.BoolOp .Or [] pos) σ P := fun _ _ _ R => isTrue_or_nil (finB R h)
theorem EB_and {x : Expr} {rest : List Expr} {pos : Pos} {P : Bool → AS → Prop} (h : EB c x σ fun b σ₁ => (b = true → EB c (.BoolOp .And rest pos) σ₁ P) ∧ (b = false → P false σ₁)) : EB c (.BoolOp .And (x :: rest) pos) σ P := by
  intro s G O R
  refine isTrue_and (TB.use h R fun b s₁ σ₁ G₁ O₁ h₁ R₁ L₁ => ?_)
  cases b with
  | true => exact wpAny_mono (h₁.1 rfl s₁ G₁ O₁ R₁) (fun _ _ p => p.le L₁) fun _ _ e => e
  | false => exact ⟨σ₁, G₁, O₁, h₁.2 rfl, R₁, L₁⟩
theorem EB_or {x : Expr} {rest : List Expr} {pos : Pos} {P : Bool → AS → Prop} (h : EB c x σ fun b σ₁ => (b = false → EB c (.BoolOp .Or rest pos) σ₁ P) ∧ (b = true → P true σ₁)) : EB c (.BoolOp .Or (x :: rest) pos) σ P := by
  intro s G O R
  refine isTrue_or (TB.use h R fun b s₁ σ₁ G₁ O₁ h₁ R₁ L₁ => ?_)
  cases b with
  | false => exact wpAny_mono (h₁.1 rfl s₁ G₁ O₁ R₁) (fun _ _ p => p.le L₁) fun _ _ e => e
  | true => exact ⟨σ₁, G₁, O₁, h₁.2 rfl, R₁, L₁⟩
theorem EB_plain {e : Expr} {P : Bool → AS → Prop} (h : EV c e σ fun x σ₁ => B1 c truthy x σ₁ P) (he : ∀ whole, isTrue e c.env whole = (do let v ← whole; standAt e.pos; holding [v] (truthy v)) := by intro _; rfl) : EB c e σ P :=
  fun _ _ _ R => isTrue_plain (TV.use h R fun _ _ _ _ _ _ h₁ R₁ L₁ v₁ => B1.at h₁ R₁ L₁ v₁) (he _)
theorem testChain_two {M : Model} {A : Around} {E : Value → Shared → Prop} {s : Shared} {pos : Pos} {a : Value} {op₁ op₂ : CmpOp} {r₁ r₂ : Sem Value} {Q : Bool → Shared → Prop}
    (h : wpAny M A r₁ (fun b s₁ => wpAny M A (compareOp op₁ a b) (fun z s₂ => wpAny M A (truthy z) (fun t s₃ => if t then wpAny M A r₂ (fun d s₄ => wpAny M A (compareOp op₂ b d) (fun z s₅ => wpAny M A (truthy z) Q E s₅) E s₄) E s₃ else Q false s₃) E s₂) E s₁) E s) :
    wpAny M A (testChain pos a [op₁, op₂] [r₁, r₂]) Q E s := by
  intro Γ p hΓ
  simp only [testChain, Sem.wp_bind', Sem.wp_holding, Sem.wp_cmd_standAt, Sem.wp_release]
  refine Sem.wp_mono M Γ _ (fun b p₁ s₁ h₁ => ?_) (fun _ _ _ h' => h') _ _ (h Γ p hΓ)
  refine Sem.wp_mono M Γ _ (fun z p₂ s₂ h₂ => ?_) (fun _ _ _ h' => h') _ _ (h₁ Γ _ hΓ)
  refine Sem.wp_mono M Γ _ (fun t p₃ s₃ h₃ => ?_) (fun _ _ _ h' => h') _ _ (h₂ Γ _ hΓ)
  cases t with
  | false => exact h₃
  | true =>
    simp only [if_true, Sem.wp_bind', Sem.wp_holding, Sem.wp_cmd_standAt, Sem.wp_operate]
    refine Sem.wp_mono M Γ _ (fun d p₄ s₄ h₄ => ?_) (fun _ _ _ h' => h') _ _ (h₃ Γ _ hΓ)
    refine Sem.wp_mono M Γ _ (fun z p₅ s₅ h₅ => ?_) (fun _ _ _ h' => h') _ _ (h₄ Γ _ hΓ)
    exact h₅ Γ _ hΓ
theorem EB_chain {l r₁ r₂ : Expr} {op₁ op₂ : CmpOp} {pos : Pos} {P : Bool → AS → Prop}
    (h : EV c l σ fun x σ₁ => EV c r₁ σ₁ fun y σ₂ => O2 c (compareOp op₁) x y σ₂ fun z σ₃ => B1 c truthy z σ₃ fun b σ₄ => (b = true → EV c r₂ σ₄ fun u σ₅ => O2 c (compareOp op₂) y u σ₅ fun z σ₆ => B1 c truthy z σ₆ P) ∧ (b = false → P false σ₄))
    (hm : lastMarks [op₁, op₂] [r₁, r₂] = false := by with_unfolding_all rfl) : EB c (.Compare l [op₁, op₂] [r₁, r₂] pos) σ P := by
  intro s G O R
  refine isTrue_chain (TV.use h R fun a s₁ x σ₁ G₁ O₁ h₁ R₁ L₁ v₁ => testChain_two (TV.use h₁ R₁ fun b s₂ y σ₂ G₂ O₂ h₂ R₂ L₂ v₂ => h₂.use R₂ (L₂.vr R₁ v₁) v₂ fun z s₃ _ σ₃ G₃ O₃ h₃ R₃ L₃ v₃ => ?_)) hm
  refine wpAny_mono (h₃ s₃ G₃ O₃ z R₃ v₃) (fun t s₄ p => ?_) fun _ _ e => e
  obtain ⟨σ₄, G₄, O₄, h₄, R₄, L₄⟩ := p
  have L := ((L₁.trans L₂).trans L₃).trans L₄
  cases t with
  | false => exact ⟨σ₄, G₄, O₄, h₄.2 rfl, R₄, L⟩
  | true => exact TV.use (h₄.1 rfl) R₄ fun d s₅ _ σ₅ G₅ O₅ h₅ R₅ L₅ v₅ => h₅.use R₅ ((L₃.trans (L₄.trans L₅)).vr R₂ v₂) v₅ fun _ _ _ _ _ _ h₆ R₆ L₆ v₆ => B1.at h₆ R₆ ((L.trans L₅).trans L₆) v₆
theorem EV_if {t a b : Expr} {pos : Pos} (h : EB c t σ fun z σ₁ => (z = true → EV c a σ₁ P) ∧ (z = false → EV c b σ₁ P)) : EV c (.IfExp t a b pos) σ P := by
  intro s G O R
  refine IfExp_ (TB.use h R fun z s₁ σ₁ G₁ O₁ h₁ R₁ L₁ => ?_)
  cases z with
  | true => exact wpAny_mono (h₁.1 rfl s₁ G₁ O₁ R₁) (fun _ _ p => p.le L₁) fun _ _ e => e
  | false => exact wpAny_mono (h₁.2 rfl s₁ G₁ O₁ R₁) (fun _ _ p => p.le L₁) fun _ _ e => e
theorem EV_neg {x : Expr} {pos : Pos} (h : EV c x σ fun y σ₁ => ∃ i, y = .int i ∧ P (.int (-i)) σ₁) : EV c (.UnaryOp .USub x pos) σ P := by
  intro s G O R
  show wpAny _ _ (do let v ← eval x c.env; standAt pos; holding [v] (unaryOp .USub v)) _ _ _
  refine wpAny_bind (TV.use h R fun a s₁ y σ₁ G₁ O₁ h₁ R₁ L₁ v₁ => wpAny_bind (wpAny_standAt (wpAny_holding ?_)))
  obtain ⟨i, rfl, hp⟩ := h₁
  obtain ⟨t, rfl⟩ := v₁.inv
  exact neg_int (Po.le L₁ (fin_ R₁ hp (.int _ _)))

/-! ### displays -/
abbrev ES (c : Cx) (es : List Expr) (pos : Pos) (σ : AS) (P : List V → AS → Prop) : Prop := TL c (spliced (backTo pos (starEach es c.env))) σ P
theorem ES_nil {pos : Pos} {P : List V → AS → Prop} (h : P [] σ) : ES c [] pos σ P := fun s G O R => spliced_none ⟨[], σ, G, O, h, R, Le.refl, .nil⟩
theorem ES_cons {e : Expr} {es : List Expr} {pos : Pos} {P : List V → AS → Prop} (h : EV c e σ fun x σ₁ => ES c es pos σ₁ fun xs σ₂ => P (x :: xs) σ₂) (he : ∀ env, starEach (e :: es) env = (false, eval e env) :: starEach es env := by intro _; rfl) : ES c (e :: es) pos σ P :=
  fun _ _ _ R => spliced_more (TV.use h R fun _ _ _ _ _ _ h₁ R₁ L₁ v₁ => TL.use h₁ R₁ fun _ _ _ σ₂ G₂ O₂ h₂ R₂ L₂ v₂ => ⟨_, σ₂, G₂, O₂, h₂, R₂, L₁.trans L₂, .cons (L₂.vr R₁ v₁) v₂⟩) (he _)

theorem fresh_size (h : Heap) : h.get? h.objs.size = none := by
  cases e : h.get? h.objs.size with
  | none => rfl
  | some o => exact absurd (Heap.lt_size e) (Nat.lt_irrefl _)
theorem push_new {h : Heap} {o : Obj} (hf : o.isFreed = false := by rfl) : (h.push o).get? h.objs.size = some o := Heap.get?_push_size _ hf

/-- a new frozen object -/
theorem Rl.alloc {s : Shared} {G : Addr → Prop} {O : List Addr} (R : Rl c σ s G O) (ok : Ok c) (o : Obj) (hf : o.isFreed = false := by rfl) (tk : Nat := s.toks) :
    Rl c σ { s with heap := s.heap.push o, toks := tk } (fun a => G a ∨ a = s.heap.objs.size) O ∧ Le c s G O { s with heap := s.heap.push o, toks := tk } (fun a => G a ∨ a = s.heap.objs.size) O :=
  R.grow ok (fun b o e => Heap.get?_push_of_some _ e) (fun _ q => .inl q) fun a q => q.imp id fun e => by subst e; exact ⟨fresh_size _, o, push_new hf⟩

theorem EV_tuple (ok : Ok c) {es : List Expr} {k : Nat} {pos : Pos} (h : ES c es pos σ fun xs σ₁ => xs.length ≤ 1000 ∧ P (.tup xs) σ₁) : EV c (.Tuple es k pos) σ P := by
  intro s G O R
  refine Tuple_ (TL.use h R fun vs s₁ xs σ₁ G₁ O₁ h₁ R₁ L₁ v₁ => wpAny_newObj_type ?_ ?_)
  · have al := R₁.alloc ok { cls := .type "tuple", data := .seq vs.toArray }
    exact ⟨_, σ₁, _, O₁, h₁.2, al.1, L₁.trans al.2, .tup (.inr rfl) ⟨_, push_new, rfl, _, rfl⟩ (by simpa using al.2.vrs R₁ v₁)⟩
  · have := v₁.length; have h2 := h₁.1
    show vs.toArray.size ≤ sizeLine
    rw [List.size_toArray, this]; exact Nat.le_trans h2 (by decide)
/-- a frozen list -/
theorem EV_list (ok : Ok c) {es : List Expr} {pos : Pos} (h : ES c es pos σ fun xs σ₁ => xs.length ≤ 1000 ∧ P (.list xs) σ₁) : EV c (.List es pos) σ P := by
  intro s G O R
  refine List_ (TL.use h R fun vs s₁ xs σ₁ G₁ O₁ h₁ R₁ L₁ v₁ => wpAny_newObj_type ?_ ?_)
  · have al := R₁.alloc ok { cls := .type "list", data := .seq vs.toArray }
    exact ⟨_, σ₁, _, O₁, h₁.2, al.1, L₁.trans al.2, .list (.inr rfl) ⟨_, push_new, rfl, _, rfl⟩ (by simpa using al.2.vrs R₁ v₁)⟩
  · have := v₁.length; have h2 := h₁.1
    show vs.toArray.size ≤ sizeLine
    rw [List.size_toArray, this]; exact Nat.le_trans h2 (by decide)
/-- a list of one's own: it may be turned later -/
theorem Rl.allocOwn {s : Shared} {G : Addr → Prop} {O : List Addr} (R : Rl c σ s G O) (ok : Ok c) {vs : List Value} {xs : List V} (hv : VRs s.heap G O vs xs) :
    Rl c { σ with own := σ.own ++ [xs] } { s with heap := s.heap.push { cls := .type "list", data := .seq vs.toArray } } G (O ++ [s.heap.objs.size]) ∧ Le c s G O { s with heap := s.heap.push { cls := .type "list", data := .seq vs.toArray } } G (O ++ [s.heap.objs.size]) := by
  have keep : ∀ b o, s.heap.get? b = some o → (s.heap.push { cls := .type "list", data := .seq vs.toArray }).get? b = some o := fun b o e => Heap.get?_push_of_some _ e
  have kk : Ke (fun b => ¬ False) s.heap (s.heap.push { cls := .type "list", data := .seq vs.toArray }) := Ke.of_keeps fun b o _ e => keep b o e
  have kG : Ke G s.heap (s.heap.push { cls := .type "list", data := .seq vs.toArray }) := kk.mono fun _ _ q => q
  have an : c.he.get? s.heap.objs.size = none := by
    cases e : c.he.get? s.heap.objs.size with
    | none => rfl
    | some o => obtain ⟨⟨sl, e1⟩, _⟩ := R.kept _ trivial o e; rw [fresh_size] at e1; cases e1
  have gn : ¬ G s.heap.objs.size := fun g => by obtain ⟨o, e⟩ := R.glive _ g; rw [fresh_size] at e; cases e
  have pn : s.heap.objs.size ∉ c.priv := fun g => by obtain ⟨_, _, _, o, e⟩ := R.priv _ g; rw [fresh_size] at e; cases e
  have on : s.heap.objs.size ∉ O := fun g => by obtain ⟨o, e⟩ := R.oalive g; rw [fresh_size] at e; cases e
  have mv := R.move (σ' := { σ with own := σ.own ++ [xs] }) (G' := G) (O' := O ++ [s.heap.objs.size]) (tk := s.toks) (fun _ => False) kk (fun b o e => keep b o (R.base b o e)) (fun _ d => d.elim) (fun _ d => d.elim) (fun _ q => q) (fun _ q => .inl q)
    (fun a ha => by
      rcases List.mem_append.mp ha with ha | ha
      · exact ⟨(R.onew a ha).1, (R.onew a ha).2, fun q => (R.priv a q).2.2.1 ha⟩
      · rw [List.mem_singleton] at ha; subst ha; exact ⟨an, gn, pn⟩)
    (List.nodup_append.mpr ⟨R.onod, by simp, fun a ha b hb => by rw [List.mem_singleton] at hb; subst hb; intro q; exact on (q ▸ ha)⟩)
    (R.ns.imp fun m q => q.keeps keep) (fun x hx hk a ha => (R.cells x hx hk a ha).imp fun vo q => q.keeps keep)
    (fun j x X hx hX => by
      obtain ⟨v, h1, h2⟩ := R.vars j x X hx hX
      exact ⟨v, h1.mono kG (fun _ q => q) ⟨_, rfl⟩, h2.imp (fun q => ⟨q.1, q.2.imp fun m r => ⟨r.1.keeps keep, r.2⟩⟩) fun q => ⟨q.1, q.2.imp fun a r => ⟨r.1, r.2.keeps keep⟩⟩⟩)
    (by simp [R.olen])
    (fun j ys e => by
      rcases Nat.lt_or_ge j σ.own.length with hj | hj
      · have e' : σ.own[j]? = some ys := by
          have e2 : (σ.own ++ [xs])[j]? = some ys := e
          rwa [List.getElem?_append_left hj] at e2
        obtain ⟨b, us, h1, h2, h3⟩ := R.own j ys e'
        refine ⟨b, us, ?_, kk.isOL (by simp) h2, h3.mono kG (fun _ q => q) ⟨_, rfl⟩⟩
        rw [List.getElem?_append_left (by rw [R.olen]; exact hj)]; exact h1
      · have e2 : (σ.own ++ [xs])[j]? = some ys := e
        rw [List.getElem?_append_right hj] at e2
        have hj0 : j - σ.own.length = 0 := by
          rcases Nat.eq_zero_or_pos (j - σ.own.length) with q | q
          · exact q
          · rw [List.getElem?_eq_none (by simp; omega)] at e2; cases e2
        rw [hj0] at e2
        simp only [List.getElem?_cons_zero, Option.some.injEq] at e2
        subst e2
        refine ⟨s.heap.objs.size, vs.toArray, ?_, ⟨_, push_new⟩, by simpa using hv.mono kG (fun _ q => q) ⟨_, rfl⟩⟩
        rw [List.getElem?_append_right (by rw [R.olen]; exact hj), R.olen, hj0]; rfl)
  exact ⟨mv, ⟨⟨⟨_, s.toks, rfl⟩, fun _ q => q, Ke.of_keeps fun b o _ e => keep b o e, fun a ha => (List.mem_append.mp ha).imp id fun q => by rw [List.mem_singleton] at q; subst q; exact fresh_size _, fun _ q => .inl q, fun a o e => ⟨o, keep a o e⟩⟩, _, rfl⟩⟩
theorem EV_listOwn (ok : Ok c) {es : List Expr} {pos : Pos} (h : ES c es pos σ fun xs σ₁ => xs.length ≤ 1000 ∧ P (.own σ₁.own.length) { σ₁ with own := σ₁.own ++ [xs] }) : EV c (.List es pos) σ P := by
  intro s G O R
  refine List_ (TL.use h R fun vs s₁ xs σ₁ G₁ O₁ h₁ R₁ L₁ v₁ => wpAny_newObj_type ?_ ?_)
  · have al := R₁.allocOwn ok v₁
    exact ⟨_, _, _, _, h₁.2, al.1, L₁.trans al.2, .own (by rw [← R₁.olen, List.getElem?_append_right (Nat.le_refl _)]; simp)⟩
  · have := v₁.length; have h2 := h₁.1
    show vs.toArray.size ≤ sizeLine
    rw [List.size_toArray, this]; exact Nat.le_trans h2 (by decide)
end
end Mine
namespace Mine

section
variable {c : Cx} {σ : AS} {P : V → AS → Prop}

/-! ### targets -/
def PoU (c : Cx) (s : Shared) (G : Addr → Prop) (O : List Addr) (P : AS → Prop) (_ : Unit) (s' : Shared) : Prop := ∃ σ' G' O', P σ' ∧ Rl c σ' s' G' O' ∧ Le c s G O s' G' O'
theorem PoU.le {s s₁ : Shared} {G G₁ : Addr → Prop} {O O₁ : List Addr} {P : AS → Prop} {v : Unit} {s' : Shared} (l : Le c s G O s₁ G₁ O₁) (p : PoU c s₁ G₁ O₁ P v s') : PoU c s G O P v s' :=
  let ⟨σ', G', O', h1, h2, h3⟩ := p; ⟨σ', G', O', h1, h2, l.trans h3⟩
/-- a value is laid upon a target -/
def AN (c : Cx) (t : Expr) (x : V) (σ : AS) (P : AS → Prop) : Prop := ∀ s G O v, Rl c σ s G O → VR s.heap G O v x → wpAny c.M c.A (assign t c.env v) (PoU c s G O P) c.E s
def AL (c : Cx) (ts : List Expr) (xs : List V) (σ : AS) (P : AS → Prop) : Prop := ∀ s G O vs, Rl c σ s G O → VRs s.heap G O vs xs → wpAny c.M c.A (assignInOrder ((assignEach ts c.env).map (·.2)) vs) (PoU c s G O P) c.E s
theorem AN_name (ok : Ok c) {k : Nat} {x : Str} {X : V} {pos : Pos} {vars' : List (Option V)} {P : AS → Prop} (hx : At c.names k x) (hu : Upd σ.vars k X vars') (h : P { σ with vars := vars' }) : AN c (.Name x pos) X σ P :=
  fun _ G O _ R hv => wpAny_assign_Name (store_ ok R hx hu hv fun _ R' L' => ⟨_, G, O, h, R', L'⟩)
theorem AL_nil {xs : List V} {P : AS → Prop} (h : P σ) : AL c [] xs σ P := fun s G O vs R hv => by
  show wpAny _ _ (assignInOrder [] vs) _ _ _
  have : assignInOrder [] vs = pure () := by cases vs <;> rfl
  rw [this]; exact wpAny_pure ⟨σ, G, O, h, R, Le.refl⟩
theorem AL_cons {t : Expr} {ts : List Expr} {x : V} {xs : List V} {P : AS → Prop} (h : AN c t x σ fun σ₁ => AL c ts xs σ₁ P) (he : ∀ env, assignEach (t :: ts) env = (false, assign t env) :: assignEach ts env := by intro _; rfl) : AL c (t :: ts) (x :: xs) σ P := by
  intro s G O vs R hv
  cases hv with
  | @cons v vs _ _ hv hvs =>
  rw [he]
  show wpAny _ _ (do holding vs (assign t c.env v); assignInOrder ((assignEach ts c.env).map (·.2)) vs) _ _ _
  refine wpAny_bind (wpAny_holding (wpAny_mono (h s G O v R hv) (fun _ s₁ p => ?_) fun _ _ e => e))
  obtain ⟨σ₁, G₁, O₁, h₁, R₁, L₁⟩ := p
  exact wpAny_mono (h₁ s₁ G₁ O₁ vs R₁ (L₁.vrs R hvs)) (fun _ _ p => p.le L₁) fun _ _ e => e

/-- a tuple that is unpacked at once need not be frozen -/
def ANt (c : Cx) (ts : List Expr) (xs : List V) (σ : AS) (P : AS → Prop) : Prop := ∀ s G O T vals k pos, Rl c σ s G O → s.heap.IsTuple T vals → VRs s.heap G O vals.toList xs → wpAny c.M c.A (assign (.Tuple ts k pos) c.env (.ref T)) (PoU c s G O P) c.E s
theorem ANt_ (ok : Ok c) {ts : List Expr} {xs : List V} {P : AS → Prop} (h : AL c ts xs σ P) (hl : ts.length = xs.length) (hn : ∀ env, (assignEach ts env).length = ts.length := by intro _; rfl) (hs : ∀ env, (assignEach ts env).findIdx? (·.1) = none := by intro _; rfl) (hx : c.hx = false := by first | rfl | assumption) : ANt c ts xs σ P := by
  intro s G O T vals k pos R ht hv
  refine wpAny_assign_Tuple (ok.hd hx) ht ?_ (hs _) fun h' he => ?_
  · rw [hn, hl, ← hv.length]; simp
  · have gr := R.grow0 (h' := h') (tk := s.toks) ok fun b o e => he b o (Nat.ne_of_lt (Heap.lt_size e)) e
    exact wpAny_mono (h _ _ _ _ gr.1 (gr.2.vrs R hv)) (fun _ _ p => p.le gr.2) fun _ _ e => e
theorem AN_tup (ok : Ok c) {ts : List Expr} {k : Nat} {pos : Pos} {xs : List V} {P : AS → Prop} (h : ANt c ts xs σ P) (hx : c.hx = false := by first | rfl | assumption) : AN c (.Tuple ts k pos) (.tup xs) σ P := by
  intro s G O v R hv
  obtain ⟨a, vs, rfl, _, ht, hvs⟩ := hv.inv
  exact h s G O a vs k pos R ht hvs

theorem draw_list {prog : Program} {w : World} {A : Around} {E : Value → Shared → Prop} {it t : Addr} {items : Array Value} (hne : t ≠ it) : ∀ (n i : Nat) (s : Shared) (Q : List Value → Shared → Prop), s.heap.IsListIter it t i → s.heap.IsList t items → i + n ≤ items.size →
    (∀ h', h'.IsListIter it t (i + n) → Heap.SameBut it s.heap h' → Q ((items.toList.drop i).take n) { s with heap := h' }) → wpAny (model prog w) A (draw (.ref it) n) Q E s
  | 0, i, s, Q, hit, _, _, hQ => by
    show wpAny _ _ (pure []) Q E s
    exact wpAny_pure (by simpa using hQ s.heap hit (Heap.SameBut.refl ..))
  | n + 1, i, s, Q, hit, ht, hle, hQ => by
    have hlt : i < items.size := by omega
    show wpAny _ _ (pyNext (.ref it) >>= _) Q E s
    refine wpAny_bind (wpAny_pyNext_list_item hit ht (x := items[i]) (by simp [hlt]) fun h₁ hit₁ hs₁ => ?_)
    refine wpAny_bind (wpAny_holding (draw_list hne n (i + 1) _ _ hit₁ (ht.extBut hs₁.extBut hne) (by omega) fun h₂ hit₂ hs₂ => wpAny_pure ?_))
    have hd : items.toList.drop i = items[i] :: items.toList.drop (i + 1) := by simp [List.drop_eq_getElem_cons, hlt]
    have := hQ h₂ (by rw [show i + (n + 1) = i + 1 + n by omega]; exact hit₂) (hs₁.trans hs₂)
    rw [hd, List.take_succ_cons] at this
    exact this
theorem unpackItems_list {prog : Program} {w : World} {A : Around} {E : Value → Shared → Prop} {s : Shared} {t : Addr} {items : Array Value} {Q : List Value → Shared → Prop} (hh : A.handled = none) (ht : s.heap.IsList t items)
    (hQ : ∀ h', Heap.ExtBut s.heap.objs.size s.heap h' → Q items.toList { s with heap := h' }) : wpAny (model prog w) A (unpackItems (.ref t) items.size none) Q E s := by
  have hlt : t ≠ s.heap.objs.size := by obtain ⟨o, ho, _⟩ := ht; exact Nat.ne_of_lt (Heap.lt_size ho)
  unfold unpackItems
  refine wpAny_bind ?_
  unfold notIterableAtAll
  refine wpAny_bind (wpAny_specialOf ht.typeIs slot_list_iter.lookup ?_)
  refine wpAny_pure ?_
  simp only [Option.isSome_some, if_true, Bool.false_eq_true, if_false]
  refine wpAny_bind (wpAny_holding (wpAny_pyIter_list ht ?_))
  refine wpAny_bind (wpAny_holding (draw_list hlt items.size 0 _ _ ⟨_, Heap.get?_push_size _ rfl, rfl, rfl⟩ (ht.push _) (by omega) fun h₁ hit₁ hs₁ => ?_))
  have hall : List.take items.size (List.drop 0 items.toList) = items.toList := by
    rw [List.drop_zero]; exact List.take_of_length_le (by simp)
  rw [hall]
  rw [if_neg (by simp)]
  have ht₁ : h₁.IsList t items := (ht.push _).extBut hs₁.extBut hlt
  refine wpAny_bind (wpAny_holding (wpAny_pyNext_list_end hh hit₁ ht₁ (by simp) fun h₂ he₂ => ?_))
  simp only [Option.isSome_none, Bool.false_eq_true, if_false]
  refine wpAny_pure (hQ h₂ fun b o hb e => he₂ b o hb (hs₁.extBut b o hb (Heap.get?_push_of_some _ e)))
theorem AN_tupList (ok : Ok c) {ts : List Expr} {k : Nat} {pos : Pos} {xs : List V} {P : AS → Prop} (h : AL c ts xs σ P) (hl : ts.length = xs.length) (hn : ∀ env, (assignEach ts env).length = ts.length := by intro _; rfl) (hs : ∀ env, (assignEach ts env).findIdx? (·.1) = none := by intro _; rfl) (hx : c.hx = false := by first | rfl | assumption) : AN c (.Tuple ts k pos) (.list xs) σ P := by
  intro s G O v R hv
  obtain ⟨a, vs, rfl, _, ht, hvs⟩ := hv.inv
  show wpAny _ _ (do standAt pos; unpack (.ref a) (assignEach ts c.env)) _ _ _
  refine wpAny_bind (wpAny_standAt ?_)
  unfold unpack
  have e : (assignEach ts c.env).length = vs.size := by rw [hn, hl, ← hvs.length]; simp
  rw [e, hs]
  refine wpAny_bind (wpAny_holding (unpackItems_list (ok.hd hx) ht fun h' he => ?_))
  have gr := R.grow0 (h' := h') (tk := s.toks) ok fun b o e => he b o (Nat.ne_of_lt (Heap.lt_size e)) e
  exact wpAny_mono (h _ _ _ _ gr.1 (gr.2.vrs R hvs)) (fun _ _ p => p.le gr.2) fun _ _ e => e

/-! ### statements -/
theorem XS_nil {P : Fl → AS → Prop} (h : P .next σ) : XS c [] σ P := fun s G O R => wpAny_execs_nil ⟨.next, σ, G, O, h, R, Le.refl, .next⟩
/-- what follows a statement -/
def Then (c : Cx) (rest : List Stmt) (P : Fl → AS → Prop) : Fl → AS → Prop
  | .next, σ => XS c rest σ P
  | .brk, σ => P .brk σ
  | .cont, σ => P .cont σ
  | .ret v, σ => P (.ret v) σ
theorem XS_cons {st : Stmt} {rest : List Stmt} {P : Fl → AS → Prop} (h : EX c st σ (Then c rest P)) : XS c (st :: rest) σ P := by
  intro s G O R
  refine wpAny_execs_cons (TF.use h R fun f s₁ x σ₁ G₁ O₁ h₁ R₁ L₁ r₁ => ?_)
  cases r₁ with
  | next => exact wpAny_mono (h₁ s₁ G₁ O₁ R₁) (fun _ _ p => p.le L₁) fun _ _ e => e
  | brk => exact ⟨.brk, σ₁, G₁, O₁, h₁, R₁, L₁, .brk⟩
  | cont => exact ⟨.cont, σ₁, G₁, O₁, h₁, R₁, L₁, .cont⟩
  | ret r => exact ⟨.ret _, σ₁, G₁, O₁, h₁, R₁, L₁, .ret r⟩
theorem EX_assign {t v : Expr} {pos : Pos} {P : Fl → AS → Prop} (h : EV c v σ fun x σ₁ => AN c t x σ₁ (P .next)) (hs : swapsWithSole [t] v pos.line c.env = pure false := by rfl) (hw : swappedStores [t] v c.env = pure none := by rfl)
    (he : ∀ env, (assignEach [t] env).map (·.2) = [assign t env] := by intro _; rfl) : EX c (.Assign [t] v pos) σ P := by
  intro s G O R
  show wpAny _ _ (do
    standAt pos
    if ← swapsWithSole [t] v pos.line c.env then do
      evalThenUse v c.env fun v => assignAll v ((assignEach [t] c.env).map (·.2))
      pure .next
    else do
      let v' ← eval v c.env
      assignStores c.env v' (← swappedStores [t] v c.env) ((assignEach [t] c.env).map (·.2))) _ _ _
  rw [hs, hw]
  refine wpAny_bind (wpAny_standAt (wpAny_bind (wpAny_pure ?_)))
  refine wpAny_bind (TV.use h R fun a s₁ x σ₁ G₁ O₁ h₁ R₁ L₁ v₁ => wpAny_bind (wpAny_pure ?_))
  rw [he]
  refine wpAny_bind (wpAny_mono (h₁ s₁ G₁ O₁ a R₁ v₁) (fun _ s₂ p => wpAny_pure ?_) fun _ _ e => e)
  obtain ⟨σ₂, G₂, O₂, h₂, R₂, L₂⟩ := p
  exact ⟨.next, σ₂, G₂, O₂, h₂, R₂, L₁.trans L₂, .next⟩
theorem EX_assign2 {t₁ t₂ v : Expr} {pos : Pos} {P : Fl → AS → Prop} (h : EV c v σ fun x σ₁ => AN c t₁ x σ₁ fun σ₂ => AN c t₂ x σ₂ (P .next)) (hw : swappedStores [t₁, t₂] v c.env = pure none := by rfl)
    (he : ∀ env, (assignEach [t₁, t₂] env).map (·.2) = [assign t₁ env, assign t₂ env] := by intro _; rfl) : EX c (.Assign [t₁, t₂] v pos) σ P := by
  intro s G O R
  refine wpAny_Assign_two (TV.use h R fun a s₁ x σ₁ G₁ O₁ h₁ R₁ L₁ v₁ => wpAny_mono (h₁ s₁ G₁ O₁ a R₁ v₁) (fun _ s₂ p => ?_) fun _ _ e => e) (he _) hw
  obtain ⟨σ₂, G₂, O₂, h₂, R₂, L₂⟩ := p
  refine wpAny_mono (h₂ s₂ G₂ O₂ a R₂ (L₂.vr R₁ v₁)) (fun _ s₃ p => ?_) fun _ _ e => e
  obtain ⟨σ₃, G₃, O₃, h₃, R₃, L₃⟩ := p
  exact ⟨.next, σ₃, G₃, O₃, h₃, R₃, (L₁.trans L₂).trans L₃, .next⟩
/-- names that are stored from the last to the first -/
def AR (c : Cx) (ns : List Str) (xs : List V) (σ : AS) (P : AS → Prop) : Prop := ∀ s G O vs, Rl c σ s G O → VRs s.heap G O vs xs → wpAny c.M c.A (assignInOrder (ns.map fun n => bindName c.env n) vs) (PoU c s G O P) c.E s
theorem AR_nil {xs : List V} {P : AS → Prop} (h : P σ) : AR c [] xs σ P := fun s G O vs R hv => by
  have : assignInOrder (([] : List Str).map fun n => bindName c.env n) vs = pure () := by cases vs <;> rfl
  rw [this]; exact wpAny_pure ⟨σ, G, O, h, R, Le.refl⟩
theorem AR_cons (ok : Ok c) {k : Nat} {n : Str} {ns : List Str} {x : V} {xs : List V} {P : AS → Prop} {vars' : List (Option V)} (hx : At c.names k n) (hu : Upd σ.vars k x vars') (h : AR c ns xs { σ with vars := vars' } P) : AR c (n :: ns) (x :: xs) σ P := by
  intro s G O vs R hv
  cases hv with
  | @cons v vs _ _ hv hvs =>
  show wpAny _ _ (do holding vs (bindName c.env n v); assignInOrder (ns.map fun n => bindName c.env n) vs) _ _ _
  refine wpAny_bind (wpAny_holding (wpAny_bindName (store_ ok R hx hu hv fun s₁ R₁ L₁ => ?_)))
  exact wpAny_mono (h s₁ G O vs R₁ (L₁.vrs R hvs)) (fun _ _ p => p.le L₁) fun _ _ e => e
theorem VRs.snoc {h : Heap} {G : Addr → Prop} {O : List Addr} {vs : List Value} {xs : List V} {v : Value} {x : V} (r : VRs h G O vs xs) (q : VR h G O v x) : VRs h G O (vs ++ [v]) (xs ++ [x]) := r.append (.cons q .nil)
theorem VRs.reverse {h : Heap} {G : Addr → Prop} {O : List Addr} : ∀ {vs : List Value} {xs : List V}, VRs h G O vs xs → VRs h G O vs.reverse xs.reverse
  | _, _, .nil => .nil
  | _, _, .cons a b => by rw [List.reverse_cons, List.reverse_cons]; exact (VRs.reverse b).snoc a
theorem EX_swapped (ok : Ok c) {ts : List Expr} {k : Nat} {tpos : Pos} {v : Expr} {pos : Pos} {ns : List Str} {P : Fl → AS → Prop} (h : EV c v σ fun x σ₁ => ∃ xs, x = .tup xs ∧ xs.length = ns.length ∧ AR c ns.reverse xs.reverse σ₁ (P .next))
    (hs : swapsWithSole [.Tuple ts k tpos] v pos.line c.env = pure false := by rfl) (hw : swappedStores [.Tuple ts k tpos] v c.env = pure (some ns) := by rfl) (hx : c.hx = false := by first | rfl | assumption) : EX c (.Assign [.Tuple ts k tpos] v pos) σ P := by
  intro s G O R
  refine Assign_Tuple_swapped (TV.use h R fun a s₁ x σ₁ G₁ O₁ h₁ R₁ L₁ v₁ => ?_) hs hw
  obtain ⟨xs, rfl, hl, h₁⟩ := h₁
  obtain ⟨T, vs, rfl, _, ht, hvs⟩ := v₁.inv
  have e : ns.length = vs.size := by rw [← hl, ← hvs.length]; simp
  rw [e]
  refine wpAny_unpackItems_tuple (ok.hd hx) ht fun h' he => ?_
  have gr := R₁.grow0 (h' := h') (tk := s₁.toks) ok fun b o e => he b o (Nat.ne_of_lt (Heap.lt_size e)) e
  refine wpAny_mono (h₁ _ _ _ _ gr.1 (gr.2.vrs R₁ hvs).reverse) (fun _ s₂ p => ?_) fun _ _ e => e
  obtain ⟨σ₂, G₂, O₂, h₂, R₂, L₂⟩ := p
  exact ⟨.next, σ₂, G₂, O₂, h₂, R₂, (L₁.trans gr.2).trans L₂, .next⟩
theorem EX_aug (ok : Ok c) {k : Nat} {x : Str} {npos : Pos} {op : Operator} {v : Expr} {pos : Pos} {X : V} {P : Fl → AS → Prop} (hx : At c.names k x) (hv : Vat σ.vars k X)
    (h : EV c v σ fun y σ₁ => O2 c (inplaceOp op) X y σ₁ fun z σ₂ => ∃ vars', Upd σ₂.vars k z vars' ∧ P .next { σ₂ with vars := vars' }) : EX c (.AugAssign (.Name x npos) op v pos) σ P := by
  intro s G O R
  refine wpAny_AugAssign_Name (loadVar ok (R.vars k x X hx hv) fun a ra => TV.use h R fun b s₁ y σ₁ G₁ O₁ h₁ R₁ L₁ v₁ => h₁.use R₁ (L₁.vr R ra) v₁ fun r s₂ z σ₂ G₂ O₂ h₂ R₂ L₂ v₂ => ?_)
  obtain ⟨vars', hu, hp⟩ := h₂
  exact store_ ok R₂ hx hu v₂ fun s₃ R₃ L₃ => ⟨.next, _, G₂, O₂, hp, R₃, (L₁.trans L₂).trans L₃, .next⟩
theorem O2_iadd {a b : Int} (h : P (.int (a + b)) σ) : O2 c (inplaceOp .Add) (.int a) (.int b) σ P := by
  intro s G O v u R hv hu; obtain ⟨t, rfl⟩ := hv.inv; obtain ⟨t', rfl⟩ := hu.inv; exact iadd_int (fin_ R h (.int _ _))
theorem EX_if {t : Expr} {a b : List Stmt} {pos : Pos} {P : Fl → AS → Prop} (h : EB c t σ fun z σ₁ => (z = true → XS c a σ₁ P) ∧ (z = false → XS c b σ₁ P)) : EX c (.If t a b pos) σ P := by
  intro s G O R
  refine wpAny_If (TB.use h R fun z s₁ σ₁ G₁ O₁ h₁ R₁ L₁ => ?_)
  cases z with
  | true => exact wpAny_mono (h₁.1 rfl s₁ G₁ O₁ R₁) (fun _ _ p => p.le L₁) fun _ _ e => e
  | false => exact wpAny_mono (h₁.2 rfl s₁ G₁ O₁ R₁) (fun _ _ p => p.le L₁) fun _ _ e => e
theorem EX_ret {e : Expr} {pos : Pos} {P : Fl → AS → Prop} (h : EV c e σ fun x σ₁ => P (.ret x) σ₁) : EX c (.Return (some e) pos) σ P :=
  fun _ _ _ R => wpAny_Return_some (TV.use h R fun _ _ _ σ₁ G₁ O₁ h₁ R₁ L₁ v₁ => ⟨_, σ₁, G₁, O₁, h₁, R₁, L₁, .ret v₁⟩)
theorem EX_break {pos : Pos} {P : Fl → AS → Prop} (h : P .brk σ) : EX c (.Break pos) σ P := fun _ G O R => wpAny_Break ⟨_, σ, G, O, h, R, Le.refl, .brk⟩
theorem EX_cont {pos : Pos} {P : Fl → AS → Prop} (h : P .cont σ) : EX c (.Continue pos) σ P := fun _ G O R => wpAny_Continue ⟨_, σ, G, O, h, R, Le.refl, .cont⟩
theorem EX_expr {e : Expr} {pos : Pos} {P : Fl → AS → Prop} (h : EV c e σ fun x σ₁ => x = .none ∧ P .next σ₁) (hi : interactive c.env = false := by rfl) (hs : swapsWith e none pos.line c.env = pure false := by rfl) : EX c (.Expr e pos) σ P := by
  intro s G O R
  refine wpAny_Expr (TV.use h R fun a s₁ x σ₁ G₁ O₁ h₁ R₁ L₁ v₁ => ?_) hi hs
  obtain ⟨rfl, hp⟩ := h₁
  obtain rfl := v₁.inv
  exact ⟨_, σ₁, G₁, O₁, hp, R₁, L₁, .next⟩
end
end Mine
namespace Mine

/-! ### own lists that a turn has made are frozen at its end -/
mutual
def V.fz (m : Nat) (l : List (List V)) : V → V
  | .own k => if k < m then .own k else .list (l.getD (k - m) [])
  | .list xs => .list (V.fzs m l xs)
  | .tup xs => .tup (V.fzs m l xs)
  | x => x
def V.fzs (m : Nat) (l : List (List V)) : List V → List V
  | [] => []
  | x :: xs => V.fz m l x :: V.fzs m l xs
end
mutual
/-- no own list at m or above -/
def V.low (m : Nat) : V → Bool
  | .own k => decide (k < m)
  | .list xs => V.lows m xs
  | .tup xs => V.lows m xs
  | _ => true
def V.lows (m : Nat) : List V → Bool
  | [] => true
  | x :: xs => V.low m x && V.lows m xs
end
def AS.col (m : Nat) (σ : AS) : AS :=
  if σ.own.length = m then σ else { vars := σ.vars.map (Option.map (V.fz m (σ.own.drop m))), own := (σ.own.take m).map (V.fzs m (σ.own.drop m)) }
/-- what is to be frozen holds nothing that is to be frozen -/
def AS.colOk (m : Nat) (σ : AS) : Prop := σ.own.length = m ∨ (m ≤ σ.own.length ∧ ((σ.own.drop m).all (V.lows m)) = true)

section
variable {h : Heap} {G G' : Addr → Prop} {O O' : List Addr}
mutual
theorem VR.low {m : Nat} (hg : ∀ a, G a → G' a) : ∀ {v : Value} {x : V}, VR h G O v x → V.low m x = true → VR h G' (O.take m) v x
  | _, _, .none, _ => .none
  | _, _, .bool b, _ => .bool b
  | _, _, .int i t, _ => .int i t
  | _, _, .str x t, _ => .str x t
  | _, _, .bytes b t, _ => .bytes b t
  | _, _, .ty n, _ => .ty n
  | _, _, .bi n, _ => .bi n
  | _, _, .fn a, _ => .fn a
  | _, _, .list ga l r, q => .list (hg _ ga) l (VRs.low hg r (by simpa [V.low] using q))
  | _, _, .tup ga l r, q => .tup (hg _ ga) l (VRs.low hg r (by simpa [V.low] using q))
  | _, _, .own (k := k) e, q => .own (by
      have hk : k < m := by simpa [V.low] using q
      rw [List.getElem?_take_of_lt hk]; exact e)
  | _, _, .iset ga l, _ => .iset (hg _ ga) l
  | _, _, .sdict ga l, _ => .sdict (hg _ ga) l
  | _, _, .rng ga l, _ => .rng (hg _ ga) l
theorem VRs.low {m : Nat} (hg : ∀ a, G a → G' a) : ∀ {vs : List Value} {xs : List V}, VRs h G O vs xs → V.lows m xs = true → VRs h G' (O.take m) vs xs
  | _, _, .nil, _ => .nil
  | _, _, .cons a b, q => by
    simp only [V.lows, Bool.and_eq_true] at q
    exact .cons (VR.low hg a q.1) (VRs.low hg b q.2)
end
mutual
theorem VR.fz {m : Nat} {l : List (List V)} (hg : ∀ a, G a → G' a) (ho : ∀ k a, m ≤ k → O[k]? = some a → G' a ∧ ∃ vs, h.IsList a vs ∧ VRs h G' (O.take m) vs.toList (l.getD (k - m) [])) :
    ∀ {v : Value} {x : V}, VR h G O v x → VR h G' (O.take m) v (V.fz m l x)
  | _, _, .none => .none
  | _, _, .bool b => .bool b
  | _, _, .int i t => .int i t
  | _, _, .str x t => .str x t
  | _, _, .bytes b t => .bytes b t
  | _, _, .ty n => .ty n
  | _, _, .bi n => .bi n
  | _, _, .fn a => .fn a
  | _, _, .list ga ll r => .list (hg _ ga) ll (VRs.fz hg ho r)
  | _, _, .tup ga ll r => .tup (hg _ ga) ll (VRs.fz hg ho r)
  | _, _, .own (k := k) (a := a) e => by
    unfold V.fz
    by_cases hk : k < m
    · rw [if_pos hk]; exact .own (by rw [List.getElem?_take_of_lt hk]; exact e)
    · rw [if_neg hk]
      obtain ⟨g, vs, h1, h2⟩ := ho k a (by omega) e
      exact .list g h1 h2
  | _, _, .iset ga ll => .iset (hg _ ga) ll
  | _, _, .sdict ga ll => .sdict (hg _ ga) ll
  | _, _, .rng ga ll => .rng (hg _ ga) ll
theorem VRs.fz {m : Nat} {l : List (List V)} (hg : ∀ a, G a → G' a) (ho : ∀ k a, m ≤ k → O[k]? = some a → G' a ∧ ∃ vs, h.IsList a vs ∧ VRs h G' (O.take m) vs.toList (l.getD (k - m) [])) :
    ∀ {vs : List Value} {xs : List V}, VRs h G O vs xs → VRs h G' (O.take m) vs (V.fzs m l xs)
  | _, _, .nil => .nil
  | _, _, .cons a b => .cons (VR.fz hg ho a) (VRs.fz hg ho b)
end
end

section
variable {c : Cx} {σ : AS}
/-- the own lists from m on are frozen -/
theorem Rl.col {s : Shared} {G : Addr → Prop} {O : List Addr} (R : Rl c σ s G O) (m : Nat) (hc : σ.colOk m) : ∃ G', Rl c (σ.col m) s G' (O.take m) ∧ (∀ a, G a → G' a) ∧ (∀ a, G' a → G a ∨ a ∈ O.drop m) ∧
    (∀ v x, VR s.heap G O v x → VR s.heap G' (O.take m) v (if σ.own.length = m then x else V.fz m (σ.own.drop m) x)) := by
  unfold AS.col
  by_cases hm : σ.own.length = m
  · rw [if_pos hm]
    have : O.take m = O := List.take_of_length_le (by rw [R.olen, hm]; exact Nat.le_refl _)
    rw [this]
    exact ⟨G, R, fun _ q => q, fun _ q => .inl q, fun v x r => by rw [if_pos hm]; exact r⟩
  · rw [if_neg hm]
    obtain ⟨hle, hall⟩ := hc.resolve_left hm
    have hg : ∀ a, G a → (G a ∨ a ∈ O.drop m) := fun _ q => .inl q
    have ho : ∀ k a, m ≤ k → O[k]? = some a → (G a ∨ a ∈ O.drop m) ∧ ∃ vs, s.heap.IsList a vs ∧ VRs s.heap (fun a => G a ∨ a ∈ O.drop m) (O.take m) vs.toList ((σ.own.drop m).getD (k - m) []) := by
      intro k a hk e
      have hlt : k < σ.own.length := by rw [← R.olen]; exact (List.getElem?_eq_some_iff.mp e).1
      obtain ⟨b, vs, h1, h2, h3⟩ := R.own k _ (List.getElem?_eq_getElem hlt)
      rw [e] at h1; cases h1
      refine ⟨.inr ?_, vs, h2.isList, ?_⟩
      · have : (O.drop m)[k - m]? = some a := by rw [List.getElem?_drop]; rw [show m + (k - m) = k by omega]; exact e
        exact List.mem_of_getElem? this
      · have e2 : (σ.own.drop m)[k - m]? = some (σ.own[k]) := by rw [List.getElem?_drop]; rw [show m + (k - m) = k by omega]; exact List.getElem?_eq_getElem hlt
        rw [List.getD_eq_getElem?_getD, e2, Option.getD_some]
        exact h3.low hg (List.all_eq_true.mp hall _ (List.mem_of_getElem? e2))
    have dd : ∀ a ∈ O.drop m, a ∉ O.take m := fun a ha hb => by
      have hn := R.onod
      rw [← List.take_append_drop m O, List.nodup_append] at hn
      exact hn.2.2 a hb a ha rfl
    refine ⟨fun a => G a ∨ a ∈ O.drop m, ?_, hg, fun _ q => q, fun v x r => by rw [if_neg hm]; exact r.fz hg ho⟩
    refine ⟨R.base, R.kept, R.frames, R.fdk, fun a ga => ?_, fun a ga => ?_, fun a ga => .inl (R.g0 a ga), fun a ha => ?_, fun a ha => ?_, R.onod.sublist (List.take_sublist m O), R.ns, R.cells, fun k x X hx hX => ?_, ?_, fun k xs e => ?_, R.cap⟩
    · rcases ga with g | g
      · exact R.glive a g
      · exact R.oalive (List.mem_of_mem_drop g)
    · rcases ga with g | g
      · exact R.gnew a g
      · exact .inr (R.onew a (List.mem_of_mem_drop g)).1
    · obtain ⟨h1, h2, h3, h4⟩ := R.priv a ha
      exact ⟨h1, fun g => g.elim h2 fun g => h3 (List.mem_of_mem_drop g), fun q => h3 (List.mem_of_mem_take q), h4⟩
    · have := R.onew a (List.mem_of_mem_take ha)
      exact ⟨this.1, fun g => g.elim this.2 fun g => dd a g ha⟩
    · have e := hX.get
      rw [List.getElem?_map] at e
      cases e3 : σ.vars[k]? with
      | none => rw [e3] at e; cases e
      | some w =>
        rw [e3] at e
        cases w with
        | none => cases e
        | some w =>
          simp only [Option.map_some, Option.some.injEq] at e
          obtain ⟨v, h1, h2⟩ := R.vars k x w hx (Vat.of_get e3)
          exact ⟨v, e ▸ h1.fz hg ho, h2⟩
    · simp only [List.length_map, List.length_take, R.olen]
    · simp only [List.getElem?_map] at e
      cases e3 : (σ.own.take m)[k]? with
      | none => rw [e3] at e; cases e
      | some w =>
        rw [e3] at e
        simp only [Option.map_some, Option.some.injEq] at e
        have hk : k < m := by
          rcases Nat.lt_or_ge k m with q | q
          · exact q
          · rw [List.getElem?_eq_none (by simp; omega)] at e3; cases e3
        rw [List.getElem?_take_of_lt hk] at e3
        obtain ⟨a, vs, h1, h2, h3⟩ := R.own k w e3
        exact ⟨a, vs, by rw [List.getElem?_take_of_lt hk]; exact h1, h2, e ▸ h3.fz hg ho⟩

/-! ### for -/
def LoopK (next : AS → Prop) (m : Nat) (P : Fl → AS → Prop) : Fl → AS → Prop
  | .brk, σ => P .next σ
  | .ret v, σ => P (.ret v) σ
  | .next, σ => σ.colOk m ∧ next (σ.col m)
  | .cont, σ => σ.colOk m ∧ next (σ.col m)
def Loop (c : Cx) (asg : V → AS → (AS → Prop) → Prop) (body orelse : List Stmt) : List V → AS → (Fl → AS → Prop) → Prop
  | [], σ, P => XS c orelse σ P
  | x :: xs, σ, P => asg x σ fun σ₁ => XS c body σ₁ (LoopK (fun σ₂ => Loop c asg body orelse xs σ₂ P) σ.own.length P)

theorem of_false {α : Type} {M : Model} {A : Around} {t : Sem α} {Q : α → Shared → Prop} {E : Value → Shared → Prop} {s : Shared} (h : wpAny M A t Q (fun _ _ => False) s) : wpAny M A t Q E s := wpAny_mono h (fun _ _ q => q) fun _ _ e => e.elim

/-- what a loop needs of its source -/
structure Src (c : Cx) (target : Expr) (I : Addr) (fp wr : List Addr) (n : Nat) (P Md : Nat → Value → Heap → Prop) (St : Nat → Heap → Prop) (s₀ s : Shared) (G : Addr → Prop) (O : List Addr) : Prop where
  W : KTurns c.g.prog c.g.w c.A target I fp wr n P Md St
  st : St 0 s.heap
  own : ∀ b ∈ wr, s₀.heap.get? b = none ∧ ¬ G b ∧ b ∉ O ∧ b ∉ c.priv ∧ c.he.get? b = none
  foot : ∀ b ∈ fp, b ∈ wr ∨ (b ∉ c.priv ∧ b ∉ O ∧ ∃ o, s.heap.get? b = some o ∧ ¬ Dk o)
  cls : ∀ i h, St i h → ∀ b ∈ wr, ∃ o, h.get? b = some o ∧ ¬ Dk o
  self : ∀ i (s : Shared) (Q : Value → Shared → Prop) (E : Value → Shared → Prop), St i s.heap → Q (.ref I) s → wpAny c.M c.A (pyIter (.ref I)) Q E s

theorem for_core (ok : Ok c) (hE : c.E = fun _ _ => False) {target : Expr} {body orelse : List Stmt} {I : Addr} {fp wr : List Addr} {n : Nat} {Pt Md : Nat → Value → Heap → Prop} {St : Nat → Heap → Prop} {s₀ s : Shared} {G₀ G : Addr → Prop} {O₀ O : List Addr} {P : Fl → AS → Prop}
    (S : Src c target I fp wr n Pt Md St s₀ s G O) (R : Rl c σ s G O) (L0 : Le c s₀ G₀ O₀ s G O) (xs : List V) (hn : xs.length = n) (asg : V → AS → (AS → Prop) → Prop)
    (hasg : ∀ (i : Nat) x v σ' K s' G' O', xs[i]? = some x → Pt i v s'.heap → Rl c σ' s' G' O' → Ke G s.heap s'.heap → (∀ a, G a → G' a) → (∃ l, O' = O ++ l) → asg x σ' K → wpAny c.M c.A (assign target c.env v) (PoU c s' G' O' K) c.E s')
    (h : Loop c asg body orelse xs σ P) :
    codeAny c.M c.A (.forLoop target (.ref I) body orelse c.env) (fun r s' => match r with | .ok f => PoF c s₀ G₀ O₀ P f s' | .error e => cameBackBy c.M c.A c.env c.E e s') s := by
  have keep1 : ∀ {h1 h2 : Heap}, (∀ b o, b ∉ wr → h1.get? b = some o → h2.get? b = some o) → Ke (fun b => ¬ b ∈ wr) h1 h2 := fun k => Ke.of_keeps fun b o nb e => k b o nb e
  refine codeAny_forLoop_any (fun k s' => ∃ i σ' G' O', Loop c asg body orelse (xs.drop i) σ' P ∧ Rl c σ' s' G' O' ∧ Le c s₀ G₀ O₀ s' G' O' ∧ Ke G s.heap s'.heap ∧ (∀ a, G a → G' a) ∧ (∃ l, O' = O ++ l) ∧ St i s'.heap ∧ (∀ b ∈ wr, ¬ G' b ∧ b ∉ O') ∧
      (∀ b ∈ fp, b ∈ wr ∨ (b ∉ c.priv ∧ b ∉ O' ∧ ∃ o, s'.heap.get? b = some o ∧ ¬ Dk o)) ∧ i ≤ n ∧ k = n + 1 - i) ?_ (n + 1)
    ⟨0, σ, G, O, by simpa using h, R, L0, Ke.refl _ _, fun _ q => q, ⟨[], by simp⟩, S.st, fun b hb => ⟨(S.own b hb).2.1, (S.own b hb).2.2.1⟩, S.foot, Nat.zero_le _, rfl⟩
  rintro k s' ⟨i, σ', G', O', hL, R', L', kG, gG, oO, hst, hwr, hfp, hi, rfl⟩
  -- the step of the iterator
  have step : ∀ (h' : Heap) (tk : Nat), (∀ b o, b ∉ wr → s'.heap.get? b = some o → h'.get? b = some o) → Rl c σ' { s' with heap := h', toks := tk } G' O' ∧ Le c s₀ G₀ O₀ { s' with heap := h', toks := tk } G' O' ∧ Ke G' s'.heap h' := by
    intro h' tk k
    have kk := keep1 k
    refine ⟨R'.keep (fun b => b ∈ wr) kk (fun b o e => k b o (fun hb => (hwr b hb).1 (R'.g0 _ (ok.bg b o e))) (R'.base b o e)) (fun b hb => ⟨(hwr b hb).1, (S.own b hb).2.2.2.2, (S.own b hb).2.2.2.1, (hwr b hb).2⟩) ok (fun _ q => q) fun _ q => .inl q, ⟨?_, L'.o⟩, kk.mono fun a ga hb => (hwr a hb).1 ga⟩
    exact L'.toLeS.move (fun b => b ∈ wr) kk (fun b hb => .inr (.inr (S.own b hb).1)) (fun b hb q => absurd q fun q => q.elim (S.own b hb).2.2.2.1 (hwr b hb).2) (fun _ q => q) (fun _ q => .inl q) fun _ q => .inl q
  by_cases hlt : i < n
  · obtain ⟨x, hx⟩ : ∃ x, xs[i]? = some x := ⟨xs[i], List.getElem?_eq_getElem (by omega)⟩
    have hd : xs.drop i = x :: xs.drop (i + 1) := by
      have := (List.getElem?_eq_some_iff.mp hx)
      rw [List.drop_eq_getElem_cons (by omega)]; rw [this.2]
    rw [hd] at hL
    refine S.W.item i s' _ _ hlt hst fun v h₁ tk₁ hm hk₁ => ?_
    refine S.W.go i v _ _ _ hm fun h₂ hP st₂ hk₂ => ?_
    have hk : ∀ b o, b ∉ wr → s'.heap.get? b = some o → h₂.get? b = some o := fun b o nb e => hk₂ b o nb (hk₁ b o nb e)
    obtain ⟨R₂, L₂, kG₂⟩ := step h₂ tk₁ hk
    have kGG : Ke G s.heap h₂ := kG.trans kG₂ gG
    have fin : ∀ {α : Type} {t : Sem α} {Q : α → Shared → Prop} {E : Value → Shared → Prop} {s : Shared}, wpAny c.M c.A t Q c.E s → wpAny c.M c.A t Q E s := fun h => of_false (hE ▸ h)
    refine fin (wpAny_mono (hasg i x v σ' _ _ G' O' hx hP R₂ kGG gG oO hL) (fun _ s₃ p => ?_) fun _ _ e => e)
    obtain ⟨σ₃, G₃, O₃, h₃, R₃, L₃⟩ := p
    refine fin (TF.use h₃ R₃ fun f s₄ y σ₄ G₄ O₄ h₄ R₄ L₄ r₄ => ?_)
    have L₂₄ := L₃.trans L₄
    have L₀₄ := L₂.trans L₂₄
    -- what the body leaves of the source
    have wr4 : ∀ b ∈ wr, ¬ G₄ b ∧ b ∉ O₄ := fun b hb => by
      obtain ⟨o, e, _⟩ := S.cls _ _ st₂ b hb
      exact ⟨fun g => (L₂₄.gn b g).elim (hwr b hb).1 fun q => (by rw [e] at q; cases q), fun g => (L₂₄.on b g).elim (hwr b hb).2 fun q => (by rw [e] at q; cases q)⟩
    have st4 : St (i + 1) s₄.heap := by
      refine S.W.frame _ _ _ st₂ fun b hb o e => ?_
      rcases hfp b hb with q | ⟨q1, q2, o', e', q3⟩
      · obtain ⟨o', e', q3⟩ := S.cls _ _ st₂ b q
        have e2 : h₂.get? b = some o := e
        rw [e2] at e'; cases e'
        exact (L₂₄.ke b ⟨(S.own b q).2.2.2.1, (hwr b q).2⟩ o e2).2 q3
      · by_cases hb' : b ∈ wr
        · obtain ⟨o', e', q3⟩ := S.cls _ _ st₂ b hb'
          have e2 : h₂.get? b = some o := e
          rw [e2] at e'; cases e'
          exact (L₂₄.ke b ⟨(S.own b hb').2.2.2.1, (hwr b hb').2⟩ o e2).2 q3
        · have e2 : h₂.get? b = some o := e
          rw [hk b o' hb' e'] at e2; cases e2
          exact (L₂₄.ke b ⟨q1, q2⟩ o e).2 q3
    have fp4 : ∀ b ∈ fp, b ∈ wr ∨ (b ∉ c.priv ∧ b ∉ O₄ ∧ ∃ o, s₄.heap.get? b = some o ∧ ¬ Dk o) := fun b hb => by
      refine (Classical.em (b ∈ wr)).imp id fun nb => ?_
      rcases hfp b hb with q | ⟨q1, q2, o', e', q3⟩
      · exact absurd q nb
      · have e2 := hk b o' nb e'
        exact ⟨q1, fun g => (L₂₄.on b g).elim q2 fun q => (by rw [show ({ s' with heap := h₂, toks := tk₁ } : Shared).heap.get? b = some o' from e2] at q; cases q), o', (L₂₄.ke b ⟨q1, q2⟩ o' e2).2 q3, q3⟩
    have next : σ₄.colOk σ'.own.length ∧ Loop c asg body orelse (xs.drop (i + 1)) (σ₄.col σ'.own.length) P → ∃ m, m < n + 1 - i ∧ ∃ i' σ' G' O', Loop c asg body orelse (xs.drop i') σ' P ∧ Rl c σ' s₄ G' O' ∧ Le c s₀ G₀ O₀ s₄ G' O' ∧ Ke G s.heap s₄.heap ∧ (∀ a, G a → G' a) ∧ (∃ l, O' = O ++ l) ∧ St i' s₄.heap ∧ (∀ b ∈ wr, ¬ G' b ∧ b ∉ O') ∧
      (∀ b ∈ fp, b ∈ wr ∨ (b ∉ c.priv ∧ b ∉ O' ∧ ∃ o, s₄.heap.get? b = some o ∧ ¬ Dk o)) ∧ i' ≤ n ∧ m = n + 1 - i' := by
      rintro ⟨hc, hl⟩
      obtain ⟨G₅, R₅, g5, g5', _⟩ := R₄.col σ'.own.length hc
      obtain ⟨l4, hl4⟩ := L₂₄.o
      have ot : O₄.take σ'.own.length = O' := by rw [hl4, ← R'.olen]; simp
      rw [ot] at R₅
      have od : O₄.drop σ'.own.length = l4 := by rw [hl4, ← R'.olen]; simp
      rw [od] at g5'
      have new4 : ∀ a ∈ l4, ({ s' with heap := h₂, toks := tk₁ } : Shared).heap.get? a = none := fun a ha => by
        have : a ∈ O₄ := by rw [hl4]; exact List.mem_append_right _ ha
        rcases L₂₄.on a this with q | q
        · have hn := R₄.onod
          rw [hl4, List.nodup_append] at hn
          exact absurd rfl (hn.2.2 a q a ha)
        · exact q
      have gn5 : ∀ a, G₅ a → G' a ∨ ({ s' with heap := h₂, toks := tk₁ } : Shared).heap.get? a = none := fun a ga => (g5' a ga).elim (L₂₄.gn a) fun q => .inr (new4 a q)
      refine ⟨n + 1 - (i + 1), by omega, i + 1, _, G₅, O', hl, R₅, ?_, ?_, fun a q => g5 a (L₂₄.g a (gG a q)), oO, st4, fun b hb => ⟨fun g => ?_, (hwr b hb).2⟩, fun b hb => ?_, hlt, rfl⟩
      · obtain ⟨l0, hl0⟩ := L'.o
        obtain ⟨hp, tk, e4⟩ := L₀₄.same
        refine ⟨⟨⟨hp, tk, e4⟩, fun a q => g5 a (L₀₄.g a q), L₀₄.ke, fun a ha => L'.on a ha, fun a ga => ?_, L₀₄.live⟩, l0, hl0⟩
        rcases gn5 a ga with q | q
        · exact L'.gn a q
        · refine .inr ?_
          cases e : s₀.heap.get? a with
          | none => rfl
          | some o => obtain ⟨o', e'⟩ := L₂.live a o e; rw [q] at e'; cases e'
      · exact kGG.trans (L₂₄.keG R₂) gG
      · obtain ⟨o, e, _⟩ := S.cls _ _ st₂ b hb
        exact (gn5 b g).elim (hwr b hb).1 fun q => by rw [show ({ s' with heap := h₂, toks := tk₁ } : Shared).heap.get? b = some o from e] at q; cases q
      · refine (fp4 b hb).imp id fun q => ⟨q.1, fun g => q.2.1 ?_, q.2.2⟩
        rw [hl4]; exact List.mem_append_left _ g
    cases r₄ with
    | next => exact next h₄
    | cont => exact next h₄
    | brk => exact ⟨.next, σ₄, G₄, O₄, h₄, R₄, L₀₄, .next⟩
    | ret r => exact ⟨.ret _, σ₄, G₄, O₄, h₄, R₄, L₀₄, .ret r⟩
  · have hin : i = n := by omega
    subst hin
    rw [List.drop_eq_nil_of_le (by omega)] at hL
    refine S.W.done s' _ _ hst fun h₁ tk₁ hk₁ => ?_
    obtain ⟨R₂, L₂, _⟩ := step h₁ tk₁ hk₁
    exact of_false (hE ▸ wpAny_mono (hL _ _ _ R₂) (fun _ _ p => p.le L₂) fun _ _ e => e)
end
end Mine
namespace Mine

theorem Ok.room {c : Cx} (ok : Ok c) : c.A.units + 100 < cLine := by
  have h1 := ok.units; have h2 := ok.depth; have : cLine = 9900 := rfl
  omega

/-! ### calls -/
def CL (c : Cx) (f : V) (xs : List V) (kw : List (Str × V)) (σ : AS) (P : V → AS → Prop) : Prop :=
  ∀ s G O fv vs kvs, Rl c σ s G O → VR s.heap G O fv f → VRs s.heap G O vs xs → VRs s.heap G O kvs (kw.map (·.2)) → wpAny c.M c.A (call fv vs ((kw.map (·.1)).zip kvs)) (Po c s G O P) c.E s

section
variable {c : Cx} {σ : AS} {P : V → AS → Prop}
def IsFn (g : Gc) (a : Addr) : Prop := ∃ o fd, g.base.get? a = some o ∧ o.data = .func fd

theorem EV_callB {x : Str} {p : Pos} {e : Expr} {es : List Expr} {pos : Pos} {id : String} (h : EV c (.Name x p) σ fun F σ₁ => F = .bi id ∧ ES c (e :: es) pos σ₁ fun xs σ₂ => CL c (.bi id) xs [] σ₂ P)
    (he : ∀ env, starEach (e :: es) env = (false, eval e env) :: starEach es env := by intro _; rfl) (hp : ∀ env, (backTo pos (starEach es env)).any (·.1) = false := by intro _; rfl) : EV c (.Call (.Name x p) (e :: es) [] pos) σ P := by
  intro s G O R
  refine PyProof.Rows.Call_ (TV.use h R fun fv s₁ F σ₁ G₁ O₁ h₁ R₁ L₁ v₁ => ?_)
  obtain ⟨rfl, h₁⟩ := h₁
  obtain rfl := v₁.inv
  refine callWith_builtin1 (TL.use h₁ R₁ fun vs s₂ xs σ₂ G₂ O₂ h₂ R₂ L₂ v₂ => ?_) (he _) (hp _)
  exact wpAny_mono (h₂ s₂ G₂ O₂ _ vs [] R₂ (.bi _) v₂ .nil) (fun _ _ p => p.le (L₁.trans L₂)) fun _ _ e => e
theorem EV_callT {x : Str} {p : Pos} {e : Expr} {es : List Expr} {pos : Pos} {id : String} (h : EV c (.Name x p) σ fun F σ₁ => F = .ty id ∧ ES c (e :: es) pos σ₁ fun xs σ₂ => CL c (.ty id) xs [] σ₂ P)
    (he : ∀ env, starEach (e :: es) env = (false, eval e env) :: starEach es env := by intro _; rfl) (hp : ∀ env, (backTo pos (starEach es env)).any (·.1) = false := by intro _; rfl) : EV c (.Call (.Name x p) (e :: es) [] pos) σ P := by
  intro s G O R
  refine PyProof.Rows.Call_ (TV.use h R fun fv s₁ F σ₁ G₁ O₁ h₁ R₁ L₁ v₁ => ?_)
  obtain ⟨rfl, h₁⟩ := h₁
  obtain rfl := v₁.inv
  refine PyProof.Rows.callWith_type1 (TL.use h₁ R₁ fun vs s₂ xs σ₂ G₂ O₂ h₂ R₂ L₂ v₂ => ?_) (he _) (hp _)
  exact wpAny_mono (h₂ s₂ G₂ O₂ _ vs [] R₂ (.ty _) v₂ .nil) (fun _ _ p => p.le (L₁.trans L₂)) fun _ _ e => e
theorem EV_callF {x : Str} {p : Pos} {e : Expr} {es : List Expr} {pos : Pos} {a : Addr} (hf : IsFn c.g a) (h : EV c (.Name x p) σ fun F σ₁ => F = .fn a ∧ ES c (e :: es) pos σ₁ fun xs σ₂ => CL c (.fn a) xs [] σ₂ P)
    (he : ∀ env, starEach (e :: es) env = (false, eval e env) :: starEach es env := by intro _; rfl) : EV c (.Call (.Name x p) (e :: es) [] pos) σ P := by
  intro s G O R
  obtain ⟨o, fd, ho, hd⟩ := hf
  refine PyProof.Rows.Call_ (TV.use h R fun fv s₁ F σ₁ G₁ O₁ h₁ R₁ L₁ v₁ => ?_)
  obtain ⟨rfl, h₁⟩ := h₁
  obtain rfl := v₁.inv
  refine callWith_def hd (TL.use h₁ R₁ fun vs s₂ xs σ₂ G₂ O₂ h₂ R₂ L₂ v₂ => ⟨R₂.base _ _ ho, ?_⟩) (he _)
  exact wpAny_mono (h₂ s₂ G₂ O₂ _ vs [] R₂ (.fn _) v₂ .nil) (fun _ _ p => p.le (L₁.trans L₂)) fun _ _ e => e
/-- one keyword -/
theorem EV_callK {x : Str} {p : Pos} {e : Expr} {es : List Expr} {pos kp : Pos} {a : Addr} {kn : Str} {ke : Expr} (hf : IsFn c.g a)
    (h : EV c (.Name x p) σ fun F σ₁ => F = .fn a ∧ ES c (e :: es) pos σ₁ fun xs σ₂ => EV c ke σ₂ fun y σ₃ => CL c (.fn a) xs [(kn, y)] σ₃ P)
    (he : ∀ env, starEach (e :: es) env = (false, eval e env) :: starEach es env := by intro _; rfl) : EV c (.Call (.Name x p) (e :: es) [⟨some kn, ke, kp⟩] pos) σ P := by
  intro s G O R
  obtain ⟨o, fd, ho, hd⟩ := hf
  refine wpAny_Call_Name_kw (TV.use h R fun fv s₁ F σ₁ G₁ O₁ h₁ R₁ L₁ v₁ => ?_)
  obtain ⟨rfl, h₁⟩ := h₁
  obtain rfl := v₁.inv
  refine callWith_function_kw (o := o) (fd := fd) ?_
  have h₁' : TL c (spliced (backTo pos (starEach (e :: es) c.env))) σ₁ _ := h₁
  rw [he] at h₁' ⊢
  refine evalArgs_kw rfl (TL.use h₁' R₁ fun vs s₂ xs σ₂ G₂ O₂ h₂ R₂ L₂ v₂ => ?_)
  show wpAny _ _ (evalAll [do let v ← eval ke c.env; standAt pos; pure v]) _ _ _
  refine wpAny_evalAll_cons (wpAny_bind (TV.use h₂ R₂ fun kv s₃ y σ₃ G₃ O₃ h₃ R₃ L₃ v₃ => wpAny_bind (wpAny_standAt (wpAny_pure (wpAny_evalAll_nil ⟨⟨R₃.base _ _ ho, hd⟩, ?_⟩)))))
  exact wpAny_mono (h₃ s₃ G₃ O₃ _ vs [kv] R₃ (.fn _) (L₃.vrs R₂ v₂) (.cons v₃ .nil)) (fun _ _ p => p.le ((L₁.trans L₂).trans L₃)) fun _ _ e => e
end

/-- a body whose own lists may be frozen between the statements -/
def PoW (c : Cx) (s : Shared) (P : Fl → AS → Prop) (f : Flow) (s' : Shared) : Prop := ∃ x σ' G' O', P x σ' ∧ Rl c σ' s' G' O' ∧ (∃ h tk, s' = { s with heap := h, toks := tk }) ∧ FR s'.heap G' O' f x
def XF (c : Cx) (ss : List Stmt) (σ : AS) (P : Fl → AS → Prop) : Prop := ∀ s G O, Rl c σ s G O → wpAny c.M c.A (execs ss c.env) (PoW c s P) c.E s
section
variable {c : Cx} {σ : AS} {P : Fl → AS → Prop}
theorem XF_of {ss : List Stmt} (h : XS c ss σ P) : XF c ss σ P := fun s G O R => TF.use h R fun _ _ x σ₁ G₁ O₁ hp R₁ L₁ r => ⟨x, σ₁, G₁, O₁, hp, R₁, L₁.same, r⟩
def ThenF (c : Cx) (rest : List Stmt) (P : Fl → AS → Prop) : Fl → AS → Prop
  | .next, σ => XF c rest σ P
  | f, σ => P f σ
end

/-! ### contracts -/
/-- what a call of the text's own def gives: the caller's state stays -/
def Fn (g : Gc) (f : Addr) (d : Nat) (xs : List V) (kw : List (Str × V)) (P : V → Prop) : Prop :=
  ∀ (c : Cx) (σ : AS) s G O vs kvs, c.g = g → Ok c → c.hx = false → c.A.depth + d ≤ 500 → Rl c σ s G O → VRs s.heap G O vs xs → VRs s.heap G O kvs (kw.map (·.2)) →
    wpAny c.M c.A (call (.ref f) vs ((kw.map (·.1)).zip kvs)) (Po c s G O fun X σ' => σ' = σ ∧ P X) c.E s
theorem CL_fn {c : Cx} {σ : AS} {P : V → AS → Prop} {a : Addr} {d : Nat} {xs : List V} {kw : List (Str × V)} {P₀ : V → Prop} (ok : Ok c) (h : Fn c.g a d xs kw P₀) (hd : c.A.depth + d ≤ 500) (k : ∀ X, P₀ X → P X σ) (hx : c.hx = false := by first | rfl | assumption) : CL c (.fn a) xs kw σ P := by
  intro s G O fv vs kvs R hv hvs hkw
  obtain rfl := hv.inv
  refine wpAny_mono (h c σ s G O vs kvs rfl ok hx hd R hvs hkw) (fun v s' p => ?_) fun _ _ e => e
  obtain ⟨X, σ', G', O', ⟨rfl, hp⟩, r⟩ := p
  exact ⟨X, σ', G', O', k X hp, r⟩
def fenv (scope : Scope) (qual : Str) (cdv : Value) (L f : Addr) : Env := newEnv scope L mainGlobals (cellsFrom (L + 1) scope.names []) (qual ++ ".<locals>.") (some f) cdv none builtinsNs
abbrev fcx (g : Gc) (A : Around) (he : Heap) (G₀ : Addr → Prop) (outer : List Env) (L f : Addr) (scope : Scope) (qual : Str) (cdv : Value) (names : List Str) (gls : List (Str × V)) : Cx :=
  { g := g, A := A.deeper (fenv scope qual cdv L f), E := fun _ _ => False, he := he, G₀ := G₀, env := fenv scope qual cdv L f, fenv := fenv scope qual cdv L f, outer := outer, names := names, cap := [], priv := L :: (cellsFrom (L + 1) scope.names []).map (·.2), gls := gls }
/-- how the body of a def must end -/
def FnPost (P : V → Prop) : Fl → AS → Prop
  | .ret x, σ => σ.colOk 0 ∧ P (if σ.own.length = 0 then x else V.fz 0 σ.own x)
  | _, _ => False

theorem bindL_get {kindOf : Str → Option NameKind} : ∀ {ps : List Str} {vs : List Value} {m : Str → Option Value} {k : Nat} {x : Str} {v : Value}, ps.Nodup → ps[k]? = some x → vs[k]? = some v → kindOf x = some .local → bindL kindOf (ps.zip vs) m x = some v := by
  have skip : ∀ {ps : List Str} {vs : List Value} {m : Str → Option Value} {x : Str}, x ∉ ps → bindL kindOf (ps.zip vs) m x = m x := by
    intro ps
    induction ps with
    | nil => intro vs m x _; rfl
    | cons p ps ih =>
      intro vs m x hx
      cases vs with
      | nil => rfl
      | cons v vs =>
        simp only [List.zip_cons_cons, bindL]
        rw [ih (fun h => hx (.tail _ h))]
        split
        · have : x ≠ p := fun h => hx (h ▸ .head _)
          simp [this]
        · rfl
  intro ps
  induction ps with
  | nil => intro vs m k x v _ h; simp at h
  | cons p ps ih =>
    intro vs m k x v nd hx hv hk
    cases vs with
    | nil => simp at hv
    | cons u vs =>
      simp only [List.zip_cons_cons, bindL]
      cases k with
      | zero =>
        simp only [List.getElem?_cons_zero, Option.some.injEq] at hx hv
        subst hx hv
        rw [skip (List.nodup_cons.mp nd).1, if_pos hk]; simp
      | succ k => exact ih (List.nodup_cons.mp nd).2 (by simpa using hx) (by simpa using hv) hk
theorem bindC_get {kindOf : Str → Option NameKind} : ∀ {ps : List Str} {vs : List Value} {m : Str → Option Value} {k : Nat} {x : Str} {v : Value}, ps.Nodup → ps[k]? = some x → vs[k]? = some v → kindOf x = some .cell → bindC kindOf (ps.zip vs) m x = some v := by
  have skip : ∀ {ps : List Str} {vs : List Value} {m : Str → Option Value} {x : Str}, x ∉ ps → bindC kindOf (ps.zip vs) m x = m x := by
    intro ps
    induction ps with
    | nil => intro vs m x _; rfl
    | cons p ps ih =>
      intro vs m x hx
      cases vs with
      | nil => rfl
      | cons v vs =>
        simp only [List.zip_cons_cons, bindC]
        rw [ih (fun h => hx (.tail _ h))]
        split
        · rfl
        · have : x ≠ p := fun h => hx (h ▸ .head _)
          simp [this]
  intro ps
  induction ps with
  | nil => intro vs m k x v _ h; simp at h
  | cons p ps ih =>
    intro vs m k x v nd hx hv hk
    cases vs with
    | nil => simp at hv
    | cons u vs =>
      simp only [List.zip_cons_cons, bindC]
      cases k with
      | zero =>
        simp only [List.getElem?_cons_zero, Option.some.injEq] at hx hv
        subst hx hv
        rw [skip (List.nodup_cons.mp nd).1, if_neg (by rw [hk]; decide)]; simp
      | succ k => exact ih (List.nodup_cons.mp nd).2 (by simpa using hx) (by simpa using hv) hk
theorem At.of_get {l : List Str} {k : Nat} {x : Str} (a : l[k]? = some x) : At l k x := by
  induction l generalizing k with
  | nil => simp at a
  | cons y l ih =>
    cases k with
    | zero => simp at a; subst a; exact .here
    | succ k => exact .there (ih (by simpa using a))

/-- what is static of a def -/
structure FnOk (g : Gc) (f : Addr) (fd : FuncData) (body : List Stmt) (scope : Scope) (qual : Str) (cdv : Value) (ps ls : List Str) (gls : List (Str × V)) : Prop where
  seq : scope = fd.scope
  qeq : qual = fd.qualname
  ceq : cdv = fd.code
  at' : ∃ o, g.base.get? f = some o ∧ o.data = .func fd
  code : g.base.CodeRec fd.code fd.qualname
  stmts : fd.body = .stmts body
  clo : fd.closure = []
  glob : fd.globals = mainGlobals
  blt : fd.builtins = builtinsNs
  co : fd.scope.isCoroutine = false
  gen : fd.scope.isGenerator = false
  kind : fd.scope.kind = .function
  nd : (ps ++ ls).Nodup
  nk : ((ps ++ ls).all fun x => fd.scope.names.lookup x == some .local || (fd.scope.names.lookup x == some .cell && ((cellsFrom 0 fd.scope.names []).lookup x).isSome)) = true
  nolim : g.base.NoLimit
  cn : ((cellsFrom 0 fd.scope.names []).map (·.1)).Nodup
  gk : (gls.all fun p => fd.scope.names.lookup p.1 == some .globalImplicit && !(p.1 == ("__debug__" : Str))) = true
  dbg : ((ps ++ ls).all fun x => !(x == ("__debug__" : Str))) = true

theorem cellsFrom_shift : ∀ (names : List (Str × NameKind)) (n d : Nat) (acc : List (Str × Addr)) (x : Str), ((cellsFrom (n + d) names (acc.map fun p => (p.1, p.2 + d))).lookup x) = ((cellsFrom n names acc).lookup x).map (· + d)
  | [], n, d, acc, x => by
    simp only [cellsFrom]
    induction acc with
    | nil => rfl
    | cons p r ih =>
      obtain ⟨p1, p2⟩ := p
      simp only [List.map_cons, List.lookup_cons]
      cases x == p1 with
      | true => rfl
      | false => exact ih
  | (y, k) :: r, n, d, acc, x => by
    simp only [cellsFrom]
    split
    · have := cellsFrom_shift r (n + 1) d ((y, n) :: acc) x
      rw [show n + 1 + d = n + d + 1 by omega] at this
      exact this
    · exact cellsFrom_shift r n d acc x

theorem fn_intro {g : Gc} {f : Addr} {d : Nat} {xs bxs : List V} {kw : List (Str × V)} {P : V → Prop} {fd : FuncData} {body : List Stmt} {scope : Scope} {qual : Str} {cdv : Value} {ps ls : List Str} {gls : List (Str × V)} (K : FnOk g f fd body scope qual cdv ps ls gls) (hgl : AllG g gls)
    (hbind : ∀ s vs kvs G O, g.base.StaysIn s.heap → VRs s.heap G O vs xs → VRs s.heap G O kvs (kw.map (·.2)) → ∃ bvs, BindsTo s fd ⟨vs, (kw.map (·.1)).zip kvs⟩ (ps.zip bvs) ∧ VRs s.heap G O bvs bxs)
    (hlen : ps.length = bxs.length) (hlow : V.lows 0 bxs = true) {names : List Str} {vars₀ : List (Option V)} (hnm : ps ++ ls = names) (hvr : (bxs.map some ++ ls.map fun _ => none) = vars₀)
    (h : ∀ A he G₀ outer L, Ok (fcx g A he G₀ outer L f scope qual cdv names gls) → A.depth + d ≤ 500 → XF (fcx g A he G₀ outer L f scope qual cdv names gls) body { vars := vars₀, own := [] } (FnPost P)) (hd1 : 1 ≤ d) :
    Fn g f d xs kw P := by
  intro c σ s G O vs kvs hg ok hx0 hd R hv hk
  subst hg
  subst hnm hvr
  obtain rfl := K.seq
  obtain rfl := K.qeq
  obtain rfl := K.ceq
  obtain ⟨o, ho, hdat⟩ := K.at'
  obtain ⟨bvs, hb, hbv⟩ := hbind s vs kvs G O R.base hv hk
  have hbl : ps.length = bvs.length := by rw [hlen, ← hbv.length]
  have nk : ∀ x ∈ ps ++ ls, fd.scope.names.lookup x = some .local ∨ (fd.scope.names.lookup x = some .cell ∧ ∀ n, ((cellsFrom n fd.scope.names []).lookup x).isSome = true) := by
    intro x hx
    have := List.all_eq_true.mp K.nk x hx
    simp only [Bool.or_eq_true, Bool.and_eq_true, beq_iff_eq] at this
    refine this.imp id fun q => ⟨q.1, fun n => ?_⟩
    have := cellsFrom_shift fd.scope.names 0 n [] x
    rw [Nat.zero_add, List.map_nil] at this
    rw [this, Option.isSome_map]; exact q.2
  have npd : ps.Nodup := (List.nodup_append.mp K.nd).1
  refine wpAny_call (codeAny_call_function (by have := ok.depth; show c.A.depth < recursionLimit; unfold recursionLimit; omega) (R.base _ _ ho) hdat K.co K.gen K.stmts (K.code.keeps R.base) (hb _ _ _ _ ?_))
  rw [K.clo]
  refine wpAny_newFunctionEnv_cells K.kind (fun x hx => ?_) fun env henv s₁ x => ?_
  · have hm : x.1 ∈ ps ++ ls := List.mem_append_left _ (List.of_mem_zip hx).1
    exact (nk x.1 hm).imp id fun q => ⟨q.1, q.2 _⟩
  have henv' : env = fenv fd.scope fd.qualname fd.code s.heap.objs.size f := by rw [henv, K.glob, K.blt]; rfl
  subst henv'
  refine ⟨(K.nolim.keeps R.base).keeps x.toInCall.keep, codeAny_func ?_⟩
  have frL : s.heap.get? s.heap.objs.size = none := fresh_size _
  generalize hL : s.heap.objs.size = L at x frL
  have keep := x.toInCall.keep
  obtain ⟨h₁, tk₁, rfl⟩ := x.toInCall.same
  have cnd : ((cellsFrom (L + 1) fd.scope.names []).map (·.1)).Nodup := cellsFrom_names fd.scope.names 0 (L + 1) [] [] rfl ▸ K.cn
  have nsz : ∀ a, L ≤ a → s.heap.get? a = none := fun a ha => by
    cases e : s.heap.get? a with
    | none => rfl
    | some o => have h9 := Heap.lt_size e; rw [hL] at h9; exact absurd h9 (Nat.not_lt.mpr ha)
  have cellAt : ∀ n a, (n, a) ∈ cellsFrom (L + 1) fd.scope.names [] → L < a ∧ (cellsFrom (L + 1) fd.scope.names []).lookup n = some a := fun n a hm => ⟨x.above n a hm, lookup_of_mem_nodup cnd hm⟩
  have frC : ∀ a ∈ (cellsFrom (L + 1) fd.scope.names []).map (·.2), L < a ∧ ∃ vo, h₁.IsCell a vo := by
    intro a ha
    obtain ⟨q, hq, rfl⟩ := List.mem_map.mp ha
    exact ⟨(cellAt q.1 q.2 hq).1, _, x.cell q.1 q.2 (cellAt q.1 q.2 hq).2⟩
  let c' := fcx c.g c.A s.heap G (c.fenv :: c.outer) L f fd.scope fd.qualname fd.code (ps ++ ls) gls
  have hkind : c'.env.scope.kind = .function := K.kind
  have okd : c'.A.depth = c.A.depth + 1 := rfl
  have oku : c'.A.units = c.A.units + 3 := rfl
  have ok' : Ok c' := by
    refine ⟨fun _ => ok.hd hx0, ?_, hkind, rfl, rfl, K.nd, fun y hy => ?_, .head _, fun y hy hk a ha => ?_, fun y hy z hz hk hk' a ha ha' => ?_, fun p hp => (nomatch hp), ?_, ?_, ok.nolim, fun M hM => ?_, fun a o e => R.g0 _ (ok.bg a o e), fun p hp => ?_, fun x hx => by simpa using List.all_eq_true.mp K.dbg x hx⟩
    · show (c.A.frames.map _) = _
      rw [ok.fr]; rfl
    · refine (nk y hy).imp id fun q => ⟨q.1, ?_⟩
      obtain ⟨a, ha⟩ := Option.isSome_iff_exists.mp (q.2 (L + 1))
      exact ⟨a, .tail _ (List.mem_map.mpr ⟨(y, a), mem_of_lookup ha, rfl⟩), ha⟩
    · exact Nat.ne_of_gt (cellAt y a (mem_of_lookup ha)).1
    · exact name_of_addr x.apart (mem_of_lookup ha) (mem_of_lookup ha')
    · rw [oku, okd]; have := ok.units; omega
    · rw [okd]; omega
    · rcases List.mem_cons.mp hM with rfl | hM
      · exact .inl (.head _)
      · right
        have hfr := R.frames
        have : ∀ {l : List Env} {M : Addr}, s.heap.FunFrames c.g.base l → M ∈ l.filterMap (·.frame) → ∃ o, s.heap.get? M = some o := fun hl hM => (hl.mem hM).2.imp fun o q => q.1
        exact this hfr hM
    · have := List.all_eq_true.mp K.gk p hp
      rw [Bool.and_eq_true, beq_iff_eq, Bool.not_eq_true'] at this
      exact ⟨this.1, hgl p hp, this.2⟩
  have kk : ∀ S, Ke S s.heap h₁ := fun S => Ke.of_keeps fun b o _ e => keep b o e
  have hbv' : VRs h₁ G [] bvs bxs := by
    have := hbv.low (m := 0) (G' := G) (fun _ q => q) hlow
    simpa using this.mono (kk G) (fun _ q => q) ⟨[], by simp⟩
  have R' : Rl c' { vars := bxs.map some ++ ls.map fun _ => none, own := [] } { s with heap := h₁, toks := tk₁ } G [] := by
    refine ⟨fun b o e => keep b o (R.base b o e), kk _, ⟨?_, ?_, ?_⟩, ?_, fun a ga => (R.glive a ga).imp fun o e => keep a o e, fun a ga => .inl ga, fun a ga => ga, fun a ha => ?_, fun a ha => (nomatch ha), List.nodup_nil, ⟨_, x.toInCall.ns⟩, fun y hy hk a ha => ?_, fun j y Y hy hY => ?_, rfl, fun j xs e => (by simp at e), fun p hp => (nomatch hp)⟩
    · show fd.scope.kind ≠ .module
      rw [K.kind]; decide
    · obtain ⟨oL, es, ep, e1, e2, _⟩ := x.toInCall.ns
      refine ⟨L, oL, rfl, ?_, e1, fun vs => by rw [e2]; intro q; cases q⟩
      cases e : c.g.base.get? L with
      | none => rfl
      | some o => have := R.base _ _ e; rw [frL] at this; cases this
    · exact R.frames.of_keeps fun b o e _ => ⟨o, keep b o e, rfl⟩
    · intro M hM
      rcases List.mem_cons.mp hM with rfl | hM
      · obtain ⟨oL, es, ep, e1, e2, _⟩ := x.toInCall.ns
        exact ⟨oL, e1, es, ep, e2⟩
      · exact (R.fdk M hM).imp fun o q => ⟨keep M o q.1, q.2⟩
    · have ha' : L ≤ a ∧ ∃ o, h₁.get? a = some o := by
        rcases List.mem_cons.mp ha with rfl | ha
        · obtain ⟨oL, es, ep, e1, _⟩ := x.toInCall.ns
          exact ⟨Nat.le_refl _, oL, e1⟩
        · obtain ⟨q1, vo, o, e, _⟩ := frC a ha
          exact ⟨Nat.le_of_lt q1, o, e⟩
      refine ⟨nsz a ha'.1, fun g => ?_, fun q => (nomatch q), ha'.2⟩
      obtain ⟨o, e⟩ := R.glive a g
      rw [nsz a ha'.1] at e; cases e
    · exact ⟨_, x.cell y a ha⟩
    · have e := hY.get
      have hj : j < bxs.length := by
        rcases Nat.lt_or_ge j bxs.length with q | q
        · exact q
        · rw [List.getElem?_append_right (by simpa using q)] at e
          simp only [List.length_map, List.getElem?_map] at e
          cases e9 : ls[j - bxs.length]? with
          | none => rw [e9] at e; cases e
          | some w => rw [e9] at e; cases e
      rw [List.getElem?_append_left (by simpa using hj), List.getElem?_map] at e
      have e2 : bxs[j]? = some Y := by
        cases e9 : bxs[j]? with
        | none => rw [e9] at e; cases e
        | some w => rw [e9] at e; simp only [Option.map_some, Option.some.injEq] at e; rw [e]
      obtain ⟨v, hv1, hv2⟩ := hbv'.get e2
      have hy' : ps[j]? = some y := by
        have := hy.get
        have q : (ps ++ ls)[j]? = some y := this
        rwa [List.getElem?_append_left (by omega)] at q
      refine ⟨v, hv2, ?_⟩
      rcases nk y (List.mem_append_left _ (List.mem_of_getElem? hy')) with q | ⟨q, q'⟩
      · exact .inl ⟨q, _, x.toInCall.ns, bindL_get npd hy' hv1 q⟩
      · obtain ⟨a, ha⟩ := Option.isSome_iff_exists.mp (q' (L + 1))
        refine .inr ⟨q, a, ha, ?_⟩
        have := x.cell y a ha
        rwa [bindC_get npd hy' hv1 q] at this
  have hbody := h c.A s.heap G (c.fenv :: c.outer) L ok' hd
  have fin : ∀ (v : Value) (X : V) (s' : Shared) (G' : Addr → Prop) (σ' : AS), Rl c' σ' s' G' [] → Le c' { s with heap := h₁, toks := tk₁ } G [] s' G' [] ∨ True → (∃ h tk, s' = { s with heap := h, toks := tk }) → VR s'.heap G' [] v X → P X → Po c s G O (fun X σ' => σ' = σ ∧ P X) v s' := by
    intro v X s' G' σ' R₂ _ hsame hv hP
    obtain ⟨h₂, tk₂, rfl⟩ := hsame
    have gR : ∀ a, G' a → G a ∨ s.heap.get? a = none := R₂.gnew
    have R₃ : Rl c σ { s with heap := h₂, toks := tk₂ } (fun a => G a ∨ (s.heap.get? a = none ∧ G' a)) O := R.keep (fun _ => False) (R₂.kept.mono fun _ _ => trivial) R₂.base (fun _ d => d.elim) ok (fun _ q => .inl q) fun a q => q.imp id fun q => ⟨(R.free q.1).2.1, (R.free q.1).2.2.1, (R.free q.1).2.2.2, R₂.glive a q.2⟩
    refine ⟨X, σ, _, O, ⟨rfl, hP⟩, R₃, ⟨⟨⟨h₂, tk₂, rfl⟩, fun _ q => .inl q, R₂.kept.mono fun _ _ => trivial, fun _ q => .inl q, fun a q => q.imp id fun q => q.1, fun a o e => R₂.kept.live trivial ⟨o, e⟩⟩, [], by simp⟩, ?_⟩
    exact hv.mono (Ke.refl _ _) (fun a ga => (gR a ga).imp id fun q => ⟨q, ga⟩) ⟨O, rfl⟩
  have main := wpAny_mono (Q' := fun f s' => match f with | .ret v => Po c s G O (fun X σ' => σ' = σ ∧ P X) v s' | _ => Po c s G O (fun X σ' => σ' = σ ∧ P X) .none s') (hbody _ _ _ R') (fun fl s' q => by
    obtain ⟨y, σ', G', O', hp, R₂, same', r₂⟩ := q
    have same : ∃ h tk, s' = { s with heap := h, toks := tk } := by obtain ⟨h, tk, e⟩ := same'; exact ⟨h, tk, e⟩
    cases r₂ with
    | next => exact hp.elim
    | brk => exact hp.elim
    | cont => exact hp.elim
    | ret hv =>
      obtain ⟨hc, hP⟩ := hp
      obtain ⟨G₃, R₃, _, _, hvr⟩ := R₂.col 0 hc
      rw [List.take_zero] at R₃ hvr
      have := hvr _ _ hv
      rw [List.drop_zero] at this
      exact fin _ _ _ _ _ R₃ (.inr trivial) same this hP) fun _ _ e => e
  refine wpAny_mono main (fun fl s' q => ?_) fun _ _ e => e.elim
  cases fl <;> exact q
end Mine
namespace Mine
def fnChk (fd : FuncData) (ps ls : List Str) (gls : List (Str × V)) : Bool :=
  fd.scope.isCoroutine == false && fd.scope.isGenerator == false && fd.scope.kind == .function && decide (ps ++ ls).Nodup &&
  ((ps ++ ls).all fun x => fd.scope.names.lookup x == some .local || (fd.scope.names.lookup x == some .cell && ((cellsFrom 0 fd.scope.names []).lookup x).isSome)) && decide ((cellsFrom 0 fd.scope.names []).map (·.1)).Nodup && (gls.all fun p => fd.scope.names.lookup p.1 == some .globalImplicit && !(p.1 == ("__debug__" : Str))) && (ps ++ ls).all fun x => !(x == ("__debug__" : Str))
theorem FnOk.of {g : Gc} {K : Frag} {f : Addr} {oc : Value} {od : Option Addr} {osl : Array (Option Value)} {name qual : Str} {params : Arguments} {body : List Stmt} {scope : Scope} {dV kV doc pm cdv ct : Value} {an : Option Addr} {ps ls : List Str} {gls : List (Str × V)}
    (hK : K.In g.base) (hn : g.base.NoLimit) (ho : K.lookup f = some ⟨oc, od, .func (fnOf name qual params body scope dV kV doc pm an cdv ct), osl⟩) (hcd : g.base.CodeRec cdv qual)
    (hc : fnChk (fnOf name qual params body scope dV kV doc pm an cdv ct) ps ls gls = true) : FnOk g f (fnOf name qual params body scope dV kV doc pm an cdv ct) body scope qual cdv ps ls gls := by
  simp only [fnChk, Bool.and_eq_true, beq_iff_eq, decide_eq_true_eq] at hc
  obtain ⟨⟨⟨⟨⟨⟨⟨h1, h2⟩, h3⟩, h4⟩, h5⟩, h6⟩, h7⟩, h8⟩ := hc
  exact ⟨rfl, rfl, rfl, ⟨_, hK _ _ ho, rfl⟩, hcd, rfl, rfl, rfl, rfl, h1, h2, h3, h4, h5, hn, h6, h7, h8⟩

/-! ### sources of loops -/
section
variable {c : Cx} {σ : AS}
theorem go_plain {M : Model} {A : Around} {E : Value → Shared → Prop} {s : Shared} {target : Expr} {I : Addr} {v : Value} {o : Obj} {n : String} {Q : Unit → Shared → Prop} (ho : s.heap.get? I = some o) (hc : o.cls = .type n)
    (hn : ["enumerate", "zip", "dict_itemiterator", "dict_reverseitemiterator", "odict_iterator", "itertools.zip_longest", "itertools.pairwise"].contains n = false) (hQ : Q () s) : wpAny M A (letOwnedTupleGo target (.ref I) v) Q E s := by
  unfold letOwnedTupleGo
  split
  · cases v <;> first
      | exact wpAny_pure hQ
      | (refine wpAny_bind (wpAny_load ho ?_)
         rw [hc]
         cases hd : o.data <;> first
           | exact wpAny_pure hQ
           | (simp only [hn, Bool.false_and, Bool.false_eq_true, if_false]; exact wpAny_pure hQ))
  · cases v <;> first
      | exact wpAny_pure hQ
      | (refine wpAny_bind (wpAny_load ho ?_)
         rw [hc]
         cases hd : o.data <;> first
           | exact wpAny_pure hQ
           | (simp only [hn, Bool.false_and, Bool.false_eq_true, if_false]; exact wpAny_pure hQ))
  · exact wpAny_pure hQ

/-- iter of a value gives a source of these items -/
def IterOK (c : Cx) (target : Expr) (X : V) (xs : List V) (σ : AS) : Prop :=
  ∀ s G O v Q, Rl c σ s G O → VR s.heap G O v X →
    (∀ I fp wr n Pt Md St s', Rl c σ s' G O → Le c s G O s' G O → (∀ b o, s.heap.get? b = some o → s'.heap.get? b = some o) → Src c target I fp wr n Pt Md St s s' G O → xs.length = n →
      (∀ (i : Nat) x v' h' G' O', xs[i]? = some x → Pt i v' h' → Ke G s'.heap h' → (∀ a, G a → G' a) → (∃ l, O' = O ++ l) → VR h' G' O' v' x) → Q (.ref I) s') → wpAny c.M c.A (pyIter v) Q c.E s

theorem src_of {target : Expr} {I : Addr} {fp : List Addr} {n : Nat} {P : Nat → Value → Prop} {St : Nat → Heap → Prop} {T : String} {o : Obj} {s : Shared} {G : Addr → Prop} {O : List Addr} (R : Rl c σ s G O) (hI : I = s.heap.objs.size)
    (W : Walks c.g.prog c.g.w c.A I fp [I] n P St) (hst : St 0 (s.heap.push o)) (hcls : ∀ i h, St i h → ∃ o, h.get? I = some o ∧ o.cls = .type T ∧ ¬ Dk o)
    (hT : ["enumerate", "zip", "dict_itemiterator", "dict_reverseitemiterator", "odict_iterator", "itertools.zip_longest", "itertools.pairwise"].contains T = false)
    (hfp : ∀ b ∈ fp, b = I ∨ (b ∉ c.priv ∧ b ∉ O ∧ ∃ o, s.heap.get? b = some o ∧ ¬ Dk o)) :
    Src c target I fp [I] n (fun i v _ => P i v) (fun i v h => P i v ∧ St (i + 1) h) St s { s with heap := s.heap.push o } G O := by
  have fr : s.heap.get? I = none := hI ▸ fresh_size _
  refine ⟨KTurns.ofWalks W fun i v s Q E st hQ => ?_, hst, fun b hb => ?_, fun b hb => ?_, fun i h st b hb => ?_, W.self⟩
  · obtain ⟨o, e, hc, _⟩ := hcls i _ st
    exact go_plain e hc hT hQ
  · rw [List.mem_singleton] at hb; subst hb
    have := R.free fr
    exact ⟨fr, this.1, this.2.2.2, this.2.2.1, this.2.1⟩
  · rcases hfp b hb with q | q
    · exact .inl (by rw [q]; exact .head _)
    · exact .inr ⟨q.1, q.2.1, q.2.2.imp fun o r => ⟨Heap.get?_push_of_some _ r.1, r.2⟩⟩
  · rw [List.mem_singleton] at hb; subst hb
    exact (hcls i h st).imp fun o q => ⟨q.1, q.2.2⟩
theorem Iter_list (ok : Ok c) {target : Expr} {xs : List V} (hx : c.hx = false := by first | rfl | assumption) : IterOK c target (.list xs) xs σ := by
  intro s G O v Q R hv k
  obtain ⟨a, vs, rfl, ga, hl, hvs⟩ := hv.inv
  have al := R.grow0 (h' := s.heap.push { cls := .type "list_iterator", data := .fields #[.ref a, .int 0 0] }) (tk := s.toks) ok fun b o e => Heap.get?_push_of_some _ e
  have hne : a ≠ s.heap.objs.size := by obtain ⟨o, ho, _⟩ := hl; exact Nat.ne_of_lt (Heap.lt_size ho)
  refine wpAny_pyIter_list hl (k _ _ _ _ _ _ _ _ al.1 al.2 (fun b o e => Heap.get?_push_of_some _ e) (src_of (T := "list_iterator") R rfl (Walks.list (ok.hd hx) s.heap.objs.size a hne vs) ⟨⟨_, push_new, rfl, rfl⟩, hl.push _⟩ (fun i h st => let ⟨o, e, h1, h2⟩ := st.1; ⟨o, e, h1, Dk.no h2 fun _ _ q => by cases q⟩) (by decide) fun b hb => ?_) (by rw [← hvs.length]; simp) fun i x v' h' G' O' hx hP kG gG oO => ?_)
  · rcases List.mem_cons.mp hb with q | q
    · exact .inl q
    · rw [List.mem_singleton] at q; subst q
      obtain ⟨o, e, _, _, hc⟩ := hl
      exact .inr ⟨fun q => (R.priv _ q).2.1 ga, fun q => (R.onew _ q).2 ga, o, e, Dk.no hc fun _ _ q => by cases q⟩
  · obtain ⟨u, h1, h2⟩ := hvs.get hx
    have hP' : vs[i]? = some v' := hP
    have : v' = u := by rw [Array.getElem?_toList] at h1; rw [hP'] at h1; cases h1; rfl
    subst this
    exact (al.2.vr R h2).mono kG gG oO
theorem Iter_tup (ok : Ok c) {target : Expr} {xs : List V} (hx : c.hx = false := by first | rfl | assumption) : IterOK c target (.tup xs) xs σ := by
  intro s G O v Q R hv k
  obtain ⟨a, vs, rfl, ga, hl, hvs⟩ := hv.inv
  have al := R.grow0 (h' := s.heap.push { cls := .type "tuple_iterator", data := .fields #[.ref a, .int 0 0] }) (tk := s.toks) ok fun b o e => Heap.get?_push_of_some _ e
  have hne : a ≠ s.heap.objs.size := by obtain ⟨o, ho, _⟩ := hl; exact Nat.ne_of_lt (Heap.lt_size ho)
  refine wpAny_pyIter_tuple hl (k _ _ _ _ _ _ _ _ al.1 al.2 (fun b o e => Heap.get?_push_of_some _ e) (src_of (T := "tuple_iterator") R rfl (Walks.tuple (ok.hd hx) s.heap.objs.size a hne vs) ⟨⟨_, push_new, rfl, rfl⟩, hl.push _⟩ (fun i h st => let ⟨o, e, h1, h2⟩ := st.1; ⟨o, e, h1, Dk.no h2 fun _ _ q => by cases q⟩) (by decide) fun b hb => ?_) (by rw [← hvs.length]; simp) fun i x v' h' G' O' hx hP kG gG oO => ?_)
  · rcases List.mem_cons.mp hb with q | q
    · exact .inl q
    · rw [List.mem_singleton] at q; subst q
      obtain ⟨o, e, _, _, hc⟩ := hl
      exact .inr ⟨fun q => (R.priv _ q).2.1 ga, fun q => (R.onew _ q).2 ga, o, e, Dk.no hc fun _ _ q => by cases q⟩
  · obtain ⟨u, h1, h2⟩ := hvs.get hx
    have hP' : vs[i]? = some v' := hP
    have : v' = u := by rw [Array.getElem?_toList] at h1; rw [hP'] at h1; cases h1; rfl
    subst this
    exact (al.2.vr R h2).mono kG gG oO
def bytesItems (b : Array UInt8) : List V := b.toList.map fun x => .int (x.toNat : Int)
theorem Iter_bytes (ok : Ok c) {target : Expr} {b : Array UInt8} (hx : c.hx = false := by first | rfl | assumption) : IterOK c target (.bytes b) (bytesItems b) σ := by
  intro s G O v Q R hv k
  obtain ⟨t, rfl⟩ := hv.inv
  have al := R.grow0 (h' := s.heap.push { cls := .type "bytes_iterator", data := .fields #[.bytes b t, .int 0 0] }) (tk := s.toks) ok fun b o e => Heap.get?_push_of_some _ e
  refine KBw.pyIter_bytes (k _ _ _ _ _ _ _ _ al.1 al.2 (fun b o e => Heap.get?_push_of_some _ e) (src_of (T := "bytes_iterator") R rfl (KBw.walks (ok.hd hx) s.heap.objs.size b t) ⟨_, push_new, rfl, rfl⟩ (fun i h st => let ⟨o, e, h1, h2⟩ := st; ⟨o, e, h1, Dk.no h2 fun _ _ q => by cases q⟩) (by decide) fun b hb => .inl (by simpa using hb)) (by simp [bytesItems]) fun i x v' h' G' O' hx hP kG gG oO => ?_)
  obtain ⟨cc, u, h1, rfl⟩ := hP
  simp only [bytesItems, List.getElem?_map, Array.getElem?_toList, h1, Option.map_some, Option.some.injEq] at hx
  subst hx
  exact .int _ _
def rngItems (a b st : Int) : List V := (List.range (Builtin.Range.rangeSize a b st).toNat).map fun (i : Nat) => .int (a + (i : Int) * st)
theorem Iter_rng (ok : Ok c) {target : Expr} {a b st : Int} (hsm : Builtin.Range.small a b st = true) (h0 : 0 ≤ Builtin.Range.rangeSize a b st) (hx : c.hx = false := by first | rfl | assumption) : IterOK c target (.rng a b st) (rngItems a b st) σ := by
  intro s G O v Q R hv k
  obtain ⟨r, t, u, w, rfl, ga, hr⟩ := hv.inv
  have al := R.grow0 (h' := s.heap.push { cls := .type "range_iterator", data := .fields #[rawInt a, rawInt (Builtin.Range.rangeSize a b st), rawInt st] }) (tk := s.toks) ok fun b o e => Heap.get?_push_of_some _ e
  refine wpAny_pyIter_range hr hsm (k _ _ _ _ _ _ _ _ al.1 al.2 (fun b o e => Heap.get?_push_of_some _ e) (src_of (T := "range_iterator") R rfl (Walks.range (ok.hd hx) s.heap.objs.size a st (Builtin.Range.rangeSize a b st).toNat) ?_ (fun i h st => ⟨_, st, rfl, Dk.no rfl fun _ _ q => by cases q⟩) (by decide) fun b hb => .inl (by simpa using hb)) (by simp [rngItems]) fun i x v' h' G' O' hx hP kG gG oO => ?_)
  · have e1 : a + ((0 : Nat) : Int) * st = a := by simp
    have e2 : ((Builtin.Range.rangeSize a b st).toNat : Int) - ((0 : Nat) : Int) = Builtin.Range.rangeSize a b st := by omega
    rw [e1, e2]; exact push_new
  · obtain ⟨u, rfl⟩ := hP
    simp only [rngItems, List.getElem?_map] at hx
    cases e : (List.range (Builtin.Range.rangeSize a b st).toNat)[i]? with
    | none => rw [e] at hx; cases hx
    | some j =>
      rw [e] at hx
      simp only [Option.map_some, Option.some.injEq] at hx
      have : j = i := by
        have := List.getElem?_eq_some_iff.mp e
        obtain ⟨h1, h2⟩ := this
        rw [List.getElem_range] at h2; exact h2.symm
      subst this hx
      exact .int _ _
theorem EX_for (ok : Ok c) (hE : c.E = fun _ _ => False) {target iter : Expr} {body orelse : List Stmt} {pos : Pos} {P : Fl → AS → Prop} (h : EV c iter σ fun X σ₁ => ∃ xs, IterOK c target X xs σ₁ ∧ Loop c (AN c target) body orelse xs σ₁ P)
    (hs : ∀ x, foldedSetIterable iter c.env x = pure x := by intro _; rfl) : EX c (.For target iter body orelse pos) σ P := by
  intro s G O R
  refine wpAny_For (TV.use h R fun a s₁ X σ₁ G₁ O₁ h₁ R₁ L₁ v₁ => ?_) hs
  obtain ⟨xs, hi, hl⟩ := h₁
  refine hi s₁ G₁ O₁ a _ R₁ v₁ fun I fp wr n Pt Md St s' R' L' _ S hn hP => ?_
  have := for_core (s₀ := s₁) (G₀ := G₁) (O₀ := O₁) ok hE S R' L' xs hn (AN c target) (fun i x v σ' K s' G' O' hx hp R'' kG gG oO ha => ha s' G' O' v R'' (hP i x v _ G' O' hx hp kG gG oO)) hl
  refine codeAny_mono this fun r s'' q => ?_
  cases r with
  | ok f => exact PoF.le L₁ q
  | error e => exact q
end
end Mine
namespace Mine
section
variable {c : Cx} {σ : AS} {P : V → AS → Prop}

/-- an own list is turned -/
theorem Rl.setOwn {s : Shared} {G : Addr → Prop} {O : List Addr} (R : Rl c σ s G O) (ok : Ok c) {k : Nat} {a : Addr} (hk : O[k]? = some a) {h' : Heap} {tk : Nat} {vs : Array Value} {xs : List V} (hs : Heap.SameBut a s.heap h') (hl : OwnL h' a vs) (hv : VRs s.heap G O vs.toList xs) :
    Rl c { σ with own := σ.own.set k xs } { s with heap := h', toks := tk } G O ∧ Le c s G O { s with heap := h', toks := tk } G O := by
  have ha : a ∈ O := List.mem_of_getElem? hk
  have keep : ∀ b o, b ≠ a → s.heap.get? b = some o → h'.get? b = some o := fun b o hb e => (hs.2 b hb).trans e
  have an := R.onew a ha
  have ap : a ∉ c.priv := fun q => (R.priv a q).2.2.1 ha
  have kk : Ke (fun b => ¬ b = a) s.heap h' := Ke.of_keeps fun b o nb e => keep b o nb e
  have keG : Ke G s.heap h' := kk.mono fun b gb q => an.2 (q ▸ gb)
  obtain ⟨n', e'⟩ := id hl
  have cc : ∀ x ∈ c.names, c.env.kindOf x = some .cell → ∀ b, c.env.cells.lookup x = some b → ∀ vo, s.heap.IsCell b vo → h'.IsCell b vo := fun x hx hk b hb vo hq => by
    refine hq.sameBut hs fun e => ?_
    rcases ok.nk x hx with q | ⟨_, b', hp, e2⟩
    · rw [hk] at q; cases q
    · rw [hb] at e2; cases e2; exact ap (e ▸ hp)
  have nn : ∀ m, s.heap.Ns c.env.locals m → h'.Ns c.env.locals m := fun m q => q.sameBut hs fun e => ap (e ▸ ok.lp)
  refine ⟨R.move (σ' := { σ with own := σ.own.set k xs }) (O' := O) (G' := G) (tk := tk) (fun b => b = a) kk (fun b o e => keep b o (fun q => an.2 (R.g0 _ (ok.bg a o (q ▸ e)))) (R.base b o e)) (fun b d => d ▸ ⟨an.2, an.1⟩) (fun b d hb => ?_) (fun _ q => q) (fun _ q => .inl q)
      (fun b hb => ⟨(R.onew b hb).1, (R.onew b hb).2, fun q => (R.priv b q).2.2.1 hb⟩) R.onod (R.ns.imp nn) (fun x hx hk b hb => (R.cells x hx hk b hb).imp fun vo q => cc x hx hk b hb vo q) (fun j y Y hy hY => ?_) (by simp [R.olen]) (fun j ys e => ?_), ⟨LeS.refl.move (fun b => b = a) kk (fun b d => .inr (.inl (d ▸ ha))) (fun b d _ o e => d ▸ ⟨_, e'⟩) (fun _ q => q) (fun _ q => .inl q) fun _ q => .inl q, [], by simp⟩⟩
  · subst d
    rcases hb with hb | hb
    · exact absurd hb ap
    · rcases ok.ffr b hb with q | ⟨o, q⟩
      · exact absurd q ap
      · rw [an.1] at q; cases q
  · obtain ⟨v, h1, h2⟩ := R.vars j y Y hy hY
    exact ⟨v, h1.mono keG (fun _ q => q) ⟨[], by simp⟩, h2.imp (fun q => ⟨q.1, q.2.imp fun m r => ⟨nn m r.1, r.2⟩⟩) fun q => ⟨q.1, q.2.imp fun b r => ⟨r.1, cc y hy.mem q.1 b r.1 _ r.2⟩⟩⟩
  · by_cases hj : j = k
    · subst hj
      have hlt : j < σ.own.length := by rw [← R.olen]; exact (List.getElem?_eq_some_iff.mp hk).1
      have e2 : (σ.own.set j xs)[j]? = some ys := e
      rw [List.getElem?_set_self hlt] at e2; cases e2
      exact ⟨a, vs, hk, hl, hv.mono keG (fun _ q => q) ⟨[], by simp⟩⟩
    · have e2 : (σ.own.set k xs)[j]? = some ys := e
      rw [List.getElem?_set_ne (Ne.symm hj)] at e2
      obtain ⟨b, us, h1, h2, h3⟩ := R.own j ys e2
      have hb : b ≠ a := fun q => hj (by
        subst q
        exact (List.getElem?_inj (List.getElem?_eq_some_iff.mp h1).1 R.onod).mp (h1.trans hk.symm))
      exact ⟨b, us, h1, kk.isOL hb h2, h3.mono keG (fun _ q => q) ⟨[], by simp⟩⟩
/-- append to an own list -/
theorem append_own (ok : Ok c) {s : Shared} {G : Addr → Prop} {O : List Addr} (R : Rl c σ s G O) {k : Nat} {a : Addr} {ys : List V} {v : Value} {y : V} (hk : O[k]? = some a) (hy : σ.own[k]? = some ys) (hv : VR s.heap G O v y) (hsz : ys.length ≤ 1000000) {A : Around} {E : Value → Shared → Prop} {Q : Value → Shared → Prop}
    (h : ∀ s', Rl c { σ with own := σ.own.set k (ys ++ [y]) } s' G O → Le c s G O s' G O → Q .none s') : wpAny (model c.g.prog c.g.w) A (call (.builtin "list.append") [.ref a, v]) Q E s := by
  obtain ⟨b, vs, h1, h2, h3⟩ := R.own k ys hy
  rw [hk] at h1; cases h1
  obtain ⟨n, h2⟩ := h2
  refine append_at h2 (fun h' hs hl => ?_) ?_
  · have := R.setOwn (h' := h') (tk := s.toks) ok hk hs ⟨_, hl⟩ (xs := ys ++ [y]) (by rw [Array.toList_push]; exact h3.append (.cons hv .nil))
    exact h _ this.1 this.2
  · have := h3.length
    have e : vs.size = ys.length := by rw [← this]; simp
    rw [e]; exact Nat.le_trans hsz (by decide)

/-! ### comprehensions -/
theorem compLoop_any {prog : Program} {w : World} {A : Around} {s : Shared} {R : Result → Shared → Prop} {elt target iter : Expr} {ifs : List Expr} {scope : Scope} {pos : Pos} {it acc : Value} {env : Env} (I : Nat → Shared → Prop)
    (turn : ∀ n s, I n s → wpAny (model prog w) A (pyNext it) (fun r s₁ => match r with
      | none => R (.ok .next) s₁
      | some v => wpAny (model prog w) A (letOwnedTupleGo target it v) (fun _ s₁ => wpAny (model prog w) A (assign target env v) (fun _ s₂ =>
          wpAny (model prog w) A (forIn ifs true fun c r => if r = true then do let ok ← isTrue c env (eval c env); pure (ForInStep.yield ok) else pure (ForInStep.yield r)) (fun ok s₃ =>
            if ok = true then wpAny (model prog w) A (eval elt env) (fun x s₄ =>
              wpAny (model prog w) A (call (.builtin "list.append") [acc, x]) (fun _ s₅ => ∃ m, m < n ∧ I m s₅) (fun _ _ => False) s₄) (fun _ _ => False) s₃
            else ∃ m, m < n ∧ I m s₃) (fun _ _ => False) s₂) (fun _ _ => False) s₁) (fun _ _ => False) s₁) (fun _ _ => False) s)
    (n : Nat) (h : I n s) : codeAny (model prog w) A (.compLoop (.ListComp elt [⟨target, iter, ifs, 0⟩] scope pos) 0 it acc env) R s := by
  refine codeAny_loop rfl I (fun n s hI => ?_) n h
  show wpAny _ A ((compTurn (.ListComp elt [⟨target, iter, ifs, 0⟩] scope pos) 0 it acc env).onRaise (fun x => do noteFrame x env; theTreesLotGoes x)) _ _ s
  refine wpAny_noted ?_
  rw [compTurn_list]
  refine wpAny_bind (wpAny_standAt (wpAny_bind (wpAny_mono (turn n s hI) (fun r s₁ h₁ => ?_) fun _ _ h' => h'.elim)))
  cases r with
  | none => exact wpAny_pure h₁
  | some v =>
    refine wpAny_bind (wpAny_mono h₁ (fun _ s₁' h₁' => ?_) fun _ _ h' => h'.elim)
    refine wpAny_bind (wpAny_mono h₁' (fun _ s₂ h₂ => wpAny_bind (wpAny_mono h₂ (fun ok s₃ h₃ => ?_) fun _ _ h' => h'.elim)) fun _ _ h' => h'.elim)
    cases ok with
    | false => exact wpAny_pure ⟨rfl, h₃⟩
    | true =>
      exact wpAny_bind (wpAny_bind (wpAny_mono h₃ (fun x s₄ h₄ => wpAny_bind (wpAny_mono h₄ (fun _ s₅ h₅ => wpAny_pure (wpAny_pure ⟨rfl, h₅⟩)) fun _ _ h' => h'.elim)) fun _ _ h' => h'.elim))

/-- what a comprehension needs of its source -/
structure SrcC (c : Cx) (target : Expr) (I : Addr) (fp wr : List Addr) (n : Nat) (P Md : Nat → Value → Heap → Prop) (St : Nat → Heap → Prop) (s s' : Shared) : Prop where
  W : KTurns c.g.prog c.g.w c.A target I fp wr n P Md St
  st : St 0 s'.heap
  keep : ∀ b o, s.heap.get? b = some o → s'.heap.get? b = some o
  own : ∀ b ∈ wr, s.heap.get? b = none
  foot : ∀ b ∈ fp, b ∈ wr ∨ ∃ o, s'.heap.get? b = some o ∧ ¬ Dk o
  cls : ∀ i h, St i h → ∀ b ∈ wr, ∃ o, h.get? b = some o ∧ ¬ Dk o
  self : ∀ i (s : Shared) (Q : Value → Shared → Prop) (E : Value → Shared → Prop), St i s.heap → Q (.ref I) s → wpAny c.M c.A (pyIter (.ref I)) Q E s

/-- the tests of a comprehension -/
def IFS (c : Cx) : List Expr → AS → (Bool → AS → Prop) → Prop
  | [], σ, P => P true σ
  | [e], σ, P => EB c e σ P
  | _, _, _ => False
def CompL (c : Cx) (asg : V → AS → (AS → Prop) → Prop) (ifs : List Expr) (elt : Expr) : List V → AS → (List V → Prop) → Prop
  | [], σ, P => ∃ ys, σ.own = [ys] ∧ V.lows 0 ys = true ∧ P ys
  | x :: xs, σ, P => asg x σ fun σ₁ => IFS c ifs σ₁ fun b σ₂ => (b = true → EV c elt σ₂ fun y σ₃ => ∃ ys, σ₃.own = [ys] ∧ ys.length ≤ 1000000 ∧ CompL c asg ifs elt xs { σ₃ with own := [ys ++ [y]] } P) ∧ (b = false → σ₂.own.length = 1 ∧ CompL c asg ifs elt xs σ₂ P)

theorem comp_loop (ok : Ok c) (hE : c.E = fun _ _ => False) {target iter elt : Expr} {ifs : List Expr} {scope : Scope} {pos : Pos} {I D : Addr} {fp wr : List Addr} {n : Nat} {Pt Md : Nat → Value → Heap → Prop} {St : Nat → Heap → Prop} {s₀ s : Shared} {G : Addr → Prop} {PY : List V → Prop} {Rr : Result → Shared → Prop}
    (S : Src c target I fp wr n Pt Md St s₀ s G [D]) (R : Rl c σ s G [D]) (same₀ : ∃ h tk, s = { s₀ with heap := h, toks := tk }) (xs : List V) (hn : xs.length = n) (asg : V → AS → (AS → Prop) → Prop)
    (hasg : ∀ (i : Nat) x v σ' K s' G' O', xs[i]? = some x → Pt i v s'.heap → Rl c σ' s' G' O' → Ke G s.heap s'.heap → (∀ a, G a → G' a) → (∃ l, O' = [D] ++ l) → asg x σ' K → wpAny c.M c.A (assign target c.env v) (PoU c s' G' O' K) c.E s')
    (h : CompL c asg ifs elt xs σ PY)
    (fin : ∀ s' σ' G' ys, Rl c σ' s' G' [D] → σ'.own = [ys] → V.lows 0 ys = true → PY ys → (∃ h tk, s' = { s₀ with heap := h, toks := tk }) → Rr (.ok .next) s') :
    codeAny c.M c.A (.compLoop (.ListComp elt [⟨target, iter, ifs, 0⟩] scope pos) 0 (.ref I) (.ref D) c.env) Rr s := by
  have keep1 : ∀ {h1 h2 : Heap}, (∀ b o, b ∉ wr → h1.get? b = some o → h2.get? b = some o) → Ke (fun b => ¬ b ∈ wr) h1 h2 := fun k => Ke.of_keeps fun b o nb e => k b o nb e
  have toE : ∀ {α : Type} {t : Sem α} {Q : α → Shared → Prop} {s : Shared}, wpAny c.M c.A t Q c.E s → wpAny c.M c.A t Q (fun _ _ => False) s := fun h => hE ▸ h
  refine compLoop_any (fun k s' => ∃ i σ' G', CompL c asg ifs elt (xs.drop i) σ' PY ∧ Rl c σ' s' G' [D] ∧ (∃ h tk, s' = { s₀ with heap := h, toks := tk }) ∧ Ke G s.heap s'.heap ∧ (∀ a, G a → G' a) ∧ St i s'.heap ∧ (∀ b ∈ wr, ¬ G' b ∧ b ∉ [D]) ∧
      (∀ b ∈ fp, b ∈ wr ∨ (b ∉ c.priv ∧ b ∉ [D] ∧ ∃ o, s'.heap.get? b = some o ∧ ¬ Dk o)) ∧ i ≤ n ∧ k = n + 1 - i) ?_ (n + 1)
    ⟨0, σ, G, by simpa using h, R, same₀, Ke.refl _ _, fun _ q => q, S.st, fun b hb => ⟨(S.own b hb).2.1, (S.own b hb).2.2.1⟩, S.foot, Nat.zero_le _, rfl⟩
  rintro k s' ⟨i, σ', G', hL, R', sm, kG, gG, hst, hwr, hfp, hi, rfl⟩
  have step : ∀ (h' : Heap) (tk : Nat), (∀ b o, b ∉ wr → s'.heap.get? b = some o → h'.get? b = some o) → Rl c σ' { s' with heap := h', toks := tk } G' [D] ∧ Ke G' s'.heap h' := by
    intro h' tk k
    have kk := keep1 k
    exact ⟨R'.keep (fun b => b ∈ wr) kk (fun b o e => k b o (fun hb => (hwr b hb).1 (R'.g0 _ (ok.bg b o e))) (R'.base b o e)) (fun b hb => ⟨(hwr b hb).1, (S.own b hb).2.2.2.2, (S.own b hb).2.2.2.1, (hwr b hb).2⟩) ok (fun _ q => q) fun _ q => .inl q, kk.mono fun a ga hb => (hwr a hb).1 ga⟩
  have sm' : ∀ (h' : Heap) (tk : Nat), ∃ h tk', ({ s' with heap := h', toks := tk } : Shared) = { s₀ with heap := h, toks := tk' } := fun h' tk => by obtain ⟨h, t, rfl⟩ := sm; exact ⟨h', tk, rfl⟩
  by_cases hlt : i < n
  · obtain ⟨x, hx⟩ : ∃ x, xs[i]? = some x := ⟨xs[i], List.getElem?_eq_getElem (by omega)⟩
    have hd : xs.drop i = x :: xs.drop (i + 1) := by
      have := (List.getElem?_eq_some_iff.mp hx)
      rw [List.drop_eq_getElem_cons (by omega)]; rw [this.2]
    rw [hd] at hL
    refine S.W.item i s' _ _ hlt hst fun v h₁ tk₁ hm hk₁ => ?_
    refine S.W.go i v _ _ _ hm fun h₂ hP st₂ hk₂ => ?_
    have hk : ∀ b o, b ∉ wr → s'.heap.get? b = some o → h₂.get? b = some o := fun b o nb e => hk₂ b o nb (hk₁ b o nb e)
    obtain ⟨R₂, kG₂⟩ := step h₂ tk₁ hk
    have kGG : Ke G s.heap h₂ := kG.trans kG₂ gG
    refine toE (wpAny_mono (hasg i x v σ' _ _ G' [D] hx hP R₂ kGG gG ⟨[], by simp⟩ hL) (fun _ s₃ p => ?_) fun _ _ e => e)
    obtain ⟨σ₃, G₃, O₃, h₃, R₃, L₃⟩ := p
    -- what is left of the source behind a stretch of our own
    have src : ∀ s₄ σ₄ G₄ O₄, Rl c σ₄ s₄ G₄ O₄ → Le c { s' with heap := h₂, toks := tk₁ } G' [D] s₄ G₄ O₄ → σ₄.own.length = 1 → CompL c asg ifs elt (xs.drop (i + 1)) σ₄ PY →
        ∃ m, m < n + 1 - i ∧ ∃ i σ' G', CompL c asg ifs elt (xs.drop i) σ' PY ∧ Rl c σ' s₄ G' [D] ∧ (∃ h tk, s₄ = { s₀ with heap := h, toks := tk }) ∧ Ke G s.heap s₄.heap ∧ (∀ a, G a → G' a) ∧ St i s₄.heap ∧ (∀ b ∈ wr, ¬ G' b ∧ b ∉ [D]) ∧
          (∀ b ∈ fp, b ∈ wr ∨ (b ∉ c.priv ∧ b ∉ [D] ∧ ∃ o, s₄.heap.get? b = some o ∧ ¬ Dk o)) ∧ i ≤ n ∧ m = n + 1 - i := by
      intro s₄ σ₄ G₄ O₄ R₄ L hol hl
      have hO : O₄ = [D] := by
        obtain ⟨l, e⟩ := L.o
        have := R₄.olen
        rw [e, hol] at this
        simp at this
        rw [e, this]; rfl
      subst hO
      refine ⟨n + 1 - (i + 1), by omega, i + 1, σ₄, G₄, hl, R₄, ?_, kGG.trans (L.keG R₂) gG, fun a q => L.g a (gG a q), ?_, fun b hb => ?_, fun b hb => ?_, hlt, rfl⟩
      · obtain ⟨h, t, e⟩ := L.same
        obtain ⟨h', t', e'⟩ := sm
        exact ⟨h, t, by rw [e, e']⟩
      · refine S.W.frame _ _ _ st₂ fun b hb o e => ?_
        have e2 : h₂.get? b = some o := e
        by_cases hb' : b ∈ wr
        · obtain ⟨o', e', q3⟩ := S.cls _ _ st₂ b hb'
          rw [e2] at e'; cases e'
          exact (L.ke b ⟨(S.own b hb').2.2.2.1, (hwr b hb').2⟩ o e2).2 q3
        · rcases hfp b hb with q | ⟨q1, q2, o', e', q3⟩
          · exact absurd q hb'
          · rw [hk b o' hb' e'] at e2; cases e2
            exact (L.ke b ⟨q1, q2⟩ o e).2 q3
      · obtain ⟨o, e, _⟩ := S.cls _ _ st₂ b hb
        exact ⟨fun g => (L.gn b g).elim (hwr b hb).1 fun q => (by rw [show ({ s' with heap := h₂, toks := tk₁ } : Shared).heap.get? b = some o from e] at q; cases q), (hwr b hb).2⟩
      · refine (Classical.em (b ∈ wr)).imp id fun nb => ?_
        rcases hfp b hb with q | ⟨q1, q2, o', e', q3⟩
        · exact absurd q nb
        · have e2 := hk b o' nb e'
          exact ⟨q1, q2, o', (L.ke b ⟨q1, q2⟩ o' e2).2 q3, q3⟩
    -- the tests
    have tests : ∀ (Q : Bool → Shared → Prop), (∀ b s₄ σ₄ G₄ O₄, ((b = true → EV c elt σ₄ fun y σ₃ => ∃ ys, σ₃.own = [ys] ∧ ys.length ≤ 1000000 ∧ CompL c asg ifs elt (xs.drop (i + 1)) { σ₃ with own := [ys ++ [y]] } PY) ∧ (b = false → σ₄.own.length = 1 ∧ CompL c asg ifs elt (xs.drop (i + 1)) σ₄ PY)) → Rl c σ₄ s₄ G₄ O₄ → Le c s₃ G₃ O₃ s₄ G₄ O₄ → Q b s₄) →
        wpAny c.M c.A (forIn ifs true fun e r => if r = true then do let ok ← isTrue e c.env (eval e c.env); pure (ForInStep.yield ok) else pure (ForInStep.yield r)) Q c.E s₃ := by
      intro Q hQ
      cases ifs with
      | nil => exact wpAny_tests_nil (hQ true s₃ σ₃ G₃ O₃ h₃ R₃ Le.refl)
      | cons e r =>
        cases r with
        | nil => exact wpAny_tests_one (TB.use h₃ R₃ fun b s₄ σ₄ G₄ O₄ h₄ R₄ L₄ => hQ b s₄ σ₄ G₄ O₄ h₄ R₄ L₄)
        | cons _ _ => exact h₃.elim
    refine toE (tests _ fun b s₄ σ₄ G₄ O₄ h₄ R₄ L₄ => ?_)
    cases b with
    | false => exact src s₄ σ₄ G₄ O₄ R₄ (L₃.trans L₄) (h₄.2 rfl).1 (h₄.2 rfl).2
    | true =>
      simp only [if_true]
      refine toE (TV.use (h₄.1 rfl) R₄ fun y s₅ Y σ₅ G₅ O₅ h₅ R₅ L₅ v₅ => ?_)
      obtain ⟨ys, ho, hsz, hl⟩ := h₅
      have L₂₅ := (L₃.trans L₄).trans L₅
      have hO : O₅ = [D] := by
        obtain ⟨l, e⟩ := L₂₅.o
        have := R₅.olen
        rw [e, ho] at this
        simp at this
        rw [e, this]; rfl
      subst hO
      refine append_own ok R₅ (k := 0) rfl (by rw [ho]; rfl) v₅ hsz fun s₆ R₆ L₆ => ?_
      rw [ho] at R₆
      exact src s₆ _ G₅ [D] R₆ (L₂₅.trans L₆) rfl hl
  · have hin : i = n := by omega
    subst hin
    rw [List.drop_eq_nil_of_le (by omega)] at hL
    obtain ⟨ys, ho, hlow, hp⟩ := hL
    refine S.W.done s' _ _ hst fun h₁ tk₁ hk₁ => ?_
    exact fin _ σ' G' ys (step h₁ tk₁ hk₁).1 ho hlow hp (sm' h₁ tk₁)
end
end Mine
namespace Mine

theorem cellsFrom_app : ∀ (names : List (Str × NameKind)) (n : Nat) (acc : List (Str × Addr)), cellsFrom n names acc = cellsFrom n names [] ++ acc
  | [], _, _ => rfl
  | (y, k) :: r, n, acc => by
    simp only [cellsFrom]
    split
    · rw [cellsFrom_app r (n + 1) ((y, n) :: acc), cellsFrom_app r (n + 1) [(y, n)]]; simp
    · exact cellsFrom_app r n acc
theorem newFunctionEnv_comp {M : Model} {A : Around} {E : Value → Shared → Prop} {s : Shared} {scope : Scope} {globals : Addr} {cl : List (Str × Addr)} {qual : Str} {outer : Env} {Q : Env → Shared → Prop}
    (hQ : Q { scope := scope, locals := s.heap.objs.size, globals := globals, cells := cellsFrom (s.heap.objs.size + 1) scope.names cl, qual := qual, func := none, code := outer.code, frame := outer.frame, builtins := outer.builtins }
      { s with heap := pushCells (s.heap.push { cls := .type "dict", data := .dict #[] }) scope.names }) :
    wpAny M A (newFunctionEnv scope globals cl [] qual none .none (some outer)) Q E s := by
  simp only [newFunctionEnv, Option.isSome_some, if_true]
  refine wpAny_bind (wpAny_alloc ?_)
  refine wpAny_bind (wpAny_layCells _ (fun name kind cells => by cases hkc : kind == NameKind.cell <;> simp [hkc]) _ _ _ _ ?_)
  rw [show ({ s with heap := s.heap.push { cls := .type "dict", data := .dict #[] } } : Shared).heap.objs.size = s.heap.objs.size + 1 from Heap.size_push ..]
  exact wpAny_bind (wpAny_pure (wpAny_pure hQ))

abbrev ccx (c : Cx) (he : Heap) (G₀ : Addr → Prop) (C : Addr) (scope : Scope) (cl : List (Str × Addr)) (names : List Str) (cap gls : List (Str × V)) : Cx :=
  { g := c.g, A := c.A, E := fun _ _ => False, he := he, G₀ := G₀,
    env := { scope := relabel scope c.env, locals := C, globals := c.env.globals, cells := cellsFrom (C + 1) scope.names cl, qual := c.env.qual, func := none, code := c.env.code, frame := c.env.frame, builtins := c.env.builtins },
    fenv := c.fenv, outer := c.outer, names := names, cap := cap, priv := C :: (cellsFrom (C + 1) scope.names []).map (·.2), gls := gls }

/-- what is captured -/
inductive CapOK (c : Cx) (σ : AS) (scope : Scope) (cl : List (Str × Addr)) : List (Str × V) → Prop
  | nil : CapOK c σ scope cl []
  | var {x : Str} {X : V} {k : Nat} {a : Addr} {r : List (Str × V)} : At c.names k x → Vat σ.vars k X → c.env.kindOf x = some .cell → V.low 0 X = true → c.env.cells.lookup x = some a → cl.lookup x = some a → scope.names.lookup x = some .free → CapOK c σ scope cl r → CapOK c σ scope cl ((x, X) :: r)
  | cap {x : Str} {X : V} {a : Addr} {r : List (Str × V)} : (x, X) ∈ c.cap → c.env.kindOf x = some .cell → c.env.cells.lookup x = some a → cl.lookup x = some a → scope.names.lookup x = some .free → CapOK c σ scope cl r → CapOK c σ scope cl ((x, X) :: r)

def compChk (scope : Scope) (names : List Str) (gls : List (Str × V)) : Bool :=
  scope.kind == .function && decide names.Nodup && (names.all fun x => scope.names.lookup x == some .local || (scope.names.lookup x == some .cell && ((cellsFrom 0 scope.names []).lookup x).isSome)) && decide ((cellsFrom 0 scope.names []).map (·.1)).Nodup &&
  (scope.names.all fun x => x.2 != .local || scope.names.lookup x.1 == some .local) && ((cellsFrom 0 scope.names []).all fun p => scope.names.lookup p.1 == some .cell) && (gls.all fun p => scope.names.lookup p.1 == some .globalImplicit && !(p.1 == ("__debug__" : Str))) && names.all fun x => !(x == ("__debug__" : Str))

theorem lookup_relabel {env : Env} {x : Str} {k : NameKind} : ∀ {names : List (Str × NameKind)}, names.lookup x = some k →
    (names.map fun (n, k) => if (k == NameKind.free && env.scope.kind == .function && env.kindOf n == some .cell) then (n, NameKind.cell) else (n, k)).lookup x = some (if (k == NameKind.free && env.scope.kind == .function && env.kindOf x == some .cell) then NameKind.cell else k)
  | [], h => by simp at h
  | (n, k') :: r, h => by
    have ih := @lookup_relabel env x k r
    show List.lookup x ((if (k' == NameKind.free && env.scope.kind == .function && env.kindOf n == some .cell) = true then (n, NameKind.cell) else (n, k')) :: _) = _
    cases hx : x == n with
    | true =>
      have hxn : x = n := by simpa using hx
      subst hxn
      simp only [List.lookup_cons, hx] at h
      cases h
      by_cases hc : (k == NameKind.free && env.scope.kind == .function && env.kindOf x == some .cell) = true
      · rw [if_pos hc, if_pos hc]; simp
      · rw [if_neg hc, if_neg hc]; simp
    | false =>
      simp only [List.lookup_cons, hx] at h
      by_cases hc : (k' == NameKind.free && env.scope.kind == .function && env.kindOf n == some .cell) = true
      · rw [if_pos hc]; simp only [List.lookup_cons, hx]; exact ih h
      · rw [if_neg hc]; simp only [List.lookup_cons, hx]; exact ih h

theorem relabel_cell {env : Env} {x : Str} {names : List (Str × NameKind)} (h : names.lookup x = some .cell) :
    (names.map fun (n, k) => if (k == NameKind.free && env.scope.kind == .function && env.kindOf n == some .cell) then (n, NameKind.cell) else (n, k)).lookup x = some .cell := (lookup_relabel (env := env) h).trans (by rfl)
section
variable {c : Cx} {σ : AS} {P : V → AS → Prop}
def IterC (c : Cx) (target : Expr) (X : V) (xs : List V) (σ : AS) : Prop :=
  ∀ s G O v Q, Rl c σ s G O → VR s.heap G O v X →
    (∀ I fp wr n Pt Md St s', (∃ h tk, s' = { s with heap := h, toks := tk }) → SrcC c target I fp wr n Pt Md St s s' → xs.length = n →
      (∀ (i : Nat) x v' h' G' O', xs[i]? = some x → Pt i v' h' → Ke G s'.heap h' → (∀ a, G a → G' a) → VR h' G' O' v' x) → Q (.ref I) s') → wpAny c.M c.A (pyIter v) Q c.E s

/-- the run of a comprehension up to the use of its list -/
theorem comp_coreG (ok : Ok c) (hE : c.E = fun _ _ => False) {target iter elt : Expr} {ifs : List Expr} {scope : Scope} {pos : Pos} {cl : List (Str × Addr)} {names : List Str} {vars₀ : List (Option V)} {cap gls : List (Str × V)} {xs : List V} {PY : List V → Prop}
    {s : Shared} {G : Addr → Prop} {O : List Addr} {Rr : Value → Addr → Result → Shared → Prop} (W : (Value → Shared → Prop) → Prop) (asg : Cx → V → AS → (AS → Prop) → Prop)
    (R : Rl c σ s G O) (hi : ∀ Q : Value → Shared → Prop, (∀ I fp wr n Pt Md St s', (∃ h tk, s' = { s with heap := h, toks := tk }) → SrcC c target I fp wr n Pt Md St s s' → xs.length = n →
      (∀ (cc : Cx) (i : Nat) x v' σ' K s₂ G' O', xs[i]? = some x → Pt i v' s₂.heap → Ke G s'.heap s₂.heap → (∀ a, G a → G' a) → Rl cc σ' s₂ G' O' → asg cc x σ' K → wpAny cc.M cc.A (assign target cc.env v') (PoU cc s₂ G' O' K) cc.E s₂) → Q (.ref I) s') → W Q) (hchk : compChk scope names gls = true) (hgl : AllG c.g gls) (hcap : CapOK c σ scope cl cap) (hv0 : ∀ x ∈ vars₀, x = none)
    (h : ∀ he G₀ C, Ok (ccx c he G₀ C scope cl names cap gls) → CompL (ccx c he G₀ C scope cl names cap gls) (asg (ccx c he G₀ C scope cl names cap gls)) ifs elt xs { vars := vars₀, own := [[]] } PY)
    (fin : ∀ s' G' D C ys m, Rl c σ s' G' O → Le c s G O s' G' O → VR s'.heap G' O (.ref D) (.list ys) → PY ys → s'.heap.Ns C m → s.heap.get? C = none → ¬ G' C → Rr (.ref D) C (.ok .next) s') (hx : c.hx = false := by first | rfl | assumption) :
    W (fun it s₂ => wpAny c.M c.A (newList []) (fun acc s₃ => wpAny c.M c.A (newFunctionEnv scope c.env.globals cl [] c.env.qual none .none (some c.env)) (fun cenv s₄ =>
      codeAny c.M c.A (.compStart (.ListComp elt [⟨target, iter, ifs, 0⟩] scope pos) 0 it acc { cenv with scope := relabel scope c.env }) (Rr acc cenv.locals) s₄) c.E s₃) c.E s₂) := by
  simp only [compChk, Bool.and_eq_true, beq_iff_eq, decide_eq_true_eq] at hchk
  obtain ⟨⟨⟨⟨⟨⟨⟨hkind, hnd⟩, hnk⟩, hcn⟩, hloc⟩, hcc⟩, hgk⟩, hdb⟩ := hchk
  refine hi _ fun I fp wr n Pt Md St s₂ hsame S hn hP => ?_
  refine wpAny_newObj_type (newFunctionEnv_comp ?_)
  obtain ⟨h₂, tk₂, rfl⟩ := hsame
  dsimp only
  have keepS : ∀ b o, s.heap.get? b = some o → h₂.get? b = some o := S.keep
  have hC : (h₂.push { cls := .type "list", dict := none, data := .seq ([] : List Value).toArray }).objs.size = h₂.objs.size + 1 := Heap.size_push ..
  rw [hC]
  generalize hDs : h₂.objs.size = D at hC ⊢
  generalize hH : pushCells ((h₂.push { cls := .type "list", dict := none, data := .seq ([] : List Value).toArray }).push { cls := .type "dict", data := .dict #[] }) scope.names = H
  have keepH : ∀ b o, h₂.get? b = some o → H.get? b = some o := fun b o e => hH ▸ pushCells_keeps _ _ b o (Heap.get?_push_of_some _ (Heap.get?_push_of_some _ e))
  have keep : ∀ b o, s.heap.get? b = some o → H.get? b = some o := fun b o e => keepH b o (keepS b o e)
  have lt2 : ∀ {b : Nat} {o : Obj}, h₂.get? b = some o → b < D := fun e => hDs ▸ Heap.lt_size e
  have lts : ∀ {b : Nat} {o : Obj}, s.heap.get? b = some o → b < D := fun e => lt2 (keepS _ _ e)
  have no : ∀ a : Nat, D ≤ a → s.heap.get? a = none := fun a ha => by
    cases e : s.heap.get? a with
    | none => rfl
    | some o => exact absurd (lts e) (Nat.not_lt.mpr ha)
  have hList : OwnL H D #[] := by
    have e : (h₂.push { cls := .type "list", dict := none, data := .seq ([] : List Value).toArray }).get? D = some { cls := .type "list", dict := none, data := .seq ([] : List Value).toArray } := hDs ▸ push_new
    exact ⟨_, hH ▸ pushCells_keeps _ _ _ _ (Heap.get?_push_of_some _ e)⟩
  have hNs : H.Ns (D + 1) (fun _ => none) := by
    have := (Heap.Ns.new (h₂.push { cls := .type "list", dict := none, data := .seq ([] : List Value).toArray }) (.type "dict"))
    rw [hC] at this
    exact hH ▸ this.keeps (pushCells_keeps _ _)
  have cok : CellsOk H (D + 2) (cellsFrom (D + 2) scope.names []) := by
    have := cellsFrom_ok scope.names ((h₂.push { cls := .type "list", dict := none, data := .seq ([] : List Value).toArray }).push { cls := .type "dict", data := .dict #[] }) (D + 2) [] ⟨fun _ _ hm => (nomatch hm), List.Pairwise.nil⟩ (by rw [Heap.size_push, hC]; exact Nat.le_refl _)
    rw [Heap.size_push, hC] at this
    exact hH ▸ this
  have cnd : ((cellsFrom (D + 2) scope.names []).map (·.1)).Nodup := cellsFrom_names scope.names 0 (D + 2) [] [] rfl ▸ hcn
  have newc : ∀ x, (∃ k, scope.names.lookup x = some k ∧ k ≠ .cell) → (cellsFrom (D + 2) scope.names cl).lookup x = cl.lookup x := by
    rintro x ⟨k, hk, hne⟩
    rw [cellsFrom_app, List.lookup_append]
    cases e : (cellsFrom (D + 2) scope.names []).lookup x with
    | none => rfl
    | some a =>
      have sh := cellsFrom_shift scope.names 0 (D + 2) [] x
      rw [Nat.zero_add, List.map_nil, e] at sh
      cases e0 : (cellsFrom 0 scope.names []).lookup x with
      | none => rw [e0] at sh; cases sh
      | some a0 =>
        have := List.all_eq_true.mp hcc _ (mem_of_lookup e0)
        rw [beq_iff_eq, hk] at this
        exact absurd (Option.some.inj this) hne
  have newin : ∀ x a, (cellsFrom (D + 2) scope.names []).lookup x = some a → (cellsFrom (D + 2) scope.names cl).lookup x = some a := fun x a e => by rw [cellsFrom_app, List.lookup_append, e]; rfl
  have nk : ∀ x ∈ names, scope.names.lookup x = some .local ∨ (scope.names.lookup x = some .cell ∧ ∃ a, (cellsFrom (D + 2) scope.names []).lookup x = some a) := by
    intro x hx
    have := List.all_eq_true.mp hnk x hx
    simp only [Bool.or_eq_true, Bool.and_eq_true, beq_iff_eq] at this
    refine this.imp id fun q => ⟨q.1, ?_⟩
    have sh := cellsFrom_shift scope.names 0 (D + 2) [] x
    rw [Nat.zero_add, List.map_nil] at sh
    obtain ⟨a, ha⟩ := Option.isSome_iff_exists.mp q.2
    exact ⟨a + (D + 2), by rw [sh, ha]; rfl⟩
  have capp : ∀ p ∈ cap, c.env.kindOf p.1 = some .cell ∧ scope.names.lookup p.1 = some .free ∧ ∃ v a, VR s.heap G [] v p.2 ∧ cl.lookup p.1 = some a ∧ s.heap.IsCell a (some v) := by
    clear h fin
    induction hcap with
    | nil => intro p hp; cases hp
    | var hx hX hk hl ha ha' hf _ ih =>
      intro p hp
      rcases List.mem_cons.mp hp with rfl | hp
      · obtain ⟨u, h1, h2⟩ := R.vars _ _ _ hx hX
        refine ⟨hk, hf, u, _, ?_, ha', ?_⟩
        · simpa using h1.low (m := 0) (fun _ q => q) hl
        · rcases h2 with ⟨q, _⟩ | ⟨_, a', e, q⟩
          · rw [hk] at q; cases q
          · rw [ha] at e; cases e; exact q
      · exact ih p hp
    | cap hm hk ha ha' hf _ ih =>
      intro p hp
      rcases List.mem_cons.mp hp with rfl | hp
      · obtain ⟨u, a', h1, h2, h3, _⟩ := R.cap _ hm
        rw [ha] at h2; cases h2
        exact ⟨hk, hf, u, _, h1.mono (Ke.refl _ _) R.g0 ⟨[], rfl⟩, ha', h3⟩
      · exact ih p hp
  let cc := ccx c s.heap G (D + 1) scope cl names cap gls
  have hpriv : ∀ a : Nat, a ∈ cc.priv → D + 1 ≤ a ∧ ∃ o, H.get? a = some o := by
    intro a ha
    rcases List.mem_cons.mp ha with rfl | ha
    · obtain ⟨o, es, ep, e, _⟩ := hNs
      exact ⟨Nat.le_refl _, o, e⟩
    · obtain ⟨q, hq, rfl⟩ := List.mem_map.mp ha
      obtain ⟨⟨o, e, _⟩, h2⟩ := cok.empty q.1 q.2 hq
      exact ⟨by omega, o, e⟩
  have okc : Ok cc := by
    refine ⟨fun _ => ok.hd hx, ok.fr, hkind, ok.globals, ok.builtins, hnd, fun x hx => ?_, .head _, fun x hx hk a ha => ?_, fun x hx y hy hk hk' a ha ha' => ?_, fun p hp => ?_, ok.units, ok.depth, ok.nolim, fun L hL => .inr ((R.frames.mem hL).2.imp fun o q => q.1), fun a o e => R.g0 _ (ok.bg a o e), fun p hp => ?_, fun x hx => by simpa using List.all_eq_true.mp hdb x hx⟩
    · refine (nk x hx).imp (fun q => lookup_relabel_local q) fun ⟨q, a, ha⟩ => ⟨relabel_cell q, a, .tail _ (List.mem_map.mpr ⟨(x, a), mem_of_lookup ha, rfl⟩), newin x a ha⟩
    · rcases nk x hx with q | ⟨q, a', ha'⟩
      · have : cc.env.kindOf x = some .local := lookup_relabel_local q
        rw [hk] at this; cases this
      · have : a = a' := by have e := newin x a' ha'; rw [show cc.env.cells.lookup x = some a' from e] at ha; cases ha; rfl
        subst this
        have := (cok.empty x a (mem_of_lookup ha')).2
        exact Nat.ne_of_gt this
    · rcases nk x hx with q | ⟨q, a₁, h1⟩
      · have : cc.env.kindOf x = some .local := lookup_relabel_local q
        rw [hk] at this; cases this
      rcases nk y hy with q' | ⟨q', a₂, h2⟩
      · have : cc.env.kindOf y = some .local := lookup_relabel_local q'
        rw [hk'] at this; cases this
      have e1 : a = a₁ := by have e := newin x a₁ h1; rw [show cc.env.cells.lookup x = some a₁ from e] at ha; cases ha; rfl
      have e2 : a = a₂ := by have e := newin y a₂ h2; rw [show cc.env.cells.lookup y = some a₂ from e] at ha'; cases ha'; rfl
      subst e1; subst e2
      exact name_of_addr cok.apart (mem_of_lookup h1) (mem_of_lookup h2)
    · obtain ⟨h1, h2, _⟩ := capp p hp
      have := lookup_relabel (env := c.env) h2
      rw [if_pos (by rw [ok.kind, h1]; rfl)] at this
      exact this
    · have := List.all_eq_true.mp hgk p hp
      rw [Bool.and_eq_true, beq_iff_eq, Bool.not_eq_true'] at this
      exact ⟨lookup_relabel (env := c.env) this.1, hgl p hp, this.2⟩
  have kk : ∀ S', Ke S' s.heap H := fun S' => Ke.of_keeps fun b o _ e => keep b o e
  have Rc : Rl cc { vars := vars₀, own := [[]] } { s with heap := H, toks := tk₂ } G [D] := by
    refine ⟨fun b o e => keep b o (R.base b o e), kk _, R.frames.of_keeps fun b o e _ => ⟨o, keep b o e, rfl⟩, fun L hL => (R.fdk L hL).imp fun o q => ⟨keep L o q.1, q.2⟩, fun a ga => (R.glive a ga).imp fun o e => keep a o e, fun a ga => .inl ga, fun a ga => ga, fun a ha => ?_, fun a ha => ?_, by simp, ⟨_, hNs⟩, fun x hx hk a ha => ?_, fun j x X hx hX => ?_, rfl, fun j ys e => ?_, fun p hp => ?_⟩
    · obtain ⟨h1, h2⟩ := hpriv a ha
      have hn := no a (by omega)
      exact ⟨hn, (R.free hn).1, fun q => Nat.ne_of_gt h1 (List.mem_singleton.mp q), h2⟩
    · rw [List.mem_singleton] at ha; subst ha
      have hn := no a (Nat.le_refl _)
      exact ⟨hn, (R.free hn).1⟩
    · rcases nk x hx with q | ⟨q, a', ha'⟩
      · have : cc.env.kindOf x = some .local := lookup_relabel_local q
        rw [hk] at this; cases this
      · have e := newin x a' ha'
        rw [show cc.env.cells.lookup x = some a' from e] at ha; cases ha
        exact ⟨_, (cok.empty x _ (mem_of_lookup ha')).1⟩
    · have := hv0 _ (List.mem_of_getElem? hX.get)
      cases this
    · cases j with
      | zero => simp at e; subst e; exact ⟨D, #[], rfl, hList, .nil⟩
      | succ j => simp at e
    · obtain ⟨h1, h2, u, a, h3, h4, h5⟩ := capp p hp
      exact ⟨u, a, h3.mono (kk _) (fun _ q => q) ⟨[], rfl⟩, (newc p.1 ⟨_, h2, by decide⟩).trans h4, h5.keeps keep, by obtain ⟨o, e, _⟩ := h5; exact ⟨o, e⟩⟩
  have wlt : ∀ b : Nat, b ∈ wr → b < D := fun b hb => by obtain ⟨o, e, _⟩ := S.cls 0 _ S.st b hb; exact lt2 e
  have stH : St 0 H := S.W.frame 0 _ _ S.st fun b hb o e => keepH b o e
  have SC : Src cc target I fp wr n Pt Md St s { s with heap := H, toks := tk₂ } G [D] := by
    refine ⟨S.W, stH, fun b hb => ⟨S.own b hb, (R.free (S.own b hb)).1, ?_, fun q => ?_, S.own b hb⟩, fun b hb => ?_, S.cls, S.self⟩
    · exact fun q => Nat.ne_of_lt (wlt b hb) (List.mem_singleton.mp q)
    · have := wlt b hb; have := (hpriv b q).1; omega
    · refine (S.foot b hb).imp id fun ⟨o, e, q⟩ => ⟨fun p => ?_, ?_, o, keepH b o e, q⟩
      · have := lt2 e; have := (hpriv b p).1; omega
      · exact fun q => Nat.ne_of_lt (lt2 e) (List.mem_singleton.mp q)
  have loop : codeAny c.M c.A (.compLoop (.ListComp elt [⟨target, iter, ifs, 0⟩] scope pos) 0 (.ref I) (.ref D) cc.env) (Rr (.ref D) (D + 1)) { s with heap := H, toks := tk₂ } := by
    refine comp_loop (c := cc) (PY := PY) okc rfl SC Rc ⟨H, tk₂, rfl⟩ xs hn (asg cc) (fun i x v' σ' K s' G' O' hx hp R'' kG gG oO ha => hP cc i x v' σ' K s' G' O' hx hp ?_ gG R'' ha) (h s.heap G (D + 1) okc) fun s' σ' G' ys R₂ ho hlow hp hsm => ?_
    · exact (Ke.of_keeps (S := G) (h := h₂) (h' := H) fun b o _ e => keepH b o e).trans kG fun _ q => q
    · have hc0 : σ'.colOk 0 := .inr ⟨by rw [ho]; simp, by rw [ho]; simp [hlow]⟩
      obtain ⟨G₃, R₃, g3, g3', hvr⟩ := R₂.col 0 hc0
      rw [List.take_zero] at R₃ hvr
      have hvD := hvr (.ref D) (.own 0) (.own rfl)
      rw [ho] at hvD
      have hvD' : VR s'.heap G₃ [] (.ref D) (.list ys) := hvD
      obtain ⟨h', tk', rfl⟩ := hsm
      have Rn : Rl c σ { s with heap := h', toks := tk' } (fun a => G a ∨ (s.heap.get? a = none ∧ G₃ a)) O := R.keep (fun _ => False) (R₃.kept.mono fun _ _ => trivial) R₃.base (fun _ d => d.elim) ok (fun _ q => .inl q) fun a q => q.imp id fun q => ⟨(R.free q.1).2.1, (R.free q.1).2.2.1, (R.free q.1).2.2.2, R₃.glive a q.2⟩
      obtain ⟨m, hm⟩ := R₃.ns
      refine fin _ _ D (D + 1) ys m Rn ⟨⟨⟨h', tk', rfl⟩, fun _ q => .inl q, R₃.kept.mono fun _ _ => trivial, fun _ q => .inl q, fun a q => q.imp id fun q => q.1, fun a o e => R₃.kept.live trivial ⟨o, e⟩⟩, [], by simp⟩ (hvD'.mono (Ke.refl _ _) (fun a ga => (R₃.gnew a ga).imp id fun q => ⟨q, ga⟩) ⟨O, rfl⟩) hp hm (no _ (by omega)) fun q => ?_
      rcases q with q | q
      · exact (R.free (no (D + 1) (by omega))).1 q
      · exact (R₃.priv (D + 1) (.head _)).2.1 q.2
  exact codeAny_compStart_list loop (S.self 0 _ _ _ stH loop)
theorem comp_core (ok : Ok c) (hE : c.E = fun _ _ => False) {target iter elt : Expr} {ifs : List Expr} {scope : Scope} {pos : Pos} {cl : List (Str × Addr)} {names : List Str} {vars₀ : List (Option V)} {cap gls : List (Str × V)} {X : V} {xs : List V} {PY : List V → Prop}
    {s : Shared} {G : Addr → Prop} {O : List Addr} {v : Value} {Rr : Value → Addr → Result → Shared → Prop}
    (R : Rl c σ s G O) (hv : VR s.heap G O v X) (hi : IterC c target X xs σ) (hchk : compChk scope names gls = true) (hgl : AllG c.g gls) (hcap : CapOK c σ scope cl cap) (hv0 : ∀ x ∈ vars₀, x = none)
    (h : ∀ he G₀ C, Ok (ccx c he G₀ C scope cl names cap gls) → CompL (ccx c he G₀ C scope cl names cap gls) (AN (ccx c he G₀ C scope cl names cap gls) target) ifs elt xs { vars := vars₀, own := [[]] } PY)
    (fin : ∀ s' G' D C ys m, Rl c σ s' G' O → Le c s G O s' G' O → VR s'.heap G' O (.ref D) (.list ys) → PY ys → s'.heap.Ns C m → s.heap.get? C = none → ¬ G' C → Rr (.ref D) C (.ok .next) s') (hx : c.hx = false := by first | rfl | assumption) :
    wpAny c.M c.A (pyIter v) (fun it s₂ => wpAny c.M c.A (newList []) (fun acc s₃ => wpAny c.M c.A (newFunctionEnv scope c.env.globals cl [] c.env.qual none .none (some c.env)) (fun cenv s₄ =>
      codeAny c.M c.A (.compStart (.ListComp elt [⟨target, iter, ifs, 0⟩] scope pos) 0 it acc { cenv with scope := relabel scope c.env }) (Rr acc cenv.locals) s₄) c.E s₃) c.E s₂) c.E s := by
  refine comp_coreG ok hE (fun Q => wpAny c.M c.A (pyIter v) Q c.E s) (fun cc => AN cc target) R (fun Q k => hi s G O v Q R hv fun I fp wr n Pt Md St s' h1 h2 h3 h4 => k I fp wr n Pt Md St s' h1 h2 h3 fun cc i x v' σ' K s₂ G' O' hx hp kG gG R' ha => ha s₂ G' O' v' R' (h4 i x v' _ G' O' hx hp kG gG)) hchk hgl hcap hv0 h fin hx
end
end Mine
namespace Mine
section
variable {c : Cx} {σ : AS} {P : V → AS → Prop}

theorem IterC_of {target : Expr} {X : V} {xs : List V} (h : IterOK c target X xs σ) (hl : V.lows 0 xs = true) : IterC c target X xs σ := by
  intro s G O v Q R hv k
  refine h s G O v Q R hv fun I fp wr n Pt Md St s' R' L' kp S hn hP => k I fp wr n Pt Md St s' L'.same ⟨S.W, S.st, kp, fun b hb => (S.own b hb).1, fun b hb => (S.foot b hb).imp id fun q => q.2.2, S.cls, S.self⟩ hn fun i x v' h' G' O' hx hp kG gG => ?_
  have h1 := hP i x v' h' G' O hx hp kG gG ⟨[], by simp⟩
  have lx : ∀ {xs : List V} {i : Nat}, V.lows 0 xs = true → xs[i]? = some x → V.low 0 x = true := by
    intro xs
    induction xs with
    | nil => intro i _ e; simp at e
    | cons y ys ih =>
      intro i hl e
      simp only [V.lows, Bool.and_eq_true] at hl
      cases i with
      | zero => simp at e; subst e; exact hl.1
      | succ i => exact ih hl.2 (by simpa using e)
  have h2 := h1.low (m := 0) (G' := G') (fun _ q => q) (lx hl hx)
  rw [List.take_zero] at h2
  exact h2.mono (Ke.refl _ _) (fun _ q => q) ⟨O', rfl⟩
/-- over an own list -/
theorem IterC_own (ok : Ok c) {target : Expr} {k : Nat} {xs : List V} (hk : σ.own[k]? = some xs) (hl : V.lows 0 xs = true) (hx : c.hx = false := by first | rfl | assumption) : IterC c target (.own k) xs σ := by
  intro s G O v Q R hv kk
  obtain ⟨a, rfl, ha⟩ := hv.inv
  obtain ⟨b, vs, h1, hli, hvs⟩ := R.own k xs hk
  rw [ha] at h1; cases h1
  have hli := hli.isList
  have hne : a ≠ s.heap.objs.size := by obtain ⟨o, ho, _⟩ := hli; exact Nat.ne_of_lt (Heap.lt_size ho)
  have W := Walks.list (prog := c.g.prog) (w := c.g.w) (ok.hd hx) s.heap.objs.size a hne vs
  refine wpAny_pyIter_list hli (kk _ _ _ _ _ _ _ _ ⟨_, s.toks, rfl⟩ ⟨KTurns.ofWalks W fun i v s Q E st hQ => ?_, ⟨⟨_, push_new, rfl, rfl⟩, hli.push _⟩, fun b o e => Heap.get?_push_of_some _ e, fun b hb => ?_, fun b hb => ?_, fun i h st b hb => ?_, W.self⟩ (by rw [← hvs.length]; simp) fun i x v' h' G' O' hx hP kG gG => ?_)
  · obtain ⟨⟨o, e, hc, _⟩, _⟩ := st
    exact go_plain e hc (by decide) hQ
  · rw [List.mem_singleton] at hb; subst hb; exact fresh_size _
  · rcases List.mem_cons.mp hb with q | q
    · exact .inl (by rw [q]; exact .head _)
    · rw [List.mem_singleton] at q; subst q
      obtain ⟨o, e, _, _, hc⟩ := hli
      exact .inr ⟨o, Heap.get?_push_of_some _ e, Dk.no hc fun _ _ q => by cases q⟩
  · rw [List.mem_singleton] at hb; subst hb
    obtain ⟨⟨o, e, _, hc⟩, _⟩ := st
    exact ⟨o, e, Dk.no hc fun _ _ q => by cases q⟩
  · have hvs' := hvs.low (m := 0) (G' := G) (fun _ q => q) hl
    rw [List.take_zero] at hvs'
    obtain ⟨u, h1, h2⟩ := hvs'.get hx
    have hP' : vs[i]? = some v' := hP
    have : v' = u := by rw [Array.getElem?_toList] at h1; rw [hP'] at h1; cases h1; rfl
    subst this
    exact (h2.mono (Ke.of_keeps fun b o _ e => Heap.get?_push_of_some _ e) (fun _ q => q) ⟨[], rfl⟩).mono kG gG ⟨O', rfl⟩

theorem compNames {scope : Scope} {names : List Str} {gls : List (Str × V)} (h : compChk scope names gls = true) : scope.kind = .function ∧ ∀ x ∈ scope.names, x.2 = .local → scope.names.lookup x.1 = some .local := by
  simp only [compChk, Bool.and_eq_true, beq_iff_eq] at h
  refine ⟨h.1.1.1.1.1.1.1, fun x hx hl => ?_⟩
  have := List.all_eq_true.mp h.1.1.1.2 x hx
  simpa [hl] using this

/-- the list of a comprehension as a value -/
theorem EV_comp (ok : Ok c) (hE : c.E = fun _ _ => False) {target iter elt : Expr} {ifs : List Expr} {scope : Scope} {pos : Pos} (names : List Str) (gls : List (Str × V)) (hgl : AllG c.g gls) (vars₀ : List (Option V)) {cl : List (Str × Addr)}
    (h : EV c iter σ fun X σ₁ => ∃ xs cap, IterC c target X xs σ₁ ∧ CapOK c σ₁ scope cl cap ∧ ∀ he G₀ C, Ok (ccx c he G₀ C scope cl names cap gls) → CompL (ccx c he G₀ C scope cl names cap gls) (AN (ccx c he G₀ C scope cl names cap gls) target) ifs elt xs { vars := vars₀, own := [[]] } fun ys => P (.list ys) σ₁)
    (hchk : compChk scope names gls = true := by decide +kernel) (hclos : closureFor scope c.env = pure cl := by rfl) (hv0 : ∀ x ∈ vars₀, x = none := by simp) (hs : ∀ x, foldedSetIterable iter c.env x = pure x := by intro _; rfl) (hx : c.hx = false := by first | rfl | assumption) :
    EV c (.ListComp elt [⟨target, iter, ifs, 0⟩] scope pos) σ P := by
  intro s G O R
  obtain ⟨hk, hn⟩ := compNames hchk
  show wpAny _ _ (comprehension (.ListComp elt [⟨target, iter, ifs, 0⟩] scope pos) scope c.env iter.pos (newList []) false (eval iter c.env)) _ _ s
  refine wpAny_comprehension_free (use := none) rfl hs hclos hk hn (TV.use h R fun v s₁ X σ₁ G₁ O₁ h₁ R₁ L₁ v₁ => ?_)
  obtain ⟨xs, cap, hi, hcap, hb⟩ := h₁
  refine comp_core ok hE R₁ v₁ hi hchk hgl hcap hv0 (PY := fun ys => P (.list ys) σ₁) hb fun s' G' D C ys m R' L' vD hp hm hC gC => ⟨m, hm, fun h' hs' => ?_⟩
  have fr := R₁.free hC
  have keep : ∀ b o, b ≠ C → s'.heap.get? b = some o → h'.get? b = some o := fun b o hb e => (hs'.2 b hb).trans e
  have kk : Ke (fun b => ¬ b = C) s'.heap h' := Ke.of_keeps fun b o nb e => keep b o nb e
  have R'' : Rl c σ₁ { s' with heap := h' } G' O₁ := R'.keep (tk := s'.toks) (fun b => b = C) kk (fun b o e => keep b o (fun q => fr.1 (R₁.g0 _ (ok.bg _ o (q ▸ e)))) (R'.base b o e)) (fun b d => d ▸ ⟨gC, fr.2.1, fr.2.2.1, fr.2.2.2⟩) ok (fun _ q => q) fun _ q => .inl q
  have L'' : Le c s₁ G₁ O₁ { s' with heap := h' } G' O₁ := ⟨L'.toLeS.move (tk := s'.toks) (fun b => b = C) kk (fun b d => .inr (.inr (d ▸ hC))) (fun b d q => absurd q fun q => q.elim (d ▸ fr.2.2.1) (d ▸ fr.2.2.2)) (fun _ q => q) (fun _ q => .inl q) fun _ q => .inl q, [], by simp⟩
  exact ⟨_, σ₁, G', O₁, hp, R'', L₁.trans L'', vD.mono (kk.mono fun a ga q => gC (q ▸ ga)) (fun _ q => q) ⟨[], by simp⟩⟩
/-- x = [.. for ..] -/
theorem EX_assignComp (ok : Ok c) (hE : c.E = fun _ _ => False) {k : Nat} {y : Str} {py : Pos} {target iter elt : Expr} {ifs : List Expr} {scope : Scope} {pos spos : Pos} {P : Fl → AS → Prop} (names : List Str) (gls : List (Str × V)) (hgl : AllG c.g gls) (vars₀ : List (Option V)) {cl : List (Str × Addr)} (hy : At c.names k y)
    (h : EV c iter σ fun X σ₁ => ∃ xs cap, IterC c target X xs σ₁ ∧ CapOK c σ₁ scope cl cap ∧ ∀ he G₀ C, Ok (ccx c he G₀ C scope cl names cap gls) → CompL (ccx c he G₀ C scope cl names cap gls) (AN (ccx c he G₀ C scope cl names cap gls) target) ifs elt xs { vars := vars₀, own := [[]] } fun ys => ∃ vars', Upd σ₁.vars k (.list ys) vars' ∧ P .next { σ₁ with vars := vars' })
    (hsw : swapsWith (.ListComp elt [⟨target, iter, ifs, 0⟩] scope pos) (some (.Name y py)) spos.line c.env = pure true := by rfl)
    (hchk : compChk scope names gls = true := by decide +kernel) (hclos : closureFor scope c.env = pure cl := by rfl) (hv0 : ∀ x ∈ vars₀, x = none := by simp) (hs : ∀ x, foldedSetIterable iter c.env x = pure x := by intro _; rfl) (hx : c.hx = false := by first | rfl | assumption) :
    EX c (.Assign [.Name y py] (.ListComp elt [⟨target, iter, ifs, 0⟩] scope pos) spos) σ P := by
  intro s G O R
  obtain ⟨hk, hn⟩ := compNames hchk
  show wpAny _ _ (exec _ c.env) _ _ s
  rw [exec_Assign_Name_used _ _ _ _ hsw]
  refine wpAny_bind (wpAny_standAt (wpAny_bind ?_))
  show wpAny _ c.A (do let _ ← comprehension (.ListComp elt [⟨target, iter, ifs, 0⟩] scope pos) scope c.env iter.pos (newList []) false (eval iter c.env) (some (assign (.Name y py) c.env))) _ _ s
  refine wpAny_bind (wpAny_mono (wpAny_comprehension_free (use := some (assign (.Name y py) c.env)) (Q := fun _ s' => PoF c s G O P .next s') rfl hs hclos hk hn (TV.use h R fun v s₁ X σ₁ G₁ O₁ h₁ R₁ L₁ v₁ => ?_)) (fun _ s' hq => wpAny_pure (wpAny_pure hq)) fun _ _ e => e)
  obtain ⟨xs, cap, hi, hcap, hb⟩ := h₁
  refine comp_core ok hE R₁ v₁ hi hchk hgl hcap hv0 hb fun s' G' D C ys m R' L' vD hp hm hC gC => ?_
  obtain ⟨vars', hu, hp⟩ := hp
  have fr := R₁.free hC
  show wpAny _ c.A (assign (.Name y py) c.env (.ref D)) _ _ _
  refine wpAny_assign_Name (store_ ok R' hy hu vD fun s₂ R₂ L₂ => ?_)
  obtain ⟨oC, esC, epC, hoC, _⟩ := id hm
  have hm₂ : s₂.heap.Ns C m := L₂.ke.ns ⟨fr.2.2.1, fr.2.2.2⟩ hm
  refine ⟨m, hm₂, fun h' hs' => ?_⟩
  have keep : ∀ b o, b ≠ C → s₂.heap.get? b = some o → h'.get? b = some o := fun b o hb e => (hs'.2 b hb).trans e
  have kk : Ke (fun b => ¬ b = C) s₂.heap h' := Ke.of_keeps fun b o nb e => keep b o nb e
  have R'' : Rl c { σ₁ with vars := vars' } { s₂ with heap := h' } G' O₁ := R₂.keep (tk := s₂.toks) (fun b => b = C) kk (fun b o e => keep b o (fun q => fr.1 (R₁.g0 _ (ok.bg _ o (q ▸ e)))) (R₂.base b o e)) (fun b d => d ▸ ⟨gC, fr.2.1, fr.2.2.1, fr.2.2.2⟩) ok (fun _ q => q) fun _ q => .inl q
  have L'' : Le c s₁ G₁ O₁ { s₂ with heap := h' } G' O₁ := ⟨(L'.trans L₂).toLeS.move (tk := s₂.toks) (fun b => b = C) kk (fun b d => .inr (.inr (d ▸ hC))) (fun b d q => absurd q fun q => q.elim (d ▸ fr.2.2.1) (d ▸ fr.2.2.2)) (fun _ q => q) (fun _ q => .inl q) fun _ q => .inl q, [], by simp⟩
  exact ⟨.next, _, G', O₁, hp, R'', L₁.trans L'', .next⟩
end
end Mine
namespace Mine

theorem VRs.inv0 {h : Heap} {G : Addr → Prop} {O : List Addr} {vs : List Value} (r : VRs h G O vs []) : vs = [] := by cases r; rfl
theorem VRs.invC {h : Heap} {G : Addr → Prop} {O : List Addr} {vs : List Value} {x : V} {xs : List V} (r : VRs h G O vs (x :: xs)) : ∃ v us, vs = v :: us ∧ VR h G O v x ∧ VRs h G O us xs := by cases r with | cons a b => exact ⟨_, _, rfl, a, b⟩
def vI (ns : List Int) : List V := ns.map V.int
def vS (ns : List Str) : List V := ns.map V.str
theorem VRs.toI {h : Heap} {G : Addr → Prop} {O : List Addr} : ∀ {vs : List Value} {ns : List Int}, VRs h G O vs (vI ns) → IntsAre vs ns
  | _, [], r => by rw [VRs.inv0 r]; exact .nil
  | _, n :: ns, r => by
    obtain ⟨v, us, rfl, h1, h2⟩ := VRs.invC r
    obtain ⟨t, rfl⟩ := h1.inv
    exact .cons n t (VRs.toI h2)
theorem VRs.ofI {h : Heap} {G : Addr → Prop} {O : List Addr} {vs : List Value} {ns : List Int} (r : IntsAre vs ns) : VRs h G O vs (vI ns) := by
  induction r with
  | nil => exact .nil
  | cons n t _ ih => exact .cons (.int n t) ih
theorem low_vI (m : Nat) (ns : List Int) : V.lows m (vI ns) = true := by
  induction ns with
  | nil => rfl
  | cons n ns ih => simpa [vI, V.lows, V.low] using ih
theorem low_vS (m : Nat) (ns : List Str) : V.lows m (vS ns) = true := by
  induction ns with
  | nil => rfl
  | cons n ns ih => simpa [vS, V.lows, V.low] using ih
theorem VRs.toS {h : Heap} {G : Addr → Prop} {O : List Addr} : ∀ {vs : List Value} {ns : List Str}, VRs h G O vs (vS ns) → StrsAre vs ns
  | _, [], r => by rw [VRs.inv0 r]; exact .nil
  | _, n :: ns, r => by
    obtain ⟨v, us, rfl, h1, h2⟩ := VRs.invC r
    obtain ⟨t, rfl⟩ := h1.inv
    exact .cons n t (VRs.toS h2)
theorem VRs.ofS {h : Heap} {G : Addr → Prop} {O : List Addr} {vs : List Value} {ns : List Str} (r : StrsAre vs ns) : VRs h G O vs (vS ns) := by
  induction r with
  | nil => exact .nil
  | cons n t _ ih => exact .cons (.str n t) ih

theorem seqIndex_in {i : Int} {n : Nat} (h0 : 0 ≤ i) (h1 : i < n) : seqIndex? i n = some i.toNat := by
  unfold seqIndex?
  simp only [show ¬ i < 0 by omega, if_false]
  rw [if_pos (by simp [h0, h1])]
section
variable {c : Cx} {σ : AS} {P : V → AS → Prop}
theorem CLb1 {id : String} {x : V} (h : ∀ s G O v, Rl c σ s G O → VR s.heap G O v x → wpAny c.M c.A (call (.builtin id) [v]) (Po c s G O P) c.E s) : CL c (.bi id) [x] [] σ P := by
  intro s G O fv vs kvs R hf hv hk
  obtain rfl := hf.inv
  obtain ⟨v, us, rfl, h1, h2⟩ := hv.invC
  rw [h2.inv0]
  exact h s G O v R h1
theorem CLb2 {id : String} {x y : V} (h : ∀ s G O v u, Rl c σ s G O → VR s.heap G O v x → VR s.heap G O u y → wpAny c.M c.A (call (.builtin id) [v, u]) (Po c s G O P) c.E s) : CL c (.bi id) [x, y] [] σ P := by
  intro s G O fv vs kvs R hf hv hk
  obtain rfl := hf.inv
  obtain ⟨v, us, rfl, h1, h2⟩ := hv.invC
  obtain ⟨u, us, rfl, h3, h4⟩ := h2.invC
  rw [h4.inv0]
  exact h s G O v u R h1 h3
theorem CLt1 {id : String} {x : V} (h : ∀ s G O v, Rl c σ s G O → VR s.heap G O v x → wpAny c.M c.A (call (.type id) [v]) (Po c s G O P) c.E s) : CL c (.ty id) [x] [] σ P := by
  intro s G O fv vs kvs R hf hv hk
  obtain rfl := hf.inv
  obtain ⟨v, us, rfl, h1, h2⟩ := hv.invC
  rw [h2.inv0]
  exact h s G O v R h1
theorem CLt3 {id : String} {x y z : V} (h : ∀ s G O v u w, Rl c σ s G O → VR s.heap G O v x → VR s.heap G O u y → VR s.heap G O w z → wpAny c.M c.A (call (.type id) [v, u, w]) (Po c s G O P) c.E s) : CL c (.ty id) [x, y, z] [] σ P := by
  intro s G O fv vs kvs R hf hv hk
  obtain rfl := hf.inv
  obtain ⟨v, us, rfl, h1, h2⟩ := hv.invC
  obtain ⟨u, us, rfl, h3, h4⟩ := h2.invC
  obtain ⟨w, us, rfl, h5, h6⟩ := h4.invC
  rw [h6.inv0]
  exact h s G O v u w R h1 h3 h5

/-- an end with a heap that has only grown -/
theorem fin_grow (ok : Ok c) {s : Shared} {G : Addr → Prop} {O : List Addr} (R : Rl c σ s G O) {h' : Heap} {tk : Nat} {v : Value} {x : V} (k : ∀ b o, s.heap.get? b = some o → h'.get? b = some o) (hp : P x σ) (hv : ∀ (h : Heap) (G : Addr → Prop) (O : List Addr), VR h G O v x) : Po c s G O P v { s with heap := h', toks := tk } := by
  have := R.grow0 (h' := h') (tk := tk) ok k
  exact ⟨x, σ, G, O, hp, this.1, this.2, hv _ _ _⟩
/-- .. and a new object in it -/
theorem fin_new (ok : Ok c) {s : Shared} {G : Addr → Prop} {O : List Addr} (R : Rl c σ s G O) {h' : Heap} {tk : Nat} {a : Addr} {x : V} (k : ∀ b o, s.heap.get? b = some o → h'.get? b = some o) (ha : s.heap.get? a = none) (hl : ∃ o, h'.get? a = some o) (hp : P x σ)
    (hv : Le c s G O { s with heap := h', toks := tk } (fun b => G b ∨ b = a) O → VR h' (fun b => G b ∨ b = a) O (.ref a) x) : Po c s G O P (.ref a) { s with heap := h', toks := tk } := by
  have := R.grow (h' := h') (tk := tk) (G' := fun b => G b ∨ b = a) ok k (fun _ q => .inl q) fun b q => q.imp id fun e => by subst e; exact ⟨ha, hl⟩
  exact ⟨x, σ, _, O, hp, this.1, this.2, hv this.2⟩

theorem CL_int {i : Int} (h : P (.int i) σ) : CL c (.ty "int") [.int i] [] σ P := CLt1 fun s G O v R hv => by
  obtain ⟨t, rfl⟩ := hv.inv; exact call_int_int (fin0 R h (.int _ _))
theorem CL_lenL {xs : List V} (hs : xs.length ≤ 1000000) (h : P (.int xs.length) σ) : CL c (.bi "len") [.list xs] [] σ P := CLb1 fun s G O v R hv => by
  obtain ⟨a, vs, rfl, ga, hl, hvs⟩ := hv.inv
  have e : vs.size = xs.length := by rw [← hvs.length]; simp
  refine Calls.call_len_list hl (by rw [e]; omega) ?_
  rw [e]; exact fin_ R h (.int _ _)
theorem CL_rng1 (ok : Ok c) {n : Int} (h : P (.rng 0 n 1) σ) : CL c (.ty "range") [.int n] [] σ P := CLt1 fun s G O v R hv => by
  obtain ⟨t, rfl⟩ := hv.inv
  exact call_range_1 (fin_new ok R (fun b o e => Heap.get?_push_of_some _ e) (fresh_size _) ⟨_, push_new⟩ h fun _ => .rng (.inr rfl) push_new)
theorem CL_rng3 (ok : Ok c) {a b st : Int} (hst : 0 < st) (hs : st < 1073741824) (h : P (.rng a b st) σ) : CL c (.ty "range") [.int a, .int b, .int st] [] σ P := CLt3 fun s G O v u w R hv hu hw => by
  obtain ⟨t, rfl⟩ := hv.inv
  obtain ⟨t', rfl⟩ := hu.inv
  obtain ⟨t'', rfl⟩ := hw.inv
  exact call_range_3 (by omega) (fin_new ok R (fun b o e => Heap.get?_push_of_some _ e) (fresh_size _) ⟨_, push_new⟩ h fun _ => .rng (.inr rfl) push_new) (Or.inl (PyProof.noPylong_small (by omega)))
theorem CL_bytesO (ok : Ok c) {k : Nat} {ns : List Int} (hk : σ.own[k]? = some (vI ns)) (hr : ∀ n ∈ ns, 0 ≤ n ∧ n < 256) (hz : ns.length ≤ 1000000) (h : P (.bytes (byteArr ns)) σ) (hx : c.hx = false := by first | rfl | assumption) : CL c (.ty "bytes") [.own k] [] σ P := CLt1 fun s G O v R hv => by
  obtain ⟨a, rfl, ha⟩ := hv.inv
  obtain ⟨b, vs, h1, hl, hvs⟩ := R.own k _ hk
  rw [ha] at h1; cases h1
  have hl := hl.isList
  have hi := hvs.toI
  refine call_bytes_ints (vs := vs.toList) (by simpa using hl) hi hr ?_ (ok.hd hx) fun h' t k kp => fin_grow ok R kp h fun _ _ _ => .bytes _ _
  rw [hi.length]; exact Nat.le_trans hz (by decide)
theorem CL_sortedS (ok : Ok c) {ns : List Str} (hz : ns.length < 64) (h : ∀ ms : List Str, ms.Perm ns → sortedS ms = true → P (.list (vS ms)) σ) : CL c (.bi "sorted") [.list (vS ns)] [] σ P := CLb1 fun s G O v R hv => by
  obtain ⟨a, vs, rfl, ga, hl, hvs⟩ := hv.inv
  have hi := hvs.toS
  refine sorted_strs (vs := vs.toList) (by simpa using hl) hi (by rw [hi.length]; exact hz) fun out ms ho hp hs => ?_
  obtain ⟨e, he⟩ := sortedAll_at s.heap vs.toList out
  have fr : s.heap.get? (s.heap.objs.size + 1) = none := by
    cases e : s.heap.get? (s.heap.objs.size + 1) with
    | none => rfl
    | some o => exact absurd (Heap.lt_size e) (Nat.not_lt.mpr (Nat.le_succ _))
  exact fin_new ok R (fun b o e => sortedAll_old e) fr ⟨_, he⟩ (h ms hp hs) fun _ => .list (.inr rfl) ⟨_, he, rfl, _, rfl⟩ (.ofS ho)

/-! ### items -/
theorem EV_sub {v sl : Expr} {pos : Pos} (h : EV c v σ fun x σ₁ => EV c sl σ₁ fun i σ₂ => O2 c (fun o i => subscriptTail v sl o i) x i σ₂ P) : EV c (.Subscript v sl pos) σ P :=
  fun _ _ _ R => Subscript_ (TV.use h R fun _ _ _ _ _ _ h₁ R₁ L₁ v₁ => TV.use h₁ R₁ fun _ _ _ _ _ _ h₂ R₂ L₂ v₂ => h₂.at R₂ L₁ R₁ L₂ v₁ v₂)
theorem sub_listL {v sl : Expr} {xs : List V} {i : Int} {x : V} (h0 : 0 ≤ i) (hx : xs[i.toNat]? = some x) (hz : i < 1000000) (h : P x σ) (hs : ∀ o i, subscripted sl false o i = operate [o, i] (getItem o i) := by intro _ _; rfl) : O2 c (fun o i => subscriptTail v sl o i) (.list xs) (.int i) σ P := by
  intro s G O o u R ho hu
  obtain ⟨a, vs, rfl, ga, hl, hvs⟩ := ho.inv
  obtain ⟨t, rfl⟩ := hu.inv
  obtain ⟨y, hy, hv⟩ := hvs.get hx
  exact tail_any hl.typeIs slot_list_getitem.lookup (wpAny_getItem_list hl h0 (by omega) (by rw [← Array.getElem?_toList]; exact hy) (fin0 R h hv)) (hs _ _)
theorem sub_tup {v sl : Expr} {xs : List V} {i : Int} {x : V} (h0 : 0 ≤ i) (hx : xs[i.toNat]? = some x) (hz : i < 1000000) (h : P x σ) (hs : ∀ o i, subscripted sl false o i = operate [o, i] (getItem o i) := by intro _ _; rfl) : O2 c (fun o i => subscriptTail v sl o i) (.tup xs) (.int i) σ P := by
  intro s G O o u R ho hu
  obtain ⟨a, vs, rfl, ga, hl, hvs⟩ := ho.inv
  obtain ⟨t, rfl⟩ := hu.inv
  obtain ⟨y, hy, hv⟩ := hvs.get hx
  have hlt : i.toNat < vs.size := by
    have := (List.getElem?_eq_some_iff.mp hy).1
    simpa using this
  refine tail_any hl.typeIs F.slot_tuple_getitem.lookup (PyProof.Rows.getItem_tuple (j := i.toNat) hl (by omega) (by omega) ?_ (by rw [← Array.getElem?_toList]; exact hy) (fin0 R h hv)) (hs _ _)
  exact seqIndex_in h0 (by omega)
theorem sub_bytes {v sl : Expr} {b : Array UInt8} {i : Int} (h0 : 0 ≤ i) (h1 : i < b.size) (hz : b.size ≤ 1000000) (h : P (.int ((b.toList.getD i.toNat 0).toNat : Int)) σ) (hs : ∀ o i, subscripted sl false o i = operate [o, i] (getItem o i) := by intro _ _; rfl) : O2 c (fun o i => subscriptTail v sl o i) (.bytes b) (.int i) σ P := by
  intro s G O o u R ho hu
  obtain ⟨t, rfl⟩ := ho.inv
  obtain ⟨t', rfl⟩ := hu.inv
  have e : b = b.toList.toArray := by simp
  refine tail_any (typeIs_bytes s b t) FB.slot_bytes_getitem.lookup ?_ (hs _ _)
  rw [e]
  exact getItem_bytes (by simp; omega) h0 (by simpa using h1) (fin_ R h (.int _ _))
theorem sub_str {v sl : Expr} {x : Str} {i : Int} {ch : Nat} (h0 : 0 ≤ i) (hz : i < 1000000) (hc : x.cps[i.toNat]? = some ch) (h : P (.str ⟨#[ch]⟩) σ) (hs : ∀ o i, subscripted sl false o i = operate [o, i] (getItem o i) := by intro _ _; rfl) : O2 c (fun o i => subscriptTail v sl o i) (.str x) (.int i) σ P := by
  intro s G O o u R ho hu
  obtain ⟨t, rfl⟩ := ho.inv
  obtain ⟨t', rfl⟩ := hu.inv
  refine tail_any (typeIs_str s x t) slot_str_getitem.lookup (PyProof.Rows.getItem_str ?_ ?_ (fin_ R h (.str _ _))) (hs _ _)
  · simp; omega
  · rw [seqIndex_in h0 (by have := (Array.getElem?_eq_some_iff.mp hc).1; show i < ((x.cps.size : Nat) : Int); omega)]; exact hc
end
end Mine
namespace Mine
/-- a list, frozen or one's own -/
def LV (σ : AS) (X : V) (xs : List V) : Prop := X = .list xs ∨ ∃ k, X = .own k ∧ σ.own[k]? = some xs
theorem LV.l {σ : AS} {xs : List V} : LV σ (.list xs) xs := .inl rfl
theorem LV.o {σ : AS} {k : Nat} {xs : List V} (h : σ.own[k]? = some xs) : LV σ (.own k) xs := .inr ⟨k, rfl, h⟩
theorem LV.at {c : Cx} {σ : AS} {X : V} {xs : List V} {s : Shared} {G : Addr → Prop} {O : List Addr} {v : Value} (l : LV σ X xs) (R : Rl c σ s G O) (hv : VR s.heap G O v X) : ∃ a vs, v = .ref a ∧ s.heap.IsList a vs ∧ VRs s.heap G O vs.toList xs ∧ vs.size = xs.length := by
  rcases l with rfl | ⟨k, rfl, hk⟩
  · obtain ⟨a, vs, rfl, _, hl, hvs⟩ := hv.inv
    exact ⟨a, vs, rfl, hl, hvs, by rw [← hvs.length]; simp⟩
  · obtain ⟨a, rfl, ha⟩ := hv.inv
    obtain ⟨b, vs, h1, hl, hvs⟩ := R.own k xs hk
    rw [ha] at h1; cases h1
    exact ⟨a, vs, rfl, hl.isList, hvs, by rw [← hvs.length]; simp⟩

/-! ### methods -/
/-- X.name is the built-in method id -/
def Mt (c : Cx) (X : V) (name : Str) (id : String) (σ : AS) : Prop := ∀ s G O v pl (Q : Value × List Value → Shared → Prop), Rl c σ s G O → VR s.heap G O v X → Q (.builtin id, [v]) s → wpAny c.M c.A (getMethod v name pl) Q c.E s
section
variable {c : Cx} {σ : AS} {P : V → AS → Prop}
theorem EV_meth {o : Expr} {name : Str} {apos pos : Pos} {e : Expr} {es : List Expr} {pl : Sem Bool} {id : String}
    (h : EV c o σ fun X σ₁ => Mt c X name id σ₁ ∧ ES c (e :: es) pos σ₁ fun xs σ₂ => CL c (.bi id) (X :: xs) [] σ₂ P)
    (hm : eval (.Call (.Attribute o name apos) (e :: es) [] pos) c.env = (do
      let ov ← eval o c.env
      standAt apos.atName
      let (f, first) ← holding [ov] (getMethod ov name pl)
      callWith pos f first (backTo pos (starEach (e :: es) c.env)) (backToKw pos (keywordEach [] c.env))) := by rfl)
    (he : ∀ env, starEach (e :: es) env = (false, eval e env) :: starEach es env := by intro _; rfl) (hp : ∀ env, (backTo pos (starEach es env)).any (·.1) = false := by intro _; rfl) : EV c (.Call (.Attribute o name apos) (e :: es) [] pos) σ P := by
  intro s G O R
  refine methodCall_KW (pl := pl) (TV.use h R fun ov s₁ X σ₁ G₁ O₁ h₁ R₁ L₁ v₁ => h₁.1 s₁ G₁ O₁ ov pl _ R₁ v₁ ?_) hm
  refine callWith_method1 (TL.use h₁.2 R₁ fun vs s₂ xs σ₂ G₂ O₂ h₂ R₂ L₂ v₂ => ?_) (he _) (hp _)
  exact wpAny_mono (h₂ s₂ G₂ O₂ _ (ov :: vs) [] R₂ (.bi _) (.cons (L₂.vr R₁ v₁) v₂) .nil) (fun _ _ p => p.le (L₁.trans L₂)) fun _ _ e => e
theorem Mt_join {x : Str} : Mt c (.str x) "join" "str.join" σ := fun s G O v pl Q R hv k => by obtain ⟨t, rfl⟩ := hv.inv; with_reducible refine GM.join ?_; exact k
theorem Mt_append {k : Nat} {xs : List V} (hk : σ.own[k]? = some xs) : Mt c (.own k) "append" "list.append" σ := fun s G O v pl Q R hv kk => by
  obtain ⟨a, rfl, ha⟩ := hv.inv
  obtain ⟨b, vs, h1, ⟨n, e⟩, hvs⟩ := R.own k xs hk
  rw [ha] at h1; cases h1
  exact Calls.getMethod_list_append e rfl rfl kk
theorem Mt_extend {k : Nat} {xs : List V} (hk : σ.own[k]? = some xs) : Mt c (.own k) "extend" "list.extend" σ := fun s G O v pl Q R hv kk => by
  obtain ⟨a, rfl, ha⟩ := hv.inv
  obtain ⟨b, vs, h1, ⟨n, e⟩, hvs⟩ := R.own k xs hk
  rw [ha] at h1; cases h1
  have hT : s.TypeIs (.ref a) "list" := ⟨_, e, rfl⟩
  unfold getMethod
  refine wpAny_bind (wpAny_specialOf hT list_getattribute ?_)
  show wpAny _ _ (if (Manifest.canonical "list.__getattribute__" != "object.__getattribute__") = true then _ else _) _ _ s
  rw [canon_list_getattribute, if_neg Bool.false_ne_true]
  refine wpAny_bind (wpAny_specialOf hT list_getattr_none ?_)
  refine wpAny_bind (wpAny_specialOf hT F.slot_list_extend.lookup ?_)
  refine wpAny_bind (wpAny_of_eq F.type_list_extend ?_)
  exact wpAny_bind (wpAny_load e (wpAny_bind (wpAny_rule (wpAny_pure kk))))
theorem CL_append (ok : Ok c) {k : Nat} {xs : List V} {y : V} (hk : σ.own[k]? = some xs) (hz : xs.length ≤ 1000000) (h : P .none { σ with own := σ.own.set k (xs ++ [y]) }) : CL c (.bi "list.append") [.own k, y] [] σ P := CLb2 fun s G O v u R hv hu => by
  obtain ⟨a, rfl, ha⟩ := hv.inv
  exact append_own ok R ha hk hu hz fun s' R' L' => ⟨.none, _, G, O, h, R', L', .none⟩
theorem CL_join {x : Str} {Y : V} {ys : List Str} (hy : LV σ Y (vS ys)) (hok : (ys.map (·.length)).sum + ys.length * x.length ≤ 16777216) (h : P (.str (Txt.join x ys)) σ) : CL c (.bi "str.join") [.str x, Y] [] σ P := CLb2 fun s G O v u R hv hu => by
  obtain ⟨t, rfl⟩ := hv.inv
  obtain ⟨a, vs, rfl, hl, hvs, _⟩ := hy.at R hu
  exact join_list hl hvs.toS hok fun t' k => fin_ R h (.str _ _)

/-! ### operators on sequences -/
theorem O2_addL (ok : Ok c) {X Y : V} {xs ys : List V} (hx : LV σ X xs) (hy : LV σ Y ys) (hz : xs.length + ys.length ≤ 1000000) (h : P (.list (xs ++ ys)) σ) : O2 c (binaryOp .Add) X Y σ P := by
  intro s G O v u R hv hu
  obtain ⟨l, vs, rfl, hl, hvs, e1⟩ := hx.at R hv
  obtain ⟨b, us, rfl, hb, hus, e2⟩ := hy.at R hu
  obtain ⟨⟨cls, dd, data, sl⟩, ho, hc, n, hd⟩ := id hl
  obtain ⟨⟨cls2, dd2, data2, sl2⟩, ho2, hc2, n2, hd2⟩ := id hb
  simp only at hc hd hc2 hd2
  subst hc hd hc2 hd2
  refine concat_meets ⟨_, ho, rfl⟩ ⟨_, ho2, rfl⟩ noFill_list_add seq_list_add PySem.F.slot_list_add PySem.F.entry_list_add (PySem.F.args_list_add_2 _ _) (list_addW l b vs us n n2 dd dd2 sl sl2 (by rw [e1, e2]; exact Nat.le_trans hz (by decide))) ⟨ho, ho2, ?_⟩
  exact fin_new ok R (fun b o e => Heap.get?_push_of_some _ e) (fresh_size _) ⟨_, push_new⟩ h fun L => .list (.inr rfl) ⟨_, push_new, rfl, _, rfl⟩ (by rw [Array.toList_append]; exact (L.vrs R hvs).append (L.vrs R hus))
theorem any_hit {x : Int} (ns : List Int) : (ns.map PyData.int).any (datHitsInt x) = ns.contains x := by
  induction ns with
  | nil => rfl
  | cons n ns ih => rw [List.map_cons, List.any_cons, ih, List.contains_cons]; show (n == x || _) = (x == n || _); rw [show (n == x) = (x == n) by exact BEq.comm]
theorem O2_notInI {x : Int} {Y : V} {ns : List Int} (hy : LV σ Y (vI ns)) (h : P (.bool (!ns.contains x)) σ) : O2 c (compareOp .NotIn) (.int x) Y σ P := by
  intro s G O v u R hv hu; obtain ⟨t, rfl⟩ := hv.inv
  obtain ⟨a, vs, rfl, hl, hvs, _⟩ := hy.at R hu
  exact notin_made_int (ys := vs.toList) (by simpa using hl) (ke_carried hvs.toI) (by rw [any_hit]; exact fin0 R h (.bool _))
theorem O2_inI {x : Int} {Y : V} {ns : List Int} (hy : LV σ Y (vI ns)) (h : P (.bool (ns.contains x)) σ) : O2 c (compareOp .In) (.int x) Y σ P := by
  intro s G O v u R hv hu; obtain ⟨t, rfl⟩ := hv.inv
  obtain ⟨a, vs, rfl, hl, hvs, _⟩ := hy.at R hu
  exact in_made_int (ys := vs.toList) (by simpa using hl) (ke_carried hvs.toI) (by rw [any_hit]; exact fin0 R h (.bool _))
theorem O2_isTy {a b : String} (h : P (.bool (Value.type a == Value.type b)) σ) : O2 c (compareOp .Is) (.ty a) (.ty b) σ P := by
  intro s G O v u R hv hu; obtain rfl := hv.inv; obtain rfl := hu.inv
  exact wpAny_is_plain rfl (fin0 R h (.bool _))
theorem O2_isBN {a : Bool} (h : P (.bool false) σ) : O2 c (compareOp .Is) (.bool a) .none σ P := by
  intro s G O v u R hv hu; obtain rfl := hv.inv; obtain rfl := hu.inv
  exact wpAny_is_plain rfl (fin0 R h (.bool _))
theorem O2_isNotNN (h : P (.bool false) σ) : O2 c (compareOp .IsNot) .none .none σ P := by
  intro s G O v u R hv hu; obtain rfl := hv.inv; obtain rfl := hu.inv
  exact wpAny_isNot_plain rfl (fin0 R h (.bool _))
theorem CL_typeB {b : Array UInt8} (h : P (.ty "bytes") σ) : CL c (.ty "type") [.bytes b] [] σ P := CLt1 fun s G O v R hv => by
  obtain ⟨t, rfl⟩ := hv.inv
  exact call_type_of (typeIs_bytes s b t) (by decide +kernel) (fin0 R h (.ty _))
theorem CL_typeBool {b : Bool} (h : P (.ty "bool") σ) : CL c (.ty "type") [.bool b] [] σ P := CLt1 fun s G O v R hv => by
  obtain rfl := hv.inv
  exact call_type_of (Tx := "bool") rfl (by decide +kernel) (fin0 R h (.ty _))
theorem CL_isBS {b : Array UInt8} (h : P (.bool false) σ) : CL c (.bi "isinstance") [.bytes b, .ty "str"] [] σ P := CLb2 fun s G O v u R hv hu => by
  obtain ⟨t, rfl⟩ := hv.inv
  obtain rfl := hu.inv
  exact kia_one (K := []) kitx_bytes (fun _ _ e => by cases e) trivial (b := false) (by with_unfolding_all rfl) (by intro e; cases e) fun tk => fin_ R h (.bool _)
theorem CL_isBB {b : Array UInt8} (h : P (.bool true) σ) : CL c (.bi "isinstance") [.bytes b, .tup [.ty "bytes", .ty "bytearray"]] [] σ P := CLb2 fun s G O v u R hv hu => by
  obtain ⟨t, rfl⟩ := hv.inv
  obtain ⟨T, vs, rfl, _, ht, hvs⟩ := hu.inv
  obtain ⟨w1, us, e, h1, hvs⟩ := hvs.invC
  obtain ⟨w2, us, rfl, h2, hvs⟩ := hvs.invC
  obtain rfl := hvs.inv0
  obtain rfl := h1.inv
  obtain rfl := h2.inv
  obtain ⟨⟨cls, dd, data, sl⟩, ho, hc, n, hd⟩ := id ht
  simp only at hc hd
  subst hc hd
  have e' : vs = List.toArray [.type "bytes", .type "bytearray"] := by rw [← Array.toArray_toList (xs := vs), e]
  subst e'
  exact kia_tup (K := []) kitx_bytes (fun _ _ e => by cases e) trivial (b := true) ho (by with_unfolding_all rfl) (by intro e; cases e) fun tk => fin_ R h (.bool _)
end
end Mine
namespace Mine
section
variable {c : Cx} {σ : AS} {P : V → AS → Prop}
theorem EV_upto (ok : Ok c) {v e : Expr} {p pos : Pos} (h : EV c v σ fun X σ₁ => EV c e σ₁ fun Y σ₂ => ∃ xs i, LV σ₂ X xs ∧ Y = .int i ∧ 0 ≤ i ∧ xs.length ≤ 1000000 ∧ P (.list (xs.take i.toNat)) σ₂) : EV c (.Subscript v (.Slice none (some e) none p) pos) σ P := by
  intro s G O R
  refine Subscript_ (TV.use h R fun a s₁ X σ₁ G₁ O₁ h₁ R₁ L₁ v₁ => wpAny_Slice (wpAny_evalPart_none (wpAny_evalPart_some (TV.use h₁ R₁ fun u s₂ Y σ₂ G₂ O₂ h₂ R₂ L₂ v₂ => wpAny_evalPart_none ?_))))
  obtain ⟨xs, i, hl, rfl, h0, hz, hp⟩ := h₂
  obtain ⟨t, rfl⟩ := v₂.inv
  obtain ⟨l, vs, rfl, hli, hvs, e⟩ := hl.at R₂ (L₂.vr R₁ v₁)
  refine tail_any (hli.push _).typeIs slot_list_getitem.lookup (wpAny_getItem_list_slice (hli.push _) (Heap.IsSliceOf.new ..) .none (.int _ _) .none (by simp) ?_ (by rw [e]; exact Nat.le_trans hz (by decide))) rfl
  rw [show (some i : Option Int) = some ((i.toNat : Nat) : Int) by rw [Int.toNat_of_nonneg h0], slicePick_upto']
  refine Po.le (L₁.trans L₂) (fin_new ok R₂ (tk := s₂.toks) (fun b o e => Heap.get?_push_of_some _ (Heap.get?_push_of_some _ e)) ?_ ⟨_, push_new⟩ hp fun L => .list (.inr rfl) ⟨_, push_new, rfl, _, rfl⟩ (by simpa using (L.vrs R₂ hvs).take _))
  rw [Heap.size_push]
  cases e : s₂.heap.get? (s₂.heap.objs.size + 1) with
  | none => rfl
  | some o => exact absurd (Heap.lt_size e) (Nat.not_lt.mpr (Nat.le_succ _))
theorem EV_from (ok : Ok c) {v e : Expr} {p pos : Pos} (h : EV c v σ fun X σ₁ => EV c e σ₁ fun Y σ₂ => ∃ xs i, LV σ₂ X xs ∧ Y = .int i ∧ 0 ≤ i ∧ xs.length ≤ 1000000 ∧ P (.list (xs.drop i.toNat)) σ₂) : EV c (.Subscript v (.Slice (some e) none none p) pos) σ P := by
  intro s G O R
  refine Subscript_ (TV.use h R fun a s₁ X σ₁ G₁ O₁ h₁ R₁ L₁ v₁ => wpAny_Slice (wpAny_evalPart_some (TV.use h₁ R₁ fun u s₂ Y σ₂ G₂ O₂ h₂ R₂ L₂ v₂ => wpAny_evalPart_none (wpAny_evalPart_none ?_))))
  obtain ⟨xs, i, hl, rfl, h0, hz, hp⟩ := h₂
  obtain ⟨t, rfl⟩ := v₂.inv
  obtain ⟨l, vs, rfl, hli, hvs, e⟩ := hl.at R₂ (L₂.vr R₁ v₁)
  refine tail_any (hli.push _).typeIs slot_list_getitem.lookup (wpAny_getItem_list_slice (hli.push _) (Heap.IsSliceOf.new ..) (.int _ _) .none .none (by simp) ?_ (by rw [e]; exact Nat.le_trans hz (by decide))) rfl
  rw [show (some i : Option Int) = some ((i.toNat : Nat) : Int) by rw [Int.toNat_of_nonneg h0], slicePick_from']
  refine Po.le (L₁.trans L₂) (fin_new ok R₂ (tk := s₂.toks) (fun b o e => Heap.get?_push_of_some _ (Heap.get?_push_of_some _ e)) ?_ ⟨_, push_new⟩ hp fun L => .list (.inr rfl) ⟨_, push_new, rfl, _, rfl⟩ (by simpa using (L.vrs R₂ hvs).drop _))
  rw [Heap.size_push]
  cases e : s₂.heap.get? (s₂.heap.objs.size + 1) with
  | none => rfl
  | some o => exact absurd (Heap.lt_size e) (Nat.not_lt.mpr (Nat.le_succ _))
theorem CL_sum (ok : Ok c) {X : V} {ns : List Int} (hx : LV σ X (vI ns)) (h : P (.int ns.sum) σ) (hxx : c.hx = false := by first | rfl | assumption) : CL c (.bi "sum") [X] [] σ P := CLb1 fun s G O v R hv => by
  obtain ⟨l, vs, rfl, hl, hvs, _⟩ := hx.at R hv
  have hi := hvs.toI
  have hn := hi.numsOf
  obtain ⟨xs, e⟩ := hi.allInts.items
  have e' : vs = intItems xs := by rw [← e]
  subst e'
  rw [nums_intItems] at hn
  refine sum_intListG (ok.hd hxx) hl fun h' tk t' hk => ?_
  rw [preSum_eq, List.take_of_length_le (by simp), hn]
  exact fin_grow ok R hk h fun _ _ _ => .int _ _
/-- the unlike ones, in the order in which they come -/
def unlike (ns : List Int) : List Int := ns.foldl step_dedup []
theorem firstMet_eq (ns : List Int) : firstMet (fun i => ns.getD i 0) ns.length = unlike ns := by
  unfold firstMet unlike
  congr 1
  apply List.ext_getElem
  · simp
  · intro i h1 h2
    simp at h1
    simp [List.getD_eq_getElem?_getD, h1]
theorem CL_set (ok : Ok c) {X : V} {ns : List Int} (hx : LV σ X (vI ns)) (hz : ns.length < 1000) (h : P (.iset (unlike ns).length) σ) (hxx : c.hx = false := by first | rfl | assumption) : CL c (.ty "set") [X] [] σ P := CLt1 fun s G O v R hv => by
  obtain ⟨l, vs, rfl, hl, hvs, e⟩ := hx.at R hv
  have e2 : vs.size = ns.length := by rw [e]; simp [vI]
  refine call_set_list (ok.hd hxx) hl hvs.toI (by rw [e2]; exact Nat.lt_of_lt_of_le (by omega : ns.length + 1 < 1001) (by decide)) fun h' tk hS hk => ?_
  rw [e2, firstMet_eq] at hS
  obtain ⟨o, es, ep, t, ho, hex, hd, _, _, _, hf, hn⟩ := hS
  exact fin_new ok R (fun b o e => hk b o (Heap.lt_size e) e) (fresh_size _) ⟨o, ho⟩ h fun _ => .iset (.inr rfl) ⟨o, es, ep, t, ho, hex.1, hex, hd, hf, hn⟩
theorem CL_lenSet {n : Nat} (hz : n < 1000000) (h : P (.int n) σ) : CL c (.bi "len") [.iset n] [] σ P := CLb1 fun s G O v R hv => by
  obtain ⟨a, rfl, _, o, es, ep, t, ho, hc, hex, hd, hf, hn⟩ := hv.inv
  subst hn
  exact call_len_set ho hex hd hf (by omega) (fin_ R h (.int _ _))
/-! ### while -/
def WhK (I : Nat → AS → Prop) (n : Nat) (P : Fl → AS → Prop) : Fl → AS → Prop
  | .brk, σ => P .next σ
  | .ret v, σ => P (.ret v) σ
  | _, σ => ∃ k, k < n ∧ I k σ
theorem EX_while (hE : c.E = fun _ _ => False) {test : Expr} {body orelse : List Stmt} {pos : Pos} {P : Fl → AS → Prop} (I : Nat → AS → Prop) (n : Nat) (h0 : I n σ)
    (turn : ∀ n σ, I n σ → EB c test σ fun b σ₁ => (b = true → XS c body σ₁ (WhK I n P)) ∧ (b = false → XS c orelse σ₁ P)) : EX c (.While test body orelse pos) σ P := by
  intro s G O R
  have fin : ∀ {α : Type} {t : Sem α} {Q : α → Shared → Prop} {E : Value → Shared → Prop} {s : Shared}, wpAny c.M c.A t Q c.E s → wpAny c.M c.A t Q E s := fun h => of_false (hE ▸ h)
  refine wpAny_While (codeAny_whileLoop (fun n s' => ∃ σ' G' O', I n σ' ∧ Rl c σ' s' G' O' ∧ Le c s G O s' G' O') ?_ n ⟨σ, G, O, h0, R, Le.refl⟩)
  rintro n s' ⟨σ', G', O', hI, R', L'⟩
  refine fin (TB.use (turn n σ' hI) R' fun b s₁ σ₁ G₁ O₁ h₁ R₁ L₁ => ?_)
  cases b with
  | true =>
    rw [if_pos rfl]
    refine fin (TF.use (h₁.1 rfl) R₁ fun f s₂ x σ₂ G₂ O₂ h₂ R₂ L₂ r₂ => ?_)
    have L := (L'.trans L₁).trans L₂
    cases r₂ with
    | next => obtain ⟨k, hk, hi⟩ := h₂; exact ⟨k, hk, σ₂, G₂, O₂, hi, R₂, L⟩
    | cont => obtain ⟨k, hk, hi⟩ := h₂; exact ⟨k, hk, σ₂, G₂, O₂, hi, R₂, L⟩
    | brk => exact ⟨.next, σ₂, G₂, O₂, h₂, R₂, L, .next⟩
    | ret r => exact ⟨.ret _, σ₂, G₂, O₂, h₂, R₂, L, .ret r⟩
  | false =>
    rw [if_neg (by simp)]
    exact fin (wpAny_mono (h₁.2 rfl s₁ G₁ O₁ R₁) (fun _ _ p => p.le (L'.trans L₁)) fun _ _ e => e)
end
open AutoSeq1 (wpAny_loadPart') in
theorem extendW (l b : Addr) (items items2 : Array Value) (n n2 : Nat) (dd dd2 : Option Addr) (sl sl2 : Array (Option Value)) (hc0 : ¬(!items.isEmpty && Builtin.List.listTooLong (items.size + items2.size)) = true) (hc1 : items.size ≤ sizeLine) (hs2 : items.size + items2.size ≤ sizeLine + 1) :
    Meets (Builtin.«list.extend» ⟨[.ref l, .ref b], []⟩) (fun _ R s => s.heap.get? l = some { cls := .type "list", dict := dd, data := .seq items n, slots := sl } ∧ s.heap.get? b = some { cls := .type "list", dict := dd2, data := .seq items2 n2, slots := sl2 } ∧ R (.ok (.ret Value.none)) { s with heap := s.heap.update l (Obj.mapSeq fun x => x ++ items2), toks := s.toks }) :=
  .of_wp fun prog w A R s h => by
    obtain ⟨hp, g, d, tk, os⟩ := s; obtain ⟨hl, hb, h⟩ := h; have f1 := AutoSeq1.idx_int; have f2 := AutoSeq1.sub_tuple_tuple; have f3 := AutoSeq1.sub_list_list; have f4 := AutoSeq1.sub_tuple_list; have f5 := AutoSeq1.sub_list_tuple
    have hz' : (items ++ items2).size ≤ sizeLine + 1 := by rw [Array.size_append]; exact hs2
    wp_walk using (wpAny_updateSeq hl rfl (hz := hc1) (_hz' := hz')), wpAny_loadPart' hl, wpAny_loadPart' hb; exact ⟨_, rfl, h⟩
section
variable {c : Cx} {σ : AS} {P : V → AS → Prop}
theorem mapSeq_app (its us : Array Value) (n : Nat) : ∃ n', Obj.mapSeq (· ++ us) { cls := .type "list", data := .seq its n } = { cls := .type "list", data := .seq (its ++ us) n' } := ⟨_, by simp [Obj.mapSeq]; rfl⟩
theorem CL_extend (ok : Ok c) {k : Nat} {xs : List V} {Y : V} {ys : List V} (hk : σ.own[k]? = some xs) (hy : LV σ Y ys) (hz : xs.length + ys.length ≤ 1000000) (h : P .none { σ with own := σ.own.set k (xs ++ ys) }) : CL c (.bi "list.extend") [.own k, Y] [] σ P := CLb2 fun s G O v u R hv hu => by
  obtain ⟨a, rfl, ha⟩ := hv.inv
  obtain ⟨b, us, rfl, hb, hus, e2⟩ := hy.at R hu
  obtain ⟨a', vs, h1, ⟨n, e⟩, hvs⟩ := R.own k xs hk
  rw [ha] at h1; cases h1
  have e1 : vs.size = xs.length := by rw [← hvs.length]; simp
  obtain ⟨⟨cls2, dd2, data2, sl2⟩, ho2, hc2, n2, hd2⟩ := id hb
  simp only at hc2 hd2
  subst hc2 hd2
  have hs : vs.size + us.size ≤ 1000000 := by rw [e1, e2]; exact hz
  have hsl : (1000000 : Nat) ≤ sizeLine := by decide
  refine call_meets F.slot_list_extend ⟨_, e, rfl⟩ F.entry_list_extend (F.args_list_extend_2 _ _) (extendW a b vs us n n2 none dd2 #[] sl2 (by simp [Builtin.List.listTooLong]; intro _; omega) (by omega) (by omega)) ⟨e, ho2, ?_⟩
  obtain ⟨n', em⟩ := mapSeq_app vs us n
  have st := R.setOwn (h' := s.heap.update a (Obj.mapSeq (· ++ us))) (tk := s.toks) ok ha (Heap.SameBut.update ..) (vs := vs ++ us) (xs := xs ++ ys) ⟨n', by rw [Heap.get?_update_self _ e (by rw [em]; rfl), em]⟩ (by rw [Array.toList_append]; exact hvs.append hus)
  exact ⟨.none, _, G, O, h, st.1, st.2, .none⟩
end
end Mine
set_option maxRecDepth 100000
namespace Mine
section
variable {prog : Program} {w : World} {A : Around} {E : Value → Shared → Prop} {s : Shared}
theorem nextTup_item {it l : Addr} {i : Nat} {items : Array Value} {x : Value} {Q : Value → Shared → Prop} (hit : s.heap.IsTupleIter it l i) (hl : s.heap.IsTuple l items) (hx : items[i]? = some x)
    (hQ : ∀ h', h'.IsTupleIter it l (i + 1) → Heap.SameBut it s.heap h' → Q x { s with heap := h' }) : wpAny (model prog w) A (Builtin.SmallTypes.nextOf (.ref it)) Q E s := by
  obtain ⟨o, ho, hc, hd⟩ := id hit
  obtain ⟨ol, hol, _, nl, hdl⟩ := hl
  unfold Builtin.SmallTypes.nextOf
  refine wpAny_bind (wpAny_callSpecial?_slot (name := Str.ofString "__next__") hit.typeIs F.slot_tuple_iterator_next
    (wpAny_call_entry F.slot_tuple_iterator_next hit.typeIs F.entry_tuple_iterator_next ?_ (F.args_tuple_iterator_next_1 _)))
  show wpAny _ _ (field (.ref it) 0 >>= _) _ _ s
  refine wpAny_bind (wpAny_field ho hd (x := .ref l) rfl ?_)
  show wpAny _ _ (if (Value.ref l == Value.none) = true then _ else _) _ _ s
  rw [if_neg (show ¬ ((Value.ref l == Value.none) = true) from Bool.false_ne_true)]
  show wpAny _ _ (field (.ref it) 1 >>= _) _ _ s
  refine wpAny_bind (wpAny_field ho hd (x := .int i 0) rfl ?_)
  show wpAny _ _ (seqItems? (.ref l) >>= _) _ _ s
  refine wpAny_bind (wpAny_seqItems hol hdl ?_)
  simp only [Int.toNat_natCast, hx]
  refine wpAny_bind (wpAny_setField ho hd (by simp) (wpAny_pure ⟨x, rfl, wpAny_pure (hQ _ ?_ (Heap.SameBut.update ..))⟩))
  exact ⟨_, Heap.get?_update_self _ ho (Obj.isFreed_of_fields (Obj.data_mapFields hd _)), (Obj.cls_mapFields ..).trans hc, by rw [Obj.data_mapFields hd]; simp [rawInt]⟩
theorem nextTup_end {it l : Addr} {i : Nat} {items : Array Value} {Q : Value → Shared → Prop} (hh : A.handled = none) (hit : s.heap.IsTupleIter it l i) (hl : s.heap.IsTuple l items) (hx : items[i]? = none)
    (hE : ∀ h' e, Heap.ExtBut it s.heap h' → (∃ o, h'.get? e = some o ∧ o.cls = .type "StopIteration") → E (.ref e) { s with heap := h' }) : wpAny (model prog w) A (Builtin.SmallTypes.nextOf (.ref it)) Q E s := by
  obtain ⟨o, ho, hc, hd⟩ := id hit
  obtain ⟨ol, hol, _, nl, hdl⟩ := hl
  unfold Builtin.SmallTypes.nextOf
  refine wpAny_bind (wpAny_callSpecial?_slot (name := Str.ofString "__next__") hit.typeIs F.slot_tuple_iterator_next
    (wpAny_call_entry F.slot_tuple_iterator_next hit.typeIs F.entry_tuple_iterator_next ?_ (F.args_tuple_iterator_next_1 _)))
  show wpAny _ _ (field (.ref it) 0 >>= _) _ _ s
  refine wpAny_bind (wpAny_field ho hd (x := .ref l) rfl ?_)
  show wpAny _ _ (if (Value.ref l == Value.none) = true then _ else _) _ _ s
  rw [if_neg (show ¬ ((Value.ref l == Value.none) = true) from Bool.false_ne_true)]
  show wpAny _ _ (field (.ref it) 1 >>= _) _ _ s
  refine wpAny_bind (wpAny_field ho hd (x := .int i 0) rfl ?_)
  show wpAny _ _ (seqItems? (.ref l) >>= _) _ _ s
  refine wpAny_bind (wpAny_seqItems hol hdl ?_)
  simp only [Int.toNat_natCast, hx]
  refine wpAny_bind (wpAny_rule (wpAny_bind (wpAny_setField ho hd (by simp) ?_)))
  show wpAny _ _ (newExc (.type "StopIteration") [] >>= _) _ _ _
  refine wpAny_bind ?_
  simp only [newExc, newTuple]
  refine wpAny_bind (wpAny_newObj_type ?_ (by size_fits))
  refine wpAny_bind (m := firstArgMember _ _) (wpAny_of_eq (a := Value.none) (by first | rfl | (simp only [firstArgMember]; rfl)) ?_)
  refine wpAny_newObj_type ?_ (by size_fits)
  simp only [raiseNew]
  refine wpAny_bind (wpAny_handled ?_)
  first | rw [show A.in1.handled = none from hh] | rw [hh]
  refine wpAny_bind (wpAny_pure (wpAny_throw ?_))
  exact hE _ _ (((Heap.SameBut.update ..).extBut.push _).push _) ⟨_, Heap.get?_push_size _ rfl, rfl⟩
end
theorem drawsTup {prog : Program} {w : World} {A : Around} (hh : A.handled = none) (it l : Addr) (hne : l ≠ it) (items : Array Value) :
    Draws prog w A it [it, l] items.size (fun i v => items[i]? = some v) (fun i h => h.IsTupleIter it l i ∧ h.IsTuple l items) where
  live := fun _ _ st => let ⟨o, ho, _⟩ := st.1; ⟨o, ho⟩
  frame := fun _ _ _ st hk => ⟨st.1.at fun o e => hk it (by simp) o e, st.2.at fun o e => hk l (by simp) o e⟩
  item := fun i s Q E hi st hQ => by
    refine nextTup_item st.1 st.2 (x := items[i]) (by simp [hi]) fun h' hit' hs' => ?_
    exact hQ _ h' s.toks (by simp [hi]) ⟨hit', st.2.extBut hs'.extBut hne⟩ hs'
  done := fun s Q E st hE => nextTup_end hh st.1 st.2 (by simp) hE
open AutoSeq1 (wpAny_loadPart') in
theorem meets_enumT (l : Addr) (items : Array Value) (n : Nat) (dct : Option Addr) (sl : Array (Option Value)) :
    Meets (Builtin.«enumerate.__new__» ⟨[.type "enumerate", .ref l], []⟩) (fun _ R s => s.heap.get? l = some { cls := .type "tuple", dict := dct, data := .seq items n, slots := sl } ∧
      R (.ok (.ret (.ref (s.heap.push { cls := .type "tuple_iterator", data := .fields #[.ref l, .int 0 0] }).objs.size)))
        { s with heap := (s.heap.push { cls := .type "tuple_iterator", data := .fields #[.ref l, .int 0 0] }).push { cls := .type "enumerate", data := .fields #[.none, .bool false, .ref s.heap.objs.size, rawInt 0, .none, .none] } }) :=
  .of_wp fun prog w A R s h => by
    obtain ⟨hp, g, d, tk, os⟩ := s; obtain ⟨hl, h⟩ := h
    have hsub := sub_enumerate
    have hL : Heap.IsTuple (Shared.heap ⟨hp, g, d, tk, os⟩) l items := ⟨_, hl, rfl, n, rfl⟩
    wp_walk using wpAny_loadPart' hl
    refine wpAny_stack_any fun st => wpAny_pure ?_
    split
    · rename_i c _ _ _ _ _
      cases (c == Value.type "enumerate")
      · wp_walk using wpAny_loadPart' hl, wpAny_pyIter_tuple hL
        exact ⟨_, rfl, h⟩
      · wp_walk using wpAny_loadPart' hl, wpAny_pyIter_tuple hL
        exact ⟨_, rfl, h⟩
    · wp_walk using wpAny_loadPart' hl, wpAny_pyIter_tuple hL
      exact ⟨_, rfl, h⟩
theorem call_enumT {prog : Program} {w : World} {A : Around} {E : Value → Shared → Prop} {s : Shared} {l : Addr} {items : Array Value} {Q : Value → Shared → Prop} (hL : s.heap.IsTuple l items)
    (h : ∀ h', IsEnum h' (s.heap.objs.size + 1) s.heap.objs.size 0 .none → h'.IsTupleIter s.heap.objs.size l 0 →
      (∀ b o, s.heap.get? b = some o → h'.get? b = some o) → Q (.ref (s.heap.objs.size + 1)) { s with heap := h' }) : wpAny (model prog w) A (call (.type "enumerate") [.ref l]) Q E s := by
  obtain ⟨⟨c, dct, dt, sl⟩, hl, hc, n, hd⟩ := hL
  replace hc : c = .type "tuple" := hc
  replace hd : dt = .seq items n := hd
  subst hc hd
  refine callType_new F.called_enumerate (by decide) (F.typeCall_enumerate_1 _) (F.newCall_enumerate_1 _) (fun obj => F.args_object_init_2 obj _) F.entry_enumerate_new (meets_enumT l items n dct sl) ⟨hl, ?_⟩
  have hz : (s.heap.push { cls := .type "tuple_iterator", data := .fields #[.ref l, .int 0 0] }).objs.size = s.heap.objs.size + 1 := Heap.size_push ..
  show _ ∧ _
  rw [hz]
  have he : IsEnum ((s.heap.push { cls := .type "tuple_iterator", data := .fields #[.ref l, .int 0 0] }).push { cls := .type "enumerate", data := .fields #[.none, .bool false, .ref s.heap.objs.size, rawInt 0, .none, .none] }) (s.heap.objs.size + 1) s.heap.objs.size 0 .none := by
    have := Heap.get?_push_size (s.heap.push { cls := .type "tuple_iterator", data := .fields #[.ref l, .int 0 0] }) (o := { cls := .type "enumerate", data := .fields #[.none, .bool false, .ref s.heap.objs.size, rawInt 0, .none, .none] }) rfl
    rw [hz] at this; exact this
  exact ⟨⟨_, he, rfl⟩, h _ he ⟨_, Heap.get?_push_of_some _ (Heap.get?_push_size _ rfl), rfl, rfl⟩ fun b o x => Heap.get?_push_of_some _ (Heap.get?_push_of_some _ x)⟩

section
variable {c : Cx} {σ : AS} {P : V → AS → Prop}
/-- a call of a type that makes an iterator of tuples -/
def IterT (c : Cx) (id : String) (target : Expr) (xs : List V) (rows : List (List V)) (σ : AS) : Prop :=
  ∀ s G O vs Q, Rl c σ s G O → VRs s.heap G O vs xs →
    (∀ I fp wr n Pt Md St s', Rl c σ s' G O → Le c s G O s' G O → (∀ b o, s.heap.get? b = some o → s'.heap.get? b = some o) → Src c target I fp wr n Pt Md St s s' G O → rows.length = n →
      (∀ (i : Nat) x v' h' G' O', rows[i]? = some x → Pt i v' h' → Ke G s'.heap h' → (∀ a, G a → G' a) → (∃ l, O' = O ++ l) → ∃ T vals, v' = .ref T ∧ h'.IsTuple T vals ∧ VRs h' G' O' vals.toList x) → Q (.ref I) s') → wpAny c.M c.A (call (.type id) vs) Q c.E s
theorem fresh_ge {h : Heap} {a : Addr} (ha : (h.objs.size : Nat) ≤ a) : h.get? a = none := by
  cases e : h.get? a with
  | none => rfl
  | some o => exact absurd (Heap.lt_size e) (Nat.not_lt.mpr ha)
theorem Rl.fresh {s : Shared} {G : Addr → Prop} {O : List Addr} (R : Rl c σ s G O) {a : Addr} (ha : (s.heap.objs.size : Nat) ≤ a) : s.heap.get? a = none ∧ ¬ G a ∧ a ∉ O ∧ a ∉ c.priv ∧ c.he.get? a = none := by
  have h := fresh_ge ha
  have f := R.free h
  exact ⟨h, f.1, f.2.2.2, f.2.2.1, f.2.1⟩
theorem IterT_enumT (ok : Ok c) {ts : List Expr} {k : Nat} {pos : Pos} {xs : List V} (hx : c.hx = false := by first | rfl | assumption) : IterT c "enumerate" (.Tuple ts k pos) [.tup xs] (xs.zipIdx.map fun p => [.int (p.2 : Nat), p.1]) σ := by
  intro s G O vs Q R hv kk
  obtain ⟨v, us, rfl, h1, h2⟩ := hv.invC
  obtain rfl := h2.inv0
  obtain ⟨a, its, rfl, ga, hl, hvs⟩ := h1.inv
  refine call_enumT hl fun h' hE hI hk => ?_
  have al := R.grow0 (h' := h') (tk := s.toks) ok hk
  have hlt : a < s.heap.objs.size := by obtain ⟨o, ho, _⟩ := hl; exact Heap.lt_size ho
  have n1 : s.heap.objs.size + 1 ∉ [s.heap.objs.size, a] := by simp; exact Nat.ne_of_gt (Nat.lt_succ_of_lt hlt)
  have W := WalksT.enumerateD (drawsTup (prog := c.g.prog) (w := c.g.w) (A := c.A.in1) (ok.hd hx) s.heap.objs.size a (Nat.ne_of_lt hlt) its) (s.heap.objs.size + 1) (Nat.succ_ne_self _) n1 (by simp)
  refine kk _ _ _ _ _ _ _ _ al.1 al.2 hk ⟨KTurns.ofWalksU W.toU, ⟨⟨.none, hE⟩, hI, hl.at fun o e => hk a o e⟩, fun b hb => ?_, fun b hb => ?_, fun i h st b hb => ?_, W.self⟩ (by simp [← hvs.length]) fun i x v' h'' G' O' hx hP kG gG oO => ?_
  · simp only [List.mem_cons, List.not_mem_nil, or_false] at hb
    rcases hb with rfl | rfl
    · exact R.fresh (Nat.le_succ _)
    · exact R.fresh (Nat.le_refl _)
  · simp only [List.mem_cons, List.not_mem_nil, or_false] at hb ⊢
    rcases hb with rfl | rfl | rfl
    · exact .inl (.inl rfl)
    · exact .inl (.inr rfl)
    · obtain ⟨o, e, _, _, hc⟩ := hl
      exact .inr ⟨fun q => (R.priv _ q).2.1 ga, fun q => (R.onew _ q).2 ga, o, hk _ _ e, Dk.no hc fun _ _ q => by cases q⟩
  · simp only [List.mem_cons, List.not_mem_nil, or_false] at hb
    obtain ⟨⟨old, h1⟩, ⟨o, h2, _, h3⟩, _⟩ := st
    rcases hb with rfl | rfl
    · exact ⟨_, h1, Dk.no rfl fun _ _ q => by cases q⟩
    · exact ⟨o, h2, Dk.no h3 fun _ _ q => by cases q⟩
  · obtain ⟨T, vals, rfl, ⟨t, y, hy, rfl⟩, hT⟩ := hP
    refine ⟨T, _, rfl, hT, ?_⟩
    rw [List.getElem?_map] at hx
    cases e : xs.zipIdx[i]? with
    | none => rw [e] at hx; cases hx
    | some p =>
      rw [e] at hx
      simp only [Option.map_some, Option.some.injEq] at hx
      subst hx
      rw [List.getElem?_zipIdx] at e
      cases e2 : xs[i]? with
      | none => rw [e2] at e; cases e
      | some z =>
        rw [e2] at e
        simp only [Option.map_some, Option.some.injEq] at e
        subst e
        obtain ⟨u, h3, h4⟩ := hvs.get e2
        have : y = u := by rw [Array.getElem?_toList, hy] at h3; cases h3; rfl
        subst this
        refine .cons (by simpa using VR.int _ _) (.cons ((al.2.vr R h4).mono kG gG oO) .nil)
theorem IterT_zip (ok : Ok c) {ts : List Expr} {k : Nat} {pos : Pos} {xs ys : List V} (hx : c.hx = false := by first | rfl | assumption) : IterT c "zip" (.Tuple ts k pos) [.list xs, .list ys] ((xs.zip ys).map fun p => [p.1, p.2]) σ := by
  intro s G O vs Q R hv kk
  obtain ⟨v, us, rfl, h1, h2⟩ := hv.invC
  obtain ⟨v2, us, rfl, h2', h3⟩ := h2.invC
  obtain rfl := h3.inv0
  obtain ⟨a, its, rfl, ga, hl, hvs⟩ := h1.inv
  obtain ⟨b, jts, rfl, gb, hm, hws⟩ := h2'.inv
  have hlt : a < s.heap.objs.size := by obtain ⟨o, ho, _⟩ := hl; exact Heap.lt_size ho
  have hlt2 : b < s.heap.objs.size := by obtain ⟨o, ho, _⟩ := hm; exact Heap.lt_size ho
  have D : ZipApart (s.heap.objs.size + 4) (s.heap.objs.size + 2) (s.heap.objs.size + 3) s.heap.objs.size (s.heap.objs.size + 1) a b := ktu_apart _ _ _ hlt hlt2
  refine call_zip_2 hl hm fun h' hz hTI hTO hi1 hi2 hsz hk => ?_
  have al := R.grow0 (h' := h') (tk := s.toks) ok hk
  have W := WalksT.zip2 (prog := c.g.prog) (w := c.g.w) (A := c.A) (ok.hd hx) _ _ _ _ _ _ _ D its jts
  refine kk _ _ _ _ _ _ _ _ al.1 al.2 hk ⟨KTurns.ofWalksU W.toU, ⟨hz, hTI, ⟨_, _, hTO⟩, hi1, hi2, hl.at fun o e => hk a o e, hm.at fun o e => hk b o e⟩, fun b hb => ?_, fun b' hb => ?_, fun i h st b hb => ?_, W.self⟩ ?_ fun i x v' h'' G' O' hx hP kG gG oO => ?_
  · simp only [List.mem_cons, List.not_mem_nil, or_false] at hb
    rcases hb with rfl | rfl | rfl | rfl
    · exact R.fresh (Nat.le_add_right _ _)
    · exact R.fresh (Nat.le_add_right _ _)
    · exact R.fresh (Nat.le_refl _)
    · exact R.fresh (Nat.le_add_right _ _)
  · simp only [List.mem_cons, List.not_mem_nil, or_false] at hb ⊢
    rcases hb with rfl | rfl | rfl | rfl | rfl | rfl | rfl
    · exact .inl (.inl rfl)
    · have f := R.fresh (a := s.heap.objs.size + 2) (Nat.le_add_right _ _)
      exact .inr ⟨f.2.2.2.1, f.2.2.1, _, hTI, Dk.no rfl fun _ _ q => by cases q⟩
    · exact .inl (.inr (.inl rfl))
    · exact .inl (.inr (.inr (.inl rfl)))
    · exact .inl (.inr (.inr (.inr rfl)))
    · obtain ⟨o, e, _, _, hc⟩ := hl
      exact .inr ⟨fun q => (R.priv _ q).2.1 ga, fun q => (R.onew _ q).2 ga, o, hk _ _ e, Dk.no hc fun _ _ q => by cases q⟩
    · obtain ⟨o, e, _, _, hc⟩ := hm
      exact .inr ⟨fun q => (R.priv _ q).2.1 gb, fun q => (R.onew _ q).2 gb, o, hk _ _ e, Dk.no hc fun _ _ q => by cases q⟩
  · simp only [List.mem_cons, List.not_mem_nil, or_false] at hb
    obtain ⟨h1, _, ⟨a, b, h2⟩, ⟨o, h3, _, h4⟩, ⟨o', h5, _, h6⟩, _⟩ := st
    rcases hb with rfl | rfl | rfl | rfl
    · exact ⟨_, h1, Dk.no rfl fun _ _ q => by cases q⟩
    · exact ⟨_, h2, Dk.no rfl fun _ _ q => by cases q⟩
    · exact ⟨o, h3, Dk.no h4 fun _ _ q => by cases q⟩
    · exact ⟨o', h5, Dk.no h6 fun _ _ q => by cases q⟩
  · simp [← hvs.length, ← hws.length]
  · obtain ⟨T, vals, rfl, ⟨y, z, hy, hz, rfl⟩, hT⟩ := hP
    refine ⟨T, _, rfl, hT, ?_⟩
    rw [List.getElem?_map] at hx
    cases e : (xs.zip ys)[i]? with
    | none => rw [e] at hx; cases hx
    | some p =>
      rw [e] at hx
      simp only [Option.map_some, Option.some.injEq] at hx
      subst hx
      rw [List.getElem?_zip_eq_some] at e
      obtain ⟨u, h3, h4⟩ := hvs.get e.1
      obtain ⟨u2, h5, h6⟩ := hws.get e.2
      have : y = u := by rw [Array.getElem?_toList, hy] at h3; cases h3; rfl
      subst this
      have : z = u2 := by rw [Array.getElem?_toList, hz] at h5; cases h5; rfl
      subst this
      exact .cons ((al.2.vr R h4).mono kG gG oO) (.cons ((al.2.vr R h6).mono kG gG oO) .nil)
def ANr (c : Cx) (ts : List Expr) (x : V) (σ : AS) (K : AS → Prop) : Prop := ∃ r, x = .tup r ∧ ANt c ts r σ K
theorem EX_forT (ok : Ok c) (hE : c.E = fun _ _ => False) {ts : List Expr} {k : Nat} {tpos : Pos} {x : Str} {p : Pos} {e : Expr} {es : List Expr} {cpos : Pos} {body orelse : List Stmt} {pos : Pos} {id : String} {P : Fl → AS → Prop}
    (h : EV c (.Name x p) σ fun F σ₁ => F = .ty id ∧ ES c (e :: es) cpos σ₁ fun xs σ₂ => ∃ rows, IterT c id (.Tuple ts k tpos) xs rows σ₂ ∧ Loop c (ANr c ts) body orelse (rows.map V.tup) σ₂ P)
    (he : ∀ env, starEach (e :: es) env = (false, eval e env) :: starEach es env := by intro _; rfl) (hp : ∀ env, (backTo cpos (starEach es env)).any (·.1) = false := by intro _; rfl)
    (hs : ∀ y, foldedSetIterable (.Call (.Name x p) (e :: es) [] cpos) c.env y = pure y := by intro _; rfl) : EX c (.For (.Tuple ts k tpos) (.Call (.Name x p) (e :: es) [] cpos) body orelse pos) σ P := by
  intro s G O R
  refine wpAny_For (PyProof.Rows.Call_ (TV.use h R fun fv s₁ F σ₁ G₁ O₁ h₁ R₁ L₁ v₁ => ?_)) hs
  obtain ⟨rfl, h₁⟩ := h₁
  obtain rfl := v₁.inv
  refine PyProof.Rows.callWith_type1 (TL.use h₁ R₁ fun vs s₂ xs σ₂ G₂ O₂ h₂ R₂ L₂ v₂ => ?_) (he _) (hp _)
  obtain ⟨rows, hi, hl⟩ := h₂
  refine hi s₂ G₂ O₂ vs _ R₂ v₂ fun I fp wr n Pt Md St s' R' L' _ S hn hP => S.self 0 _ _ _ S.st ?_
  have := for_core (s₀ := s₂) (G₀ := G₂) (O₀ := O₂) ok hE S R' L' (rows.map V.tup) (by simpa using hn) (ANr c ts) (fun i x v σ' K s' G' O' hx hp R'' kG gG oO ha => by
    obtain ⟨r, rfl, ha⟩ := ha
    rw [List.getElem?_map] at hx
    cases e : rows[i]? with
    | none => rw [e] at hx; cases hx
    | some q =>
      rw [e] at hx
      simp only [Option.map_some, Option.some.injEq, V.tup.injEq] at hx
      subst hx
      obtain ⟨T, vals, rfl, h3, h4⟩ := hP i q v _ G' O' e hp kG gG oO
      exact ha s' G' O' T vals k tpos R'' h3 h4) hl
  refine codeAny_mono this fun r s'' q => ?_
  cases r with
  | ok f => exact PoF.le (L₁.trans L₂) q
  | error e => exact q
end
end Mine
namespace Mine
/-! ## transformers -/
def V.i? : V → Option Int
  | .int a => some a
  | _ => Option.none
theorem V.i?_eq {x : V} {a : Int} (h : x.i? = some a) : x = .int a := by
  cases x <;> first | (cases h; rfl) | cases h
def opI (op : Operator) (a b : Int) (K : Int → Prop) : Prop := match op with
  | .Add => K (a + b)
  | .Sub => K (a - b)
  | .Mult => a.natAbs < 2 ^ 64 ∧ K (a * b)
  | .FloorDiv => (0 < b ∧ b < 1073741824) ∧ K (a / b)
  | .Mod => 0 < b ∧ K (a % b)
  | .Pow => (0 ≤ b ∧ b ≤ 1000 ∧ a.natAbs < 2 ^ 64) ∧ K (a ^ b.toNat)
  | .LShift => (0 ≤ b ∧ b ≤ 1000 ∧ a.natAbs < 2 ^ 64) ∧ K (a * 2 ^ b.toNat)
  | .RShift => 0 ≤ b ∧ K (a / 2 ^ b.toNat)
  | .BitAnd => K (Builtin.bitAnd a b)
  | .BitOr => K (Builtin.bitOr a b)
  | .BitXor => K (Builtin.bitXor a b)
  | _ => False
def cpI (op : CmpOp) (a b : Int) : Option Bool := match op with
  | .Eq => some (a == b)
  | .NotEq => some (a != b)
  | .Lt => some (decide (a < b))
  | .LtE => some (decide (a ≤ b))
  | .Gt => some (decide (a > b))
  | .GtE => some (decide (a ≥ b))
  | _ => none
section
variable {c : Cx} {σ : AS} {P : V → AS → Prop}
theorem opI_ok {op : Operator} {a b : Int} (h : opI op a b fun z => P (.int z) σ) : O2 c (binaryOp op) (.int a) (.int b) σ P := by
  cases op with
  | Add => exact O2_add h
  | Sub => exact O2_sub h
  | Mult => exact O2_mul h.1 h.2
  | FloorDiv => exact O2_div h.1.1 h.1.2 h.2
  | Mod => exact O2_mod h.1 h.2
  | Pow => exact O2_pow h.1.1 h.1.2.1 h.1.2.2 h.2
  | LShift => exact O2_shl h.1.1 h.1.2.1 h.1.2.2 h.2
  | RShift => exact O2_shr h.1 h.2
  | BitAnd => exact O2_and h
  | BitOr => exact O2_or h
  | BitXor => exact O2_xor h
  | _ => exact h.elim
theorem cpI_ok {op : CmpOp} {a b : Int} {t : Bool} (e : cpI op a b = some t) (h : P (.bool t) σ) : O2 c (compareOp op) (.int a) (.int b) σ P := by
  cases op <;> cases e
  · exact O2_eq h
  · exact O2_ne h
  · exact O2_lt h
  · exact O2_le h
  · exact O2_gt h
  · exact O2_ge h
end
def two (x y : V) (K : Int → Int → Prop) (D : Prop) : Prop := match x.i?, y.i? with
  | some a, some b => K a b
  | _, _ => D
theorem two_elim {x y : V} {K : Int → Int → Prop} {D G : Prop} (h : two x y K D) (hk : ∀ a b, x = .int a → y = .int b → K a b → G) (hd : D → G) : G := by
  unfold two at h
  cases ex : x.i? with
  | none => rw [ex] at h; exact hd h
  | some a =>
    cases ey : y.i? with
    | none => rw [ex, ey] at h; exact hd h
    | some b => rw [ex, ey] at h; exact hk a b (V.i?_eq ex) (V.i?_eq ey) h
def bop (c : Cx) (op : Operator) (x y : V) (σ : AS) (P : V → AS → Prop) : Prop := two x y (fun a b => opI op a b fun z => P (.int z) σ) (O2 c (binaryOp op) x y σ P)
def cop (c : Cx) (op : CmpOp) (x y : V) (σ : AS) (P : V → AS → Prop) : Prop := two x y (fun a b => match cpI op a b with | some t => P (.bool t) σ | none => O2 c (compareOp op) (.int a) (.int b) σ P) (O2 c (compareOp op) x y σ P)
def tru (c : Cx) (x : V) (σ : AS) (P : Bool → AS → Prop) : Prop := match x with
  | .bool b => P b σ
  | .int i => P (i != 0) σ
  | x => B1 c truthy x σ P
def vget : List (Option V) → Nat → (V → Prop) → Prop
  | [], _, _ => False
  | o :: _, 0, K => match o with | some x => K x | none => False
  | _ :: l, k + 1, K => vget l k K
def vput : List (Option V) → Nat → V → (List (Option V) → Prop) → Prop
  | [], _, _, _ => False
  | _ :: l, 0, X, K => K (some X :: l)
  | y :: l, k + 1, X, K => vput l k X fun l' => K (y :: l')
theorem vget_ok {K : V → Prop} : ∀ {l : List (Option V)} {k : Nat}, vget l k K → ∃ X, Vat l k X ∧ K X
  | [], _, h => h.elim
  | some x :: _, 0, h => ⟨x, .here, h⟩
  | none :: _, 0, h => h.elim
  | _ :: l, k + 1, h => let ⟨X, h1, h2⟩ := vget_ok (l := l) h; ⟨X, .there h1, h2⟩
theorem vput_ok {X : V} : ∀ {l : List (Option V)} {k : Nat} {K : List (Option V) → Prop}, vput l k X K → ∃ l', Upd l k X l' ∧ K l'
  | [], _, _, h => h.elim
  | _ :: l, 0, _, h => ⟨_, .here, h⟩
  | y :: l, k + 1, _, h => let ⟨l', h1, h2⟩ := vput_ok (l := l) h; ⟨_, .there h1, h2⟩
def SE (c : Cx) (e : Expr) (T : Cx → AS → (V → AS → Prop) → Prop) : Prop := ∀ σ P, T c σ P → EV c e σ P
def SB (c : Cx) (e : Expr) (T : Cx → AS → (Bool → AS → Prop) → Prop) : Prop := ∀ σ P, T c σ P → EB c e σ P
def SL (c : Cx) (es : List Expr) (pos : Pos) (T : Cx → AS → (List V → AS → Prop) → Prop) : Prop := ∀ σ P, T c σ P → ES c es pos σ P
def SA (c : Cx) (t : Expr) (T : Cx → V → AS → (AS → Prop) → Prop) : Prop := ∀ x σ P, T c x σ P → AN c t x σ P
def SAL (c : Cx) (ts : List Expr) (T : Cx → List V → AS → (AS → Prop) → Prop) : Prop := ∀ xs σ P, T c xs σ P → AL c ts xs σ P
def SX (c : Cx) (st : Stmt) (T : Cx → AS → (Fl → AS → Prop) → Prop) : Prop := ∀ σ P, T c σ P → EX c st σ P
def SS (c : Cx) (ss : List Stmt) (T : Cx → AS → (Fl → AS → Prop) → Prop) : Prop := ∀ σ P, T c σ P → XS c ss σ P
theorem TL.mono {c : Cx} {σ : AS} {t : Sem (List Value)} {P P' : List V → AS → Prop} (h : TL c t σ P) (k : ∀ x σ', P x σ' → P' x σ') : TL c t σ P' := by
  intro s G O R
  exact wpAny_mono (h s G O R) (fun v s' ⟨x, σ', G', O', p, r⟩ => ⟨x, σ', G', O', k _ _ p, r⟩) fun _ _ e => e
theorem PoU.mono {c : Cx} {s s' : Shared} {G : Addr → Prop} {O : List Addr} {P P' : AS → Prop} {v : Unit} (k : ∀ σ', P σ' → P' σ') (h : PoU c s G O P v s') : PoU c s G O P' v s' := let ⟨σ', G', O', p, r⟩ := h; ⟨σ', G', O', k _ p, r⟩
theorem AN.mono {c : Cx} {σ : AS} {t : Expr} {x : V} {P P' : AS → Prop} (h : AN c t x σ P) (k : ∀ σ', P σ' → P' σ') : AN c t x σ P' := fun s G O v R hv => wpAny_mono (h s G O v R hv) (fun _ _ p => p.mono k) fun _ _ e => e
theorem ANr.mono {c : Cx} {σ : AS} {ts : List Expr} {x : V} {P P' : AS → Prop} (h : ANr c ts x σ P) (k : ∀ σ', P σ' → P' σ') : ANr c ts x σ P' := let ⟨r, e, h⟩ := h; ⟨r, e, fun s G O T vals n pos R ht hv => wpAny_mono (h s G O T vals n pos R ht hv) (fun _ _ p => p.mono k) fun _ _ e => e⟩
def hdTl (xs : List V) (K : V → List V → Prop) : Prop := match xs with
  | x :: xs => K x xs
  | [] => False
def thn (T : AS → (Fl → AS → Prop) → Prop) (P : Fl → AS → Prop) (f : Fl) (σ : AS) : Prop := match f with
  | .next => T σ P
  | f => P f σ
def LoopT (A : V → AS → (AS → Prop) → Prop) (B E : AS → (Fl → AS → Prop) → Prop) : List V → AS → (Fl → AS → Prop) → Prop
  | [], σ, P => E σ P
  | x :: xs, σ, P => A x σ fun σ₁ => B σ₁ (LoopK (fun σ₂ => LoopT A B E xs σ₂ P) σ.own.length P)
def tInt (i : Int) : Cx → AS → (V → AS → Prop) → Prop := fun c σ P => P (.int i) σ
def tStr (i : Str) : Cx → AS → (V → AS → Prop) → Prop := fun c σ P => P (.str i) σ
def tBytes (i : List UInt8) : Cx → AS → (V → AS → Prop) → Prop := fun c σ P => P (.bytes i.toArray) σ
def tBool (i : Bool) : Cx → AS → (V → AS → Prop) → Prop := fun c σ P => P (.bool i) σ
def tNone : Cx → AS → (V → AS → Prop) → Prop := fun c σ P => P .none σ
def tVar (k : Nat) : Cx → AS → (V → AS → Prop) → Prop := fun c σ P => vget σ.vars k fun X => P X σ
def tV (X : V) : Cx → AS → (V → AS → Prop) → Prop := fun c σ P => P X σ
def tG (X : V) : Cx → AS → (V → AS → Prop) → Prop := fun c σ P => P X σ
def tBin (op : Operator) (T₁ : Cx → AS → (V → AS → Prop) → Prop) (T₂ : Cx → AS → (V → AS → Prop) → Prop) : Cx → AS → (V → AS → Prop) → Prop := fun c σ P => T₁ c σ fun x σ₁ => T₂ c σ₁ fun y σ₂ => bop c op x y σ₂ P
def tCmpB (op : CmpOp) (T₁ : Cx → AS → (V → AS → Prop) → Prop) (T₂ : Cx → AS → (V → AS → Prop) → Prop) : Cx → AS → (Bool → AS → Prop) → Prop := fun c σ P => T₁ c σ fun x σ₁ => T₂ c σ₁ fun y σ₂ => cop c op x y σ₂ fun z σ₃ => tru c z σ₃ P
def tSub (l r : Expr) (T₁ : Cx → AS → (V → AS → Prop) → Prop) (T₂ : Cx → AS → (V → AS → Prop) → Prop) : Cx → AS → (V → AS → Prop) → Prop := fun c σ P => T₁ c σ fun x σ₁ => T₂ c σ₁ fun y σ₂ => O2 c (fun o i => subscriptTail l r o i) x y σ₂ P
def tUpto (T₁ : Cx → AS → (V → AS → Prop) → Prop) (T₂ : Cx → AS → (V → AS → Prop) → Prop) : Cx → AS → (V → AS → Prop) → Prop := fun c σ P => T₁ c σ fun X σ₁ => T₂ c σ₁ fun Y σ₂ => ∃ xs i, LV σ₂ X xs ∧ Y = .int i ∧ 0 ≤ i ∧ xs.length ≤ 1000000 ∧ P (.list (xs.take i.toNat)) σ₂
def tFrm (T₁ : Cx → AS → (V → AS → Prop) → Prop) (T₂ : Cx → AS → (V → AS → Prop) → Prop) : Cx → AS → (V → AS → Prop) → Prop := fun c σ P => T₁ c σ fun X σ₁ => T₂ c σ₁ fun Y σ₂ => ∃ xs i, LV σ₂ X xs ∧ Y = .int i ∧ 0 ≤ i ∧ xs.length ≤ 1000000 ∧ P (.list (xs.drop i.toNat)) σ₂
def tIfe (TT : Cx → AS → (Bool → AS → Prop) → Prop) (T₁ : Cx → AS → (V → AS → Prop) → Prop) (T₂ : Cx → AS → (V → AS → Prop) → Prop) : Cx → AS → (V → AS → Prop) → Prop := fun c σ P => TT c σ fun b σ₁ => cond b (T₁ c σ₁ P) (T₂ c σ₁ P)
def tNeg (T₁ : Cx → AS → (V → AS → Prop) → Prop) : Cx → AS → (V → AS → Prop) → Prop := fun c σ P => T₁ c σ fun y σ₁ => ∃ i, y = .int i ∧ P (.int (-i)) σ₁
def tTru (T₁ : Cx → AS → (V → AS → Prop) → Prop) : Cx → AS → (Bool → AS → Prop) → Prop := fun c σ P => T₁ c σ fun x σ₁ => tru c x σ₁ P
def tNot (T : Cx → AS → (Bool → AS → Prop) → Prop) : Cx → AS → (Bool → AS → Prop) → Prop := fun c σ P => T c σ fun b σ₁ => P (!b) σ₁
def tAnd0 : Cx → AS → (Bool → AS → Prop) → Prop := fun c σ P => P true σ
def tOr0 : Cx → AS → (Bool → AS → Prop) → Prop := fun c σ P => P false σ
def tAnd (T₁ : Cx → AS → (Bool → AS → Prop) → Prop) (T₂ : Cx → AS → (Bool → AS → Prop) → Prop) : Cx → AS → (Bool → AS → Prop) → Prop := fun c σ P => T₁ c σ fun b σ₁ => cond b (T₂ c σ₁ P) (P false σ₁)
def tOr (T₁ : Cx → AS → (Bool → AS → Prop) → Prop) (T₂ : Cx → AS → (Bool → AS → Prop) → Prop) : Cx → AS → (Bool → AS → Prop) → Prop := fun c σ P => T₁ c σ fun b σ₁ => cond b (P true σ₁) (T₂ c σ₁ P)
def tNil : Cx → AS → (List V → AS → Prop) → Prop := fun c σ P => P [] σ
def tCons (T₁ : Cx → AS → (V → AS → Prop) → Prop) (T₂ : Cx → AS → (List V → AS → Prop) → Prop) : Cx → AS → (List V → AS → Prop) → Prop := fun c σ P => T₁ c σ fun x σ₁ => T₂ c σ₁ fun xs σ₂ => P (x :: xs) σ₂
def tTup (TT : Cx → AS → (List V → AS → Prop) → Prop) : Cx → AS → (V → AS → Prop) → Prop := fun c σ P => TT c σ fun xs σ₁ => xs.length ≤ 1000 ∧ P (.tup xs) σ₁
def tLst (TT : Cx → AS → (List V → AS → Prop) → Prop) : Cx → AS → (V → AS → Prop) → Prop := fun c σ P => TT c σ fun xs σ₁ => xs.length ≤ 1000 ∧ P (.list xs) σ₁
def tOwn (TT : Cx → AS → (List V → AS → Prop) → Prop) : Cx → AS → (V → AS → Prop) → Prop := fun c σ P => TT c σ fun xs σ₁ => xs.length ≤ 1000 ∧ P (.own σ₁.own.length) { σ₁ with own := σ₁.own ++ [xs] }
def tCallB (id : String) (TT : Cx → AS → (List V → AS → Prop) → Prop) : Cx → AS → (V → AS → Prop) → Prop := fun c σ P => TT c σ fun xs σ₁ => CL c (.bi id) xs [] σ₁ P
def tCallT (id : String) (TT : Cx → AS → (List V → AS → Prop) → Prop) : Cx → AS → (V → AS → Prop) → Prop := fun c σ P => TT c σ fun xs σ₁ => CL c (.ty id) xs [] σ₁ P
def tCallF (a : Addr) (TT : Cx → AS → (List V → AS → Prop) → Prop) : Cx → AS → (V → AS → Prop) → Prop := fun c σ P => TT c σ fun xs σ₁ => CL c (.fn a) xs [] σ₁ P
def tCallK (a : Addr) (kn : Str) (TT : Cx → AS → (List V → AS → Prop) → Prop) (T₂ : Cx → AS → (V → AS → Prop) → Prop) : Cx → AS → (V → AS → Prop) → Prop := fun c σ P => TT c σ fun xs σ₁ => T₂ c σ₁ fun y σ₂ => CL c (.fn a) xs [(kn, y)] σ₂ P
def tMeth (name : Str) (id : String) (T₁ : Cx → AS → (V → AS → Prop) → Prop) (TT : Cx → AS → (List V → AS → Prop) → Prop) : Cx → AS → (V → AS → Prop) → Prop := fun c σ P => T₁ c σ fun X σ₁ => Mt c X name id σ₁ ∧ TT c σ₁ fun xs σ₂ => CL c (.bi id) (X :: xs) [] σ₂ P
def tAName (k : Nat) : Cx → V → AS → (AS → Prop) → Prop := fun c X σ P => vput σ.vars k X fun l => P { σ with vars := l }
def tALNil : Cx → List V → AS → (AS → Prop) → Prop := fun _ _ σ P => P σ
def tALCons (T₁ : Cx → V → AS → (AS → Prop) → Prop) (T₂ : Cx → List V → AS → (AS → Prop) → Prop) : Cx → List V → AS → (AS → Prop) → Prop := fun c xs σ P => hdTl xs fun x xs => T₁ c x σ fun σ₁ => T₂ c xs σ₁ P
def tATup (ts : List Expr) (T : Cx → List V → AS → (AS → Prop) → Prop) : Cx → V → AS → (AS → Prop) → Prop := fun c X σ P => ∃ xs, (X = .tup xs ∨ X = .list xs) ∧ ts.length = xs.length ∧ T c xs σ P
def tAsg (T₁ : Cx → AS → (V → AS → Prop) → Prop) (T₂ : Cx → V → AS → (AS → Prop) → Prop) : Cx → AS → (Fl → AS → Prop) → Prop := fun c σ P => T₁ c σ fun x σ₁ => T₂ c x σ₁ (P .next)
def tAsg2 (T₁ : Cx → AS → (V → AS → Prop) → Prop) (T₂ T₃ : Cx → V → AS → (AS → Prop) → Prop) : Cx → AS → (Fl → AS → Prop) → Prop := fun c σ P => T₁ c σ fun x σ₁ => T₂ c x σ₁ fun σ₂ => T₃ c x σ₂ (P .next)
def tSwap (i j : Nat) (T₁ : Cx → AS → (V → AS → Prop) → Prop) : Cx → AS → (Fl → AS → Prop) → Prop := fun c σ P => T₁ c σ fun x σ₁ => ∃ X Y, x = .tup [X, Y] ∧ vput σ₁.vars j Y fun l => vput l i X fun l' => P .next { σ₁ with vars := l' }
def tAug (k : Nat) (T₁ : Cx → AS → (V → AS → Prop) → Prop) : Cx → AS → (Fl → AS → Prop) → Prop := fun c σ P => vget σ.vars k fun X => T₁ c σ fun y σ₁ => two X y (fun a b => vput σ₁.vars k (.int (a + b)) fun l => P .next { σ₁ with vars := l }) (O2 c (inplaceOp .Add) X y σ₁ fun z σ₂ => vput σ₂.vars k z fun l => P .next { σ₂ with vars := l })
def tRet (T₁ : Cx → AS → (V → AS → Prop) → Prop) : Cx → AS → (Fl → AS → Prop) → Prop := fun c σ P => T₁ c σ fun x σ₁ => P (.ret x) σ₁
def tBrk : Cx → AS → (Fl → AS → Prop) → Prop := fun c σ P => P .brk σ
def tCont : Cx → AS → (Fl → AS → Prop) → Prop := fun c σ P => P .cont σ
def tExpr (T₁ : Cx → AS → (V → AS → Prop) → Prop) : Cx → AS → (Fl → AS → Prop) → Prop := fun c σ P => T₁ c σ fun x σ₁ => x = .none ∧ P .next σ₁
def tIf (TT : Cx → AS → (Bool → AS → Prop) → Prop) (T₁ T₂ : Cx → AS → (Fl → AS → Prop) → Prop) : Cx → AS → (Fl → AS → Prop) → Prop := fun c σ P => TT c σ fun b σ₁ => cond b (T₁ c σ₁ P) (T₂ c σ₁ P)
def tEnd : Cx → AS → (Fl → AS → Prop) → Prop := fun c σ P => P .next σ
def tSeq (T₁ T₂ : Cx → AS → (Fl → AS → Prop) → Prop) : Cx → AS → (Fl → AS → Prop) → Prop := fun c σ P => T₁ c σ (thn (T₂ c) P)
def tFor (target : Expr) (TI : Cx → AS → (V → AS → Prop) → Prop) (A : Cx → V → AS → (AS → Prop) → Prop) (B E : Cx → AS → (Fl → AS → Prop) → Prop) : Cx → AS → (Fl → AS → Prop) → Prop := fun c σ P => TI c σ fun X σ₁ => ∃ xs, IterOK c target X xs σ₁ ∧ LoopT (A c) (B c) (E c) xs σ₁ P
def tForT (id : String) (ts : List Expr) (k : Nat) (tpos : Pos) (TT : Cx → AS → (List V → AS → Prop) → Prop) (A : Cx → List V → AS → (AS → Prop) → Prop) (B E : Cx → AS → (Fl → AS → Prop) → Prop) : Cx → AS → (Fl → AS → Prop) → Prop := fun c σ P => TT c σ fun xs σ₁ => ∃ rows, IterT c id (.Tuple ts k tpos) xs rows σ₁ ∧ LoopT (fun X σ K => ∃ r, X = .tup r ∧ ts.length = r.length ∧ A c r σ K) (B c) (E c) (rows.map V.tup) σ₁ P
section
variable {c : Cx}
theorem SE.cint {i : Int} {k : Nat} {pos : Pos} : SE c (.Constant (.int i) k pos) (tInt i) := fun _ _ h => EV_int h
theorem SE.cstr {i : Str} {k : Nat} {pos : Pos} : SE c (.Constant (.str i) k pos) (tStr i) := fun _ _ h => EV_str h
theorem SE.cbytes {i : List UInt8} {k : Nat} {pos : Pos} : SE c (.Constant (.bytes i) k pos) (tBytes i) := fun _ _ h => EV_bytes h
theorem SE.cbool {i : Bool} {k : Nat} {pos : Pos} : SE c (.Constant (.bool i) k pos) (tBool i) := fun _ _ h => EV_bool h
theorem SE.cnone {k : Nat} {pos : Pos} : SE c (.Constant .none k pos) tNone := fun _ _ h => EV_none h
theorem SE.var (ok : Ok c) {x : Str} {pos : Pos} (k : Nat) (hx : c.names[k]? = some x) : SE c (.Name x pos) (tVar k) :=
  fun _ _ h => let ⟨_, h1, h2⟩ := vget_ok h; EV_name ok (At.of_get hx) h1 h2 (ok.dbg x (List.mem_of_getElem? hx))
theorem SE.capt (ok : Ok c) {x : Str} {X : V} {pos : Pos} (hx : (x, X) ∈ c.cap) (hd : (x == ("__debug__" : Str)) = false) : SE c (.Name x pos) (tV X) := fun _ _ h => EV_cap ok hx h hd
theorem EV_gl (ok : Ok c) {x : Str} {X : V} {pos : Pos} {σ : AS} {P : V → AS → Prop} {k : Nat} (hx : c.gls[k]? = some (x, X)) (h : P X σ) : EV c (.Name x pos) σ P := let g := ok.gk _ (List.mem_of_getElem? hx); EV_glob ok g.1 g.2.1 h g.2.2
theorem SE.glob (ok : Ok c) {x : Str} {X : V} {pos : Pos} (k : Nat) (hx : c.gls[k]? = some (x, X)) : SE c (.Name x pos) (tG X) := fun _ _ h => EV_gl ok hx h
section
variable {l r : Expr} {T₁ T₂ : Cx → AS → (V → AS → Prop) → Prop}
theorem SE.bin {op : Operator} {pos : Pos} (h₁ : SE c l T₁) (h₂ : SE c r T₂) : SE c (.BinOp l op r pos) (tBin op T₁ T₂) :=
  fun _ _ h => EV_bin (TV.mono (h₁ _ _ h) fun _ _ h => TV.mono (h₂ _ _ h) fun _ _ h => two_elim h (fun _ _ e e' k => by subst e e'; exact opI_ok k) id)
theorem cop_ok {op : CmpOp} {x y : V} {σ : AS} {P : V → AS → Prop} (h : cop c op x y σ P) : O2 c (compareOp op) x y σ P :=
  two_elim h (fun a b e e' k => by
    subst e e'
    cases q : cpI op a b with
    | none => rw [q] at k; exact k
    | some t => rw [q] at k; exact cpI_ok q k) id
theorem tru_ok {x : V} {σ : AS} {P : Bool → AS → Prop} (h : tru c x σ P) : B1 c truthy x σ P := by
  cases x <;> first | exact B1_bool h | exact B1_int h | exact h
theorem O2.mono {f : Value → Value → Sem Value} {x y : V} {σ : AS} {P P' : V → AS → Prop} (h : O2 c f x y σ P) (k : ∀ x σ', P x σ' → P' x σ') : O2 c f x y σ P' := by
  intro s G O v u R h1 h2
  exact wpAny_mono (h s G O v u R h1 h2) (fun v s' ⟨x, σ', G', O', p, r⟩ => ⟨x, σ', G', O', k _ _ p, r⟩) fun _ _ e => e
theorem SB.cmp {op : CmpOp} {pos : Pos} (h₁ : SE c l T₁) (h₂ : SE c r T₂) (hm : behindInMarks op r = false) : SB c (.Compare l [op] [r] pos) (tCmpB op T₁ T₂) :=
  fun _ _ h => EB_cmp (TV.mono (h₁ _ _ h) fun _ _ h => TV.mono (h₂ _ _ h) fun _ _ h => (cop_ok h).mono fun _ _ h => tru_ok h) hm
theorem SE.sub {pos : Pos} (h₁ : SE c l T₁) (h₂ : SE c r T₂) : SE c (.Subscript l r pos) (tSub l r T₁ T₂) :=
  fun _ _ h => EV_sub (TV.mono (h₁ _ _ h) fun _ _ h => h₂ _ _ h)
theorem SE.upto (ok : Ok c) {p pos : Pos} (h₁ : SE c l T₁) (h₂ : SE c r T₂) : SE c (.Subscript l (.Slice none (some r) none p) pos) (tUpto T₁ T₂) :=
  fun _ _ h => EV_upto ok (TV.mono (h₁ _ _ h) fun _ _ h => h₂ _ _ h)
theorem SE.frm (ok : Ok c) {p pos : Pos} (h₁ : SE c l T₁) (h₂ : SE c r T₂) : SE c (.Subscript l (.Slice (some r) none none p) pos) (tFrm T₁ T₂) :=
  fun _ _ h => EV_from ok (TV.mono (h₁ _ _ h) fun _ _ h => h₂ _ _ h)
theorem SE.ife {t : Expr} {TT : Cx → AS → (Bool → AS → Prop) → Prop} {pos : Pos} (ht : SB c t TT) (h₁ : SE c l T₁) (h₂ : SE c r T₂) : SE c (.IfExp t l r pos) (tIfe TT T₁ T₂) :=
  fun _ _ h => EV_if (TB.mono (ht _ _ h) fun b _ h => ⟨fun e => by subst e; exact h₁ _ _ h, fun e => by subst e; exact h₂ _ _ h⟩)
theorem SE.neg {pos : Pos} (h₁ : SE c l T₁) : SE c (.UnaryOp .USub l pos) (tNeg T₁) := fun _ _ h => EV_neg (h₁ _ _ h)
theorem SB.plain (h₁ : SE c l T₁) (he : ∀ whole, isTrue l c.env whole = (do let v ← whole; standAt l.pos; holding [v] (truthy v))) : SB c l (tTru T₁) := fun _ _ h => EB_plain (TV.mono (h₁ _ _ h) fun _ _ h => tru_ok h) he
end
theorem SB.not {x : Expr} {T : Cx → AS → (Bool → AS → Prop) → Prop} {pos : Pos} (h₁ : SB c x T) : SB c (.UnaryOp .Not x pos) (tNot T) := fun _ _ h => EB_not (h₁ _ _ h)
theorem SB.and0 {pos : Pos} : SB c (.BoolOp .And [] pos) tAnd0 := fun _ _ h => EB_and0 h
theorem SB.or0 {pos : Pos} : SB c (.BoolOp .Or [] pos) tOr0 := fun _ _ h => EB_or0 h
section
variable {x : Expr} {rest : List Expr} {T₁ T₂ : Cx → AS → (Bool → AS → Prop) → Prop} {pos : Pos}
theorem SB.and (h₁ : SB c x T₁) (h₂ : SB c (.BoolOp .And rest pos) T₂) : SB c (.BoolOp .And (x :: rest) pos) (tAnd T₁ T₂) :=
  fun _ _ h => EB_and (TB.mono (h₁ _ _ h) fun b _ h => ⟨fun e => by subst e; exact h₂ _ _ h, fun e => by subst e; exact h⟩)
theorem SB.or (h₁ : SB c x T₁) (h₂ : SB c (.BoolOp .Or rest pos) T₂) : SB c (.BoolOp .Or (x :: rest) pos) (tOr T₁ T₂) :=
  fun _ _ h => EB_or (TB.mono (h₁ _ _ h) fun b _ h => ⟨fun e => by subst e; exact h₂ _ _ h, fun e => by subst e; exact h⟩)
end
theorem SL.nil {pos : Pos} : SL c [] pos tNil := fun _ _ h => ES_nil h
theorem SL.cons {e : Expr} {es : List Expr} {pos : Pos} {T₁ : Cx → AS → (V → AS → Prop) → Prop} {T₂ : Cx → AS → (List V → AS → Prop) → Prop} (h₁ : SE c e T₁) (h₂ : SL c es pos T₂) (he : ∀ env, starEach (e :: es) env = (false, eval e env) :: starEach es env) : SL c (e :: es) pos (tCons T₁ T₂) :=
  fun _ _ h => ES_cons (TV.mono (h₁ _ _ h) fun _ _ h => h₂ _ _ h) he
section
variable {es : List Expr} {pos : Pos} {TT : Cx → AS → (List V → AS → Prop) → Prop}
theorem SE.tup (ok : Ok c) {k : Nat} (h₁ : SL c es pos TT) : SE c (.Tuple es k pos) (tTup TT) := fun _ _ h => EV_tuple ok (h₁ _ _ h)
theorem SE.lst (ok : Ok c) (h₁ : SL c es pos TT) : SE c (.List es pos) (tLst TT) := fun _ _ h => EV_list ok (h₁ _ _ h)
theorem SE.own (ok : Ok c) (h₁ : SL c es pos TT) : SE c (.List es pos) (tOwn TT) := fun _ _ h => EV_listOwn ok (h₁ _ _ h)
end
section
variable {x : Str} {p : Pos} {e : Expr} {es : List Expr} {pos : Pos} {TT : Cx → AS → (List V → AS → Prop) → Prop} (ok : Ok c) (h₁ : SL c (e :: es) pos TT) (he : ∀ env, starEach (e :: es) env = (false, eval e env) :: starEach es env)
include ok h₁ he
theorem SE.callB {id : String} (k : Nat) (g : c.gls[k]? = some (x, .bi id)) (hp : ∀ env, (backTo pos (starEach es env)).any (·.1) = false) : SE c (.Call (.Name x p) (e :: es) [] pos) (tCallB id TT) :=
  fun _ _ h => EV_callB (EV_gl ok g ⟨rfl, h₁ _ _ h⟩) he hp
theorem SE.callT {id : String} (k : Nat) (g : c.gls[k]? = some (x, .ty id)) (hp : ∀ env, (backTo pos (starEach es env)).any (·.1) = false) : SE c (.Call (.Name x p) (e :: es) [] pos) (tCallT id TT) :=
  fun _ _ h => EV_callT (EV_gl ok g ⟨rfl, h₁ _ _ h⟩) he hp
theorem SE.callF {a : Addr} (k : Nat) (g : c.gls[k]? = some (x, .fn a)) (hf : IsFn c.g a) : SE c (.Call (.Name x p) (e :: es) [] pos) (tCallF a TT) :=
  fun _ _ h => EV_callF hf (EV_gl ok g ⟨rfl, h₁ _ _ h⟩) he
theorem SE.callK {a : Addr} {kn : Str} {ke : Expr} {kp : Pos} {T₂ : Cx → AS → (V → AS → Prop) → Prop} (k : Nat) (g : c.gls[k]? = some (x, .fn a)) (hf : IsFn c.g a) (h₂ : SE c ke T₂) : SE c (.Call (.Name x p) (e :: es) [⟨some kn, ke, kp⟩] pos) (tCallK a kn TT T₂) :=
  fun _ _ h => EV_callK hf (EV_gl ok g ⟨rfl, TL.mono (h₁ _ _ h) fun _ _ h => h₂ _ _ h⟩) he
end
theorem SE.meth {o : Expr} {name : Str} {apos pos : Pos} {e : Expr} {es : List Expr} {pl : Sem Bool} (id : String) {T₁ : Cx → AS → (V → AS → Prop) → Prop} {TT : Cx → AS → (List V → AS → Prop) → Prop} (h₁ : SE c o T₁) (h₂ : SL c (e :: es) pos TT)
    (hm : eval (.Call (.Attribute o name apos) (e :: es) [] pos) c.env = (do
      let ov ← eval o c.env
      standAt apos.atName
      let (f, first) ← holding [ov] (getMethod ov name pl)
      callWith pos f first (backTo pos (starEach (e :: es) c.env)) (backToKw pos (keywordEach [] c.env))))
    (he : ∀ env, starEach (e :: es) env = (false, eval e env) :: starEach es env) (hp : ∀ env, (backTo pos (starEach es env)).any (·.1) = false) :
    SE c (.Call (.Attribute o name apos) (e :: es) [] pos) (tMeth name id T₁ TT) :=
  fun _ _ h => EV_meth (pl := pl) (TV.mono (h₁ _ _ h) fun _ _ h => ⟨h.1, h₂ _ _ h.2⟩) hm he hp
/-! targets and statements -/
theorem SA.name (ok : Ok c) {x : Str} {pos : Pos} (k : Nat) (hx : c.names[k]? = some x) : SA c (.Name x pos) (tAName k) :=
  fun _ _ _ h => let ⟨_, h1, h2⟩ := vput_ok h; AN_name ok (At.of_get hx) h1 h2
theorem SAL.nil : SAL c [] tALNil := fun _ _ _ h => AL_nil h
theorem SAL.cons {t : Expr} {ts : List Expr} {T₁ : Cx → V → AS → (AS → Prop) → Prop} {T₂ : Cx → List V → AS → (AS → Prop) → Prop} (h₁ : SA c t T₁) (h₂ : SAL c ts T₂) (he : ∀ env, assignEach (t :: ts) env = (false, PySem.assign t env) :: assignEach ts env) : SAL c (t :: ts) (tALCons T₁ T₂)
  | [], _, _, h => h.elim
  | _ :: _, _, _, h => AL_cons (AN.mono (h₁ _ _ _ h) fun _ h => h₂ _ _ _ h) he
theorem SA.tup (ok : Ok c) {ts : List Expr} {k : Nat} {pos : Pos} {T : Cx → List V → AS → (AS → Prop) → Prop} (h₁ : SAL c ts T) (hn : ∀ env, (assignEach ts env).length = ts.length) (hs : ∀ env, (assignEach ts env).findIdx? (·.1) = none) (hx : c.hx = false := by first | rfl | assumption) :
    SA c (.Tuple ts k pos) (tATup ts T) := by
  rintro X σ P ⟨xs, rfl | rfl, hl, h⟩
  · exact AN_tup ok (ANt_ ok (h₁ _ _ _ h) hl hn hs)
  · exact AN_tupList ok (h₁ _ _ _ h) hl hn hs
theorem SX.assign {t v : Expr} {pos : Pos} {T₁ : Cx → AS → (V → AS → Prop) → Prop} {T₂ : Cx → V → AS → (AS → Prop) → Prop} (h₁ : SE c v T₁) (h₂ : SA c t T₂) (hs : swapsWithSole [t] v pos.line c.env = pure false) (hw : swappedStores [t] v c.env = pure none) (he : ∀ env, (assignEach [t] env).map (·.2) = [PySem.assign t env]) :
    SX c (.Assign [t] v pos) (tAsg T₁ T₂) := fun _ _ h => EX_assign (TV.mono (h₁ _ _ h) fun _ _ h => h₂ _ _ _ h) hs hw he
theorem SX.assign2 {t₁ t₂ v : Expr} {pos : Pos} {T₁ : Cx → AS → (V → AS → Prop) → Prop} {T₂ T₃ : Cx → V → AS → (AS → Prop) → Prop} (h₁ : SE c v T₁) (h₂ : SA c t₁ T₂) (h₃ : SA c t₂ T₃) (hw : swappedStores [t₁, t₂] v c.env = pure none) (he : ∀ env, (assignEach [t₁, t₂] env).map (·.2) = [PySem.assign t₁ env, PySem.assign t₂ env]) :
    SX c (.Assign [t₁, t₂] v pos) (tAsg2 T₁ T₂ T₃) := fun _ _ h => EX_assign2 (TV.mono (h₁ _ _ h) fun _ _ h => AN.mono (h₂ _ _ _ h) fun _ h => h₃ _ _ _ h) hw he
/-- two names at once -/
theorem SX.swap2 (ok : Ok c) {ts : List Expr} {k : Nat} {tpos : Pos} {v : Expr} {pos : Pos} {a b : Str} {T₁ : Cx → AS → (V → AS → Prop) → Prop} (i j : Nat) (h₁ : SE c v T₁) (ha : c.names[i]? = some a) (hb : c.names[j]? = some b)
    (hs : swapsWithSole [.Tuple ts k tpos] v pos.line c.env = pure false) (hw : swappedStores [.Tuple ts k tpos] v c.env = pure (some [a, b])) (hx : c.hx = false := by first | rfl | assumption) :
    SX c (.Assign [.Tuple ts k tpos] v pos) (tSwap i j T₁) :=
  fun _ _ h => EX_swapped (ns := [a, b]) ok (TV.mono (h₁ _ _ h) fun _ _ ⟨X, Y, e, h⟩ => ⟨_, e, rfl, let ⟨_, u1, h⟩ := vput_ok h; let ⟨_, u2, h⟩ := vput_ok h; AR_cons ok (At.of_get hb) u1 (AR_cons ok (At.of_get ha) u2 (AR_nil h))⟩) hs hw
theorem SX.aug (ok : Ok c) {x : Str} {npos : Pos} {v : Expr} {pos : Pos} {T₁ : Cx → AS → (V → AS → Prop) → Prop} (k : Nat) (hx : c.names[k]? = some x) (h₁ : SE c v T₁) :
    SX c (.AugAssign (.Name x npos) .Add v pos) (tAug k T₁) :=
  fun _ _ h => let ⟨_, h1, h⟩ := vget_ok h; EX_aug ok (At.of_get hx) h1 (TV.mono (h₁ _ _ h) fun _ _ h => two_elim h (fun _ _ e e' h => by subst e e'; exact O2_iadd (vput_ok h)) fun h => h.mono fun _ _ h => vput_ok h)
theorem SX.ret {e : Expr} {pos : Pos} {T₁ : Cx → AS → (V → AS → Prop) → Prop} (h₁ : SE c e T₁) : SX c (.Return (some e) pos) (tRet T₁) := fun _ _ h => EX_ret (h₁ _ _ h)
theorem SX.brk {pos : Pos} : SX c (.Break pos) tBrk := fun _ _ h => EX_break h
theorem SX.cont {pos : Pos} : SX c (.Continue pos) tCont := fun _ _ h => EX_cont h
theorem SX.expr {e : Expr} {pos : Pos} {T₁ : Cx → AS → (V → AS → Prop) → Prop} (h₁ : SE c e T₁) (hi : interactive c.env = false) (hs : swapsWith e none pos.line c.env = pure false) : SX c (.Expr e pos) (tExpr T₁) := fun _ _ h => EX_expr (h₁ _ _ h) hi hs
theorem SX.ife {t : Expr} {a b : List Stmt} {pos : Pos} {TT : Cx → AS → (Bool → AS → Prop) → Prop} {T₁ T₂ : Cx → AS → (Fl → AS → Prop) → Prop} (ht : SB c t TT) (h₁ : SS c a T₁) (h₂ : SS c b T₂) : SX c (.If t a b pos) (tIf TT T₁ T₂) :=
  fun _ _ h => EX_if (TB.mono (ht _ _ h) fun b _ h => ⟨fun e => by subst e; exact h₁ _ _ h, fun e => by subst e; exact h₂ _ _ h⟩)
theorem SS.nil : SS c [] tEnd := fun _ _ h => XS_nil h
theorem SS.cons {st : Stmt} {rest : List Stmt} {T₁ T₂ : Cx → AS → (Fl → AS → Prop) → Prop} (h₁ : SX c st T₁) (h₂ : SS c rest T₂) : SS c (st :: rest) (tSeq T₁ T₂) :=
  fun _ _ h => XS_cons (TF.mono (h₁ _ _ h) fun f _ h => match f, h with | .next, h => h₂ _ _ h | .brk, h => h | .cont, h => h | .ret _, h => h)
theorem LoopT.ok {asg : V → AS → (AS → Prop) → Prop} (am : ∀ x σ K K', asg x σ K → (∀ σ, K σ → K' σ) → asg x σ K') {body orelse : List Stmt} {A : V → AS → (AS → Prop) → Prop} {B E : Cx → AS → (Fl → AS → Prop) → Prop} (ha : ∀ x σ K, A x σ K → asg x σ K) (hb : SS c body B) (he : SS c orelse E) {P : Fl → AS → Prop} :
    ∀ {xs : List V} {σ : AS}, LoopT A (B c) (E c) xs σ P → Loop c asg body orelse xs σ P
  | [], _, h => he _ _ h
  | _ :: _, _, h => am _ _ _ _ (ha _ _ _ h) fun _ h => TF.mono (hb _ _ h) fun f _ h => match f, h with | .next, h => ⟨h.1, LoopT.ok am ha hb he h.2⟩ | .cont, h => ⟨h.1, LoopT.ok am ha hb he h.2⟩ | .brk, h => h | .ret _, h => h
theorem SX.for_ (ok : Ok c) (hE : c.E = fun _ _ => False) {target iter : Expr} {body orelse : List Stmt} {pos : Pos} {TI : Cx → AS → (V → AS → Prop) → Prop} {A : Cx → V → AS → (AS → Prop) → Prop} {B E : Cx → AS → (Fl → AS → Prop) → Prop} (hi : SE c iter TI) (ha : SA c target A) (hb : SS c body B) (he : SS c orelse E) (hs : ∀ x, foldedSetIterable iter c.env x = pure x) :
    SX c (.For target iter body orelse pos) (tFor target TI A B E) :=
  fun _ _ h => EX_for ok hE (TV.mono (hi _ _ h) fun _ _ ⟨xs, h1, h2⟩ => ⟨xs, h1, LoopT.ok (asg := AN c target) (fun _ _ _ _ h k => AN.mono h k) ha hb he h2⟩) hs
theorem SX.forT (ok : Ok c) (hE : c.E = fun _ _ => False) {ts : List Expr} {k : Nat} {tpos : Pos} {x : Str} {p : Pos} {e : Expr} {es : List Expr} {cpos : Pos} {body orelse : List Stmt} {pos : Pos} {id : String} {TT : Cx → AS → (List V → AS → Prop) → Prop} {A : Cx → List V → AS → (AS → Prop) → Prop} {B E : Cx → AS → (Fl → AS → Prop) → Prop}
    (i : Nat) (g : c.gls[i]? = some (x, .ty id)) (h₁ : SL c (e :: es) cpos TT) (ha : SAL c ts A) (hb : SS c body B) (he' : SS c orelse E)
    (he : ∀ env, starEach (e :: es) env = (false, eval e env) :: starEach es env) (hp : ∀ env, (backTo cpos (starEach es env)).any (·.1) = false) (hn : ∀ env, (assignEach ts env).length = ts.length) (ht : ∀ env, (assignEach ts env).findIdx? (·.1) = none)
    (hs : ∀ y, foldedSetIterable (.Call (.Name x p) (e :: es) [] cpos) c.env y = pure y) (hx : c.hx = false := by first | rfl | assumption) : SX c (.For (.Tuple ts k tpos) (.Call (.Name x p) (e :: es) [] cpos) body orelse pos) (tForT id ts k tpos TT A B E) :=
  fun _ _ h => EX_forT ok hE (EV_gl ok g ⟨rfl, TL.mono (h₁ _ _ h) fun _ _ ⟨rows, h1, h2⟩ => ⟨rows, h1, LoopT.ok (asg := ANr c ts) (fun _ _ _ _ h k => ANr.mono h k) (fun _ _ _ ⟨r, e, hl, h⟩ => ⟨r, e, ANt_ ok (ha _ _ _ h) hl hn ht⟩) hb he' h2⟩⟩) he hp hs
end
end Mine
namespace Mine
/-- what is looked at when the top has run -/
structure HI where
  objs : Params → Frag
  as : List Addr
  gt : List (Str × Option Value)
  cs : List (Addr × Str)
def codeName (h : Heap) (c : Addr) : Option Str := match h.get? c with
  | some o => match o.data with
    | .fields vs => match (vs[1]? : Option Value) with
      | some (Value.str q _) => some q
      | _ => none
    | _ => none
  | none => none
theorem codeName_rec {h : Heap} {c : Addr} {q : Str} (e : codeName h c = some q) : h.CodeRec (.ref c) q := by
  unfold codeName at e
  cases ho : h.get? c with
  | none => rw [ho] at e; cases e
  | some o =>
    rw [ho] at e
    simp only at e
    split at e
    · rename_i vs hd
      split at e
      · rename_i q' t hv
        cases e
        exact ⟨c, o, vs, t, rfl, ho, hd, hv⟩
      · cases e
    · cases e
def HSays (I : HI) (w : World) (h : Heap) : Prop := (I.objs w.params).In h ∧ (∃ mg, h.Ns mainGlobals mg ∧ ∀ p ∈ I.gt, mg p.1 = p.2) ∧ ∀ p ∈ I.cs, h.CodeRec (.ref p.1) p.2
def hook (I : HI) (e : ∀ P, I.as = (I.objs P).map (·.1)) : Hook where
  α := List (Option Obj) × List (Option Value) × Bool × List (Option Str)
  obs := fun s => (I.as.map s.heap.get?, I.gt.map (fun p => s.heap.nsMap mainGlobals p.1), s.heap.isNs mainGlobals, I.cs.map fun p => codeName s.heap p.1)
  val := fun w => ((I.objs w.params).map (fun p => some p.2), I.gt.map (fun p => p.2), true, I.cs.map fun p => some p.2)
  says := HSays I
  of := fun w s q => ⟨InK.of e w s (congrArg (·.1) q), ⟨_, .of_isNs (congrArg (·.2.2.1) q), List.map_inj_left.mp (congrArg (·.2.1) q)⟩, fun p hp => codeName_rec (List.map_inj_left.mp (congrArg (·.2.2.2) q) p hp)⟩
  keeps := fun w h h' q k => ⟨fun a o e => k a o (q.1 a o e), q.2.1.imp fun mg r => ⟨r.1.keeps k, r.2⟩, fun p hp => (q.2.2 p hp).keeps k⟩
/-- the object of a def -/
def fo (p : Program) (i : Nat) (dV kV pm : Value) (cd : Addr) : Obj := match p.main.body[i]? with
  | some (.FunctionDef name args body _ _ _ scope _ _ _) => { cls := .type "function", data := .func (fnOf name name args body scope dV kV .none pm none (.ref cd) .none) }
  | _ => { cls := .none, data := .plain }
end Mine
namespace Mine
/-- what the top of a law leaves -/
structure Bs (g : Gc) (I : HI) : Prop where
  S : HSays I g.w g.base
  nl : g.base.NoLimit
  bn : ∃ mb, g.base.Ns builtinsNs mb ∧ ∀ x : Str, x ≠ "__name__" → mb x = bootBuiltins x
section
variable {g : Gc} {I : HI} (B : Bs g I)
include B
theorem Bs.fn {x : Str} {X : V} {v : Value} (j : Nat) (e : I.gt[j]? = some (x, some v)) (r : VR g.base (fun a => ∃ o, g.base.get? a = some o) [] v X) : Glb g x X := by
  obtain ⟨mg, h1, h2⟩ := B.S.2.1
  obtain ⟨mb, h3, _⟩ := B.bn
  exact ⟨v, mg, mb, h1, h3, .inl (h2 _ (List.mem_of_getElem? e)), r⟩
theorem Bs.bi {x : Str} {X : V} (v : Value) (j : Nat) (e : I.gt[j]? = some (x, none)) (hb : bootBuiltins x = some v) (hx : (x == ("__name__" : Str)) = false) (r : VR g.base (fun a => ∃ o, g.base.get? a = some o) [] v X) : Glb g x X := by
  obtain ⟨mg, h1, h2⟩ := B.S.2.1
  obtain ⟨mb, h3, h4⟩ := B.bn
  exact ⟨v, mg, mb, h1, h3, .inr ⟨h2 _ (List.mem_of_getElem? e), by rw [h4 x (by simpa using hx), hb]⟩, r⟩
theorem Bs.code {c : Addr} {q : Str} (j : Nat) (e : I.cs[j]? = some (c, q)) : g.base.CodeRec (.ref c) q := B.S.2.2 _ (List.mem_of_getElem? e)
end
theorem bind1 {g : Gc} {fd : FuncData} {p : Str} {x : V} (h : ∀ (s : Shared) v, BindsTo s fd ⟨[v], []⟩ [(p, v)]) : ∀ s vs kvs G O, g.base.StaysIn s.heap → VRs s.heap G O vs [x] → VRs s.heap G O kvs ((([] : List (Str × V))).map (·.2)) → ∃ bvs, BindsTo s fd ⟨vs, ((([] : List (Str × V))).map (·.1)).zip kvs⟩ ([p].zip bvs) ∧ VRs s.heap G O bvs [x] := by
  intro s vs kvs G O hs hv hk
  obtain ⟨v, us, rfl, h1, h2⟩ := hv.invC
  obtain rfl := h2.inv0
  exact ⟨[v], h s v, hv⟩
theorem bind2 {g : Gc} {fd : FuncData} {p q : Str} {x y : V} (h : ∀ (s : Shared) v u, BindsTo s fd ⟨[v, u], []⟩ [(p, v), (q, u)]) : ∀ s vs kvs G O, g.base.StaysIn s.heap → VRs s.heap G O vs [x, y] → VRs s.heap G O kvs ((([] : List (Str × V))).map (·.2)) → ∃ bvs, BindsTo s fd ⟨vs, ((([] : List (Str × V))).map (·.1)).zip kvs⟩ ([p, q].zip bvs) ∧ VRs s.heap G O bvs [x, y] := by
  intro s vs kvs G O hs hv hk
  obtain ⟨v, us, rfl, h1, h2⟩ := hv.invC
  obtain ⟨u, us, rfl, h3, h4⟩ := h2.invC
  obtain rfl := h4.inv0
  exact ⟨[v, u], h s v u, hv⟩
end Mine
namespace Mine
def isFnIn (K : Frag) (a : Addr) : Bool := match K.lookup a with
  | some o => match o.data with
    | .func _ => true
    | _ => false
  | none => false
theorem Bs.isF {g : Gc} {I : HI} (B : Bs g I) {a : Addr} (e : isFnIn (I.objs g.w.params) a = true) : IsFn g a := by
  unfold isFnIn at e
  cases hl : (I.objs g.w.params).lookup a with
  | none => rw [hl] at e; cases e
  | some o =>
    rw [hl] at e
    cases hd : o.data with
    | func fd => exact ⟨o, fd, B.S.1 _ _ hl, hd⟩
    | _ => simp only [hd] at e; cases e
def tBl (e : Expr) : Cx → AS → (Bool → AS → Prop) → Prop := fun c σ P => EB c e σ P
def tS (ss : List Stmt) : Cx → AS → (Fl → AS → Prop) → Prop := fun c σ P => XS c ss σ P
def tChain (op₁ op₂ : CmpOp) (T₁ : Cx → AS → (V → AS → Prop) → Prop) (T₂ : Cx → AS → (V → AS → Prop) → Prop) (T₃ : Cx → AS → (V → AS → Prop) → Prop) : Cx → AS → (Bool → AS → Prop) → Prop := fun c σ P => T₁ c σ fun x σ₁ => T₂ c σ₁ fun y σ₂ => cop c op₁ x y σ₂ fun z σ₃ => tru c z σ₃ fun b σ₄ => cond b (T₃ c σ₄ fun u σ₅ => cop c op₂ y u σ₅ fun z σ₆ => tru c z σ₆ P) (P false σ₄)
section
variable {c : Cx}
theorem SB.leaf {e : Expr} : SB c e (tBl e) := fun _ _ h => h
theorem SS.leaf {ss : List Stmt} : SS c ss (tS ss) := fun _ _ h => h
theorem B1.mono {f : Value → Sem Bool} {x : V} {σ : AS} {P P' : Bool → AS → Prop} (h : B1 c f x σ P) (k : ∀ x σ', P x σ' → P' x σ') : B1 c f x σ P' := by
  intro s G O v R h1
  exact wpAny_mono (h s G O v R h1) (fun v s' ⟨σ', G', O', p, r⟩ => ⟨σ', G', O', k _ _ p, r⟩) fun _ _ e => e
theorem SB.chain {l r₁ r₂ : Expr} {op₁ op₂ : CmpOp} {pos : Pos} {T₁ T₂ T₃ : Cx → AS → (V → AS → Prop) → Prop} (h₁ : SE c l T₁) (h₂ : SE c r₁ T₂) (h₃ : SE c r₂ T₃) (hm : lastMarks [op₁, op₂] [r₁, r₂] = false) :
    SB c (.Compare l [op₁, op₂] [r₁, r₂] pos) (tChain op₁ op₂ T₁ T₂ T₃) :=
  fun _ _ h => EB_chain (TV.mono (h₁ _ _ h) fun _ _ h => TV.mono (h₂ _ _ h) fun _ _ h => (cop_ok h).mono fun _ _ h => (tru_ok h).mono fun b _ h => ⟨fun e => by subst e; exact TV.mono (h₃ _ _ h) fun _ _ h => (cop_ok h).mono fun _ _ h => tru_ok h, fun e => by subst e; exact h⟩) hm
end
end Mine
namespace Mine
theorem cd {b : Bool} {X Y : Prop} (h1 : b = true → X) (h2 : b = false → Y) : cond b X Y := by cases b with
  | true => exact h1 rfl
  | false => exact h2 rfl
/-! ## bodies whose lists may be frozen between the statements -/
def SF (c : Cx) (ss : List Stmt) (T : Cx → AS → (Fl → AS → Prop) → Prop) : Prop := ∀ σ P, T c σ P → XF c ss σ P
section
variable {c : Cx}
theorem SF.of {ss : List Stmt} {T : Cx → AS → (Fl → AS → Prop) → Prop} (h : SS c ss T) : SF c ss T := fun _ _ k => XF_of (h _ _ k)
end
/-! ## a def's contract by its transformer, over any context -/
structure Hc (c : Cx) (g : Gc) (d : Nat) : Prop where
  ok : Ok c
  g : c.g = g
  E : c.E = fun _ _ => False
  d : c.A.depth + d ≤ 501
  hx : c.hx = false
theorem fn_go {g : Gc} {f : Addr} (d : Nat) {xs bxs : List V} {kw : List (Str × V)} {P : V → Prop} {fd : FuncData} {body : List Stmt} {scope : Scope} {qual : Str} {cdv : Value} {ps ls : List Str} {gls : List (Str × V)} (K : FnOk g f fd body scope qual cdv ps ls gls) (hgl : AllG g gls)
    (hbind : ∀ s vs kvs G O, g.base.StaysIn s.heap → VRs s.heap G O vs xs → VRs s.heap G O kvs (kw.map (·.2)) → ∃ bvs, BindsTo s fd ⟨vs, (kw.map (·.1)).zip kvs⟩ (ps.zip bvs) ∧ VRs s.heap G O bvs bxs)
    (hlen : ps.length = bxs.length) (hlow : V.lows 0 bxs = true) {names : List Str} {vars₀ : List (Option V)} (hnm : ps ++ ls = names) (hvr : (bxs.map some ++ ls.map fun _ => none) = vars₀)
    {T : Cx → AS → (Fl → AS → Prop) → Prop} (hS : ∀ A he G₀ outer L, Ok (fcx g A he G₀ outer L f scope qual cdv names gls) → SF (fcx g A he G₀ outer L f scope qual cdv names gls) body T)
    (hT : ∀ c, Hc c g d → T c { vars := vars₀, own := [] } (FnPost P)) (hd1 : 1 ≤ d) : Fn g f d xs kw P :=
  fn_intro K hgl hbind hlen hlow hnm hvr (fun A he G₀ outer L ok hd => hS A he G₀ outer L ok _ _ (hT _ ⟨ok, rfl, rfl, by show A.depth + 1 + d ≤ 501; omega, rfl⟩)) hd1
theorem CLf {c : Cx} {σ : AS} {P : V → AS → Prop} {g : Gc} {d d' : Nat} {a : Addr} {xs : List V} {kw : List (Str × V)} {P₀ : V → Prop} (H : Hc c g d) (h : Fn g a d' xs kw P₀) (k : ∀ X, P₀ X → P X σ) (hd : d' + 1 ≤ d := by decide) : CL c (.fn a) xs kw σ P :=
  CL_fn H.ok (H.g ▸ h) (by have := H.d; omega) k H.hx
/-! ## while, turn by turn -/
def WhT (TT : AS → (Bool → AS → Prop) → Prop) (B E : AS → (Fl → AS → Prop) → Prop) : Nat → AS → (Fl → AS → Prop) → Prop
  | 0, _, _ => False
  | n + 1, σ, P => TT σ fun b σ₁ => cond b (B σ₁ fun f σ₂ => match f with
      | .brk => P .next σ₂
      | .ret v => P (.ret v) σ₂
      | _ => WhT TT B E n σ₂ P) (E σ₁ P)
def tWh (TT : Cx → AS → (Bool → AS → Prop) → Prop) (B E : Cx → AS → (Fl → AS → Prop) → Prop) : Cx → AS → (Fl → AS → Prop) → Prop := fun c σ P => ∃ n, WhT (TT c) (B c) (E c) n σ P
theorem SX.wh {c : Cx} (hE : c.E = fun _ _ => False) {test : Expr} {body orelse : List Stmt} {pos : Pos} {TT : Cx → AS → (Bool → AS → Prop) → Prop} {B E : Cx → AS → (Fl → AS → Prop) → Prop} (ht : SB c test TT) (hb : SS c body B) (he : SS c orelse E) : SX c (.While test body orelse pos) (tWh TT B E) := by
  rintro σ P ⟨n, h⟩
  refine EX_while hE (fun n σ => WhT (TT c) (B c) (E c) n σ P) n h fun n σ hI => ?_
  cases n with
  | zero => exact hI.elim
  | succ n =>
    refine TB.mono (ht _ _ hI) fun b σ₁ hb' => ⟨fun e => ?_, fun e => ?_⟩
    · subst e
      exact TF.mono (hb _ _ hb') fun f σ₂ h => match f, h with | .next, h => ⟨n, Nat.lt_succ_self n, h⟩ | .cont, h => ⟨n, Nat.lt_succ_self n, h⟩ | .brk, h => h | .ret _, h => h
    · subst e; exact he _ _ hb'
/-! ## comprehensions -/
theorem SE.capv {c : Cx} (ok : Ok c) {x : Str} {X : V} {pos : Pos} (j : Nat) (hx : c.cap[j]? = some (x, X)) (hd : (x == ("__debug__" : Str)) = false) : SE c (.Name x pos) (tV X) := SE.capt ok (List.mem_of_getElem? hx) hd
inductive CapSrc where
  | loc (k : Nat)
  | cap (X : V)
def capGet (vars : List (Option V)) : List (Str × CapSrc) → (List V → Prop) → Prop
  | [], K => K []
  | (_, .loc k) :: r, K => vget vars k fun X => V.low 0 X = true ∧ capGet vars r fun l => K (X :: l)
  | (_, .cap X) :: r, K => capGet vars r fun l => K (X :: l)
def mkcap : List (Str × CapSrc) → List V → List (Str × V)
  | [], _ => []
  | (x, _) :: r, vs => (x, vs.headD .none) :: mkcap r vs.tail
def CapSt (c : Cx) (scope : Scope) (cl : List (Str × Addr)) : List (Str × CapSrc) → Prop
  | [] => True
  | (x, s) :: r => (match s with | .loc k => c.names[k]? = some x | .cap X => (x, X) ∈ c.cap) ∧ c.env.kindOf x = some .cell ∧ ((cl.lookup x).isSome = true ∧ c.env.cells.lookup x = cl.lookup x) ∧ scope.names.lookup x = some .free ∧ CapSt c scope cl r
theorem capGet_ok {c : Cx} {σ : AS} {scope : Scope} {cl : List (Str × Addr)} : ∀ {caps : List (Str × CapSrc)} {K : List V → Prop}, CapSt c scope cl caps → capGet σ.vars caps K → ∃ vs, CapOK c σ scope cl (mkcap caps vs) ∧ K vs
  | [], _, _, h => ⟨[], .nil, h⟩
  | (x, .loc k) :: r, _, ⟨h1, h2, ⟨h3, h4⟩, h5, h6⟩, h => by
    obtain ⟨a, h3⟩ := Option.isSome_iff_exists.mp h3
    obtain ⟨X, hv, hl, h⟩ := vget_ok h
    obtain ⟨vs, hc, hk⟩ := capGet_ok h6 h
    exact ⟨X :: vs, .var (At.of_get h1) hv h2 hl (h4.trans h3) h3 h5 hc, hk⟩
  | (x, .cap X) :: r, _, ⟨h1, h2, ⟨h3, h4⟩, h5, h6⟩, h => by
    obtain ⟨a, h3⟩ := Option.isSome_iff_exists.mp h3
    obtain ⟨vs, hc, hk⟩ := capGet_ok h6 h
    exact ⟨X :: vs, .cap h1 h2 (h4.trans h3) h3 h5 hc, hk⟩
def SIF (c : Cx) (ifs : List Expr) (F : Cx → AS → (Bool → AS → Prop) → Prop) : Prop := ∀ σ P, F c σ P → IFS c ifs σ P
theorem SIF.nil {c : Cx} : SIF c [] tAnd0 := fun _ _ h => h
theorem SIF.one {c : Cx} {e : Expr} {F : Cx → AS → (Bool → AS → Prop) → Prop} (h : SB c e F) : SIF c [e] F := fun _ _ k => h _ _ k
def CompT (A : V → AS → (AS → Prop) → Prop) (F : AS → (Bool → AS → Prop) → Prop) (T : AS → (V → AS → Prop) → Prop) : List V → AS → (List V → Prop) → Prop
  | [], σ, P => ∃ ys, σ.own = [ys] ∧ V.lows 0 ys = true ∧ P ys
  | x :: xs, σ, P => A x σ fun σ₁ => F σ₁ fun b σ₂ => cond b (T σ₂ fun y σ₃ => ∃ ys, σ₃.own = [ys] ∧ ys.length ≤ 1000000 ∧ CompT A F T xs { σ₃ with own := [ys ++ [y]] } P) (σ₂.own.length = 1 ∧ CompT A F T xs σ₂ P)
theorem CompT.ok {c : Cx} {asg : V → AS → (AS → Prop) → Prop} (am : ∀ x σ K K', asg x σ K → (∀ σ, K σ → K' σ) → asg x σ K') {ifs : List Expr} {elt : Expr} {A : V → AS → (AS → Prop) → Prop} {F : Cx → AS → (Bool → AS → Prop) → Prop} {T : Cx → AS → (V → AS → Prop) → Prop}
    (ha : ∀ x σ K, A x σ K → asg x σ K) (hf : SIF c ifs F) (he : SE c elt T) (fm : ∀ σ (K K' : Bool → AS → Prop), IFS c ifs σ K → (∀ b σ, K b σ → K' b σ) → IFS c ifs σ K') {P : List V → Prop} : ∀ {xs : List V} {σ : AS}, CompT A (F c) (T c) xs σ P → CompL c asg ifs elt xs σ P
  | [], _, h => h
  | _ :: _, _, h => am _ _ _ _ (ha _ _ _ h) fun _ h => fm _ _ _ (hf _ _ h) fun b _ h => ⟨fun e => by
      subst e
      exact TV.mono (he _ _ h) fun _ _ ⟨ys, h1, h2, h3⟩ => ⟨ys, h1, h2, CompT.ok am ha hf he fm h3⟩, fun e => by
      subst e
      exact ⟨h.1, CompT.ok am ha hf he fm h.2⟩⟩
theorem IFS.mono {c : Cx} {ifs : List Expr} {σ : AS} {K K' : Bool → AS → Prop} (h : IFS c ifs σ K) (k : ∀ b σ, K b σ → K' b σ) : IFS c ifs σ K' := by
  match ifs, h with
  | [], h => exact k _ _ h
  | [e], h => exact TB.mono h k
  | _ :: _ :: _, h => exact h.elim
theorem CompL.mono {c : Cx} {target : Expr} {ifs : List Expr} {elt : Expr} {P P' : List V → Prop} (k : ∀ ys, P ys → P' ys) : ∀ {xs : List V} {σ : AS}, CompL c (AN c target) ifs elt xs σ P → CompL c (AN c target) ifs elt xs σ P'
  | [], _, ⟨ys, h1, h2, h3⟩ => ⟨ys, h1, h2, k _ h3⟩
  | _ :: _, _, h => AN.mono h fun _ h => IFS.mono h fun b _ h => ⟨fun e => TV.mono (h.1 e) fun _ _ ⟨ys, h1, h2, h3⟩ => ⟨ys, h1, h2, CompL.mono k h3⟩, fun e => ⟨(h.2 e).1, CompL.mono k (h.2 e).2⟩⟩
/-- what a comprehension's list must answer -/
def compT (target : Expr) (n : Nat) (caps : List (Str × CapSrc)) (TI : Cx → AS → (V → AS → Prop) → Prop) (A : List V → Cx → V → AS → (AS → Prop) → Prop) (F : List V → Cx → AS → (Bool → AS → Prop) → Prop) (T : List V → Cx → AS → (V → AS → Prop) → Prop) (c : Cx) (σ : AS) (P : List V → AS → Prop) : Prop :=
  TI c σ fun X σ₁ => ∃ xs, IterC c target X xs σ₁ ∧ capGet σ₁.vars caps fun vs => ∀ c', Ok c' → c'.g = c.g → c'.A = c.A → (c'.E = fun _ _ => False) → c'.hx = false → CompT (A vs c') (F vs c') (T vs c') xs { vars := List.replicate n none, own := [[]] } fun ys => P ys σ₁
def tCmpr (target : Expr) (n : Nat) (caps : List (Str × CapSrc)) (TI : Cx → AS → (V → AS → Prop) → Prop) (A : List V → Cx → V → AS → (AS → Prop) → Prop) (F : List V → Cx → AS → (Bool → AS → Prop) → Prop) (T : List V → Cx → AS → (V → AS → Prop) → Prop) : Cx → AS → (V → AS → Prop) → Prop :=
  fun c σ P => compT target n caps TI A F T c σ fun ys σ₁ => P (.list ys) σ₁
def tACmpr (k : Nat) (target : Expr) (n : Nat) (caps : List (Str × CapSrc)) (TI : Cx → AS → (V → AS → Prop) → Prop) (A : List V → Cx → V → AS → (AS → Prop) → Prop) (F : List V → Cx → AS → (Bool → AS → Prop) → Prop) (T : List V → Cx → AS → (V → AS → Prop) → Prop) : Cx → AS → (Fl → AS → Prop) → Prop :=
  fun c σ P => compT target n caps TI A F T c σ fun ys σ₁ => vput σ₁.vars k (.list ys) fun l => P .next { σ₁ with vars := l }
structure SCm (c : Cx) (target : Expr) (ifs : List Expr) (elt : Expr) (A : Cx → V → AS → (AS → Prop) → Prop) (F : Cx → AS → (Bool → AS → Prop) → Prop) (T : Cx → AS → (V → AS → Prop) → Prop) : Prop where
  a : SA c target A
  f : SIF c ifs F
  t : SE c elt T
section
variable {c : Cx} {target iter elt : Expr} {ifs : List Expr} {scope : Scope} {pos : Pos} {cl : List (Str × Addr)} {TI : Cx → AS → (V → AS → Prop) → Prop} {A : List V → Cx → V → AS → (AS → Prop) → Prop} {F : List V → Cx → AS → (Bool → AS → Prop) → Prop} {T : List V → Cx → AS → (V → AS → Prop) → Prop}
theorem SE.cmpr (ok : Ok c) (hE : c.E = fun _ _ => False) (names : List Str) (gls : List (Str × V)) (hgl : AllG c.g gls) (caps : List (Str × CapSrc)) (hi : SE c iter TI)
    (hs : ∀ vs he G₀ C, Ok (ccx c he G₀ C scope cl names (mkcap caps vs) gls) → SCm (ccx c he G₀ C scope cl names (mkcap caps vs) gls) target ifs elt (A vs) (F vs) (T vs))
    (hclos : closureFor scope c.env = pure cl) (hcap : CapSt c scope cl caps) (hchk : compChk scope names gls = true) (hf : ∀ x, foldedSetIterable iter c.env x = pure x) (hx : c.hx = false := by first | rfl | assumption) :
    SE c (.ListComp elt [⟨target, iter, ifs, 0⟩] scope pos) (tCmpr target names.length caps TI A F T) :=
  fun _ _ h => EV_comp ok hE names gls hgl (List.replicate names.length none) (TV.mono (hi _ _ h) fun _ _ ⟨xs, h1, h2⟩ => by
    obtain ⟨vs, hc, h2⟩ := capGet_ok hcap h2
    exact ⟨xs, mkcap caps vs, h1, hc, fun he G₀ C okc => CompT.ok (asg := AN (ccx c he G₀ C scope cl names (mkcap caps vs) gls) target) (fun _ _ _ _ h k => AN.mono h k) (hs vs he G₀ C okc).a (hs vs he G₀ C okc).f (hs vs he G₀ C okc).t (fun _ _ _ h k => IFS.mono h k) (h2 _ okc rfl rfl rfl rfl)⟩) hchk hclos (fun x hx => (List.mem_replicate.mp hx).2) hf
theorem SX.acmpr (ok : Ok c) (hE : c.E = fun _ _ => False) {z : Str} {pz spos : Pos} (k : Nat) (hz : c.names[k]? = some z) (names : List Str) (gls : List (Str × V)) (hgl : AllG c.g gls) (caps : List (Str × CapSrc)) (hi : SE c iter TI)
    (hs : ∀ vs he G₀ C, Ok (ccx c he G₀ C scope cl names (mkcap caps vs) gls) → SCm (ccx c he G₀ C scope cl names (mkcap caps vs) gls) target ifs elt (A vs) (F vs) (T vs))
    (hclos : closureFor scope c.env = pure cl) (hcap : CapSt c scope cl caps) (hchk : compChk scope names gls = true) (hf : ∀ x, foldedSetIterable iter c.env x = pure x)
    (hsw : swapsWith (.ListComp elt [⟨target, iter, ifs, 0⟩] scope pos) (some (.Name z pz)) spos.line c.env = pure true) (hx : c.hx = false := by first | rfl | assumption) :
    SX c (.Assign [.Name z pz] (.ListComp elt [⟨target, iter, ifs, 0⟩] scope pos) spos) (tACmpr k target names.length caps TI A F T) :=
  fun _ _ h => EX_assignComp ok hE names gls hgl (List.replicate names.length none) (At.of_get hz) (TV.mono (hi _ _ h) fun _ _ ⟨xs, h1, h2⟩ => by
    obtain ⟨vs, hc, h2⟩ := capGet_ok hcap h2
    exact ⟨xs, mkcap caps vs, h1, hc, fun he G₀ C okc => CompL.mono (fun ys hp => vput_ok hp) (CompT.ok (asg := AN (ccx c he G₀ C scope cl names (mkcap caps vs) gls) target) (fun _ _ _ _ h k => AN.mono h k) (hs vs he G₀ C okc).a (hs vs he G₀ C okc).f (hs vs he G₀ C okc).t (fun _ _ _ h k => IFS.mono h k) (h2 _ okc rfl rfl rfl rfl))⟩) hsw hchk hclos (fun x hx => (List.mem_replicate.mp hx).2) hf
end
/-! ## how a call's values meet the names -/
section
variable {g : Gc} {fd : FuncData}
theorem bind3 {p q r : Str} {x y z : V} (h : ∀ (s : Shared) v u t, BindsTo s fd ⟨[v, u, t], []⟩ [(p, v), (q, u), (r, t)]) : ∀ s vs kvs G O, g.base.StaysIn s.heap → VRs s.heap G O vs [x, y, z] → VRs s.heap G O kvs ((([] : List (Str × V))).map (·.2)) → ∃ bvs, BindsTo s fd ⟨vs, ((([] : List (Str × V))).map (·.1)).zip kvs⟩ ([p, q, r].zip bvs) ∧ VRs s.heap G O bvs [x, y, z] := by
  intro s vs kvs G O hs hv hk
  obtain ⟨v, us, rfl, h1, h2⟩ := hv.invC
  obtain ⟨u, us, rfl, h3, h4⟩ := h2.invC
  obtain ⟨t, us, rfl, h5, h6⟩ := h4.invC
  obtain rfl := h6.inv0
  exact ⟨[v, u, t], h s v u t, hv⟩
theorem bindK {p q : Str} {x y : V} (h : ∀ (s : Shared) v u, BindsTo s fd ⟨[v], [(q, u)]⟩ [(p, v), (q, u)]) : ∀ s vs kvs G O, g.base.StaysIn s.heap → VRs s.heap G O vs [x] → VRs s.heap G O kvs (([(q, y)] : List (Str × V)).map (·.2)) → ∃ bvs, BindsTo s fd ⟨vs, (([(q, y)] : List (Str × V)).map (·.1)).zip kvs⟩ ([p, q].zip bvs) ∧ VRs s.heap G O bvs [x, y] := by
  intro s vs kvs G O hs hv hk
  obtain ⟨v, us, rfl, h1, h2⟩ := hv.invC
  obtain rfl := h2.inv0
  obtain ⟨u, us, rfl, h3, h4⟩ := hk.invC
  obtain rfl := h4.inv0
  exact ⟨[v, u], h s v u, .cons h1 (.cons h3 .nil)⟩
theorem bindD1 {p q : Str} {x y : V} {d : Value} (hd : ∀ (h : Heap) (G : Addr → Prop) (O : List Addr), VR h G O d y) (h : ∀ (s : Shared) v, g.base.StaysIn s.heap → BindsTo s fd ⟨[v], []⟩ [(p, v), (q, d)]) : ∀ s vs kvs G O, g.base.StaysIn s.heap → VRs s.heap G O vs [x] → VRs s.heap G O kvs ((([] : List (Str × V))).map (·.2)) → ∃ bvs, BindsTo s fd ⟨vs, ((([] : List (Str × V))).map (·.1)).zip kvs⟩ ([p, q].zip bvs) ∧ VRs s.heap G O bvs [x, y] := by
  intro s vs kvs G O hs hv hk
  obtain ⟨v, us, rfl, h1, h2⟩ := hv.invC
  obtain rfl := h2.inv0
  exact ⟨[v, d], h s v hs, .cons h1 (.cons (hd _ _ _) .nil)⟩
theorem bindD2 {p q r : Str} {x y z : V} {d e : Value} (hd : ∀ (h : Heap) (G : Addr → Prop) (O : List Addr), VR h G O d y) (he : ∀ (h : Heap) (G : Addr → Prop) (O : List Addr), VR h G O e z) (h : ∀ (s : Shared) v, g.base.StaysIn s.heap → BindsTo s fd ⟨[v], []⟩ [(p, v), (q, d), (r, e)]) : ∀ s vs kvs G O, g.base.StaysIn s.heap → VRs s.heap G O vs [x] → VRs s.heap G O kvs ((([] : List (Str × V))).map (·.2)) → ∃ bvs, BindsTo s fd ⟨vs, ((([] : List (Str × V))).map (·.1)).zip kvs⟩ ([p, q, r].zip bvs) ∧ VRs s.heap G O bvs [x, y, z] := by
  intro s vs kvs G O hs hv hk
  obtain ⟨v, us, rfl, h1, h2⟩ := hv.invC
  obtain rfl := h2.inv0
  exact ⟨[v, d, e], h s v hs, .cons h1 (.cons (hd _ _ _) (.cons (he _ _ _) .nil))⟩
end
end Mine
namespace Mine
/-! ## bits -/
theorem nat_shl_and {m n k : Nat} (h : n < 2 ^ k) : (m * 2 ^ k) &&& n = 0 := by
  apply Nat.eq_of_testBit_eq
  intro i
  rw [Nat.testBit_and, Nat.zero_testBit]
  rcases Nat.lt_or_ge i k with q | q
  · rw [Nat.testBit_mul_two_pow]; simp [Nat.not_le.mpr q]
  · rw [Nat.testBit_lt_two_pow (Nat.lt_of_lt_of_le h (Nat.pow_le_pow_right (by decide) q))]; simp
theorem bitAnd_nat {a b : Int} (ha : 0 ≤ a) (hb : 0 ≤ b) : Builtin.bitAnd a b = ((a.toNat &&& b.toNat : Nat) : Int) := by
  unfold Builtin.bitAnd
  simp only [ha, hb, decide_true]
theorem bitOr_and (a b : Int) : Builtin.bitOr a b = a + b - Builtin.bitAnd a b := by
  have := bitXor_and a b
  unfold Builtin.bitXor at this
  omega
theorem bitOr_shl {a b : Int} (k : Nat) (ha : 0 ≤ a) (hb : 0 ≤ b) (h : b < 2 ^ k) : Builtin.bitOr (a * 2 ^ k) b = a * 2 ^ k + b := by
  rw [bitOr_and, bitAnd_nat (Int.mul_nonneg ha (Int.pow_nonneg (by decide))) hb]
  have e : (a * 2 ^ k).toNat = a.toNat * 2 ^ k := by
    obtain ⟨m, rfl⟩ := Int.eq_ofNat_of_zero_le ha
    have : ((m : Int) * 2 ^ k) = ((m * 2 ^ k : Nat) : Int) := by push_cast; rfl
    rw [this, Int.toNat_natCast, Int.toNat_natCast]
  have hb' : b.toNat < 2 ^ k := by
    obtain ⟨m, rfl⟩ := Int.eq_ofNat_of_zero_le hb
    have : ((m : Int)) < ((2 ^ k : Nat) : Int) := by push_cast; exact h
    rw [Int.toNat_natCast]; omega
  rw [e, nat_shl_and hb']; simp
/-! ## bytes -/
def InB (ns : List Int) : Prop := ∀ n ∈ ns, 0 ≤ n ∧ n < 256
theorem u8_back {n : Int} (h0 : 0 ≤ n) (h1 : n < 256) : (((n.toNat.toUInt8).toNat : Nat) : Int) = n := by
  have : n.toNat.toUInt8.toNat = n.toNat := by simp [Nat.toUInt8]; omega
  omega
theorem items_byteArr {ns : List Int} (h : InB ns) : bytesItems (byteArr ns) = vI ns := by
  unfold bytesItems byteArr vI
  rw [List.map_map]
  apply List.map_congr_left
  intro n hn
  have := h n hn
  show V.int _ = V.int n
  rw [show (((fun n : Int => n.toNat.toUInt8) n).toNat : Int) = n from u8_back this.1 this.2]
theorem byteArr_at {ns : List Int} (h : InB ns) (i : Nat) (hi : i < ns.length) : (((byteArr ns).toList.getD i 0).toNat : Int) = ns.getD i 0 := by
  unfold byteArr
  have e : ns[i]? = some ns[i] := List.getElem?_eq_getElem hi
  have := h _ (List.getElem_mem hi)
  simp only [List.getD_eq_getElem?_getD, List.getElem?_map, e, Option.map_some, Option.getD_some]
  exact u8_back this.1 this.2
/-! ## base 64 -/
def alph : Array UInt8 := List.toArray [65, 66, 67, 68, 69, 70, 71, 72, 73, 74, 75, 76, 77, 78, 79, 80, 81, 82, 83, 84, 85, 86, 87, 88, 89, 90, 97, 98, 99, 100, 101, 102, 103, 104, 105, 106, 107, 108, 109, 110, 111, 112, 113, 114, 115, 116, 117, 118, 119, 120, 121, 122, 48, 49, 50, 51, 52, 53, 54, 55, 56, 57, 43, 47]
def alphAt (n : Int) : Int := ((alph.toList.getD n.toNat 0).toNat : Int)
def bval (n : Int) : Int := if 65 ≤ n ∧ n ≤ 90 then n - 65 else if 97 ≤ n ∧ n ≤ 122 then n - 71 else if 48 ≤ n ∧ n ≤ 57 then n + 4 else if n = 43 then 62 else if n = 47 then 63 else 64
theorem bval_alphAt {n : Int} (h0 : 0 ≤ n) (h1 : n < 64) : bval (alphAt n) = n := by
  obtain ⟨m, rfl⟩ := Int.eq_ofNat_of_zero_le h0
  exact (by decide +kernel : ∀ m : Nat, m < 64 → bval (alphAt m) = m) m (by omega)
theorem alphAt_range (n : Int) : 0 ≤ alphAt n ∧ alphAt n < 256 := by
  unfold alphAt
  have := (alph.toList.getD n.toNat 0).toNat_lt
  omega
theorem alphAt_ne {n : Int} (h0 : 0 ≤ n) (h1 : n < 64) : alphAt n ≠ 61 := by
  obtain ⟨m, rfl⟩ := Int.eq_ofNat_of_zero_le h0
  exact (by decide +kernel : ∀ m : Nat, m < 64 → alphAt m ≠ 61) m (by omega)
def encs : List Int → List Int
  | x :: y :: z :: r => alphAt (x / 4) :: alphAt (x % 4 * 16 + y / 16) :: alphAt (y % 16 * 4 + z / 64) :: alphAt (z % 64) :: encs r
  | _ => []
def decs : List Int → List Int
  | a :: b :: c :: d :: r => (bval a * 4 + bval b / 16) :: (bval b % 16 * 16 + bval c / 4) :: (bval c % 4 * 64 + bval d) :: decs r
  | _ => []
def InS (ns : List Int) : Prop := ∀ n ∈ ns, (0 ≤ n ∧ n < 256) ∧ n ≠ 61 ∧ bval n < 64
theorem bval_nonneg (n : Int) : 0 ≤ bval n := by unfold bval; omega
theorem encs_len : ∀ (ns : List Int), ns.length % 3 = 0 → 3 * (encs ns).length = 4 * ns.length
  | [], _ => rfl
  | [_], h => by simp at h
  | [_, _], h => by simp at h
  | x :: y :: z :: r, h => by
    have := encs_len r (by simp at h; omega)
    simp only [encs, List.length_cons]; omega
theorem encs_in : ∀ (ns : List Int), InB (encs ns)
  | [] => fun _ h => nomatch h
  | [_] => fun _ h => nomatch h
  | [_, _] => fun _ h => nomatch h
  | x :: y :: z :: r => fun n h => by
    simp only [encs, List.mem_cons] at h
    rcases h with rfl | rfl | rfl | rfl | h
    · exact alphAt_range _
    · exact alphAt_range _
    · exact alphAt_range _
    · exact alphAt_range _
    · exact encs_in r n h
theorem decs_in : ∀ (ns : List Int), InS ns → InB (decs ns)
  | [], _ => fun _ h => nomatch h
  | [_], _ => fun _ h => nomatch h
  | [_, _], _ => fun _ h => nomatch h
  | [_, _, _], _ => fun _ h => nomatch h
  | a :: b :: c :: d :: r, hs => fun n h => by
    have ha := hs a (by simp); have hb := hs b (by simp); have hc := hs c (by simp); have hd := hs d (by simp)
    have := bval_nonneg a; have := bval_nonneg b; have := bval_nonneg c; have := bval_nonneg d
    simp only [decs, List.mem_cons] at h
    rcases h with rfl | rfl | rfl | h
    · omega
    · omega
    · omega
    · exact decs_in r (fun x hx => hs x (by simp [hx])) n h
theorem decs_len : ∀ (ns : List Int), ns.length % 4 = 0 → 4 * (decs ns).length = 3 * ns.length
  | [], _ => rfl
  | [_], h => by simp at h
  | [_, _], h => by simp at h
  | [_, _, _], h => by simp at h
  | a :: b :: c :: d :: r, h => by
    have := decs_len r (by simp at h; omega)
    simp only [decs, List.length_cons]; omega
/-! ## values of the library's defs -/
theorem cond_two {a b : Prop} [Decidable a] [Decidable b] {X Y : Prop} (h1 : a ∧ b → X) (h2 : ¬ (a ∧ b) → Y) : cond (decide a) (cond (decide b) X Y) Y := by
  by_cases ha : a
  · by_cases hb : b
    · simp only [ha, hb, decide_true, cond_true]; exact h1 ⟨ha, hb⟩
    · simp only [ha, hb, decide_true, decide_false, cond_true, cond_false]; exact h2 fun h => hb h.2
  · simp only [ha, decide_false, cond_false]; exact h2 fun h => ha h.1
theorem bval_vc (n : Int) (K : Int → Prop) (h : K (bval n)) : cond (decide (65 ≤ n)) (cond (decide (n ≤ 90)) (K (n - 65)) (cond (decide (97 ≤ n)) (cond (decide (n ≤ 122)) (K (n - 71)) (cond (decide (48 ≤ n)) (cond (decide (n ≤ 57)) (K (n + 4)) (cond (n == 43) (K 62) (cond (n == 47) (K 63) (K 64)))) (cond (n == 43) (K 62) (cond (n == 47) (K 63) (K 64)))))
    (cond (decide (48 ≤ n)) (cond (decide (n ≤ 57)) (K (n + 4)) (cond (n == 43) (K 62) (cond (n == 47) (K 63) (K 64)))) (cond (n == 43) (K 62) (cond (n == 47) (K 63) (K 64))))))
    (cond (decide (97 ≤ n)) (cond (decide (n ≤ 122)) (K (n - 71)) (cond (decide (48 ≤ n)) (cond (decide (n ≤ 57)) (K (n + 4)) (cond (n == 43) (K 62) (cond (n == 47) (K 63) (K 64)))) (cond (n == 43) (K 62) (cond (n == 47) (K 63) (K 64)))))
    (cond (decide (48 ≤ n)) (cond (decide (n ≤ 57)) (K (n + 4)) (cond (n == 43) (K 62) (cond (n == 47) (K 63) (K 64)))) (cond (n == 43) (K 62) (cond (n == 47) (K 63) (K 64))))) := by
  unfold bval at h
  refine cond_two (fun q => by rw [if_pos q] at h; exact h) fun q => ?_
  rw [if_neg q] at h
  refine cond_two (fun q => by rw [if_pos q] at h; exact h) fun q => ?_
  rw [if_neg q] at h
  refine cond_two (fun q => by rw [if_pos q] at h; exact h) fun q => ?_
  rw [if_neg q] at h
  by_cases e : n = 43
  · rw [if_pos e] at h; subst e; exact h
  · rw [if_neg e] at h
    rw [show (n == 43) = false by simpa using e]
    by_cases e : n = 47
    · rw [if_pos e] at h; subst e; exact h
    · rw [if_neg e] at h
      rw [show (n == 47) = false by simpa using e]; exact h
def row0 : List (Int × Str) := [(40960, "l"), (49152, "s"), (32768, "-"), (24576, "b"), (16384, "d"), (8192, "c"), (4096, "p")]
def rows9 : List (List (Int × Str)) := [[(256, "r")], [(128, "w")], [(2112, "s"), (2048, "S"), (64, "x")], [(32, "r")], [(16, "w")], [(1032, "s"), (1024, "S"), (8, "x")], [(4, "r")], [(2, "w")], [(513, "t"), (512, "T"), (1, "x")]]
def pairV (p : Int × Str) : V := .tup [.int p.1, .str p.2]
def rowV (r : List (Int × Str)) : V := .tup (r.map pairV)
/-- the sign of a row -/
def pick (p : Int → Bool) (d : Str) : List (Int × Str) → Str
  | [] => d
  | (b, c) :: r => cond (p b) c (pick p d r)
def fmS (m : Int) : List Str := pick (fun b => Builtin.bitAnd m 61440 == b) "?" row0 :: rows9.map (pick (fun b => Builtin.bitAnd m b == b) "-")
theorem pick_len {p : Int → Bool} {d : Str} (hd : d.length ≤ 1) : ∀ (r : List (Int × Str)), (∀ x ∈ r, x.2.length ≤ 1) → (pick p d r).length ≤ 1
  | [], _ => hd
  | (b, c) :: r, h => by
    show (cond (p b) c (pick p d r)).length ≤ 1
    cases p b with
    | true => exact h _ (.head _)
    | false => exact pick_len hd r fun x hx => h x (.tail _ hx)
theorem fm_len (m : Int) : ((fmS m).map (·.length)).sum + (fmS m).length * (Str.length "") ≤ 16777216 := by
  have e : (Str.length "") = 0 := by decide
  rw [e, Nat.mul_zero, Nat.add_zero]
  have h1 : ∀ x ∈ fmS m, x.length ≤ 1 := by
    intro x hx
    rcases List.mem_cons.mp hx with rfl | hx
    · exact pick_len (by decide) _ (by decide)
    · obtain ⟨r, hr, rfl⟩ := List.mem_map.mp hx
      exact pick_len (by decide) _ ((by decide : ∀ r ∈ rows9, ∀ x ∈ r, x.2.length ≤ 1) r hr)
  have h2 : (fmS m).length = 10 := rfl
  have : ∀ (l : List Str), (∀ x ∈ l, x.length ≤ 1) → (l.map (·.length)).sum ≤ l.length := by
    intro l
    induction l with
    | nil => intro _; exact Nat.le_refl _
    | cons a l ih =>
      intro h
      have := h a (.head _)
      have := ih fun x hx => h x (.tail _ hx)
      simp only [List.map_cons, List.sum_cons, List.length_cons]; omega
  have := this _ h1
  omega
def sg (m : Int) (i : Nat) (r : List (Int × Str)) : Str := if i = 0 then pick (fun b => Builtin.bitAnd m 61440 == b) "?" r else pick (fun b => Builtin.bitAnd m b == b) "-" r
def sgs (m : Int) : Nat → List (List (Int × Str)) → List Str
  | _, [] => []
  | i, r :: rs => sg m i r :: sgs m (i + 1) rs
theorem shl8 {lc x : Int} (h0 : 0 ≤ lc) (h1 : lc < 65536) (hx0 : 0 ≤ x) (hx1 : x < 256) : Builtin.bitAnd (Builtin.bitOr (lc * 2 ^ (8 : Int).toNat) x) 65535 = (lc * 256 + x) % 65536 := by
  rw [show ((8 : Int).toNat) = 8 from rfl, bitOr_shl 8 h0 hx0 (by omega), bitAnd_m16]
  omega
theorem vI_snoc (out : List Int) (n : Int) : vI out ++ [V.int n] = vI (out ++ [n]) := by simp [vI]
theorem lows_vI (m : Nat) (ns : List Int) : V.lows m (vI ns) = true := low_vI m ns
/-- a byte taken in -/
def s8 (lc x : Int) : Int := Builtin.bitAnd (Builtin.bitOr (lc * 2 ^ (8 : Int).toNat) x) 65535
theorem s8_range {lc x : Int} (h0 : 0 ≤ lc) (h1 : lc < 65536) (hx : 0 ≤ x ∧ x < 256) : 0 ≤ s8 lc x ∧ s8 lc x < 65536 := by
  unfold s8; rw [shl8 h0 h1 hx.1 hx.2]; omega
theorem sign1 {lc x : Int} (h0 : 0 ≤ lc) (h1 : lc < 65536) (hx : 0 ≤ x ∧ x < 256) : Builtin.bitAnd (s8 lc x / 2 ^ (2 : Int).toNat) 63 = x / 4 := by
  unfold s8; rw [shl8 h0 h1 hx.1 hx.2, bitAnd_m6, show (2 : Int) ^ (2 : Int).toNat = 4 from rfl]; omega
theorem sign2 {lc x y : Int} (h0 : 0 ≤ lc) (h1 : lc < 65536) (hx : 0 ≤ x ∧ x < 256) (hy : 0 ≤ y ∧ y < 256) : Builtin.bitAnd (s8 (s8 lc x) y / 2 ^ (4 : Int).toNat) 63 = x % 4 * 16 + y / 16 := by
  have b := s8_range h0 h1 hx
  have e : s8 lc x = (lc * 256 + x) % 65536 := shl8 h0 h1 hx.1 hx.2
  generalize s8 lc x = l at b e
  unfold s8; rw [shl8 b.1 b.2 hy.1 hy.2, bitAnd_m6, show (2 : Int) ^ (4 : Int).toNat = 16 from rfl]; omega
theorem sign3 {lc y z : Int} (h0 : 0 ≤ lc) (h1 : lc < 65536) (hy : 0 ≤ y ∧ y < 256) (hz : 0 ≤ z ∧ z < 256) : Builtin.bitAnd (s8 (s8 lc y) z / 2 ^ (6 : Int).toNat) 63 = y % 16 * 4 + z / 64 := by
  have b := s8_range h0 h1 hy
  have e : s8 lc y = (lc * 256 + y) % 65536 := shl8 h0 h1 hy.1 hy.2
  generalize s8 lc y = l at b e
  unfold s8; rw [shl8 b.1 b.2 hz.1 hz.2, bitAnd_m6, show (2 : Int) ^ (6 : Int).toNat = 64 from rfl]; omega
theorem sign4 {lc z : Int} (h0 : 0 ≤ lc) (h1 : lc < 65536) (hz : 0 ≤ z ∧ z < 256) : Builtin.bitAnd (s8 lc z / 2 ^ (0 : Int).toNat) 63 = z % 64 := by
  unfold s8; rw [shl8 h0 h1 hz.1 hz.2, bitAnd_m6, show (2 : Int) ^ (0 : Int).toNat = 1 from rfl]; omega
theorem three_rec {α : Type} {P : List α → Prop} (nil : P []) (one : ∀ a, P [a]) (two : ∀ a b, P [a, b]) (cons : ∀ x y z q, P q → P (x :: y :: z :: q)) : ∀ q, P q
  | [] => nil
  | [a] => one a
  | [a, b] => two a b
  | x :: y :: z :: q => cons x y z q (three_rec nil one two cons q)
theorem four_rec {α : Type} {P : List α → Prop} (nil : P []) (one : ∀ a, P [a]) (two : ∀ a b, P [a, b]) (three : ∀ a b c, P [a, b, c]) (cons : ∀ x y z u q, P q → P (x :: y :: z :: u :: q)) : ∀ q, P q
  | [] => nil
  | [a] => one a
  | [a, b] => two a b
  | [a, b, c] => three a b c
  | x :: y :: z :: u :: q => cons x y z u q (four_rec nil one two three cons q)
theorem oct1 {a b : Int} (ha : 0 ≤ a) (hb : 0 ≤ b) (wb : b < 64) : Builtin.bitOr (a * 2 ^ (2 : Int).toNat) (b / 2 ^ (4 : Int).toNat) = a * 4 + b / 16 := by
  rw [show (2 : Int) ^ (4 : Int).toNat = 16 from rfl, show ((2 : Int).toNat) = 2 from rfl, bitOr_shl 2 ha (by omega) (by omega)]; omega
theorem oct2 {a b : Int} (ha : 0 ≤ a) (hb : 0 ≤ b) (wb : b < 64) : Builtin.bitOr (Builtin.bitAnd a 15 * 2 ^ (4 : Int).toNat) (b / 2 ^ (2 : Int).toNat) = a % 16 * 16 + b / 4 := by
  rw [show (2 : Int) ^ (2 : Int).toNat = 4 from rfl, show ((4 : Int).toNat) = 4 from rfl, bitAnd_m4, bitOr_shl 4 (by omega) (by omega) (by omega)]; omega
theorem oct3 {a b : Int} (ha : 0 ≤ a) (hb : 0 ≤ b) (wb : b < 64) : Builtin.bitOr (Builtin.bitAnd a 3 * 2 ^ (6 : Int).toNat) b = a % 4 * 64 + b := by
  rw [show ((6 : Int).toNat) = 6 from rfl, bitAnd_m2, bitOr_shl 6 (by omega) (by omega) (by omega)]; omega
end Mine
namespace Mine
/-! ## an exception that flies -/
/-- no one's -/
def Frr (c : Cx) (h₀ : Heap) (G : Addr → Prop) (O : List Addr) (a : Addr) : Prop := ¬ G a ∧ a ∉ O ∧ a ∉ c.priv ∧ c.he.get? a = none ∧ h₀.get? a = none
def XNew (h : Heap) (e : Addr) (cx : Value) : Prop := ∃ o vs, h.get? e = some o ∧ o.cls = .type "IndexError" ∧ o.data = .fields vs ∧ vs.size = 6 ∧ vs[1]? = some .none ∧ vs[2]? = some cx
def XTr (c : Cx) (h₀ h : Heap) (G : Addr → Prop) (O : List Addr) (e : Addr) (cx fl : Value) : Prop :=
  ∃ o vs T oT ts, h.get? e = some o ∧ o.cls = .type "IndexError" ∧ o.data = .fields vs ∧ vs.size = 6 ∧ vs[1]? = some (.ref T) ∧ vs[2]? = some cx ∧ T ≠ e ∧ Frr c h₀ G O T ∧ h.get? T = some oT ∧ oT.data = .fields ts ∧ ts[3]? = some fl
def Xn (c : Cx) (h₀ h : Heap) (G : Addr → Prop) (O : List Addr) (e : Addr) (cx : Value) (L : Addr) : Prop := Frr c h₀ G O e ∧ (XNew h e cx ∨ XTr c h₀ h G O e cx (rawInt L))
section
variable {c : Cx} {σ : AS} {s₀ s : Shared} {G₀ G : Addr → Prop} {O₀ O : List Addr} {e : Addr} {cx : Value} {L : Addr}
theorem foreign (ok : Ok c) (R : Rl c σ s G O) (Lq : Le c s₀ G₀ O₀ s G O) {h' : Heap} (D : Addr → Prop) (hD : ∀ b, D b → Frr c s₀.heap G O b)
    (k : ∀ b o, ¬ D b → s.heap.get? b = some o → (∃ sl, h'.get? b = some { o with slots := sl }) ∧ (b ∉ (c.fenv :: c.outer).filterMap (·.frame) → h'.get? b = some o)) :
    Rl c σ { s with heap := h' } G O ∧ Le c s₀ G₀ O₀ { s with heap := h' } G O := by
  have ke : Ke (fun b => ¬ D b) s.heap h' := fun b nb o ho => ⟨(k b o nb ho).1, fun nd => (k b o nb ho).2 fun hm => by
    obtain ⟨o', h1, h2⟩ := R.fdk b hm
    rw [ho] at h1; cases h1; exact nd h2⟩
  have hb : c.g.base.StaysIn h' := fun b o ho => (k b o (fun d => (hD b d).1 (R.g0 b (ok.bg b o ho))) (R.base b o ho)).2 fun hm => by
    have := (R.frames.mem hm).1
    rw [ho] at this; cases this
  refine ⟨R.keep (tk := s.toks) D ke hb (fun b d => ⟨(hD b d).1, (hD b d).2.2.2.1, (hD b d).2.2.1, (hD b d).2.1⟩) ok (fun _ q => q) fun _ q => .inl q, Lq.toLeS.move (tk := s.toks) D ke (fun b d => .inr (.inr (hD b d).2.2.2.2)) (fun b d q => absurd q fun q => q.elim (hD b d).2.2.1 (hD b d).2.1) (fun _ q => q) (fun _ q => .inl q) fun _ q => .inl q, Lq.o⟩
theorem note_x (ok : Ok c) (hev : c.fenv = c.env) (hf : c.env.frame = some L) (R : Rl c σ s G O) (Lq : Le c s₀ G₀ O₀ s G O) (X : Xn c s₀.heap s.heap G O e cx L) {A' : Around} (hA : A'.frames = c.A.frames) {E : Value → Shared → Prop} {Q : Unit → Shared → Prop}
    (k : ∀ s', Rl c σ s' G O → Le c s₀ G₀ O₀ s' G O → Frr c s₀.heap G O e → XTr c s₀.heap s'.heap G O e cx (rawInt L) → Q () s') : wpAny c.M A' (noteFrame (.ref e) c.env) Q E s := by
  obtain ⟨fe, hn | ht⟩ := X
  · obtain ⟨o, vs, he, hcl, hd, hsz, h1, h2⟩ := hn
    have hfr : A'.frames = some (c.env :: c.outer) := by rw [hA, ok.fr, hev]
    have hl : s.heap.FunFrames c.g.base (c.env :: c.outer) := hev ▸ R.frames
    have hene : e ∉ (c.env :: c.outer).filterMap (·.frame) := fun hm => by
      obtain ⟨o', ho', hdk⟩ := R.fdk e (hev.symm ▸ hm)
      rw [he] at ho'; cases ho'
      exact Dk.no hd (fun _ _ q => by cases q) hdk
    unfold noteFrame
    simp only [hf]
    refine wpAny_bind (wpAny_field he hd h1 ?_)
    rw [if_neg (by decide)]
    refine wpAny_bind (wpAny_frameOf_fun hfr hl hf fun h₁ hs₁ => ?_)
    refine wpAny_bind (wpAny_entryPlaceOf fun pl hpl => ?_)
    unfold EntryCells.newEntry newFields
    refine wpAny_bind (wpAny_newObj_type ?_ (hpl.sizeOk5 _ _ _ _ _))
    have he₁ : h₁.get? e = some o := (hs₁.2.1 e hene).trans he
    have he₂ := Heap.get?_push_of_some (h := h₁) { cls := .type "traceback", dict := none, data := .fields ([Value.none, .ref L, .none, rawInt L, .none] ++ (if pl.isEmpty then List.replicate 6 Value.none else pl)).toArray } he₁
    refine wpAny_setField he₂ hd (by rw [hsz]; decide) ?_
    have hTe : h₁.objs.size ≠ e := Nat.ne_of_gt (Heap.lt_size he₁)
    have hd₃ := Obj.data_mapFields hd (·.setIfInBounds 1 (Value.ref h₁.objs.size))
    have he₃ := Heap.get?_update_self (Obj.mapFields (·.setIfInBounds 1 (Value.ref h₁.objs.size))) he₂ (Obj.isFreed_of_fields hd₃)
    have hT₃ := (Heap.get?_update_other (h₁.push { cls := .type "traceback", dict := none, data := .fields ([Value.none, .ref L, .none, rawInt L, .none] ++ (if pl.isEmpty then List.replicate 6 Value.none else pl)).toArray })
      (Obj.mapFields (·.setIfInBounds 1 (Value.ref h₁.objs.size))) (Ne.symm hTe)).trans (Heap.get?_push_size h₁ rfl)
    have al := foreign ok R Lq (h' := (h₁.push { cls := .type "traceback", dict := none, data := .fields ([Value.none, .ref L, .none, rawInt L, .none] ++ (if pl.isEmpty then List.replicate 6 Value.none else pl)).toArray }).update e (Obj.mapFields (·.setIfInBounds 1 (Value.ref h₁.objs.size)))) (fun b => b = e) (fun b d => d ▸ fe) (fun b ob nb hb => by
      rw [Heap.get?_update_other _ _ (Ne.symm nb)]
      refine ⟨(hs₁.2.2 b ob hb).imp fun sl q => Heap.get?_push_of_some _ q, fun hm => Heap.get?_push_of_some _ ((hs₁.2.1 b (hev ▸ hm)).trans hb)⟩)
    have fT : Frr c s₀.heap G O h₁.objs.size := by
      have f := R.fresh (a := h₁.objs.size) (by rw [hs₁.1]; exact Nat.le_refl _)
      refine ⟨f.2.1, f.2.2.1, f.2.2.2.1, f.2.2.2.2, ?_⟩
      cases q : s₀.heap.get? h₁.objs.size with
      | none => rfl
      | some o2 => obtain ⟨o3, q3⟩ := Lq.live _ o2 q; rw [f.1] at q3; cases q3
    exact k _ al.1 al.2 fe ⟨_, _, h₁.objs.size, _, _, he₃, (Obj.cls_mapFields _ _).trans hcl, hd₃, by simp [hsz], by simp [hsz], by rw [Array.getElem?_setIfInBounds_ne (by decide)]; exact h2, hTe, fT, hT₃, rfl, by first | (simp; done) | (rcases hpl with rfl | ⟨_, _, _, _, _, _, _, rfl⟩ <;> simp)⟩
  · obtain ⟨o, vs, T, oT, ts, he, hcl, hd, hsz, h1, h2, hTe, fT, hT, hdT, h3⟩ := id ht
    unfold noteFrame
    simp only [hf]
    refine wpAny_bind (wpAny_field he hd h1 ?_)
    rw [if_pos (show (Value.ref T != Value.none) = true from by simp)]
    refine wpAny_bind (wpAny_field hT hdT h3 ?_)
    rw [if_pos (show (rawInt L == rawInt L) = true from by simp)]
    exact wpAny_pure (k s R Lq fe ht)
theorem flight_x (ok : Ok c) (R : Rl c σ s G O) (Lq : Le c s₀ G₀ O₀ s G O) (fe : Frr c s₀.heap G O e) {fl : Value} (X : XTr c s₀.heap s.heap G O e cx fl) (f : Option Addr) {A' : Around} {E : Value → Shared → Prop} {Q : Unit → Shared → Prop}
    (k : ∀ s', Rl c σ s' G O → Le c s₀ G₀ O₀ s' G O → XTr c s₀.heap s'.heap G O e cx (f.elim .none fun f => rawInt f) → Q () s') : wpAny c.M A' (setFlight (.ref e) f) Q E s := by
  obtain ⟨o, vs, T, oT, ts, he, hcl, hd, hsz, h1, h2, hTe, fT, hT, hdT, h3⟩ := X
  have hsz3 : 3 < ts.size := (Array.getElem?_eq_some_iff.mp h3).1
  unfold setFlight
  refine wpAny_bind (wpAny_field he hd h1 ?_)
  rw [if_pos (show (Value.ref T != Value.none) = true from by simp)]
  refine wpAny_setField hT hdT hsz3 ?_
  have other : ∀ b, b ≠ T → (s.heap.update T (Obj.mapFields (·.setIfInBounds 3 (f.elim Value.none fun f => rawInt f)))).get? b = s.heap.get? b := fun b hb => Heap.get?_update_other _ _ (Ne.symm hb)
  have al := foreign ok R Lq (h' := s.heap.update T (Obj.mapFields (·.setIfInBounds 3 (f.elim Value.none fun f => rawInt f)))) (fun b => b = T) (fun b d => d ▸ fT) (fun b ob nb hb => ⟨⟨ob.slots, (other b nb).trans hb⟩, fun _ => (other b nb).trans hb⟩)
  exact k _ al.1 al.2 ⟨o, vs, T, _, _, (other e (Ne.symm hTe)).trans he, hcl, hd, hsz, h1, h2, hTe, fT, Heap.get?_update_self _ hT (Obj.isFreed_of_fields (Obj.data_mapFields hdT _)), Obj.data_mapFields hdT _, by simp [hsz3]⟩
theorem XTr.first {h₀ h : Heap} {fl : Value} (X : XTr c h₀ h G O e cx fl) : ∃ o vs T, h.get? e = some o ∧ o.cls = .type "IndexError" ∧ o.data = .fields vs ∧ vs[1]? = some (.ref T) ∧ vs[2]? = some cx :=
  let ⟨o, vs, T, _, _, he, hcl, hd, _, h1, h2, _⟩ := X; ⟨o, vs, T, he, hcl, hd, h1, h2⟩
theorem passOn_x (ok : Ok c) (hf : c.env.frame = some L) (R : Rl c σ s G O) (Lq : Le c s₀ G₀ O₀ s G O) (fe : Frr c s₀.heap G O e) {fl : Value} (X : XTr c s₀.heap s.heap G O e cx fl) {A' : Around} {E : Value → Shared → Prop} {what : String} {Q : Flow → Shared → Prop}
    (k : ∀ s', Rl c σ s' G O → Le c s₀ G₀ O₀ s' G O → XTr c s₀.heap s'.heap G O e cx (rawInt L) → E (.ref e) s') : wpAny c.M A' (PySem.passOn what (.ref e) c.env) Q E s := by
  obtain ⟨o, vs, T, he, hcl, hd, h1, h2⟩ := X.first
  unfold PySem.passOn
  refine wpAny_bind (wpAny_field he hd h1 ?_)
  rw [if_neg (show ¬ (Value.ref T == Value.none) = true from by simp), hf]
  exact wpAny_bind (flight_x ok R Lq fe X (some L) fun s' r l x => wpAny_throw (k s' r l x))
theorem cameBack_x (ok : Ok c) (hf : c.env.frame = some L) (R : Rl c σ s G O) (Lq : Le c s₀ G₀ O₀ s G O) (fe : Frr c s₀.heap G O e) {fl : Value} (X : XTr c s₀.heap s.heap G O e cx fl) {A' : Around} {E : Value → Shared → Prop}
    (k : ∀ s', Rl c σ s' G O → Le c s₀ G₀ O₀ s' G O → XTr c s₀.heap s'.heap G O e cx (rawInt L) → E (.ref e) s') : cameBackBy c.M A' c.env E (.ref e) s := by
  obtain ⟨o, vs, T, he, hcl, hd, h1, h2⟩ := X.first
  unfold cameBackBy
  refine wpAny_bind (wpAny_field he hd h1 ?_)
  rw [if_neg (show ¬ (Value.ref T == Value.none) = true from by simp), hf]
  first
    | exact flight_x ok R Lq fe X (some L) fun s' r l x => k s' r l x
    | exact wpAny_bind (wpAny_pure (flight_x ok R Lq fe X (some L) fun s' r l x => k s' r l x))
/-- a raise may link to what is at hand -/
def Rdy (c : Cx) (h : Heap) (O : List Addr) : Prop := (c.hx = false ∧ c.A.handled = none) ∨ (c.hx = true ∧ ∃ e o vs, c.A.handled = some (.ref e) ∧ e ∉ c.priv ∧ e ∉ O ∧ h.get? e = some o ∧ o.data = .fields vs ∧ vs[2]? = some .none)
theorem Rdy.le {s' : Shared} {G' : Addr → Prop} {O' : List Addr} (r : Rdy c s.heap O) (l : Le c s G O s' G' O') : Rdy c s'.heap O' := by
  rcases r with q | ⟨hx, e, o, vs, h1, h2, h3, h4, h5, h6⟩
  · exact .inl q
  · refine .inr ⟨hx, e, o, vs, h1, h2, fun m => ?_, (l.ke e ⟨h2, h3⟩ o h4).2 (Dk.no h5 fun _ _ q => by cases q), h5, h6⟩
    rcases l.on e m with q | q
    · exact h3 q
    · rw [h4] at q; cases q
/-- what a raise leaves -/
def ExO (c : Cx) (nb : Bool) (s₀ : Shared) (G₀ : Addr → Prop) (O₀ : List Addr) (PE : AS → Prop) (v : Value) (s' : Shared) : Prop :=
  ∃ e cx L σ' G' O', v = .ref e ∧ c.env.frame = some L ∧ PE σ' ∧ Rl c σ' s' G' O' ∧ Le c s₀ G₀ O₀ s' G' O' ∧ Xn c s₀.heap s'.heap G' O' e cx L ∧ (nb = true → cx = .none)
theorem Frr.le {s₁ : Shared} {G₁ : Addr → Prop} {O₁ : List Addr} {a : Addr} (l : Le c s G O s₁ G₁ O₁) {G' : Addr → Prop} {O' : List Addr} (f : Frr c s₁.heap G' O' a) : Frr c s.heap G' O' a := by
  refine ⟨f.1, f.2.1, f.2.2.1, f.2.2.2.1, ?_⟩
  cases q : s.heap.get? a with
  | none => rfl
  | some o => obtain ⟨o', q'⟩ := l.live a o q; rw [f.2.2.2.2] at q'; cases q'
theorem XTr.le {s₁ : Shared} {G₁ : Addr → Prop} {O₁ : List Addr} {h : Heap} {fl : Value} (l : Le c s G₀ O₀ s₁ G₁ O₁) (x : XTr c s₁.heap h G O e cx fl) : XTr c s.heap h G O e cx fl :=
  let ⟨o, vs, T, oT, ts, he, hcl, hd, hsz, h1, h2, hTe, fT, r⟩ := x; ⟨o, vs, T, oT, ts, he, hcl, hd, hsz, h1, h2, hTe, Frr.le l fT, r⟩
theorem ExO.le {nb : Bool} {s₁ s' : Shared} {G₁ : Addr → Prop} {O₁ : List Addr} {PE : AS → Prop} {v : Value} (l : Le c s G O s₁ G₁ O₁) (x : ExO c nb s₁ G₁ O₁ PE v s') : ExO c nb s G O PE v s' := by
  obtain ⟨e, cx, L, σ', G', O', h1, h2, h3, h4, h5, ⟨h6, h7⟩, h8⟩ := x
  exact ⟨e, cx, L, σ', G', O', h1, h2, h3, h4, l.trans h5, ⟨Frr.le l h6, h7.imp id (XTr.le l)⟩, h8⟩
theorem ExO.mono {nb : Bool} {s' : Shared} {PE PE' : AS → Prop} {v : Value} (k : ∀ σ, PE σ → PE' σ) (x : ExO c nb s G O PE v s') : ExO c nb s G O PE' v s' := by
  obtain ⟨e, cx, L, σ', G', O', h1, h2, h3, r⟩ := x
  exact ⟨e, cx, L, σ', G', O', h1, h2, k _ h3, r⟩
theorem entry_unchain : entryFor table "proto.unchain" = some Builtin.«proto.unchain» := entryFor_of_tree (by kernel_rfl)
theorem raise_x {α : Type} {nb : Bool} (ok : Ok c) (hnb : nb = true → c.hx = false) {A' : Around} (hA : A'.handled = c.A.handled) (hf : c.env.frame = some L) (R : Rl c σ s G O) (rd : Rdy c s.heap O) {msg : String} {PE : AS → Prop} {Q : α → Shared → Prop} {E : Value → Shared → Prop} (hp : PE σ) (hE : ∀ v s', ExO c nb s G O PE v s' → E v s') :
    wpAny c.M A' (raiseErrorWords "IndexError" msg : Sem α) Q E s := by
  have new : ∀ (h' : Heap) (tk : Nat) (e : Addr) (cx : Value), (∀ b o, s.heap.get? b = some o → h'.get? b = some o) → s.heap.objs.size ≤ e → XNew h' e cx → (c.hx = false → cx = .none) → E (.ref e) { s with heap := h', toks := tk } := by
    intro h' tk e cx kp hge hn hcx
    have al := R.grow0 (h' := h') (tk := tk) ok kp
    have f := R.fresh hge
    exact hE _ _ ⟨e, cx, L, σ, G, O, rfl, hf, hp, al.1, al.2, ⟨⟨f.2.1, f.2.2.1, f.2.2.2.1, f.2.2.2.2, f.1⟩, .inl hn⟩, fun q => hcx (hnb q)⟩
  unfold raiseErrorWords
  refine wpAny_bind (wpAny_mkText (wpAny_bind ?_))
  unfold newExc newTuple
  refine wpAny_bind (wpAny_newObj_type ?_)
  refine wpAny_bind (m := firstArgMember _ _) (wpAny_of_eq (a := Value.none) (by simp only [firstArgMember, plainExc_IndexError.first]; rfl) ?_)
  rw [plainExc_IndexError.own]
  refine wpAny_newObj_type ?_
  unfold raiseNew
  refine wpAny_bind (wpAny_handled ?_)
  rw [hA]
  rcases rd with ⟨_, q⟩ | ⟨hx, e1, o1, vs1, h1, h2, h3, h4, h5, h6⟩
  · rw [q]
    refine wpAny_bind (wpAny_pure (wpAny_throw ?_))
    exact new _ _ _ .none (fun b o hb => Heap.get?_push_of_some _ (Heap.get?_push_of_some _ hb)) (by simp [Heap.size_push]) ⟨_, _, Heap.get?_push_size _ rfl, rfl, rfl, rfl, rfl, rfl⟩ fun _ => rfl
  · rw [h1]
    dsimp only
    generalize hH : (s.heap.push { cls := Value.type "tuple", dict := none, data := Data.seq [Value.str (Str.ofString msg) s.toks].toArray }) = H
    have hHs : H.objs.size = s.heap.objs.size + 1 := hH ▸ Heap.size_push ..
    have kH : ∀ b o, s.heap.get? b = some o → H.get? b = some o := fun b o hb => hH ▸ Heap.get?_push_of_some _ hb
    have lt1 : (e1 : Nat) < s.heap.objs.size := Heap.lt_size h4
    have hne : (Value.ref e1 != Value.ref H.objs.size) = true := by
      have : e1 ≠ H.objs.size := Nat.ne_of_lt (Nat.lt_of_lt_of_le lt1 (by omega))
      simpa using this
    rw [if_pos hne]
    have k2 : ∀ (x : Obj) b o, s.heap.get? b = some o → (H.push x).get? b = some o := fun x b o hb => Heap.get?_push_of_some _ (kH b o hb)
    refine wpAny_bind (wpAny_holding (wpAny_runValue (codeAny_builtin entry_unchain ?_)))
    unfold Builtin.«proto.unchain»
    dsimp only
    refine wpAny_bind (wpAny_field (k2 _ _ _ h4) h5 h6 ?_)
    rw [if_pos (by decide)]
    refine wpAny_bind (wpAny_pure (wpAny_pure ?_))
    show wpAny c.M A' (do updateField H.objs.size 2 (Value.ref e1); throw (Value.ref H.objs.size)) Q E _
    refine wpAny_bind ?_
    show wpAny _ _ (setField (.ref H.objs.size) 2 (.ref e1)) _ _ _
    have hob := Heap.get?_push_size H (o := { cls := .type "IndexError", dict := none, data := .fields (#[Value.ref s.heap.objs.size, .none, .none, .none, .bool false, .none] ++ #[]) }) rfl
    refine wpAny_setField hob rfl (by simp) (wpAny_throw ?_)
    refine new _ (s.toks + 1) H.objs.size (.ref e1) (fun b o hb => ?_) (by omega) ⟨_, _, Heap.get?_update_self _ hob rfl, Obj.cls_mapFields _ _, Obj.data_mapFields rfl _, by simp, by simp, by simp⟩ fun q => by rw [hx] at q; cases q
    have hbl : (b : Nat) < s.heap.objs.size := Heap.lt_size hb
    rw [Heap.get?_update_other _ _ (Nat.ne_of_gt (Nat.lt_of_lt_of_le hbl (by omega)))]
    exact k2 _ b o hb
theorem getOut {nb : Bool} (ok : Ok c) (hnb : nb = true → c.hx = false) (hf : c.env.frame = some L) (R : Rl c σ s G O) (rd : Rdy c s.heap O) {l : Addr} {items : Array Value} {k : Int} {t : Tok} (hl : s.heap.IsList l items) (h0 : 0 ≤ k) (hj : (items.size : Int) ≤ k) (hhi : k < 1000000)
    {PE : AS → Prop} {Q : Value → Shared → Prop} {E : Value → Shared → Prop} (hp : PE σ) (hE : ∀ v s', ExO c nb s G O PE v s' → E v s') : wpAny c.M c.A (getItem (.ref l) (.int k t)) Q E s := by
  obtain ⟨o, ho, hc, ne, hd⟩ := id hl
  unfold getItem
  try with_reducible refine wpAny_holding ?_
  first | refine wpAny_bind (wpAny_pure ?_) | skip
  refine wpAny_bind (wpAny_sequenceKey hl.typeIs (by decide) ?_)
  refine wpAny_bind (wpAny_callSpecial?_slot (name := Str.ofString "__getitem__") hl.typeIs slot_list_getitem
    (wpAny_call_entry slot_list_getitem hl.typeIs entry_list_getitem ?_ (args_list_getitem _ _)))
  show wpAny _ _ (Builtin.List.listSubscript? (.int k t) >>= _) _ _ s
  refine wpAny_bind (wpAny_listSubscript_int (fitsIndex_both (by omega) (by omega)) ?_)
  obtain ⟨j, rfl⟩ := Int.eq_ofNat_of_zero_le h0
  have hx : items[j]? = none := Array.getElem?_eq_none (by omega)
  show wpAny _ _ ((seqItemAt l j >>= fun r => pure (r.map (j, ·))) >>= _) _ _ s
  refine wpAny_bind (wpAny_bind (wpAny_seqItemAt ho hd (wpAny_pure ?_)))
  rw [hx]
  first
    | exact wpAny_bind (wpAny_rule (raise_x ok hnb (by rfl) hf R rd hp hE))
    | exact wpAny_bind (wpAny_rule (wpAny_bind (raise_x ok hnb (by rfl) hf R rd hp hE)))
    | exact wpAny_bind (wpAny_bind (wpAny_rule (raise_x ok hnb (by rfl) hf R rd hp hE)))
    | exact wpAny_rule (raise_x ok hnb (by rfl) hf R rd hp hE)
end
/-! ## judgments that may raise -/
def RV (c : Cx) (nb : Bool) (t : Sem Value) (σ : AS) (P : V → AS → Prop) (PE : AS → Prop) : Prop := ∀ s G O, Rl c σ s G O → Rdy c s.heap O → wpAny c.M c.A t (Po c s G O P) (ExO c nb s G O PE) s
def RB (c : Cx) (nb : Bool) (t : Sem Bool) (σ : AS) (P : Bool → AS → Prop) (PE : AS → Prop) : Prop := ∀ s G O, Rl c σ s G O → Rdy c s.heap O → wpAny c.M c.A t (PoB c s G O P) (ExO c nb s G O PE) s
def RF (c : Cx) (nb : Bool) (t : Sem Flow) (σ : AS) (P : Fl → AS → Prop) (PE : AS → Prop) : Prop := ∀ s G O, Rl c σ s G O → Rdy c s.heap O → wpAny c.M c.A t (PoF c s G O P) (ExO c nb s G O PE) s
section
variable {c : Cx} {nb : Bool} {σ : AS} {PE : AS → Prop}
theorem to_any {α : Type} {M : Model} {A : Around} {t : Sem α} {Q : α → Shared → Prop} {E₀ E : Value → Shared → Prop} {s : Shared} (hE : E₀ = fun _ _ => False) (h : wpAny M A t Q E₀ s) : wpAny M A t Q E s := of_false (hE ▸ h)
theorem RF_of (hE : c.E = fun _ _ => False) {t : Sem Flow} {P : Fl → AS → Prop} (h : TF c t σ P) : RF c nb t σ P PE := fun s G O R _ => to_any hE (h s G O R)
theorem RF_nil {P : Fl → AS → Prop} (hE : c.E = fun _ _ => False) (h : P .next σ) : RF c nb (execs [] c.env) σ P PE := RF_of hE (XS_nil h)
def ThenR (c : Cx) (nb : Bool) (rest : List Stmt) (P : Fl → AS → Prop) (PE : AS → Prop) : Fl → AS → Prop
  | .next, σ => RF c nb (execs rest c.env) σ P PE
  | f, σ => P f σ
theorem RF_cons {st : Stmt} {rest : List Stmt} {P : Fl → AS → Prop} (h : RF c nb (exec st c.env) σ (ThenR c nb rest P PE) PE) : RF c nb (execs (st :: rest) c.env) σ P PE := by
  intro s G O R rd
  refine wpAny_execs_cons (wpAny_mono (h s G O R rd) (fun f s₁ p => ?_) fun _ _ e => e)
  obtain ⟨x, σ₁, G₁, O₁, h₁, R₁, L₁, r⟩ := p
  cases r with
  | next => exact wpAny_mono (h₁ s₁ G₁ O₁ R₁ (rd.le L₁)) (fun _ _ p => p.le L₁) fun _ _ e => e.le L₁
  | brk => exact ⟨.brk, σ₁, G₁, O₁, h₁, R₁, L₁, .brk⟩
  | cont => exact ⟨.cont, σ₁, G₁, O₁, h₁, R₁, L₁, .cont⟩
  | ret r => exact ⟨.ret _, σ₁, G₁, O₁, h₁, R₁, L₁, .ret r⟩
theorem RF_if (hE : c.E = fun _ _ => False) {t : Expr} {a b : List Stmt} {pos : Pos} {P : Fl → AS → Prop} (h : EB c t σ fun z σ₁ => (z = true → RF c nb (execs a c.env) σ₁ P PE) ∧ (z = false → RF c nb (execs b c.env) σ₁ P PE)) : RF c nb (exec (.If t a b pos) c.env) σ P PE := by
  intro s G O R rd
  refine wpAny_If (to_any hE (TB.use h R fun z s₁ σ₁ G₁ O₁ h₁ R₁ L₁ => ?_))
  cases z with
  | true => exact wpAny_mono (h₁.1 rfl s₁ G₁ O₁ R₁ (rd.le L₁)) (fun _ _ p => p.le L₁) fun _ _ e => e.le L₁
  | false => exact wpAny_mono (h₁.2 rfl s₁ G₁ O₁ R₁ (rd.le L₁)) (fun _ _ p => p.le L₁) fun _ _ e => e.le L₁
/-- an item of a list, where there may be none -/
theorem RV_sub (ok : Ok c) (hE : c.E = fun _ _ => False) (hnb : nb = true → c.hx = false) {L : Addr} (hf : c.env.frame = some L) {v sl : Expr} {pos : Pos} {P : V → AS → Prop}
    (h : EV c v σ fun X σ₁ => EV c sl σ₁ fun Y σ₂ => ∃ (xs : List V) (i : Nat), X = .list xs ∧ Y = .int (i : Nat) ∧ i < 1000000 ∧ (∀ x, xs[i]? = some x → P x σ₂) ∧ (xs[i]? = none → PE σ₂)) (hs : ∀ o i, subscripted sl false o i = operate [o, i] (getItem o i)) :
    RV c nb (eval (.Subscript v sl pos) c.env) σ P PE := by
  intro s G O R rd
  refine Subscript_ (to_any hE (TV.use h R fun a s₁ X σ₁ G₁ O₁ h₁ R₁ L₁ v₁ => to_any hE (TV.use h₁ R₁ fun b s₂ Y σ₂ G₂ O₂ h₂ R₂ L₂ v₂ => ?_)))
  obtain ⟨xs, i, rfl, rfl, hi, h3, h4⟩ := h₂
  have v₁' := L₂.vr R₁ v₁
  obtain ⟨l, vs, rfl, ga, hl, hvs⟩ := v₁'.inv
  obtain ⟨t, rfl⟩ := v₂.inv
  have L := L₁.trans L₂
  cases e : xs[i]? with
  | some x =>
    obtain ⟨y, hy, hv⟩ := hvs.get e
    exact tail_any hl.typeIs slot_list_getitem.lookup (wpAny_getItem_list hl (by omega) (by omega) (by rw [← Array.getElem?_toList]; exact hy) ⟨x, σ₂, G₂, O₂, h3 x e, R₂, L, hv⟩) (hs _ _)
  | none =>
    have hz : vs.size ≤ i := by
      have h1 := hvs.length
      have h2 := List.getElem?_eq_none_iff.mp e
      simp only [Array.length_toList] at h1
      omega
    exact tail_any hl.typeIs slot_list_getitem.lookup (getOut ok hnb hf R₂ (rd.le L) hl (by omega) (by omega) (by omega) (h4 e) fun _ _ x => x.le L) (hs _ _)
theorem RB_cmp (hE : c.E = fun _ _ => False) {l r : Expr} {op : CmpOp} {pos : Pos} {P : Bool → AS → Prop} (h : RV c nb (eval l c.env) σ (fun x σ₁ => EV c r σ₁ fun y σ₂ => O2 c (compareOp op) x y σ₂ fun z σ₃ => B1 c truthy z σ₃ P) PE) (hm : behindInMarks op r = false) :
    RB c nb (isTrue (.Compare l [op] [r] pos) c.env (eval (.Compare l [op] [r] pos) c.env)) σ P PE := by
  intro s G O R rd
  refine wpAny_isTrue_Compare1 (wpAny_mono (h s G O R rd) (fun a s₁ p => ?_) fun _ _ e => e) hm
  obtain ⟨x, σ₁, G₁, O₁, h₁, R₁, L₁, v₁⟩ := p
  exact to_any hE (TV.use h₁ R₁ fun _ _ _ _ _ _ h₂ R₂ L₂ v₂ => to_any hE (h₂.use R₂ (L₂.vr R₁ v₁) v₂ fun _ _ _ _ _ _ h₃ R₃ L₃ v₃ => to_any hE (B1.at h₃ R₃ ((L₁.trans L₂).trans L₃) v₃)))
theorem RF_assign (hE : c.E = fun _ _ => False) {t v : Expr} {pos : Pos} {P : Fl → AS → Prop} (h : RV c nb (eval v c.env) σ (fun x σ₁ => AN c t x σ₁ (P .next)) PE) (hs : swapsWithSole [t] v pos.line c.env = pure false) (hw : swappedStores [t] v c.env = pure none)
    (he : ∀ env, (assignEach [t] env).map (·.2) = [PySem.assign t env]) : RF c nb (exec (.Assign [t] v pos) c.env) σ P PE := by
  intro s G O R rd
  show wpAny _ _ (do
    standAt pos
    if ← swapsWithSole [t] v pos.line c.env then do
      evalThenUse v c.env fun v => assignAll v ((assignEach [t] c.env).map (·.2))
      pure .next
    else do
      let v' ← eval v c.env
      assignStores c.env v' (← swappedStores [t] v c.env) ((assignEach [t] c.env).map (·.2))) _ _ _
  rw [hs, hw]
  refine wpAny_bind (wpAny_standAt (wpAny_bind (wpAny_pure ?_)))
  refine wpAny_bind (wpAny_mono (h s G O R rd) (fun a s₁ p => wpAny_bind (wpAny_pure ?_)) fun _ _ e => e)
  obtain ⟨x, σ₁, G₁, O₁, h₁, R₁, L₁, v₁⟩ := p
  rw [he]
  refine wpAny_bind (wpAny_mono (to_any hE (h₁ s₁ G₁ O₁ a R₁ v₁)) (fun _ s₂ p => wpAny_pure ?_) fun _ _ e => e)
  obtain ⟨σ₂, G₂, O₂, h₂, R₂, L₂⟩ := p
  exact ⟨.next, σ₂, G₂, O₂, h₂, R₂, L₁.trans L₂, .next⟩
theorem ExO.back (ok : Ok c) (hev : c.fenv = c.env) {A' A'' : Around} (hA : A'.frames = c.A.frames) {s s' : Shared} {G : Addr → Prop} {O : List Addr} {v : Value} {E : Value → Shared → Prop} (hE : ∀ v s', ExO c nb s G O PE v s' → E v s') (x : ExO c nb s G O PE v s') : notedBy c.M A' c.env (cameBackBy c.M A'' c.env E) v s' := by
  obtain ⟨e, cx, L, σ', G', O', rfl, hf, hp, R', L', X, hcx⟩ := x
  exact note_x ok hev hf R' L' X hA fun s₂ R₂ L₂ fe tr => cameBack_x ok hf R₂ L₂ fe tr fun s₃ R₃ L₃ tr' => hE _ _ ⟨e, cx, L, σ', G', O', rfl, hf, hp, R₃, L₃, ⟨fe, .inr tr'⟩, hcx⟩
def WhRK (I : Nat → AS → Prop) (n : Nat) (P : Fl → AS → Prop) : Fl → AS → Prop
  | .brk, σ => P .next σ
  | .ret v, σ => P (.ret v) σ
  | _, σ => ∃ k, k < n ∧ I k σ
theorem RF_while (ok : Ok c) (hev : c.fenv = c.env) {test : Expr} {body orelse : List Stmt} {pos : Pos} {P : Fl → AS → Prop} (I : Nat → AS → Prop) (n : Nat) (h0 : I n σ)
    (turn : ∀ n σ, I n σ → RB c nb (isTrue test c.env (eval test c.env)) σ (fun b σ₁ => (b = true → RF c nb (execs body c.env) σ₁ (WhRK I n P) PE) ∧ (b = false → RF c nb (execs orelse c.env) σ₁ P PE)) PE) : RF c nb (exec (.While test body orelse pos) c.env) σ P PE := by
  intro s G O R rd
  refine wpAny_While (codeAny_whileLoop (fun n s' => ∃ σ' G' O', I n σ' ∧ Rl c σ' s' G' O' ∧ Le c s G O s' G' O') ?_ n ⟨σ, G, O, h0, R, Le.refl⟩)
  rintro n s' ⟨σ', G', O', hI, R', L'⟩
  refine wpAny_mono (turn n σ' hI s' G' O' R' (rd.le L')) (fun b s₁ p => ?_) fun v s₁ x => ExO.back ok hev rfl (fun _ _ y => y) (x.le L')
  obtain ⟨σ₁, G₁, O₁, h₁, R₁, L₁⟩ := p
  have L01 := L'.trans L₁
  cases b with
  | true =>
    rw [if_pos rfl]
    refine wpAny_mono (h₁.1 rfl s₁ G₁ O₁ R₁ (rd.le L01)) (fun f s₂ p => ?_) fun v s₂ x => ExO.back ok hev rfl (fun _ _ y => y) (x.le L01)
    obtain ⟨x, σ₂, G₂, O₂, h₂, R₂, L₂, r₂⟩ := p
    have L := L01.trans L₂
    cases r₂ with
    | next => obtain ⟨k, hk, hi⟩ := h₂; exact ⟨k, hk, σ₂, G₂, O₂, hi, R₂, L⟩
    | cont => obtain ⟨k, hk, hi⟩ := h₂; exact ⟨k, hk, σ₂, G₂, O₂, hi, R₂, L⟩
    | brk => exact ⟨.next, σ₂, G₂, O₂, h₂, R₂, L, .next⟩
    | ret r => exact ⟨.ret _, σ₂, G₂, O₂, h₂, R₂, L, .ret r⟩
  | false =>
    rw [if_neg (by simp)]
    exact wpAny_mono (h₁.2 rfl s₁ G₁ O₁ R₁ (rd.le L01)) (fun _ _ p => p.le L01) fun v s₂ x => ExO.back ok hev rfl (fun _ _ y => y) (x.le L01)
end
end Mine
namespace Mine
/-- the context of a suite that runs with an exception at hand -/
abbrev cM (c : Cx) (e : Addr) : Cx := { c with A := c.A.mark (some (.ref e)), hx := true }
section
variable {c : Cx} {σ : AS} {s s₀ s' : Shared} {G G' G₀ : Addr → Prop} {O O' O₀ : List Addr} {e : Addr} {cx fl : Value} {nb : Bool} {PE : AS → Prop}
theorem Ok.cM (ok : Ok c) : Ok (cM c e) := ⟨fun q => (nomatch q), ok.fr, ok.kind, ok.globals, ok.builtins, ok.nodup, ok.nk, ok.lp, ok.cl, ok.ci, ok.capk, ok.units, ok.depth, ok.nolim, ok.ffr, ok.bg, ok.gk, ok.dbg⟩
theorem Rl.toM (R : Rl c σ s G O) : Rl (Mine.cM c e) σ s G O := ⟨R.base, R.kept, R.frames, R.fdk, R.glive, R.gnew, R.g0, R.priv, R.onew, R.onod, R.ns, R.cells, R.vars, R.olen, R.own, R.cap⟩
theorem Rl.ofM (R : Rl (Mine.cM c e) σ s G O) : Rl c σ s G O := ⟨R.base, R.kept, R.frames, R.fdk, R.glive, R.gnew, R.g0, R.priv, R.onew, R.onod, R.ns, R.cells, R.vars, R.olen, R.own, R.cap⟩
theorem Le.ofM (l : Le (Mine.cM c e) s G O s' G' O') : Le c s G O s' G' O' := ⟨⟨l.same, l.g, l.ke, l.on, l.gn, l.live⟩, l.o⟩
theorem Frr.fwd {h₀ : Heap} {a : Addr} (f : Frr c h₀ G O a) (l : Le c s G O s' G' O') (al : ∃ o, s.heap.get? a = some o) : Frr c h₀ G' O' a := by
  obtain ⟨o, ho⟩ := al
  refine ⟨fun g => ?_, fun m => ?_, f.2.2.1, f.2.2.2.1, f.2.2.2.2⟩
  · rcases l.gn a g with q | q
    · exact f.1 q
    · rw [ho] at q; cases q
  · rcases l.on a m with q | q
    · exact f.2.1 q
    · rw [ho] at q; cases q
theorem XTr.fwd {h₀ : Heap} (fe : Frr c h₀ G O e) (x : XTr c h₀ s.heap G O e cx fl) (l : Le c s G O s' G' O') : Frr c h₀ G' O' e ∧ XTr c h₀ s'.heap G' O' e cx fl := by
  obtain ⟨o, vs, T, oT, ts, he, hcl, hd, hsz, h1, h2, hTe, fT, hT, hdT, h3⟩ := x
  exact ⟨fe.fwd l ⟨o, he⟩, o, vs, T, oT, ts, (l.ke e ⟨fe.2.2.1, fe.2.1⟩ o he).2 (Dk.no hd fun _ _ q => by cases q), hcl, hd, hsz, h1, h2, hTe, fT.fwd l ⟨oT, hT⟩, (l.ke T ⟨fT.2.2.1, fT.2.1⟩ oT hT).2 (Dk.no hdT fun _ _ q => by cases q), hdT, h3⟩
theorem ExO.ofM {v : Value} (x : ExO (Mine.cM c e) nb s G O PE v s') (hx : nb = true → c.hx = true → False) : ExO c nb s G O PE v s' := by
  obtain ⟨e', cx, L, σ', G', O', rfl, hf, hp, R', L', X, hcx⟩ := x
  exact ⟨e', cx, L, σ', G', O', rfl, hf, hp, R'.ofM, L'.ofM, X, hcx⟩
theorem RF_fin (ok : Ok c) (hev : c.fenv = c.env) (hE : c.E = fun _ _ => False) (hx : c.hx = false) {body : List Stmt} {f₀ : Stmt} {fs : List Stmt} {pos : Pos} {P : Fl → AS → Prop}
    (h : RF c true (execs body c.env) σ (fun f σ₁ => f = .next ∧ RF c nb (execs (f₀ :: fs) c.env) σ₁ (fun g σ₂ => g = .next ∧ P .next σ₂) PE) (fun σ₁ => ∀ e, RF (cM c e) nb (execs (f₀ :: fs) c.env) σ₁ (fun g σ₂ => g = .next ∧ PE σ₂) PE)) :
    RF c nb (exec (.Try body [] [] (f₀ :: fs) pos) c.env) σ P PE := by
  intro s G O R rd
  refine wpAny_Try_finally (wpAny_mono (h s G O R rd) (fun f s₁ p => ?_) fun v s₁ x => ?_)
  · obtain ⟨x, σ₁, G₁, O₁, ⟨rfl, h₁⟩, R₁, L₁, r⟩ := p
    cases r
    refine wpAny_execs_nil ?_
    refine wpAny_mono (h₁ s₁ G₁ O₁ R₁ (rd.le L₁)) (fun g s₂ p => ?_) fun v s₂ x => ExO.back ok hev rfl (fun _ _ y => y) (x.le L₁)
    obtain ⟨y, σ₂, G₂, O₂, ⟨rfl, h₂⟩, R₂, L₂, r⟩ := p
    cases r
    exact ⟨.next, σ₂, G₂, O₂, h₂, R₂, L₁.trans L₂, .next⟩
  · obtain ⟨e, cx, L, σ₁, G₁, O₁, rfl, hf, hp, R₁, L₁, X, hcx⟩ := x
    obtain rfl := hcx rfl
    refine note_x ok hev hf R₁ L₁ X rfl fun s₂ R₂ L₂ fe tr => ⟨ref_ne_byPass e, ?_⟩
    refine note_x ok hev hf R₂ L₂ ⟨fe, .inr tr⟩ rfl fun s₃ R₃ L₃ fe tr => ?_
    refine flight_x ok R₃ L₃ fe tr none fun s₄ R₄ L₄ tr => ?_
    have rd' : Rdy (cM c e) s₄.heap O₁ := by
      obtain ⟨o, vs, T, he, hcl, hd, h1, h2⟩ := tr.first
      exact .inr ⟨rfl, e, o, vs, rfl, fe.2.2.1, fe.2.1, he, hd, h2⟩
    refine wpAny_mono (hp e s₄ G₁ O₁ R₄.toM rd') (fun g s₅ p => ?_) fun v s₅ x => ?_
    · obtain ⟨y, σ₅, G₅, O₅, ⟨rfl, h₅⟩, R₅, L₅, r⟩ := p
      cases r
      have w := tr.fwd fe L₅.ofM
      exact passOn_x ok hf R₅.ofM (L₄.trans L₅.ofM) w.1 w.2 fun s₆ R₆ L₆ tr' => ⟨e, .none, L, σ₅, G₅, O₅, rfl, hf, h₅, R₆, L₆, ⟨w.1, .inr tr'⟩, fun _ => rfl⟩
    · have x' : ExO c nb s G O PE v s₅ := (x.ofM fun _ q => by rw [hx] at q; cases q).le L₄
      exact ExO.back (A' := c.A.mark (some (.ref e))) ok hev rfl (fun _ _ y => y) x'
theorem EX_tryX (ok : Ok c) (hev : c.fenv = c.env) (hE : c.E = fun _ _ => False) (hx : c.hx = false) {body : List Stmt} {t : Expr} {b₀ : Stmt} {suite : List Stmt} {hpos pos : Pos} {P : Fl → AS → Prop}
    (h : RF c false (execs body c.env) σ P (fun σ₁ => ∀ e, EV (cM c e) t σ₁ fun X σ₂ => X = .ty "IndexError" ∧ XS (cM c e) (b₀ :: suite) σ₂ P)) : EX c (.Try body [.ExceptHandler (some t) none (b₀ :: suite) hpos] [] [] pos) σ P := by
  intro s G O R
  refine wpAny_Try_except (wpAny_mono (h s G O R (.inl ⟨hx, ok.hd hx⟩)) (fun f s₁ p => ?_) fun v s₁ x => ?_)
  · obtain ⟨x, σ₁, G₁, O₁, h₁, R₁, L₁, r⟩ := p
    cases r with
    | next => exact wpAny_execs_nil ⟨.next, σ₁, G₁, O₁, h₁, R₁, L₁, .next⟩
    | brk => exact ⟨_, σ₁, G₁, O₁, h₁, R₁, L₁, .brk⟩
    | cont => exact ⟨_, σ₁, G₁, O₁, h₁, R₁, L₁, .cont⟩
    | ret r => exact ⟨_, σ₁, G₁, O₁, h₁, R₁, L₁, .ret r⟩
  · obtain ⟨e, cx, L, σ₁, G₁, O₁, rfl, hf, hp, R₁, L₁, X, _⟩ := x
    refine note_x ok hev hf R₁ L₁ X rfl fun s₂ R₂ L₂ fe tr => ?_
    refine flight_x ok R₂ L₂ fe tr none fun s₃ R₃ L₃ tr => ?_
    refine wpAny_handleBy_builtin (X := "IndexError") (T := "IndexError") (b := true) PySem.F.isExc_IndexError PySem.F.notTuple_IndexError PySem.F.self_IndexError ?_
    refine to_any (E₀ := (cM c e).E) hE (TV.use (c := cM c e) (hp e) R₃.toM fun a s₄ Y σ₄ G₄ O₄ h₄ R₄ L₄ v₄ => ?_)
    obtain ⟨rfl, h₄⟩ := h₄
    obtain rfl := v₄.inv
    have w := tr.fwd fe L₄.ofM
    refine ⟨rfl, ?_, ?_⟩
    · obtain ⟨o, vs, T, he, hcl, _⟩ := w.2.first
      exact ⟨o, he, hcl⟩
    · rw [if_pos rfl]
      refine flight_x ok R₄.ofM (L₃.trans L₄.ofM) w.1 w.2 none fun s₅ R₅ L₅ tr' => ?_
      refine to_any (E₀ := (cM c e).E) hE (TF.use (c := cM c e) h₄ R₅.toM fun f s₆ y σ₆ G₆ O₆ h₆ R₆ L₆ r₆ => ?_)
      exact ⟨y, σ₆, G₆, O₆, h₆, R₆.ofM, L₅.trans L₆.ofM, r₆⟩
end
end Mine
namespace Mine
/-! ## transformers of what may raise -/
def SVR (c : Cx) (nb : Bool) (e : Expr) (T : Cx → AS → (V → AS → Prop) → (AS → Prop) → Prop) : Prop := ∀ σ P PE, T c σ P PE → RV c nb (eval e c.env) σ P PE
def SBR (c : Cx) (nb : Bool) (e : Expr) (T : Cx → AS → (Bool → AS → Prop) → (AS → Prop) → Prop) : Prop := ∀ σ P PE, T c σ P PE → RB c nb (isTrue e c.env (eval e c.env)) σ P PE
def SXR (c : Cx) (nb : Bool) (st : Stmt) (T : Cx → AS → (Fl → AS → Prop) → (AS → Prop) → Prop) : Prop := ∀ σ P PE, T c σ P PE → RF c nb (exec st c.env) σ P PE
def SSR (c : Cx) (nb : Bool) (ss : List Stmt) (T : Cx → AS → (Fl → AS → Prop) → (AS → Prop) → Prop) : Prop := ∀ σ P PE, T c σ P PE → RF c nb (execs ss c.env) σ P PE
def tSubR (T₁ T₂ : Cx → AS → (V → AS → Prop) → Prop) : Cx → AS → (V → AS → Prop) → (AS → Prop) → Prop := fun c σ P PE => T₁ c σ fun X σ₁ => T₂ c σ₁ fun Y σ₂ => ∃ (xs : List V) (i : Nat), X = .list xs ∧ Y = .int (i : Nat) ∧ i < 1000000 ∧ (∀ x, xs[i]? = some x → P x σ₂) ∧ (xs[i]? = none → PE σ₂)
def tCmpR (op : CmpOp) (T₁ : Cx → AS → (V → AS → Prop) → (AS → Prop) → Prop) (T₂ : Cx → AS → (V → AS → Prop) → Prop) : Cx → AS → (Bool → AS → Prop) → (AS → Prop) → Prop := fun c σ P PE => T₁ c σ (fun x σ₁ => T₂ c σ₁ fun y σ₂ => cop c op x y σ₂ fun z σ₃ => tru c z σ₃ P) PE
def tAsgR (T₁ : Cx → AS → (V → AS → Prop) → (AS → Prop) → Prop) (T₂ : Cx → V → AS → (AS → Prop) → Prop) : Cx → AS → (Fl → AS → Prop) → (AS → Prop) → Prop := fun c σ P PE => T₁ c σ (fun x σ₁ => T₂ c x σ₁ (P .next)) PE
def tOfR (T : Cx → AS → (Fl → AS → Prop) → Prop) : Cx → AS → (Fl → AS → Prop) → (AS → Prop) → Prop := fun c σ P _ => T c σ P
def tEndR : Cx → AS → (Fl → AS → Prop) → (AS → Prop) → Prop := fun _ σ P _ => P .next σ
def tSeqR (T₁ T₂ : Cx → AS → (Fl → AS → Prop) → (AS → Prop) → Prop) : Cx → AS → (Fl → AS → Prop) → (AS → Prop) → Prop := fun c σ P PE => T₁ c σ (thn (fun σ₁ P => T₂ c σ₁ P PE) P) PE
def tIfR (TT : Cx → AS → (Bool → AS → Prop) → Prop) (T₁ T₂ : Cx → AS → (Fl → AS → Prop) → (AS → Prop) → Prop) : Cx → AS → (Fl → AS → Prop) → (AS → Prop) → Prop := fun c σ P PE => TT c σ fun b σ₁ => cond b (T₁ c σ₁ P PE) (T₂ c σ₁ P PE)
def WhR (TT : AS → (Bool → AS → Prop) → (AS → Prop) → Prop) (B E : AS → (Fl → AS → Prop) → (AS → Prop) → Prop) : Nat → AS → (Fl → AS → Prop) → (AS → Prop) → Prop
  | 0, _, _, _ => False
  | n + 1, σ, P, PE => TT σ (fun b σ₁ => cond b (B σ₁ (fun f σ₂ => match f with
      | .brk => P .next σ₂
      | .ret v => P (.ret v) σ₂
      | _ => WhR TT B E n σ₂ P PE) PE) (E σ₁ P PE)) PE
def tWhR (TT : Cx → AS → (Bool → AS → Prop) → (AS → Prop) → Prop) (B E : Cx → AS → (Fl → AS → Prop) → (AS → Prop) → Prop) : Cx → AS → (Fl → AS → Prop) → (AS → Prop) → Prop := fun c σ P PE => ∃ n, WhR (TT c) (B c) (E c) n σ P PE
def tFinR (TB TF : Cx → AS → (Fl → AS → Prop) → (AS → Prop) → Prop) : Cx → AS → (Fl → AS → Prop) → (AS → Prop) → Prop := fun c σ P PE =>
  TB c σ (fun f σ₁ => f = .next ∧ TF c σ₁ (fun g σ₂ => g = .next ∧ P .next σ₂) PE) fun σ₁ => ∀ e, TF (cM c e) σ₁ (fun g σ₂ => g = .next ∧ PE σ₂) PE
def tTryX (TB : Cx → AS → (Fl → AS → Prop) → (AS → Prop) → Prop) (TH : Cx → AS → (Fl → AS → Prop) → Prop) : Cx → AS → (Fl → AS → Prop) → Prop := fun c σ P => TB c σ P fun σ₁ => ∀ e, TH (cM c e) σ₁ P
section
variable {c : Cx} {nb : Bool}
theorem SVR.sub (ok : Ok c) (hE : c.E = fun _ _ => False) (hnb : nb = true → c.hx = false) {L : Addr} (hf : c.env.frame = some L) {l r : Expr} {pos : Pos} {T₁ T₂ : Cx → AS → (V → AS → Prop) → Prop} (h₁ : SE c l T₁) (h₂ : SE c r T₂) (hs : ∀ o i, subscripted r false o i = operate [o, i] (getItem o i)) : SVR c nb (.Subscript l r pos) (tSubR T₁ T₂) :=
  fun _ _ _ h => RV_sub ok hE hnb hf (TV.mono (h₁ _ _ h) fun _ _ h => h₂ _ _ h) hs
theorem RV.mono {t : Sem Value} {σ : AS} {P P' : V → AS → Prop} {PE : AS → Prop} (h : RV c nb t σ P PE) (k : ∀ x σ, P x σ → P' x σ) : RV c nb t σ P' PE := fun s G O R rd => wpAny_mono (h s G O R rd) (fun v s' ⟨x, σ', G', O', p, r⟩ => ⟨x, σ', G', O', k _ _ p, r⟩) fun _ _ e => e
theorem RB.mono {t : Sem Bool} {σ : AS} {P P' : Bool → AS → Prop} {PE : AS → Prop} (h : RB c nb t σ P PE) (k : ∀ x σ, P x σ → P' x σ) : RB c nb t σ P' PE := fun s G O R rd => wpAny_mono (h s G O R rd) (fun v s' ⟨σ', G', O', p, r⟩ => ⟨σ', G', O', k _ _ p, r⟩) fun _ _ e => e
theorem RF.mono {t : Sem Flow} {σ : AS} {P P' : Fl → AS → Prop} {PE PE' : AS → Prop} (h : RF c nb t σ P PE) (k : ∀ x σ, P x σ → P' x σ) (ke : ∀ σ, PE σ → PE' σ) : RF c nb t σ P' PE' := fun s G O R rd => wpAny_mono (h s G O R rd) (fun v s' ⟨x, σ', G', O', p, r⟩ => ⟨x, σ', G', O', k _ _ p, r⟩) fun _ _ e => e.mono ke
theorem SBR.cmp (hE : c.E = fun _ _ => False) {l r : Expr} {op : CmpOp} {pos : Pos} {T₁ : Cx → AS → (V → AS → Prop) → (AS → Prop) → Prop} {T₂ : Cx → AS → (V → AS → Prop) → Prop} (h₁ : SVR c nb l T₁) (h₂ : SE c r T₂) (hm : behindInMarks op r = false) : SBR c nb (.Compare l [op] [r] pos) (tCmpR op T₁ T₂) :=
  fun _ _ _ h => RB_cmp hE (RV.mono (h₁ _ _ _ h) fun _ _ h => TV.mono (h₂ _ _ h) fun _ _ h => (cop_ok h).mono fun _ _ h => tru_ok h) hm
theorem SXR.assign (hE : c.E = fun _ _ => False) {t v : Expr} {pos : Pos} {T₁ : Cx → AS → (V → AS → Prop) → (AS → Prop) → Prop} {T₂ : Cx → V → AS → (AS → Prop) → Prop} (h₁ : SVR c nb v T₁) (h₂ : SA c t T₂) (hs : swapsWithSole [t] v pos.line c.env = pure false) (hw : swappedStores [t] v c.env = pure none) (he : ∀ env, (assignEach [t] env).map (·.2) = [PySem.assign t env]) :
    SXR c nb (.Assign [t] v pos) (tAsgR T₁ T₂) := fun _ _ _ h => RF_assign hE (RV.mono (h₁ _ _ _ h) fun _ _ h => h₂ _ _ _ h) hs hw he
theorem SXR.of (hE : c.E = fun _ _ => False) {st : Stmt} {T : Cx → AS → (Fl → AS → Prop) → Prop} (h : SX c st T) : SXR c nb st (tOfR T) := fun _ _ _ k => RF_of hE (h _ _ k)
theorem SSR.nil (hE : c.E = fun _ _ => False) : SSR c nb [] tEndR := fun _ _ _ k => RF_nil hE k
theorem SSR.cons {st : Stmt} {rest : List Stmt} {T₁ T₂ : Cx → AS → (Fl → AS → Prop) → (AS → Prop) → Prop} (h₁ : SXR c nb st T₁) (h₂ : SSR c nb rest T₂) : SSR c nb (st :: rest) (tSeqR T₁ T₂) :=
  fun _ _ _ h => RF_cons (RF.mono (h₁ _ _ _ h) (fun f _ h => match f, h with | .next, h => h₂ _ _ _ h | .brk, h => h | .cont, h => h | .ret _, h => h) fun _ h => h)
theorem SXR.ife (hE : c.E = fun _ _ => False) {t : Expr} {a b : List Stmt} {pos : Pos} {TT : Cx → AS → (Bool → AS → Prop) → Prop} {T₁ T₂ : Cx → AS → (Fl → AS → Prop) → (AS → Prop) → Prop} (ht : SB c t TT) (h₁ : SSR c nb a T₁) (h₂ : SSR c nb b T₂) : SXR c nb (.If t a b pos) (tIfR TT T₁ T₂) :=
  fun _ _ _ h => RF_if hE (TB.mono (ht _ _ h) fun b _ h => ⟨fun e => by subst e; exact h₁ _ _ _ h, fun e => by subst e; exact h₂ _ _ _ h⟩)
theorem SXR.wh (ok : Ok c) (hev : c.fenv = c.env) {test : Expr} {body orelse : List Stmt} {pos : Pos} {TT : Cx → AS → (Bool → AS → Prop) → (AS → Prop) → Prop} {B E : Cx → AS → (Fl → AS → Prop) → (AS → Prop) → Prop} (ht : SBR c nb test TT) (hb : SSR c nb body B) (he : SSR c nb orelse E) : SXR c nb (.While test body orelse pos) (tWhR TT B E) := by
  rintro σ P PE ⟨n, h⟩
  refine RF_while ok hev (fun n σ => WhR (TT c) (B c) (E c) n σ P PE) n h fun n σ hI => ?_
  cases n with
  | zero => exact hI.elim
  | succ n =>
    refine RB.mono (ht _ _ _ hI) fun b σ₁ hb' => ⟨fun e => ?_, fun e => ?_⟩
    · subst e
      exact RF.mono (hb _ _ _ hb') (fun f σ₂ h => match f, h with | .next, h => ⟨n, Nat.lt_succ_self n, h⟩ | .cont, h => ⟨n, Nat.lt_succ_self n, h⟩ | .brk, h => h | .ret _, h => h) fun _ h => h
    · subst e; exact he _ _ _ hb'
theorem SXR.fin (ok : Ok c) (hev : c.fenv = c.env) (hE : c.E = fun _ _ => False) (hx : c.hx = false) {body : List Stmt} {f₀ : Stmt} {fs : List Stmt} {pos : Pos} {TB TF : Cx → AS → (Fl → AS → Prop) → (AS → Prop) → Prop} (hb : SSR c true body TB) (hf : SSR c nb (f₀ :: fs) TF) (hm : ∀ e, Ok (cM c e) → SSR (cM c e) nb (f₀ :: fs) TF) :
    SXR c nb (.Try body [] [] (f₀ :: fs) pos) (tFinR TB TF) :=
  fun _ _ _ h => RF_fin ok hev hE hx (RF.mono (hb _ _ _ h) (fun f _ ⟨e, h⟩ => ⟨e, hf _ _ _ h⟩) fun _ h e => hm e ok.cM _ _ _ (h e))
theorem SX.tryX (ok : Ok c) (hev : c.fenv = c.env) (hE : c.E = fun _ _ => False) (hx : c.hx = false) {body : List Stmt} {x : Str} {np hpos pos : Pos} {b₀ : Stmt} {suite : List Stmt} {TB : Cx → AS → (Fl → AS → Prop) → (AS → Prop) → Prop} {TH : Cx → AS → (Fl → AS → Prop) → Prop} (k : Nat) (hb : SSR c false body TB) (g : c.gls[k]? = some (x, .ty "IndexError"))
    (hh : ∀ e, Ok (cM c e) → SS (cM c e) (b₀ :: suite) TH) : SX c (.Try body [.ExceptHandler (some (.Name x np)) none (b₀ :: suite) hpos] [] [] pos) (tTryX TB TH) :=
  fun _ _ h => EX_tryX ok hev hE hx (RF.mono (hb _ _ _ h) (fun _ _ h => h) fun _ h e => EV_gl (c := cM c e) ok.cM g ⟨rfl, hh e ok.cM _ _ (h e)⟩)
end
end Mine
namespace Mine
/-! ## ordered values -/
structure Od (α : Type) [DecidableEq α] where
  val : α → V
  lt : α → α → Bool
  irr : ∀ a, lt a a = false
  tr : ∀ a b c, lt a b = true → lt b c = true → lt a c = true
  tot : ∀ a b, lt a b = false → lt b a = false → a = b
  cLt : ∀ (c : Cx) a b σ P, P (.bool (lt a b)) σ → cop c .Lt (val a) (val b) σ P
  cGt : ∀ (c : Cx) a b σ P, P (.bool (lt b a)) σ → cop c .Gt (val a) (val b) σ P
  cEq : ∀ (c : Cx) a b σ P, P (.bool (decide (a = b))) σ → cop c .Eq (val a) (val b) σ P
  low : ∀ m a, V.low m (val a) = true
section
variable {α : Type} [DecidableEq α] (od : Od α)
def Od.vs (l : List α) : List V := l.map od.val
theorem Od.lows (m : Nat) (l : List α) : V.lows m (od.vs l) = true := by
  induction l with
  | nil => rfl
  | cons a l ih => show (V.low m (od.val a) && V.lows m (od.vs l)) = true; rw [od.low, ih]; rfl
theorem Od.low2 {od : Od α} {xs ys : List α} : V.lows 0 [.list (od.vs xs), .list (od.vs ys)] = true := by simp [V.lows, V.low, od.lows]
def Od.Srt (l : List α) : Prop := l.Pairwise fun a b => od.lt a b = true
/-- what the first has beyond the second -/
def diff (a b : List α) : List α := a.filter fun x => decide (x ∉ b)
theorem diff_nil (a : List α) : diff a [] = a := by unfold diff; simp
theorem nil_diff (b : List α) : diff [] b = ([] : List α) := rfl
variable {od}
theorem Od.not_mem_head {x : α} {l : List α} (h : od.Srt (x :: l)) : x ∉ l := fun hm => by
  have := (List.pairwise_cons.mp h).1 x hm
  rw [od.irr] at this; cases this
theorem Od.lt_not_mem {x y : α} {l : List α} (hl : od.lt x y = true) (h : od.Srt (y :: l)) : x ∉ y :: l := fun hm => by
  rcases List.mem_cons.mp hm with rfl | hm
  · rw [od.irr] at hl; cases hl
  · have := od.tr _ _ _ hl ((List.pairwise_cons.mp h).1 x hm)
    rw [od.irr] at this; cases this
theorem diff_cons_out {x : α} {a b : List α} (h : x ∉ b) : diff (x :: a) b = x :: diff a b := by unfold diff; rw [List.filter_cons_of_pos (by simpa using h)]
theorem diff_cons_in {x : α} {a b : List α} (h : x ∈ b) : diff (x :: a) b = diff a b := by unfold diff; rw [List.filter_cons_of_neg (by simpa using h)]
theorem diff_drop {x : α} {a b : List α} (h : x ∉ b) : diff b (x :: a) = diff b a := by
  unfold diff
  apply List.filter_congr
  intro y hy
  have : y ≠ x := fun e => h (e ▸ hy)
  simp [this]
end
/-! ## the parts of sorted_list_difference -/
def tHand : Cx → AS → (Fl → AS → Prop) → Prop :=
  tSeq (tExpr (tMeth "extend" "list.extend" (tVar 4) (tCons (tFrm (tVar 0) (tVar 2)) tNil))) (tSeq (tExpr (tMeth "extend" "list.extend" (tVar 5) (tCons (tFrm (tVar 1) (tVar 3)) tNil))) (tSeq tBrk tEnd))
def tScan (kl ki ke : Nat) : Cx → AS → (Fl → AS → Prop) → (AS → Prop) → Prop := tWhR (tCmpR .Eq (tSubR (tVar kl) (tVar ki)) (tVar ke)) (tSeqR (tOfR (tAug ki (tInt 1))) tEndR) tEndR
section
variable {α : Type} [DecidableEq α] {od : Od α} {c : Cx}
theorem hand (ok : Ok c) {xs ys : List V} {i j : Int} {ms us : List V} {ve va : Option V} {P : Fl → AS → Prop} (hi : 0 ≤ i) (hj : 0 ≤ j) (zx : xs.length ≤ 1000) (zy : ys.length ≤ 1000) (zm : ms.length ≤ 1000) (zu : us.length ≤ 1000)
    (h : P .brk { vars := [some (.list xs), some (.list ys), some (.int i), some (.int j), some (.own 0), some (.own 1), ve, va], own := [ms ++ xs.drop i.toNat, us ++ ys.drop j.toNat] }) :
    tHand c { vars := [some (.list xs), some (.list ys), some (.int i), some (.int j), some (.own 0), some (.own 1), ve, va], own := [ms, us] } P := by
  refine ⟨Mt_extend (k := 0) rfl, ?_⟩
  refine ⟨xs, i, LV.l, rfl, hi, by omega, ?_⟩
  refine CL_extend ok (k := 0) rfl LV.l (by have := List.length_drop (i := i.toNat) (l := xs); omega) ⟨rfl, ?_⟩
  refine ⟨Mt_extend (k := 1) rfl, ?_⟩
  refine ⟨ys, j, LV.l, rfl, hj, by omega, ?_⟩
  refine CL_extend ok (k := 1) rfl LV.l (by have := List.length_drop (i := j.toNat) (l := ys); omega) ⟨rfl, ?_⟩
  exact h
theorem scan {kl ki ke : Nat} {σ : AS} {xs : List α} {i : Nat} {z : Int} {e : α} {P : Fl → AS → Prop} {PE : AS → Prop} (hz : z = (i : Nat)) (hi : i < 1000000) (h1 : ∀ K : V → Prop, K (.list (od.vs xs)) → vget σ.vars kl K) (h2 : ∀ K : V → Prop, K (.int z) → vget σ.vars ki K) (h3 : ∀ K : V → Prop, K (od.val e) → vget σ.vars ke K)
    (hne : ∀ x, xs[i]? = some x → x ≠ e) (hP : i < xs.length → P .next σ) (hPE : xs.length ≤ i → PE σ) : tScan kl ki ke c σ P PE := by
  refine ⟨1, h1 _ (h2 _ ⟨od.vs xs, i, rfl, congrArg V.int hz, hi, fun X hX => ?_, fun hn => ?_⟩)⟩
  · simp only [Od.vs, List.getElem?_map] at hX
    cases hx : xs[i]? with
    | none => rw [hx] at hX; cases hX
    | some x =>
      rw [hx] at hX
      simp only [Option.map_some, Option.some.injEq] at hX
      subst hX
      refine h3 _ (od.cEq _ _ _ _ _ ?_)
      show cond (decide (x = e)) _ _
      rw [decide_eq_false (hne x hx)]
      exact hP ((List.getElem?_eq_some_iff.mp hx).1)
  · simp only [Od.vs, List.getElem?_map, Option.map_eq_none_iff] at hn
    exact hPE (List.getElem?_eq_none_iff.mp hn)
theorem sld_end {M U : List α} {ms us : List V} {vars : List (Option V)} (hm : ms = od.vs M) (hu : us = od.vs U) : FnPost (fun X => X = .tup [.list (od.vs M), .list (od.vs U)]) (.ret (.tup [.own 0, .own 1])) { vars := vars, own := [ms, us] } := by
  subst hm hu
  exact ⟨.inr ⟨Nat.zero_le _, by simp [od.lows]⟩, rfl⟩
theorem diff_len (a b : List α) : (diff a b).length ≤ a.length := List.length_filter_le _ _
theorem vs_len (l : List α) : (od.vs l).length = l.length := List.length_map _
/-- what is asked of a state of the outer loop -/
structure Sld (od : Od α) (xs ys a b p q : List α) (i j : Int) (ms us : List V) : Prop where
  x : p ++ a = xs
  y : q ++ b = ys
  i : i = (p.length : Nat)
  j : j = (q.length : Nat)
  m : ∃ m, ms = od.vs m ∧ m ++ diff a b = diff xs ys
  u : ∃ u, us = od.vs u ∧ u ++ diff b a = diff ys xs
theorem Sld.hand {xs ys a b p q : List α} {i j : Int} {ms us : List V} (S : Sld od xs ys a b p q i j ms us) (ok : Ok c) (hab : a = [] ∨ b = []) (zx : xs.length ≤ 500) (zy : ys.length ≤ 500) {ve va : Option V} {P : Fl → AS → Prop}
    (h : ∀ ms' us', ms' = od.vs (diff xs ys) → us' = od.vs (diff ys xs) → P .brk { vars := [some (.list (od.vs xs)), some (.list (od.vs ys)), some (.int i), some (.int j), some (.own 0), some (.own 1), ve, va], own := [ms', us'] }) :
    tHand c { vars := [some (.list (od.vs xs)), some (.list (od.vs ys)), some (.int i), some (.int j), some (.own 0), some (.own 1), ve, va], own := [ms, us] } P := by
  obtain ⟨m, rfl, hm⟩ := S.m
  obtain ⟨u, rfl, hu⟩ := S.u
  have l1 := diff_len xs ys
  have l2 := diff_len ys xs
  have l3 := congrArg List.length hm
  have l4 := congrArg List.length hu
  simp only [List.length_append] at l3 l4
  have hx := S.x; have hy := S.y; have hi := S.i; have hj := S.j
  refine Mine.hand ok (by omega) (by omega) (by rw [vs_len]; omega) (by rw [vs_len]; omega) (by rw [vs_len]; omega) (by rw [vs_len]; omega) (h _ _ ?_ ?_)
  · have e1 : i.toNat = p.length := by omega
    have e2 : diff a b = a := by rcases hab with rfl | rfl; exact nil_diff _; exact diff_nil _
    rw [← hm, e1, ← hx, e2]
    simp [Od.vs]
  · have e1 : j.toNat = q.length := by omega
    have e2 : diff b a = b := by rcases hab with rfl | rfl; exact diff_nil _; exact nil_diff _
    rw [← hu, e1, ← hy, e2]
    simp [Od.vs]
theorem Od.srt_next {x : α} {a p xs : List α} (h : od.Srt xs) (e : p ++ x :: a = xs) : ∀ x', xs[p.length + 1]? = some x' → x' ≠ x := by
  intro x' h'
  subst e
  have h2 := (List.pairwise_append.mp h).2.1
  rw [List.getElem?_append_right (by omega)] at h'
  have : p.length + 1 - p.length = 1 := by omega
  rw [this] at h'
  have h3 : x' ∈ a := by
    cases a with
    | nil => cases h'
    | cons z a => simp only [List.getElem?_cons_succ, List.getElem?_cons_zero, Option.some.injEq] at h'; subst h'; exact .head _
  exact fun e => od.not_mem_head h2 (e ▸ h3)
theorem vs_at {x : α} {a p xs : List α} (e : p ++ x :: a = xs) : (od.vs xs)[p.length]? = some (od.val x) := by
  subst e; simp [Od.vs]
theorem vs_end {p xs : List α} (e : p ++ [] = xs) : (od.vs xs)[p.length]? = none := by
  subst e; simp [Od.vs]
theorem Sld.lt {xs ys a b p q : List α} {i j : Int} {ms us : List V} {x y : α} (S : Sld od xs ys (x :: a) (y :: b) p q i j ms us) (hy : od.Srt (y :: b)) (h : od.lt x y = true) : Sld od xs ys a (y :: b) (p ++ [x]) q (i + 1) j (ms ++ [od.val x]) us := by
  obtain ⟨m, rfl, hm⟩ := S.m
  obtain ⟨u, rfl, hu⟩ := S.u
  have n := od.lt_not_mem h hy
  refine ⟨by rw [← S.x]; simp, S.y, by rw [S.i]; simp, S.j, ⟨m ++ [x], by simp [Od.vs], ?_⟩, ⟨u, rfl, ?_⟩⟩
  · rw [← hm, diff_cons_out n]; simp
  · rw [← hu, diff_drop n]
theorem Sld.gt {xs ys a b p q : List α} {i j : Int} {ms us : List V} {x y : α} (S : Sld od xs ys (x :: a) (y :: b) p q i j ms us) (hx : od.Srt (x :: a)) (h : od.lt y x = true) : Sld od xs ys (x :: a) b p (q ++ [y]) i (j + 1) ms (us ++ [od.val y]) := by
  obtain ⟨m, rfl, hm⟩ := S.m
  obtain ⟨u, rfl, hu⟩ := S.u
  have n := od.lt_not_mem h hx
  refine ⟨S.x, by rw [← S.y]; simp, S.i, by rw [S.j]; simp, ⟨m, rfl, ?_⟩, ⟨u ++ [y], by simp [Od.vs], ?_⟩⟩
  · rw [← hm, diff_drop n]
  · rw [← hu, diff_cons_out n]; simp
theorem Sld.eq {xs ys a b p q : List α} {i j : Int} {ms us : List V} {x : α} (S : Sld od xs ys (x :: a) (x :: b) p q i j ms us) (hx : od.Srt (x :: a)) (hy : od.Srt (x :: b)) : Sld od xs ys a b (p ++ [x]) (q ++ [x]) (i + 1) (j + 1) ms us := by
  obtain ⟨m, rfl, hm⟩ := S.m
  obtain ⟨u, rfl, hu⟩ := S.u
  refine ⟨by rw [← S.x]; simp, by rw [← S.y]; simp, by rw [S.i]; simp, by rw [S.j]; simp, ⟨m, rfl, ?_⟩, ⟨u, rfl, ?_⟩⟩
  · rw [← hm, diff_cons_in (.head _), diff_drop (od.not_mem_head hx)]
  · rw [← hu, diff_cons_in (.head _), diff_drop (od.not_mem_head hy)]
end
end Mine
namespace Mine
/-! ## the twelve rights -/
def md (m : Int) : Nat := m.toNat % 4096
theorem md_lt (m : Int) : md m < 4096 := Nat.mod_lt _ (by decide)
theorem band_md {m : Int} (h0 : 0 ≤ m) {b : Nat} (hb : b < 4096) : Builtin.bitAnd m (b : Int) = ((md m &&& b : Nat) : Int) := by
  rw [bitAnd_nat h0 (Int.natCast_nonneg b), Int.toNat_natCast]
  congr 1
  apply Nat.eq_of_testBit_eq
  intro i
  unfold md
  rw [Nat.testBit_and, Nat.testBit_and, show (4096 : Nat) = 2 ^ 12 from rfl, Nat.testBit_mod_two_pow]
  by_cases q : i < 12
  · simp [q]
  · rw [Nat.testBit_lt_two_pow (Nat.lt_of_lt_of_le hb (Nat.pow_le_pow_right (by decide) (Nat.le_of_not_lt q) : 2 ^ 12 ≤ 2 ^ i))]; simp
theorem imode_md {m : Int} (h0 : 0 ≤ m) : Builtin.bitAnd m 4095 = (md m : Int) := by
  have := band_md h0 (b := 4095) (by decide)
  rw [show ((4095 : Nat) : Int) = 4095 from rfl] at this
  rw [this]
  congr 1
  rw [show (4095 : Nat) = 2 ^ 12 - 1 from rfl, Nat.and_two_pow_sub_one_eq_mod]
  exact Nat.mod_eq_of_lt (md_lt m)
theorem and_two_pow (n k : Nat) : n &&& 2 ^ k = (n.testBit k).toNat * 2 ^ k := by
  apply Nat.eq_of_testBit_eq
  intro i
  rw [Nat.testBit_and, Nat.testBit_two_pow]
  cases h : n.testBit k with
  | true =>
    rw [Bool.toNat_true, Nat.one_mul, Nat.testBit_two_pow]
    by_cases q : k = i
    · subst q; simp [h]
    · simp [q]
  | false =>
    rw [Bool.toNat_false, Nat.zero_mul, Nat.zero_testBit]
    by_cases q : k = i
    · subst q; simp [h]
    · simp [q]
theorem cons2 {α : Type} {a b : α} {l m : List α} (h : a = b) (k : l = m) : a :: l = b :: m := by rw [h, k]
theorem bit1 {m : Int} (h0 : 0 ≤ m) (k : Nat) (hk : k < 12) : (Builtin.bitAnd m ((2 ^ k : Nat) : Int) == ((2 ^ k : Nat) : Int)) = (md m).testBit k := by
  rw [band_md h0 (Nat.pow_lt_pow_right (by decide) hk : 2 ^ k < 2 ^ 12), Mine.and_two_pow]
  cases (md m).testBit k with
  | true => simp
  | false =>
    have : 0 < 2 ^ k := Nat.two_pow_pos k
    have e : ¬ (((false.toNat * 2 ^ k : Nat) : Int) = ((2 ^ k : Nat) : Int)) := by simp only [Bool.toNat_false, Nat.zero_mul]; omega
    simpa using e
theorem bit2 {m : Int} (h0 : 0 ≤ m) (j k : Nat) (hj : j < 12) (hk : k < 12) (hb : (2 ^ j ||| 2 ^ k) < 4096) (hd : ∀ a b : Bool, ((a.toNat * 2 ^ j ||| b.toNat * 2 ^ k) == (2 ^ j ||| 2 ^ k)) = (a && b)) : (Builtin.bitAnd m ((2 ^ j ||| 2 ^ k : Nat) : Int) == ((2 ^ j ||| 2 ^ k : Nat) : Int)) = ((md m).testBit j && (md m).testBit k) := by
  rw [band_md h0 hb, Nat.and_or_distrib_left, Mine.and_two_pow, Mine.and_two_pow, ← hd]
  rw [Bool.eq_iff_iff, beq_iff_eq, beq_iff_eq]
  omega
/-- the sign at a place -/
def ch (n p : Nat) : Nat :=
  if p % 3 = 1 then cond (n.testBit (9 - p)) 114 45
  else if p % 3 = 2 then cond (n.testBit (9 - p)) 119 45
  else if p = 9 then cond (n.testBit (12 - p / 3) && n.testBit (9 - p)) 116 (cond (n.testBit (12 - p / 3)) 84 (cond (n.testBit (9 - p)) 120 45))
  else cond (n.testBit (12 - p / 3) && n.testBit (9 - p)) 115 (cond (n.testBit (12 - p / 3)) 83 (cond (n.testBit (9 - p)) 120 45))
def one (c : Nat) : Str := ⟨#[c]⟩
/-- the sign of the kind -/
def kind (m : Int) : Nat := if Builtin.bitAnd m 61440 = 40960 then 108 else if Builtin.bitAnd m 61440 = 49152 then 115 else if Builtin.bitAnd m 61440 = 32768 then 45 else if Builtin.bitAnd m 61440 = 24576 then 98 else if Builtin.bitAnd m 61440 = 16384 then 100 else if Builtin.bitAnd m 61440 = 8192 then 99 else if Builtin.bitAnd m 61440 = 4096 then 112 else 63
def codes (m : Int) : List Nat := kind m :: (List.range 9).map fun k => ch (md m) (k + 1)
theorem cond_if {α : Type} (a b : Int) (x y : α) : cond (a == b) x y = if a = b then x else y := by
  by_cases h : a = b
  · rw [if_pos h, show (a == b) = true by simpa using h]; rfl
  · rw [if_neg h, show (a == b) = false by simpa using h]; rfl
theorem apply_ite' (p : Prop) [Decidable p] (a b : Nat) : one (if p then a else b) = if p then one a else one b := by split <;> rfl
theorem fmS_codes {m : Int} (h0 : 0 ≤ m) : fmS m = (codes m).map one := by
  have t (k : Nat) (hk : k < 12) := bit1 h0 k hk
  have d1 := bit2 h0 11 6 (by decide) (by decide) (by decide) (by decide)
  have d2 := bit2 h0 10 3 (by decide) (by decide) (by decide) (by decide)
  have d3 := bit2 h0 9 0 (by decide) (by decide) (by decide) (by decide)
  unfold fmS codes
  rw [List.map_cons]
  congr 1
  · simp only [row0, pick, cond_if, kind, apply_ite']
    rfl
  · rw [show (List.range 9).map (fun k => ch (md m) (k + 1)) = [ch (md m) 1, ch (md m) 2, ch (md m) 3, ch (md m) 4, ch (md m) 5, ch (md m) 6, ch (md m) 7, ch (md m) 8, ch (md m) 9] from rfl]
    simp only [rows9, List.map]
    have e8 := t 8 (by decide); have e7 := t 7 (by decide); have e11 := t 11 (by decide); have e6 := t 6 (by decide); have e5 := t 5 (by decide); have e4 := t 4 (by decide); have e10 := t 10 (by decide); have e3 := t 3 (by decide)
    have e2 := t 2 (by decide); have e1 := t 1 (by decide); have e9 := t 9 (by decide); have e0 := t 0 (by decide)
    generalize md m = n at *
    refine cons2 ?_ (cons2 ?_ (cons2 ?_ (cons2 ?_ (cons2 ?_ (cons2 ?_ (cons2 ?_ (cons2 ?_ (cons2 ?_ rfl))))))))
    · show cond (Builtin.bitAnd m 256 == 256) _ _ = one (cond (n.testBit 8) 114 45)
      rw [show (Builtin.bitAnd m 256 == 256) = n.testBit 8 from e8]; cases n.testBit 8 <;> rfl
    · show cond (Builtin.bitAnd m 128 == 128) _ _ = one (cond (n.testBit 7) 119 45)
      rw [show (Builtin.bitAnd m 128 == 128) = n.testBit 7 from e7]; cases n.testBit 7 <;> rfl
    · show cond (Builtin.bitAnd m 2112 == 2112) _ (cond (Builtin.bitAnd m 2048 == 2048) _ (cond (Builtin.bitAnd m 64 == 64) _ _)) = one (cond (n.testBit 11 && n.testBit 6) 115 (cond (n.testBit 11) 83 (cond (n.testBit 6) 120 45)))
      rw [show (Builtin.bitAnd m 2112 == 2112) = _ from d1, show (Builtin.bitAnd m 2048 == 2048) = _ from e11, show (Builtin.bitAnd m 64 == 64) = _ from e6]; cases n.testBit 11 <;> cases n.testBit 6 <;> rfl
    · show cond (Builtin.bitAnd m 32 == 32) _ _ = one (cond (n.testBit 5) 114 45)
      rw [show (Builtin.bitAnd m 32 == 32) = _ from e5]; cases n.testBit 5 <;> rfl
    · show cond (Builtin.bitAnd m 16 == 16) _ _ = one (cond (n.testBit 4) 119 45)
      rw [show (Builtin.bitAnd m 16 == 16) = _ from e4]; cases n.testBit 4 <;> rfl
    · show cond (Builtin.bitAnd m 1032 == 1032) _ (cond (Builtin.bitAnd m 1024 == 1024) _ (cond (Builtin.bitAnd m 8 == 8) _ _)) = one (cond (n.testBit 10 && n.testBit 3) 115 (cond (n.testBit 10) 83 (cond (n.testBit 3) 120 45)))
      rw [show (Builtin.bitAnd m 1032 == 1032) = _ from d2, show (Builtin.bitAnd m 1024 == 1024) = _ from e10, show (Builtin.bitAnd m 8 == 8) = _ from e3]; cases n.testBit 10 <;> cases n.testBit 3 <;> rfl
    · show cond (Builtin.bitAnd m 4 == 4) _ _ = one (cond (n.testBit 2) 114 45)
      rw [show (Builtin.bitAnd m 4 == 4) = _ from e2]; cases n.testBit 2 <;> rfl
    · show cond (Builtin.bitAnd m 2 == 2) _ _ = one (cond (n.testBit 1) 119 45)
      rw [show (Builtin.bitAnd m 2 == 2) = _ from e1]; cases n.testBit 1 <;> rfl
    · show cond (Builtin.bitAnd m 513 == 513) _ (cond (Builtin.bitAnd m 512 == 512) _ (cond (Builtin.bitAnd m 1 == 1) _ _)) = one (cond (n.testBit 9 && n.testBit 0) 116 (cond (n.testBit 9) 84 (cond (n.testBit 0) 120 45)))
      rw [show (Builtin.bitAnd m 513 == 513) = _ from d3, show (Builtin.bitAnd m 512 == 512) = _ from e9, show (Builtin.bitAnd m 1 == 1) = _ from e0]; cases n.testBit 9 <;> cases n.testBit 0 <;> rfl
theorem glue_foldl : ∀ (l : List Nat) (a : Array Nat), (l.map one).foldl (fun acc p => acc ++ (Str.cps "") ++ p.cps) a = a ++ l.toArray := by
  intro l
  induction l with
  | nil => intro a; simp
  | cons c l ih =>
    intro a
    rw [List.map_cons, List.foldl_cons, ih]
    have : (Str.cps "") = #[] := by decide
    rw [this]
    simp [one]
theorem join_one (l : List Nat) : Txt.join "" (l.map one) = ⟨l.toArray⟩ := by
  cases l with
  | nil => rfl
  | cons c l =>
    show (⟨((l.map one)).foldl (fun acc p => acc ++ (Str.cps "") ++ p.cps) (one c).cps⟩ : Str) = _
    rw [glue_foldl]
    simp [one]
/-- what filemode tells -/
def shown (m : Int) : Str := ⟨(codes m).toArray⟩
theorem shown_eq {m : Int} (h0 : 0 ≤ m) : Txt.join "" (fmS m) = shown m := by rw [fmS_codes h0, join_one]; rfl
/-- the signs of a place, as the law has them -/
def rowS (p : Nat) : Str := if p < 9 then (if p % 3 = 0 then "-xsS" else if p % 3 = 1 then "-r" else "-w") else "-xtT"
theorem told (n p : Nat) (h1 : 1 ≤ p) (h9 : p ≤ 9) : ((2 == Txt.find (rowS p) (one (ch n p)) || 3 == Txt.find (rowS p) (one (ch n p))) = (decide (p % 3 = 0) && n.testBit (12 - p / 3))) ∧ ((1 == Txt.find (rowS p) (one (ch n p)) || 2 == Txt.find (rowS p) (one (ch n p))) = n.testBit (9 - p)) := by
  have h : p = 1 ∨ p = 2 ∨ p = 3 ∨ p = 4 ∨ p = 5 ∨ p = 6 ∨ p = 7 ∨ p = 8 ∨ p = 9 := by omega
  rcases h with rfl | rfl | rfl | rfl | rfl | rfl | rfl | rfl | rfl
  · exact (by decide +kernel : ∀ b x : Bool, ((2 == Txt.find (rowS 1) (one (cond b 114 45)) || 3 == Txt.find (rowS 1) (one (cond b 114 45))) = (decide (1 % 3 = 0) && x)) ∧ ((1 == Txt.find (rowS 1) (one (cond b 114 45)) || 2 == Txt.find (rowS 1) (one (cond b 114 45))) = b)) (n.testBit 8) (n.testBit 12)
  · exact (by decide +kernel : ∀ b x : Bool, ((2 == Txt.find (rowS 2) (one (cond b 119 45)) || 3 == Txt.find (rowS 2) (one (cond b 119 45))) = (decide (2 % 3 = 0) && x)) ∧ ((1 == Txt.find (rowS 2) (one (cond b 119 45)) || 2 == Txt.find (rowS 2) (one (cond b 119 45))) = b)) (n.testBit 7) (n.testBit 12)
  · exact (by decide +kernel : ∀ a b : Bool, ((2 == Txt.find (rowS 3) (one (cond (a && b) 115 (cond a 83 (cond b 120 45)))) || 3 == Txt.find (rowS 3) (one (cond (a && b) 115 (cond a 83 (cond b 120 45))))) = (decide (3 % 3 = 0) && a)) ∧ ((1 == Txt.find (rowS 3) (one (cond (a && b) 115 (cond a 83 (cond b 120 45)))) || 2 == Txt.find (rowS 3) (one (cond (a && b) 115 (cond a 83 (cond b 120 45))))) = b)) (n.testBit 11) (n.testBit 6)
  · exact (by decide +kernel : ∀ b x : Bool, ((2 == Txt.find (rowS 4) (one (cond b 114 45)) || 3 == Txt.find (rowS 4) (one (cond b 114 45))) = (decide (4 % 3 = 0) && x)) ∧ ((1 == Txt.find (rowS 4) (one (cond b 114 45)) || 2 == Txt.find (rowS 4) (one (cond b 114 45))) = b)) (n.testBit 5) (n.testBit 11)
  · exact (by decide +kernel : ∀ b x : Bool, ((2 == Txt.find (rowS 5) (one (cond b 119 45)) || 3 == Txt.find (rowS 5) (one (cond b 119 45))) = (decide (5 % 3 = 0) && x)) ∧ ((1 == Txt.find (rowS 5) (one (cond b 119 45)) || 2 == Txt.find (rowS 5) (one (cond b 119 45))) = b)) (n.testBit 4) (n.testBit 11)
  · exact (by decide +kernel : ∀ a b : Bool, ((2 == Txt.find (rowS 6) (one (cond (a && b) 115 (cond a 83 (cond b 120 45)))) || 3 == Txt.find (rowS 6) (one (cond (a && b) 115 (cond a 83 (cond b 120 45))))) = (decide (6 % 3 = 0) && a)) ∧ ((1 == Txt.find (rowS 6) (one (cond (a && b) 115 (cond a 83 (cond b 120 45)))) || 2 == Txt.find (rowS 6) (one (cond (a && b) 115 (cond a 83 (cond b 120 45))))) = b)) (n.testBit 10) (n.testBit 3)
  · exact (by decide +kernel : ∀ b x : Bool, ((2 == Txt.find (rowS 7) (one (cond b 114 45)) || 3 == Txt.find (rowS 7) (one (cond b 114 45))) = (decide (7 % 3 = 0) && x)) ∧ ((1 == Txt.find (rowS 7) (one (cond b 114 45)) || 2 == Txt.find (rowS 7) (one (cond b 114 45))) = b)) (n.testBit 2) (n.testBit 10)
  · exact (by decide +kernel : ∀ b x : Bool, ((2 == Txt.find (rowS 8) (one (cond b 119 45)) || 3 == Txt.find (rowS 8) (one (cond b 119 45))) = (decide (8 % 3 = 0) && x)) ∧ ((1 == Txt.find (rowS 8) (one (cond b 119 45)) || 2 == Txt.find (rowS 8) (one (cond b 119 45))) = b)) (n.testBit 1) (n.testBit 10)
  · exact (by decide +kernel : ∀ a b : Bool, ((2 == Txt.find (rowS 9) (one (cond (a && b) 116 (cond a 84 (cond b 120 45)))) || 3 == Txt.find (rowS 9) (one (cond (a && b) 116 (cond a 84 (cond b 120 45))))) = (decide (9 % 3 = 0) && a)) ∧ ((1 == Txt.find (rowS 9) (one (cond (a && b) 116 (cond a 84 (cond b 120 45)))) || 2 == Txt.find (rowS 9) (one (cond (a && b) 116 (cond a 84 (cond b 120 45))))) = b)) (n.testBit 9) (n.testBit 0)
theorem fzs_vI (m : Nat) (l : List (List V)) (ns : List Int) : V.fzs m l (vI ns) = vI ns := by
  induction ns with
  | nil => rfl
  | cons n ns ih => show V.int n :: V.fzs m l (vI ns) = _; rw [ih]; rfl
theorem fzs_vS (m : Nat) (l : List (List V)) (ns : List Str) : V.fzs m l (vS ns) = vS ns := by
  induction ns with
  | nil => rfl
  | cons n ns ih => show V.str n :: V.fzs m l (vS ns) = _; rw [ih]; rfl
theorem fz_vI (m : Nat) (l : List (List V)) (ns : List Int) : V.fz m l (.list (vI ns)) = .list (vI ns) := congrArg V.list (fzs_vI m l ns)
theorem fz_vS (m : Nat) (l : List (List V)) (ns : List Str) : V.fz m l (.list (vS ns)) = .list (vS ns) := congrArg V.list (fzs_vS m l ns)
theorem rng_items (a d : Nat) : rngItems a (a + d : Nat) 1 = (List.range' a d).map fun p => V.int (p : Nat) := by
  unfold rngItems
  have e : (Builtin.Range.rangeSize (a : Int) ((a + d : Nat) : Int) 1).toNat = d := by
    unfold Builtin.Range.rangeSize
    by_cases h : d = 0
    · subst h; simp
    · simp; omega
  rw [e, List.range'_eq_map_range, List.map_map]
  apply List.map_congr_left
  intro i _
  simp
end Mine
namespace Mine
theorem Hc.comp {c c' : Cx} {g : Gc} {d : Nat} (H : Hc c g d) (ok : Ok c') (hg : c'.g = c.g) (hA : c'.A = c.A) (hE : c'.E = fun _ _ => False) (hx : c'.hx = false) : Hc c' g d := ⟨ok, hg.trans H.g, hE, by rw [hA]; exact H.d, hx⟩
/-- a comprehension over one name -/
theorem CompT.fm1 {c : Cx} {F : AS → (Bool → AS → Prop) → Prop} {T : AS → (V → AS → Prop) → Prop} (p : V → Bool) (f : V → V) {P : List V → Prop} : ∀ (xs : List V) (v : Option V) (ys : List V),
    (∀ x ∈ xs, ∀ ys P, P (p x) { vars := [some x], own := [ys] } → F { vars := [some x], own := [ys] } P) → (∀ x ∈ xs, ∀ ys P, P (f x) { vars := [some x], own := [ys] } → T { vars := [some x], own := [ys] } P) →
    ys.length + xs.length ≤ 1000000 → V.lows 0 (ys ++ (xs.filter p).map f) = true → (∀ zs, zs = ys ++ (xs.filter p).map f → P zs) → CompT (tAName 0 c) F T xs { vars := [v], own := [ys] } P
  | [], v, ys, _, _, _, hl, hp => ⟨ys, rfl, by simpa using hl, hp _ (by simp)⟩
  | x :: xs, v, ys, hF, hT, hz, hl, hp => by
    refine hF x (.head _) ys _ ?_
    cases h : p x with
    | true =>
      rw [List.filter_cons_of_pos h, List.map_cons] at hl
      refine hT x (.head _) ys _ ⟨ys, rfl, by simp at hz; omega, ?_⟩
      exact CompT.fm1 p f xs (some x) (ys ++ [f x]) (fun z hz => hF z (.tail _ hz)) (fun z hz => hT z (.tail _ hz)) (by simp at hz ⊢; omega) (by simpa using hl) fun zs e => hp zs (by rw [e, List.filter_cons_of_pos h]; simp)
    | false =>
      rw [List.filter_cons_of_neg (by simp [h])] at hl
      exact ⟨rfl, CompT.fm1 p f xs (some x) ys (fun z hz => hF z (.tail _ hz)) (fun z hz => hT z (.tail _ hz)) (by simp at hz ⊢; omega) hl fun zs e => hp zs (by rw [e, List.filter_cons_of_neg (by simp [h])])⟩
/-- over ints -/
theorem CompT.mapI {c : Cx} {T : AS → (V → AS → Prop) → Prop} {ι : Type} (g : ι → V) (f : ι → V) {P : List V → Prop} (xs : List ι) (v : Option V)
    (hT : ∀ x ∈ xs, ∀ ys P, P (f x) { vars := [some (g x)], own := [ys] } → T { vars := [some (g x)], own := [ys] } P) (hz : xs.length ≤ 1000000) (hl : V.lows 0 (xs.map f) = true) (hp : ∀ zs, zs = xs.map f → P zs) : CompT (tAName 0 c) (tAnd0 c) T (xs.map g) { vars := [v], own := [[]] } P := by
  have main : ∀ (xs : List ι) (v : Option V) (ys : List V), (∀ x ∈ xs, ∀ ys P, P (f x) { vars := [some (g x)], own := [ys] } → T { vars := [some (g x)], own := [ys] } P) → ys.length + xs.length ≤ 1000000 → V.lows 0 (ys ++ xs.map f) = true → (∀ zs, zs = ys ++ xs.map f → P zs) → CompT (tAName 0 c) (tAnd0 c) T (xs.map g) { vars := [v], own := [ys] } P := by
    intro xs
    induction xs with
    | nil => intro v ys _ _ hl hp; exact ⟨ys, rfl, by simpa using hl, hp _ (by simp)⟩
    | cons x xs ih =>
      intro v ys hT hz hl hp
      refine hT x (.head _) ys _ ⟨ys, rfl, by simp at hz; omega, ?_⟩
      exact ih (some (g x)) (ys ++ [f x]) (fun z hz => hT z (.tail _ hz)) (by simp at hz ⊢; omega) (by simpa using hl) fun zs e => hp zs (by rw [e]; simp)
  exact main xs v [] hT (by simpa using hz) hl hp
/-! ## worth of rights -/
def signs2 (n : Int) : List Int := [alphAt (n / 64), alphAt (n % 64)]
end Mine
namespace Mine
theorem fn_top0 {g : Gc} {f : Addr} {d : Nat} {xs bxs : List V} {P : V → Prop} {fd : FuncData} {body : List Stmt} {scope : Scope} {qual : Str} {cdv : Value} {ps ls : List Str} {gls : List (Str × V)} (K : FnOk g f fd body scope qual cdv ps ls gls) (hgl : AllG g gls)
    (hbind : ∀ s vs kvs G O, g.base.StaysIn s.heap → VRs s.heap G O vs xs → VRs s.heap G O kvs ((([] : List (Str × V))).map (·.2)) → ∃ bvs, BindsTo s fd ⟨vs, ((([] : List (Str × V))).map (·.1)).zip kvs⟩ (ps.zip bvs) ∧ VRs s.heap G O bvs bxs)
    (hlen : ps.length = bxs.length) (hlow : V.lows 0 bxs = true) {names : List Str} {vars₀ : List (Option V)} (hnm : ps ++ ls = names) (hvr : (bxs.map some ++ ls.map fun _ => none) = vars₀)
    (h : ∀ A he G₀ outer L, Ok (fcx g A he G₀ outer L f scope qual cdv names gls) → A.depth + d ≤ 500 → XF (fcx g A he G₀ outer L f scope qual cdv names gls) body { vars := vars₀, own := [] } (FnPost P)) (hd1 : 1 ≤ d)
    {A : Around} {s : Shared} {vs : List Value} (hA : A.handled = none) (hfr : A.frames = some []) (hu : A.units ≤ 3 * A.depth) (hd : A.depth + d ≤ 500) (hb0 : s.heap = g.base) (hv : VRs s.heap (fun a => ∃ o, s.heap.get? a = some o) [] vs xs) :
    wpAny (model g.prog g.w) A (call (.ref f) vs) (fun v s' => ∃ X G', P X ∧ VR s'.heap G' [] v X ∧ g.base.StaysIn s'.heap ∧ ∃ h tk, s' = { s with heap := h, toks := tk }) (fun _ _ => False) s := by
  let G : Addr → Prop := fun a => ∃ o, s.heap.get? a = some o
  have Rbase : g.base.StaysIn s.heap := fun b o e => hb0 ▸ e
  subst hnm hvr
  obtain rfl := K.seq
  obtain rfl := K.qeq
  obtain rfl := K.ceq
  obtain ⟨o, ho, hdat⟩ := K.at'
  obtain ⟨bvs, hb, hbv⟩ := hbind s vs [] G [] Rbase hv .nil
  have hbl : ps.length = bvs.length := by rw [hlen, ← hbv.length]
  have nk : ∀ x ∈ ps ++ ls, fd.scope.names.lookup x = some .local ∨ (fd.scope.names.lookup x = some .cell ∧ ∀ n, ((cellsFrom n fd.scope.names []).lookup x).isSome = true) := by
    intro x hx
    have := List.all_eq_true.mp K.nk x hx
    simp only [Bool.or_eq_true, Bool.and_eq_true, beq_iff_eq] at this
    refine this.imp id fun q => ⟨q.1, fun n => ?_⟩
    have := cellsFrom_shift fd.scope.names 0 n [] x
    rw [Nat.zero_add, List.map_nil] at this
    rw [this, Option.isSome_map]; exact q.2
  have npd : ps.Nodup := (List.nodup_append.mp K.nd).1
  refine wpAny_call (codeAny_call_function (by show A.depth < recursionLimit; unfold recursionLimit; omega) (Rbase _ _ ho) hdat K.co K.gen K.stmts (K.code.keeps Rbase) (hb _ _ _ _ ?_))
  rw [K.clo]
  refine wpAny_newFunctionEnv_cells K.kind (fun x hx => ?_) fun env henv s₁ x => ?_
  · have hm : x.1 ∈ ps ++ ls := List.mem_append_left _ (List.of_mem_zip hx).1
    exact (nk x.1 hm).imp id fun q => ⟨q.1, q.2 _⟩
  have henv' : env = fenv fd.scope fd.qualname fd.code s.heap.objs.size f := by rw [henv, K.glob, K.blt]; rfl
  subst henv'
  refine ⟨(K.nolim.keeps Rbase).keeps x.toInCall.keep, codeAny_func ?_⟩
  have frL : s.heap.get? s.heap.objs.size = none := fresh_size _
  generalize hL : s.heap.objs.size = L at x frL
  have keep := x.toInCall.keep
  obtain ⟨h₁, tk₁, rfl⟩ := x.toInCall.same
  have cnd : ((cellsFrom (L + 1) fd.scope.names []).map (·.1)).Nodup := cellsFrom_names fd.scope.names 0 (L + 1) [] [] rfl ▸ K.cn
  have nsz : ∀ a, L ≤ a → s.heap.get? a = none := fun a ha => by
    cases e : s.heap.get? a with
    | none => rfl
    | some o => have h9 := Heap.lt_size e; rw [hL] at h9; exact absurd h9 (Nat.not_lt.mpr ha)
  have cellAt : ∀ n a, (n, a) ∈ cellsFrom (L + 1) fd.scope.names [] → L < a ∧ (cellsFrom (L + 1) fd.scope.names []).lookup n = some a := fun n a hm => ⟨x.above n a hm, lookup_of_mem_nodup cnd hm⟩
  have frC : ∀ a ∈ (cellsFrom (L + 1) fd.scope.names []).map (·.2), L < a ∧ ∃ vo, h₁.IsCell a vo := by
    intro a ha
    obtain ⟨q, hq, rfl⟩ := List.mem_map.mp ha
    exact ⟨(cellAt q.1 q.2 hq).1, _, x.cell q.1 q.2 (cellAt q.1 q.2 hq).2⟩
  let c' := fcx g A s.heap G [] L f fd.scope fd.qualname fd.code (ps ++ ls) gls
  have hkind : c'.env.scope.kind = .function := K.kind
  have okd : c'.A.depth = A.depth + 1 := rfl
  have oku : c'.A.units = A.units + 3 := rfl
  have ok' : Ok c' := by
    refine ⟨fun _ => hA, ?_, hkind, rfl, rfl, K.nd, fun y hy => ?_, .head _, fun y hy hk a ha => ?_, fun y hy z hz hk hk' a ha ha' => ?_, fun p hp => (nomatch hp), ?_, ?_, K.nolim, fun M hM => ?_, fun a o e => ⟨o, Rbase a o e⟩, fun p hp => ?_, fun x hx => by simpa using List.all_eq_true.mp K.dbg x hx⟩
    · show (A.frames.map _) = _
      rw [hfr]; rfl
    · refine (nk y hy).imp id fun q => ⟨q.1, ?_⟩
      obtain ⟨a, ha⟩ := Option.isSome_iff_exists.mp (q.2 (L + 1))
      exact ⟨a, .tail _ (List.mem_map.mpr ⟨(y, a), mem_of_lookup ha, rfl⟩), ha⟩
    · exact Nat.ne_of_gt (cellAt y a (mem_of_lookup ha)).1
    · exact name_of_addr x.apart (mem_of_lookup ha) (mem_of_lookup ha')
    · rw [oku, okd]; omega
    · rw [okd]; omega
    · rcases List.mem_cons.mp hM with rfl | hM
      · exact .inl (.head _)
      · cases hM
    · have := List.all_eq_true.mp K.gk p hp
      rw [Bool.and_eq_true, beq_iff_eq, Bool.not_eq_true'] at this
      exact ⟨this.1, hgl p hp, this.2⟩
  have kk : ∀ S, Ke S s.heap h₁ := fun S => Ke.of_keeps fun b o _ e => keep b o e
  have hbv' : VRs h₁ G [] bvs bxs := by
    have := hbv.low (m := 0) (G' := G) (fun _ q => q) hlow
    simpa using this.mono (kk G) (fun _ q => q) ⟨[], by simp⟩
  have R' : Rl c' { vars := bxs.map some ++ ls.map fun _ => none, own := [] } { s with heap := h₁, toks := tk₁ } G [] := by
    refine ⟨fun b o e => keep b o (Rbase b o e), kk _, ⟨?_, ?_, ?_⟩, ?_, fun a ga => ga.imp fun o e => keep a o e, fun a ga => .inl ga, fun a ga => ga, fun a ha => ?_, fun a ha => (nomatch ha), List.nodup_nil, ⟨_, x.toInCall.ns⟩, fun y hy hk a ha => ?_, fun j y Y hy hY => ?_, rfl, fun j xs e => (by simp at e), fun p hp => (nomatch hp)⟩
    · show fd.scope.kind ≠ .module
      rw [K.kind]; decide
    · obtain ⟨oL, es, ep, e1, e2, _⟩ := x.toInCall.ns
      refine ⟨L, oL, rfl, ?_, e1, fun vs => by rw [e2]; intro q; cases q⟩
      cases e : g.base.get? L with
      | none => rfl
      | some o => have := Rbase _ _ e; rw [frL] at this; cases this
    · trivial
    · intro M hM
      rcases List.mem_cons.mp hM with rfl | hM
      · obtain ⟨oL, es, ep, e1, e2, _⟩ := x.toInCall.ns
        exact ⟨oL, e1, es, ep, e2⟩
      · cases hM
    · have ha' : L ≤ a ∧ ∃ o, h₁.get? a = some o := by
        rcases List.mem_cons.mp ha with rfl | ha
        · obtain ⟨oL, es, ep, e1, _⟩ := x.toInCall.ns
          exact ⟨Nat.le_refl _, oL, e1⟩
        · obtain ⟨q1, vo, o, e, _⟩ := frC a ha
          exact ⟨Nat.le_of_lt q1, o, e⟩
      refine ⟨nsz a ha'.1, fun g => ?_, fun q => (nomatch q), ha'.2⟩
      obtain ⟨o, e⟩ := g
      rw [nsz a ha'.1] at e; cases e
    · exact ⟨_, x.cell y a ha⟩
    · have e := hY.get
      have hj : j < bxs.length := by
        rcases Nat.lt_or_ge j bxs.length with q | q
        · exact q
        · rw [List.getElem?_append_right (by simpa using q)] at e
          simp only [List.length_map, List.getElem?_map] at e
          cases e9 : ls[j - bxs.length]? with
          | none => rw [e9] at e; cases e
          | some w => rw [e9] at e; cases e
      rw [List.getElem?_append_left (by simpa using hj), List.getElem?_map] at e
      have e2 : bxs[j]? = some Y := by
        cases e9 : bxs[j]? with
        | none => rw [e9] at e; cases e
        | some w => rw [e9] at e; simp only [Option.map_some, Option.some.injEq] at e; rw [e]
      obtain ⟨v, hv1, hv2⟩ := hbv'.get e2
      have hy' : ps[j]? = some y := by
        have := hy.get
        have q : (ps ++ ls)[j]? = some y := this
        rwa [List.getElem?_append_left (by omega)] at q
      refine ⟨v, hv2, ?_⟩
      rcases nk y (List.mem_append_left _ (List.mem_of_getElem? hy')) with q | ⟨q, q'⟩
      · exact .inl ⟨q, _, x.toInCall.ns, bindL_get npd hy' hv1 q⟩
      · obtain ⟨a, ha⟩ := Option.isSome_iff_exists.mp (q' (L + 1))
        refine .inr ⟨q, a, ha, ?_⟩
        have := x.cell y a ha
        rwa [bindC_get npd hy' hv1 q] at this
  have hbody := h A s.heap G [] L ok' hd
  refine wpAny_mono (hbody _ _ _ R') (fun fl s' q => ?_) fun _ _ e => e.elim
  obtain ⟨y, σ', G', O', hp, R₂, same, r₂⟩ := q
  obtain ⟨h2, tk2, rfl⟩ := same
  cases r₂ with
  | next => exact hp.elim
  | brk => exact hp.elim
  | cont => exact hp.elim
  | ret hv =>
    obtain ⟨hc, hP⟩ := hp
    obtain ⟨G₃, R₃, _, _, hvr⟩ := R₂.col 0 hc
    rw [List.take_zero] at R₃ hvr
    have := hvr _ _ hv
    rw [List.drop_zero] at this
    exact ⟨_, G₃, hP, this, R₂.base, h2, tk2, rfl⟩
theorem fn_top {g : Gc} {f : Addr} (d : Nat) {xs bxs : List V} {P : V → Prop} {fd : FuncData} {body : List Stmt} {scope : Scope} {qual : Str} {cdv : Value} {ps ls : List Str} {gls : List (Str × V)} (K : FnOk g f fd body scope qual cdv ps ls gls) (hgl : AllG g gls)
    (hbind : ∀ s vs kvs G O, g.base.StaysIn s.heap → VRs s.heap G O vs xs → VRs s.heap G O kvs ((([] : List (Str × V))).map (·.2)) → ∃ bvs, BindsTo s fd ⟨vs, ((([] : List (Str × V))).map (·.1)).zip kvs⟩ (ps.zip bvs) ∧ VRs s.heap G O bvs bxs)
    (hlen : ps.length = bxs.length) (hlow : V.lows 0 bxs = true) {names : List Str} {vars₀ : List (Option V)} (hnm : ps ++ ls = names) (hvr : (bxs.map some ++ ls.map fun _ => none) = vars₀)
    {T : Cx → AS → (Fl → AS → Prop) → Prop} (hS : ∀ A he G₀ outer L, Ok (fcx g A he G₀ outer L f scope qual cdv names gls) → SF (fcx g A he G₀ outer L f scope qual cdv names gls) body T)
    (hT : ∀ c, Hc c g d → T c { vars := vars₀, own := [] } (FnPost P)) (hd1 : 1 ≤ d) {A : Around} {s : Shared} {vs : List Value} (hA : A.handled = none) (hfr : A.frames = some []) (hu : A.units ≤ 3 * A.depth) (hd : A.depth + d ≤ 500) (hb0 : s.heap = g.base) (hv : VRs s.heap (fun a => ∃ o, s.heap.get? a = some o) [] vs xs) :
    wpAny (model g.prog g.w) A (call (.ref f) vs) (fun v s' => ∃ X G', P X ∧ VR s'.heap G' [] v X ∧ g.base.StaysIn s'.heap ∧ ∃ h tk, s' = { s with heap := h, toks := tk }) (fun _ _ => False) s :=
  fn_top0 K hgl hbind hlen hlow hnm hvr (fun A he G₀ outer L ok hd => hS A he G₀ outer L ok _ _ (hT _ ⟨ok, rfl, rfl, by show A.depth + 1 + d ≤ 501; omega, rfl⟩)) hd1 hA hfr hu hd hb0 hv
end Mine
namespace Mine
/-! ## signs and octets -/
def octs (a b : Int) : List Int := [(a * 4096 + b) / 65536, (a * 4096 + b) / 256 % 256, (a * 4096 + b) % 256]
theorem octs_in {a b : Int} (ha : 0 ≤ a ∧ a < 4096) (hb : 0 ≤ b ∧ b < 4096) : InB (octs a b) := by
  intro n hn
  simp only [octs, List.mem_cons, List.not_mem_nil, or_false] at hn
  rcases hn with rfl | rfl | rfl <;> omega
theorem encs_octs {a b : Int} (ha : 0 ≤ a ∧ a < 4096) (hb : 0 ≤ b ∧ b < 4096) (r : List Int) : encs (octs a b ++ r) = signs2 a ++ (signs2 b ++ encs r) := by
  show alphAt _ :: alphAt _ :: alphAt _ :: alphAt _ :: encs r = alphAt _ :: alphAt _ :: alphAt _ :: alphAt _ :: encs r
  rw [show (a * 4096 + b) / 65536 / 4 = a / 64 by omega, show (a * 4096 + b) / 65536 % 4 * 16 + (a * 4096 + b) / 256 % 256 / 16 = a % 64 by omega, show (a * 4096 + b) / 256 % 256 % 16 * 4 + (a * 4096 + b) % 256 / 64 = b / 64 by omega, show (a * 4096 + b) % 256 % 64 = b % 64 by omega]
theorem decs_signs {a b : Int} (ha : 0 ≤ a ∧ a < 4096) (hb : 0 ≤ b ∧ b < 4096) (r : List Int) : decs (signs2 a ++ (signs2 b ++ r)) = octs a b ++ decs r := by
  show (_ * 4 + _ / 16) :: (_ % 16 * 16 + _ / 4) :: (_ % 4 * 64 + _) :: decs r = _ :: _ :: _ :: decs r
  rw [bval_alphAt (n := a / 64) (by omega) (by omega), bval_alphAt (n := a % 64) (by omega) (by omega), bval_alphAt (n := b / 64) (by omega) (by omega), bval_alphAt (n := b % 64) (by omega) (by omega)]
  rw [show a / 64 * 4 + a % 64 / 16 = (a * 4096 + b) / 65536 by omega, show a % 64 % 16 * 16 + b / 64 / 4 = (a * 4096 + b) / 256 % 256 by omega, show b / 64 % 4 * 64 + b % 64 = (a * 4096 + b) % 256 by omega]
theorem signs2_ok {a : Int} (ha : 0 ≤ a ∧ a < 4096) : InS (signs2 a) := by
  intro n hn
  simp only [signs2, List.mem_cons, List.not_mem_nil, or_false] at hn
  rcases hn with rfl | rfl
  · exact ⟨alphAt_range _, alphAt_ne (by omega) (by omega), by rw [bval_alphAt (by omega) (by omega)]; omega⟩
  · exact ⟨alphAt_range _, alphAt_ne (by omega) (by omega), by rw [bval_alphAt (by omega) (by omega)]; omega⟩
end Mine
namespace Mine
/-! ## more of lists -/
open AutoSeq1 (wpAny_loadPart') in
theorem iaddW (l b : Addr) (items items2 : Array Value) (n n2 : Nat) (dd dd2 : Option Addr) (sl sl2 : Array (Option Value)) (hc0 : ¬(!items.isEmpty && Builtin.List.listTooLong (items.size + items2.size)) = true) (hc1 : items.size ≤ sizeLine) (hs2 : items.size + items2.size ≤ sizeLine + 1) :
    Meets (Builtin.«list.__iadd__» ⟨[.ref l, .ref b], []⟩) (fun _ R s => s.heap.get? l = some { cls := .type "list", dict := dd, data := .seq items n, slots := sl } ∧ s.heap.get? b = some { cls := .type "list", dict := dd2, data := .seq items2 n2, slots := sl2 } ∧ R (.ok (.ret (Value.ref l))) { s with heap := s.heap.update l (Obj.mapSeq fun x => x ++ items2), toks := s.toks }) :=
  .of_wp fun prog w A R s h => by
    obtain ⟨hp, g, d, tk, os⟩ := s; obtain ⟨hl, hb, h⟩ := h; have f1 := AutoSeq1.idx_int; have f2 := AutoSeq1.sub_tuple_tuple; have f3 := AutoSeq1.sub_list_list; have f4 := AutoSeq1.sub_tuple_list; have f5 := AutoSeq1.sub_list_tuple
    have hz' : (items ++ items2).size ≤ sizeLine + 1 := by rw [Array.size_append]; exact hs2
    wp_walk using (wpAny_updateSeq hl rfl (hz := hc1) (_hz' := hz')), wpAny_loadPart' hl, wpAny_loadPart' hb; exact ⟨_, rfl, h⟩
section
variable {M : Model} {A : Around} {E : Value → Shared → Prop} {s : Shared}
theorem inplace_list {a b : Value} {Q : Value → Shared → Prop} (ha : s.TypeIs a "list") (hb : s.TypeIs b "list") (hfill : fillsNumberSlot (.type "list") "add" = pure false) (hc : wpAny M A (call (.builtin "list.__iadd__") [a, b]) Q E s) : wpAny M A (inplaceOp .Add a b) Q E s := by
  have hno : typeLookup (.type "list") (dunderI "add") = pure (some (.builtin "list.__iadd__")) := F.slot_list_iadd.lookup
  have hsq : isSeqSlot (some (.builtin "list.__iadd__")) = true := by decide +kernel
  unfold inplaceOp
  refine wpAny_holding ?_
  have hfi : fillsInplaceSlot (.type "list") "add" (Operator.Add == .Add) = pure false := by
    unfold fillsInplaceSlot
    show (typeLookup (.type "list") (dunderI "add") >>= fun fi => pure (fi.isSome && !isSeqSlot fi)) = pure false
    rw [hno]
    show (pure (_ && !isSeqSlot (some (.builtin "list.__iadd__"))) : Sem Bool) = _
    rw [hsq]; rfl
  refine wpAny_bind (wpAny_typeOf ha (wpAny_bind (wpAny_of_eq hfi ?_)))
  show wpAny M A (if false = true then _ else _) Q E s
  rw [if_neg Bool.false_ne_true]
  refine wpAny_bind (wpAny_binaryOp1_none (nm := "add") ha hb hfill ?_)
  refine wpAny_bind (wpAny_of_eq (PySem.seqSlot_of hno hsq) ?_)
  exact wpAny_bind (wpAny_rule hc)
end
section
variable {c : Cx} {σ : AS} {P : V → AS → Prop}
/-- a list of one's own grows in place -/
theorem O2_iaddO (ok : Ok c) {k : Nat} {xs : List V} {Y : V} {ys : List V} (hk : σ.own[k]? = some xs) (hy : LV σ Y ys) (hz : xs.length + ys.length ≤ 1000000) (h : P (.own k) { σ with own := σ.own.set k (xs ++ ys) }) : O2 c (inplaceOp .Add) (.own k) Y σ P := by
  intro s G O v u R hv hu
  obtain ⟨a, rfl, ha⟩ := hv.inv
  obtain ⟨b, us, rfl, hb, hus, e2⟩ := hy.at R hu
  obtain ⟨a', vs, h1, ⟨n, e⟩, hvs⟩ := R.own k xs hk
  rw [ha] at h1; cases h1
  have e1 : vs.size = xs.length := by rw [← hvs.length]; simp
  obtain ⟨⟨cls2, dd2, data2, sl2⟩, ho2, hc2, n2, hd2⟩ := id hb
  simp only at hc2 hd2
  subst hc2 hd2
  have hs : vs.size + us.size ≤ 1000000 := by rw [e1, e2]; exact hz
  have hsl : (1000000 : Nat) ≤ sizeLine := by decide
  refine inplace_list ⟨_, e, rfl⟩ ⟨_, ho2, rfl⟩ (PySem.fillsNumberSlot_seq F.slot_list_add.lookup (by decide +kernel) (r := none) (by rw [typeLookup_type, builtinLookup_eq_fast]; kernel_rfl) rfl) ?_
  refine call_meets F.slot_list_iadd ⟨_, e, rfl⟩ F.entry_list_iadd (F.args_list_iadd_2 _ _) (iaddW a b vs us n n2 none dd2 #[] sl2 (by simp [Builtin.List.listTooLong]; intro _; omega) (by omega) (by omega)) ⟨e, ho2, ?_⟩
  obtain ⟨n', em⟩ := mapSeq_app vs us n
  have st := R.setOwn (h' := s.heap.update a (Obj.mapSeq (· ++ us))) (tk := s.toks) ok ha (Heap.SameBut.update ..) (vs := vs ++ us) (xs := xs ++ ys) ⟨n', by rw [Heap.get?_update_self _ e (by rw [em]; rfl), em]⟩ (by rw [Array.toList_append]; exact hvs.append hus)
  exact ⟨.own k, _, G, O, h, st.1, st.2, .own ha⟩
theorem foldl_rep (its : Array Value) : ∀ (n : Nat) (a : Array Value), (List.foldl (fun x1 x2 => x1 ++ x2) a (List.replicate n its)).toList = a.toList ++ (List.replicate n its.toList).flatten
  | 0, a => by simp
  | n + 1, a => by rw [List.replicate_succ, List.foldl_cons, foldl_rep its n, List.replicate_succ, List.flatten_cons]; simp
theorem VRs.rep {h : Heap} {G : Addr → Prop} {O : List Addr} {vs : List Value} {xs : List V} (r : VRs h G O vs xs) : ∀ n : Nat, VRs h G O (List.replicate n vs).flatten (List.replicate n xs).flatten
  | 0 => .nil
  | n + 1 => by rw [List.replicate_succ, List.flatten_cons, List.replicate_succ, List.flatten_cons]; exact r.append (VRs.rep r n)
/-- a list of one's own, so many times -/
theorem O2_mulO (ok : Ok c) {k : Nat} {xs : List V} {x : Int} (hk : σ.own[k]? = some xs) (h0 : 0 ≤ x) (hx : x ≤ 1000) (hz : xs.length ≤ 1000) (hne : xs ≠ []) (h : P (.list (List.replicate x.toNat xs).flatten) σ) : O2 c (binaryOp .Mult) (.own k) (.int x) σ P := by
  intro s G O v u R hv hu
  obtain ⟨a, rfl, ha⟩ := hv.inv
  obtain ⟨t, rfl⟩ := hu.inv
  obtain ⟨a', vs, h1, ⟨n, e⟩, hvs⟩ := R.own k xs hk
  rw [ha] at h1; cases h1
  have e1 : vs.size = xs.length := by rw [← hvs.length]; simp
  have hsz : vs.size * x.toNat ≤ 1000 * 1000 := Nat.mul_le_mul (by omega) (by omega)
  have hsl : sizeLine = 2 ^ 24 := sizeLine_eq
  have hem : vs.isEmpty = false := by
    cases hq : vs.isEmpty with
    | false => rfl
    | true => exact absurd (List.eq_nil_of_length_eq_zero (by rw [← e1, Array.isEmpty_iff_size_eq_zero.mp hq])) hne
  refine wpAny_binaryOp_repeat_ref (T := "list") (U := "int") (by decide) ⟨_, e, rfl⟩ (fun s' => typeIs_int s' x t) noFill_list_mul F.fills_int_mul F.slot_int_rmul repeat_list F.slot_int_index.lookup
    (call_meets F.slot_int_rmul (typeIs_int s x t) F.entry_int_rmul (F.args_int_rmul_2 _ _) (int___rmul___int_list x t a vs n)
      ⟨e, rfl, ⟨_, e, rfl⟩, call_meets F.slot_list_mul ⟨_, e, rfl⟩ F.entry_list_mul (F.args_list_mul_2 _ _)
        (AutoListH.list___mul___list_int_3 a vs n x t (by simp [Builtin.List.listFitsIndex]; omega) (by omega) (by simp [Builtin.List.listTooLong, sizeLine]; omega)) ⟨e, ?_⟩⟩)
  refine fin_new ok R (fun b o hb => Heap.get?_push_of_some _ hb) (fresh_size _) ⟨_, push_new⟩ h fun le => ?_
  refine .list (.inr rfl) ⟨_, push_new, rfl, 0, rfl⟩ ?_
  have e3 : (List.foldl (fun x1 x2 => x1 ++ x2) #[] (List.replicate (if vs.isEmpty = true then 0 else x.toNat) vs)).toList = (List.replicate x.toNat vs.toList).flatten := by rw [hem, foldl_rep]; simp
  rw [e3]
  exact le.vrs R (hvs.rep _)
end
end Mine
namespace Mine
/-! ## comprehensions over zip and enumerate -/
section
variable {c : Cx} {σ : AS} {P : V → AS → Prop}
theorem compT_W (ok : Ok c) {id : String} {ts : List Expr} {k : Nat} {tpos : Pos} {xs : List V} {rows : List (List V)} (hi : IterT c id (.Tuple ts k tpos) xs rows σ) (hl : (rows.all fun r => V.lows 0 r) = true) {s : Shared} {G : Addr → Prop} {O : List Addr} {vs : List Value} (R : Rl c σ s G O) (hv : VRs s.heap G O vs xs) (Q : Value → Shared → Prop)
    (kk : ∀ I fp wr n Pt Md St s', (∃ h tk, s' = { s with heap := h, toks := tk }) → SrcC c (.Tuple ts k tpos) I fp wr n Pt Md St s s' → (rows.map V.tup).length = n →
      (∀ (cc : Cx) (i : Nat) x v' σ' K s₂ G' O', (rows.map V.tup)[i]? = some x → Pt i v' s₂.heap → Ke G s'.heap s₂.heap → (∀ a, G a → G' a) → Rl cc σ' s₂ G' O' → ANr cc ts x σ' K → wpAny cc.M cc.A (assign (.Tuple ts k tpos) cc.env v') (PoU cc s₂ G' O' K) cc.E s₂) → Q (.ref I) s') :
    wpAny c.M c.A (call (.type id) vs) (fun v s₁ => wpAny c.M c.A (pyIter v) Q c.E s₁) c.E s := by
  refine hi s G O vs _ R hv fun I fp wr n Pt Md St s' R' L' keep S hn hP => S.self 0 _ _ _ S.st (kk I fp wr n Pt Md St s' L'.same ⟨S.W, S.st, keep, fun b hb => (S.own b hb).1, fun b hb => (S.foot b hb).imp _root_.id fun q => q.2.2, S.cls, S.self⟩ (by simpa using hn) fun cc i x v' σ' K s₂ G' O' hx hp kG gG R'' ha => ?_)
  obtain ⟨r, rfl, ha⟩ := ha
  rw [List.getElem?_map] at hx
  cases e : rows[i]? with
  | none => rw [e] at hx; cases hx
  | some q =>
    rw [e] at hx
    simp only [Option.map_some, Option.some.injEq, V.tup.injEq] at hx
    subst hx
    obtain ⟨T, vals, rfl, h3, h4⟩ := hP i q v' _ G' O e hp kG gG ⟨[], by simp⟩
    have low := h4.low (m := 0) (G' := G') (fun _ q => q) (List.all_eq_true.mp hl q (List.mem_of_getElem? e))
    rw [List.take_zero] at low
    exact ha s₂ G' O' T vals k tpos R'' h3 (low.mono (Ke.refl _ _) (fun _ q => q) ⟨O', rfl⟩)
theorem EV_compT (ok : Ok c) (hE : c.E = fun _ _ => False) {ts : List Expr} {k : Nat} {tpos p cpos : Pos} {x : Str} {e : Expr} {es : List Expr} {id : String} {elt : Expr} {ifs : List Expr} {scope : Scope} {pos : Pos} (names : List Str) (gls : List (Str × V)) (hgl : AllG c.g gls) (vars₀ : List (Option V)) {cl : List (Str × Addr)}
    (h : EV c (.Name x p) σ fun F σ₁ => F = .ty id ∧ ES c (e :: es) cpos σ₁ fun xs σ₂ => ∃ rows cap, IterT c id (.Tuple ts k tpos) xs rows σ₂ ∧ (rows.all fun r => V.lows 0 r) = true ∧ CapOK c σ₂ scope cl cap ∧ ∀ he G₀ C, Ok (ccx c he G₀ C scope cl names cap gls) → CompL (ccx c he G₀ C scope cl names cap gls) (ANr (ccx c he G₀ C scope cl names cap gls) ts) ifs elt (rows.map V.tup) { vars := vars₀, own := [[]] } fun ys => P (.list ys) σ₂)
    (hchk : compChk scope names gls = true) (hclos : closureFor scope c.env = pure cl) (hv0 : ∀ x ∈ vars₀, x = none) (hs : ∀ y, foldedSetIterable (.Call (.Name x p) (e :: es) [] cpos) c.env y = pure y)
    (he : ∀ env, starEach (e :: es) env = (false, eval e env) :: starEach es env) (hp : ∀ env, (backTo cpos (starEach es env)).any (·.1) = false) (hx : c.hx = false := by first | rfl | assumption) :
    EV c (.ListComp elt [⟨.Tuple ts k tpos, .Call (.Name x p) (e :: es) [] cpos, ifs, 0⟩] scope pos) σ P := by
  intro s G O R
  obtain ⟨hk, hn⟩ := compNames hchk
  show wpAny _ _ (comprehension (.ListComp elt [⟨.Tuple ts k tpos, .Call (.Name x p) (e :: es) [] cpos, ifs, 0⟩] scope pos) scope c.env (Expr.pos (.Call (.Name x p) (e :: es) [] cpos)) (newList []) false (eval (.Call (.Name x p) (e :: es) [] cpos) c.env)) _ _ s
  refine wpAny_comprehension_free (use := none) rfl hs hclos hk hn (PyProof.Rows.Call_ (TV.use h R fun fv s₁ F σ₁ G₁ O₁ h₁ R₁ L₁ v₁ => ?_))
  obtain ⟨rfl, h₁⟩ := h₁
  obtain rfl := v₁.inv
  refine PyProof.Rows.callWith_type1 (TL.use h₁ R₁ fun vs s₂ xs σ₂ G₂ O₂ h₂ R₂ L₂ v₂ => ?_) (he _) (hp _)
  obtain ⟨rows, cap, hi, hl, hcap, hb⟩ := h₂
  refine comp_coreG ok hE (fun Q => wpAny c.M c.A (call (.type id) vs) (fun v s₁ => wpAny c.M c.A (pyIter v) Q c.E s₁) c.E s₂) (fun cc => ANr cc ts) R₂ (fun Q kk => compT_W ok hi hl R₂ v₂ Q kk) hchk hgl hcap hv0 (PY := fun ys => P (.list ys) σ₂) hb (fun s' G' D C ys m R' L' vD hp hm hC gC => ⟨m, hm, fun h' hs' => ?_⟩) hx
  have fr := R₂.free hC
  have keep : ∀ b o, b ≠ C → s'.heap.get? b = some o → h'.get? b = some o := fun b o hb e => (hs'.2 b hb).trans e
  have kk : Ke (fun b => ¬ b = C) s'.heap h' := Ke.of_keeps fun b o nb e => keep b o nb e
  have R'' : Rl c σ₂ { s' with heap := h' } G' O₂ := R'.keep (tk := s'.toks) (fun b => b = C) kk (fun b o e => keep b o (fun q => fr.1 (R₂.g0 _ (ok.bg _ o (q ▸ e)))) (R'.base b o e)) (fun b d => d ▸ ⟨gC, fr.2.1, fr.2.2.1, fr.2.2.2⟩) ok (fun _ q => q) fun _ q => .inl q
  have L'' : Le c s₂ G₂ O₂ { s' with heap := h' } G' O₂ := ⟨L'.toLeS.move (tk := s'.toks) (fun b => b = C) kk (fun b d => .inr (.inr (d ▸ hC))) (fun b d q => absurd q fun q => q.elim (d ▸ fr.2.2.1) (d ▸ fr.2.2.2)) (fun _ q => q) (fun _ q => .inl q) fun _ q => .inl q, [], by simp⟩
  exact ⟨_, σ₂, G', O₂, hp, R'', (L₁.trans L₂).trans L'', vD.mono (kk.mono fun a ga q => gC (q ▸ ga)) (fun _ q => q) ⟨[], by simp⟩⟩
end
/-- what a comprehension's list over rows must answer -/
def tCmprT (id : String) (ts : List Expr) (k : Nat) (tpos : Pos) (n : Nat) (caps : List (Str × CapSrc)) (TI : Cx → AS → (List V → AS → Prop) → Prop) (A : List V → Cx → List V → AS → (AS → Prop) → Prop) (F : List V → Cx → AS → (Bool → AS → Prop) → Prop) (T : List V → Cx → AS → (V → AS → Prop) → Prop) : Cx → AS → (V → AS → Prop) → Prop :=
  fun c σ P => TI c σ fun xs σ₁ => ∃ rows, IterT c id (.Tuple ts k tpos) xs rows σ₁ ∧ (rows.all fun r => V.lows 0 r) = true ∧ capGet σ₁.vars caps fun vs => ∀ c', Ok c' → c'.g = c.g → c'.A = c.A → (c'.E = fun _ _ => False) → c'.hx = false →
    CompT (fun X σ K => ∃ r, X = .tup r ∧ ts.length = r.length ∧ A vs c' r σ K) (F vs c') (T vs c') (rows.map V.tup) { vars := List.replicate n none, own := [[]] } fun ys => P (.list ys) σ₁
structure SCmT (c : Cx) (ts : List Expr) (ifs : List Expr) (elt : Expr) (A : Cx → List V → AS → (AS → Prop) → Prop) (F : Cx → AS → (Bool → AS → Prop) → Prop) (T : Cx → AS → (V → AS → Prop) → Prop) : Prop where
  a : SAL c ts A
  f : SIF c ifs F
  t : SE c elt T
theorem SE.cmprT {c : Cx} {ts : List Expr} {k : Nat} {tpos p cpos : Pos} {x : Str} {e : Expr} {es : List Expr} {id : String} {elt : Expr} {ifs : List Expr} {scope : Scope} {pos : Pos} {cl : List (Str × Addr)} {TI : Cx → AS → (List V → AS → Prop) → Prop} {A : List V → Cx → List V → AS → (AS → Prop) → Prop} {F : List V → Cx → AS → (Bool → AS → Prop) → Prop} {T : List V → Cx → AS → (V → AS → Prop) → Prop}
    (ok : Ok c) (hE : c.E = fun _ _ => False) (names : List Str) (gls : List (Str × V)) (hgl : AllG c.g gls) (caps : List (Str × CapSrc)) (i : Nat) (g : c.gls[i]? = some (x, .ty id)) (hi : SL c (e :: es) cpos TI)
    (hs : ∀ vs he G₀ C, Ok (ccx c he G₀ C scope cl names (mkcap caps vs) gls) → SCmT (ccx c he G₀ C scope cl names (mkcap caps vs) gls) ts ifs elt (A vs) (F vs) (T vs))
    (hclos : closureFor scope c.env = pure cl) (hcap : CapSt c scope cl caps) (hchk : compChk scope names gls = true) (hf : ∀ y, foldedSetIterable (.Call (.Name x p) (e :: es) [] cpos) c.env y = pure y)
    (he : ∀ env, starEach (e :: es) env = (false, eval e env) :: starEach es env) (hp : ∀ env, (backTo cpos (starEach es env)).any (·.1) = false) (hn : ∀ env, (assignEach ts env).length = ts.length) (ht : ∀ env, (assignEach ts env).findIdx? (·.1) = none) (hx : c.hx = false := by first | rfl | assumption) :
    SE c (.ListComp elt [⟨.Tuple ts k tpos, .Call (.Name x p) (e :: es) [] cpos, ifs, 0⟩] scope pos) (tCmprT id ts k tpos names.length caps TI A F T) :=
  fun _ _ h => EV_compT ok hE names gls hgl (List.replicate names.length none) (EV_gl ok g ⟨rfl, TL.mono (hi _ _ h) fun _ _ ⟨rows, h1, h2, h3⟩ => by
    obtain ⟨vs, hc, h3⟩ := capGet_ok hcap h3
    refine ⟨rows, mkcap caps vs, h1, h2, hc, fun he G₀ C okc => ?_⟩
    have S := hs vs he G₀ C okc
    exact CompT.ok (asg := ANr (ccx c he G₀ C scope cl names (mkcap caps vs) gls) ts) (fun _ _ _ _ h k => ANr.mono h k) (fun X σ K ⟨r, e, hl, h⟩ => ⟨r, e, ANt_ okc (S.a _ _ _ h) hl hn ht⟩) S.f S.t (fun _ _ _ h k => IFS.mono h k) (h3 _ okc rfl rfl rfl rfl)⟩) hchk hclos (fun x hx => (List.mem_replicate.mp hx).2) hf he hp
/-! ## a def without arguments -/
end Mine
namespace Mine
/-! ## for over an own list (which the turns must leave as it is) -/
section
variable {c : Cx} {σ : AS}
end
end Mine
namespace Mine
section
variable {c : Cx} {σ : AS} {P : V → AS → Prop}
end
end Mine
namespace Mine
section
variable {c : Cx} {σ : AS} {P : V → AS → Prop}
theorem CL_lenB {b : Array UInt8} (hs : b.size ≤ 1000000) (h : P (.int (b.size : Nat)) σ) : CL c (.bi "len") [.bytes b] [] σ P := CLb1 fun s G O v R hv => by
  obtain ⟨t, rfl⟩ := hv.inv
  exact len_bytes (by omega) (fin_ R h (.int _ _))
end
end Mine
namespace Mine
/-! ## zip of any number of lists -/
structure ZIt where
  i : Addr
  l : Addr
  xs : Array Value
abbrev IsTup (h : Heap) (T : Addr) (vals : Array Value) : Prop := h.get? T = some { cls := .type "tuple", data := .seq vals }
def refsOf (r : List ZIt) : Array Value := (r.map fun p => Value.ref p.i).toArray
structure ZAp (z TI TO : Addr) (r : List ZIt) : Prop where
  TIz : TI ≠ z
  TOz : TO ≠ z
  TITO : TI ≠ TO
  nd : ∀ (j k : Nat) (p q : ZIt), r[j]? = some p → r[k]? = some q → j ≠ k → p.i ≠ q.i
  iz : ∀ p ∈ r, p.i ≠ z ∧ p.i ≠ TO ∧ p.i ≠ TI
  lz : ∀ p ∈ r, p.l ≠ z ∧ p.l ≠ TO
  li : ∀ p ∈ r, ∀ q ∈ r, p.l ≠ q.i
section
variable {prog : Program} {w : World} {A : Around} {E : Value → Shared → Prop} {s : Shared}
theorem updateTup {T : Addr} {vals : Array Value} {x : Value} {k : Nat} {Q : Unit → Shared → Prop} (hT : IsTup s.heap T vals) (hn : vals.size ≤ 1000)
    (h : ∀ h', IsTup h' T (vals.setIfInBounds k x) → Heap.SameBut T s.heap h' → Q () { s with heap := h' }) :
    wpAny (model prog w) A (updateSeq T (·.setIfInBounds k x)) Q E s := by
  refine wpAny_updateSeq (hz := Nat.le_trans hn (by decide)) (_hz' := by rw [Array.size_setIfInBounds]; exact Nat.le_trans hn (by decide)) hT rfl (h _ ?_ (Heap.SameBut.update ..))
  show (s.heap.update T _).get? T = _
  rw [Heap.get?_update_self _ hT rfl]
  simp [Obj.mapSeq]
/-- where the inner loop is -/
structure ZInv (z TI TO : Addr) (r : List ZIt) (i : Nat) (h0 : Heap) (j : Nat) (h : Heap) : Prop where
  hz : IsZip h z TI TO .ellipsis
  hTO : ∃ vals : Array Value, IsTup h TO vals ∧ vals.size = r.length ∧ ∀ (t : Nat) (p : ZIt), t < j → r[t]? = some p → vals[t]? = p.xs[i]?
  it : ∀ (t : Nat) (p : ZIt), r[t]? = some p → h.IsListIter p.i p.l (if t < j then i + 1 else i)
  ls : ∀ p ∈ r, h.IsList p.l p.xs
  fr : ∀ c o, c ≠ z → c ≠ TO → (∀ p ∈ r, c ≠ p.i) → h0.get? c = some o → h.get? c = some o
  sz : h.objs.size = h0.objs.size
theorem zinv_step {z TI TO : Addr} {r : List ZIt} {i j : Nat} {h0 h h2 h3 : Heap} {p : ZIt} {x : Value} {vals : Array Value} (D : ZAp z TI TO r) (I : ZInv z TI TO r i h0 j h) (hp : r[j]? = some p) (hx : p.xs[i]? = some x)
    (hv : vals.size = r.length ∧ ∀ (t : Nat) (q : ZIt), t < j → r[t]? = some q → vals[t]? = q.xs[i]?)
    (h1 : h2.IsListIter p.i p.l (i + 1)) (hs2 : Heap.SameBut p.i h h2) (hT : IsTup h3 TO (vals.setIfInBounds j x)) (hs3 : Heap.SameBut TO h2 h3) : ZInv z TI TO r i h0 (j + 1) h3 := by
  have pm := List.mem_of_getElem? hp
  have dp := D.iz p pm
  have up : ∀ c o, c ≠ TO → c ≠ p.i → h.get? c = some o → h3.get? c = some o := fun c o a b e => hs3.extBut _ _ a (hs2.extBut _ _ b e)
  refine ⟨up _ _ D.TOz.symm dp.1.symm I.hz, ⟨_, hT, by simpa using hv.1, fun t q ht hq => ?_⟩, fun t q hq => ?_, fun q hq => (I.ls q hq).at fun o e => up _ _ (D.lz q hq).2 (D.li q hq p pm) e, fun c o a b d e => up c o b (d p pm) (I.fr c o a b d e), by rw [hs3.1, hs2.1, I.sz]⟩
  · have hjl : j < r.length := (List.getElem?_eq_some_iff.mp hp).1
    by_cases e : t = j
    · subst e
      rw [hp] at hq; cases hq
      rw [Array.getElem?_setIfInBounds_self_of_lt (by omega), hx]
    · rw [Array.getElem?_setIfInBounds_ne (fun q => e q.symm)]
      exact hv.2 t q (by omega) hq
  · have qm := List.mem_of_getElem? hq
    by_cases e : t = j
    · subst e
      rw [hp] at hq; cases hq
      rw [if_pos (by omega)]
      exact h1.at fun o e => hs3.extBut _ _ dp.2.1 e
    · have hk := I.it t q hq
      rw [show (if t < j + 1 then i + 1 else i) = if t < j then i + 1 else i by split <;> split <;> omega]
      exact hk.at fun o e' => up _ _ (D.iz q qm).2.1 (D.nd t j q p hq hp e) e'
end
end Mine
namespace Mine
section
variable {prog : Program} {w : World} {A : Around} {E : Value → Shared → Prop} {s : Shared}
theorem refs_zip (r : List ZIt) : (refsOf r).toList.zipIdx = r.zipIdx.map fun p => (Value.ref p.1.i, p.2) := by
  unfold refsOf
  rw [List.zipIdx_map]
  rfl
theorem zipN_next_item {z TI TO : Addr} {r : List ZIt} {i : Nat} {Q : Value → Shared → Prop} (D : ZAp z TI TO r) (hne : r ≠ []) (hlen : r.length ≤ 100)
    (hz : IsZip s.heap z TI TO .none) (hTI : IsTup s.heap TI (refsOf r)) (hTO : ∃ vals : Array Value, IsTup s.heap TO vals ∧ vals.size = r.length)
    (it : ∀ p ∈ r, s.heap.IsListIter p.i p.l i) (ls : ∀ p ∈ r, s.heap.IsList p.l p.xs) (hx : ∀ p ∈ r, i < p.xs.size)
    (hQ : ∀ h', IsZip h' z TI TO (rawInt s.heap.objs.size) → (∃ vals : Array Value, IsTup h' TO vals ∧ vals.size = r.length) → (∀ p ∈ r, h'.IsListIter p.i p.l (i + 1)) →
      (∃ vals : Array Value, IsTup h' s.heap.objs.size vals ∧ vals.size = r.length ∧ ∀ (t : Nat) (p : ZIt), r[t]? = some p → vals[t]? = p.xs[i]?) →
      (∀ c o, c ≠ z → c ≠ TO → (∀ p ∈ r, c ≠ p.i) → s.heap.get? c = some o → h'.get? c = some o) → Q (.ref s.heap.objs.size) { s with heap := h' }) :
    wpAny (model prog w) A (Builtin.«zip.__next__» ⟨[.ref z], []⟩) (fun fin s' => ∃ v, fin = .done (.ret v) ∧ Q v s') E s := by
  show wpAny _ _ (field (.ref z) 2 >>= _) _ _ _
  refine wpAny_bind (wpAny_field hz rfl (x := .bool false) rfl ?_)
  show wpAny _ _ (field (.ref z) 3 >>= _) _ _ _
  refine wpAny_bind (wpAny_field hz rfl (x := .ref TI) rfl ?_)
  refine wpAny_bind (wpAny_seqItems hTI rfl ?_)
  have he : (refsOf r).isEmpty = false := by cases r with
    | nil => exact absurd rfl hne
    | cons a r => simp [refsOf]
  simp only [he, Bool.false_eq_true, if_false]
  show wpAny _ _ (Builtin.SmallTypes.ownedTupleIsFree (.ref z) >>= _) _ _ _
  refine wpAny_bind ?_
  unfold Builtin.SmallTypes.ownedTupleIsFree
  refine wpAny_bind (wpAny_field hz rfl (x := .none) rfl (wpAny_pure ?_))
  simp only [if_true]
  refine wpAny_bind (wpAny_rule ?_)
  refine wpAny_bind (wpAny_field hz rfl (x := .ref TO) rfl ?_)
  refine wpAny_bind (wpAny_setField_rec hz (by simp) fun h₁ hz₁ hs₁ => ?_)
  replace hz₁ : IsZip h₁ z TI TO .ellipsis := hz₁
  refine wpAny_bind ?_
  rw [refs_zip]
  obtain ⟨v0, hv0, hv0s⟩ := hTO
  have I0 : ZInv z TI TO r i s.heap 0 h₁ := ⟨hz₁, ⟨v0, hs₁.extBut _ _ D.TOz hv0, hv0s, fun t p h => absurd h (Nat.not_lt_zero _)⟩, fun t p hp => by
    rw [if_neg (Nat.not_lt_zero _)]
    have pm := List.mem_of_getElem? hp
    exact (it p pm).extBut hs₁.extBut (D.iz p pm).1, fun p hp => (ls p hp).extBut hs₁.extBut (D.lz p hp).1, fun c o a b d e => hs₁.extBut _ _ a e, hs₁.1⟩
  obtain ⟨L, hL⟩ : ∃ L, L = r.zipIdx.map fun p => (Value.ref p.1.i, p.2) := ⟨_, rfl⟩
  have Ll : L.length = r.length := by rw [hL]; simp
  have Lat : ∀ (j : Nat) (p : ZIt), r[j]? = some p → L[j]? = some (Value.ref p.i, j) := fun j p hp => by
    rw [hL, List.getElem?_map, List.getElem?_zipIdx, hp]
    simp
  rw [← hL]
  refine wpAny_forIn_list _ (fun rest b s' => ∃ j h, rest = L.drop j ∧ b = (none, ()) ∧ j ≤ r.length ∧ s' = { s with heap := h } ∧ ZInv z TI TO r i s.heap j h) _ ?_ ?_ _ _ ⟨0, h₁, rfl, rfl, Nat.zero_le _, rfl, I0⟩
  · rintro x rest b s' ⟨j, h, hr, rfl, hj, rfl, I⟩
    have hjl : j < r.length := by
      rcases Nat.lt_or_ge j r.length with q | q
      · exact q
      · rw [List.drop_eq_nil_of_le (by omega)] at hr; cases hr
    obtain ⟨p, hp⟩ : ∃ p, r[j]? = some p := ⟨r[j], List.getElem?_eq_getElem hjl⟩
    have pm := List.mem_of_getElem? hp
    have e1 := Lat j p hp
    obtain ⟨hj2, e2⟩ := List.getElem?_eq_some_iff.mp e1
    rw [List.drop_eq_getElem_cons hj2, e2] at hr
    obtain ⟨rfl, rfl⟩ := List.cons.inj hr
    refine wpAny_bind (wpAny_onRaise ?_)
    show wpAny _ _ (Builtin.SmallTypes.nextOf (.ref p.i) >>= _) _ _ _
    have hi := I.it j p hp
    rw [if_neg (Nat.lt_irrefl _)] at hi
    refine wpAny_bind (wpAny_nextOf_list_item hi (I.ls p pm) (Array.getElem?_eq_getElem (hx p pm)) fun h2 h12 hs2 => wpAny_pure ?_)
    obtain ⟨vals, hv, hvs, hva⟩ := I.hTO
    have hv2 : IsTup h2 TO vals := hs2.extBut _ _ (D.iz p pm).2.1.symm hv
    refine wpAny_bind (wpAny_seqItems hv2 rfl ?_)
    refine wpAny_bind (updateTup hv2 (by omega) fun h3 hT3 hs3 => ?_)
    refine wpAny_bind (wpAny_letGo (wpAny_pure ?_))
    exact ⟨j + 1, h3, rfl, rfl, hjl, rfl, zinv_step D I hp (Array.getElem?_eq_getElem (hx p pm)) ⟨hvs, hva⟩ h12 hs2 hT3 hs3⟩
  · rintro b s' ⟨j, h5, hr, rfl, hj, rfl, I⟩
    have hjn : j = r.length := by
      have := congrArg List.length hr
      rw [List.length_drop, Ll, List.length_nil] at this
      omega
    subst hjn
    obtain ⟨vals, hv, hvs, hva⟩ := I.hTO
    refine wpAny_bind (wpAny_seqItems hv rfl ?_)
    refine wpAny_bind (wpAny_newTuple (hsz := by rw [Array.length_toList, hvs]; exact Nat.le_trans hlen (by decide)) ?_)
    have hsz := I.sz
    have hzlt : z < h5.objs.size := Heap.lt_size I.hz
    show wpAny _ _ (Builtin.SmallTypes.ownedTupleHandOut (.ref z) (.ref h5.objs.size) >>= _) _ _ _
    refine wpAny_bind ?_
    unfold Builtin.SmallTypes.ownedTupleHandOut
    have hz₆ : IsZip (h5.push { cls := .type "tuple", data := .seq vals.toList.toArray }) z TI TO .ellipsis := Heap.get?_push_of_some _ I.hz
    refine wpAny_bind (wpAny_setField_rec hz₆ (by simp) fun h₇ hz₇ hs₇ => ?_)
    replace hz₇ : IsZip h₇ z TI TO (rawInt h5.objs.size) := hz₇
    refine wpAny_setField_rec hz₇ (by simp) fun h₈ hz₈ hs₈ => ?_
    replace hz₈ : IsZip h₈ z TI TO (rawInt h5.objs.size) := hz₈
    have up : ∀ c o, c ≠ z → h5.get? c = some o → h₈.get? c = some o := fun c o c1 e => hs₈.extBut _ _ c1 (hs₇.extBut _ _ c1 (Heap.get?_push_of_some _ e))
    have hT₈ : IsTup h₈ h5.objs.size vals.toList.toArray := hs₈.extBut _ _ (Nat.ne_of_gt hzlt) (hs₇.extBut _ _ (Nat.ne_of_gt hzlt) (Heap.get?_push_size _ rfl))
    have hva' : ∀ (t : Nat) (p : ZIt), r[t]? = some p → vals[t]? = p.xs[i]? := fun t p hp => hva t p (List.getElem?_eq_some_iff.mp hp).1 hp
    rw [Array.toArray_toList] at hT₈
    rw [hsz] at hz₈ hT₈
    refine wpAny_pure ⟨_, rfl, ?_⟩
    show Q (.ref h5.objs.size) _
    rw [hsz]
    refine hQ h₈ hz₈ ⟨vals, up _ _ D.TOz hv, hvs⟩ (fun p pm => ?_) ⟨vals, hT₈, hvs, hva'⟩ fun c o a b d e => up c o a (I.fr c o a b d e)
    obtain ⟨t, ht, rfl⟩ := List.mem_iff_getElem.mp pm
    have := I.it t _ (List.getElem?_eq_getElem ht)
    rw [if_pos ht] at this
    exact this.at fun o e => up _ o (D.iz _ pm).1 e
theorem zipN_next_end {z TI TO : Addr} {r : List ZIt} {i m : Nat} {Q : Fin → Shared → Prop} (hh : A.handled = none) (D : ZAp z TI TO r) (hlen : r.length ≤ 100)
    (hz : IsZip s.heap z TI TO .none) (hTI : IsTup s.heap TI (refsOf r)) (hTO : ∃ vals : Array Value, IsTup s.heap TO vals ∧ vals.size = r.length)
    (it : ∀ p ∈ r, s.heap.IsListIter p.i p.l i) (ls : ∀ p ∈ r, s.heap.IsList p.l p.xs) {pm : ZIt} (hm : r[m]? = some pm) (hend : pm.xs[i]? = none) (hx : ∀ (t : Nat) (p : ZIt), t < m → r[t]? = some p → i < p.xs.size)
    (hE : ∀ h' e, (∀ c o, c ≠ z → c ≠ TO → (∀ p ∈ r, c ≠ p.i) → s.heap.get? c = some o → h'.get? c = some o) → (∃ o, h'.get? e = some o ∧ o.cls = .type "StopIteration") → E (.ref e) { s with heap := h' }) :
    wpAny (model prog w) A (Builtin.«zip.__next__» ⟨[.ref z], []⟩) Q E s := by
  show wpAny _ _ (field (.ref z) 2 >>= _) _ _ _
  refine wpAny_bind (wpAny_field hz rfl (x := .bool false) rfl ?_)
  show wpAny _ _ (field (.ref z) 3 >>= _) _ _ _
  refine wpAny_bind (wpAny_field hz rfl (x := .ref TI) rfl ?_)
  refine wpAny_bind (wpAny_seqItems hTI rfl ?_)
  have hml := (List.getElem?_eq_some_iff.mp hm).1
  have he : (refsOf r).isEmpty = false := by cases r with
    | nil => simp at hml
    | cons a r => simp [refsOf]
  simp only [he, Bool.false_eq_true, if_false]
  show wpAny _ _ (Builtin.SmallTypes.ownedTupleIsFree (.ref z) >>= _) _ _ _
  refine wpAny_bind ?_
  unfold Builtin.SmallTypes.ownedTupleIsFree
  refine wpAny_bind (wpAny_field hz rfl (x := .none) rfl (wpAny_pure ?_))
  simp only [if_true]
  refine wpAny_bind (wpAny_rule ?_)
  refine wpAny_bind (wpAny_field hz rfl (x := .ref TO) rfl ?_)
  refine wpAny_bind (wpAny_setField_rec hz (by simp) fun h₁ hz₁ hs₁ => ?_)
  replace hz₁ : IsZip h₁ z TI TO .ellipsis := hz₁
  refine wpAny_bind ?_
  rw [refs_zip]
  obtain ⟨v0, hv0, hv0s⟩ := hTO
  have I0 : ZInv z TI TO r i s.heap 0 h₁ := ⟨hz₁, ⟨v0, hs₁.extBut _ _ D.TOz hv0, hv0s, fun t p h => absurd h (Nat.not_lt_zero _)⟩, fun t p hp => by
    rw [if_neg (Nat.not_lt_zero _)]
    have pm := List.mem_of_getElem? hp
    exact (it p pm).extBut hs₁.extBut (D.iz p pm).1, fun p hp => (ls p hp).extBut hs₁.extBut (D.lz p hp).1, fun c o a b d e => hs₁.extBut _ _ a e, hs₁.1⟩
  obtain ⟨L, hL⟩ : ∃ L, L = r.zipIdx.map fun p => (Value.ref p.1.i, p.2) := ⟨_, rfl⟩
  have Ll : L.length = r.length := by rw [hL]; simp
  have Lat : ∀ (j : Nat) (p : ZIt), r[j]? = some p → L[j]? = some (Value.ref p.i, j) := fun j p hp => by
    rw [hL, List.getElem?_map, List.getElem?_zipIdx, hp]
    simp
  rw [← hL]
  refine wpAny_forIn_list _ (fun rest b s' => ∃ j h, rest = L.drop j ∧ b = (none, ()) ∧ j ≤ m ∧ s' = { s with heap := h } ∧ ZInv z TI TO r i s.heap j h) _ ?_ ?_ _ _ ⟨0, h₁, rfl, rfl, Nat.zero_le _, rfl, I0⟩
  · rintro x rest b s' ⟨j, h, hr, rfl, hj, rfl, I⟩
    obtain ⟨p, hp⟩ : ∃ p, r[j]? = some p := ⟨r[j], List.getElem?_eq_getElem (by omega)⟩
    have pm' := List.mem_of_getElem? hp
    have e1 := Lat j p hp
    obtain ⟨hj2, e2⟩ := List.getElem?_eq_some_iff.mp e1
    rw [List.drop_eq_getElem_cons hj2, e2] at hr
    obtain ⟨rfl, rfl⟩ := List.cons.inj hr
    refine wpAny_bind (wpAny_onRaise ?_)
    show wpAny _ _ (Builtin.SmallTypes.nextOf (.ref p.i) >>= _) _ _ _
    have hi := I.it j p hp
    rw [if_neg (Nat.lt_irrefl _)] at hi
    by_cases hjm : j < m
    · refine wpAny_bind (wpAny_nextOf_list_item hi (I.ls p pm') (Array.getElem?_eq_getElem (hx j p hjm hp)) fun h2 h12 hs2 => wpAny_pure ?_)
      obtain ⟨vals, hv, hvs, hva⟩ := I.hTO
      have hv2 : IsTup h2 TO vals := hs2.extBut _ _ (D.iz p pm').2.1.symm hv
      refine wpAny_bind (wpAny_seqItems hv2 rfl ?_)
      refine wpAny_bind (updateTup hv2 (by omega) fun h3 hT3 hs3 => ?_)
      refine wpAny_bind (wpAny_letGo (wpAny_pure ?_))
      exact ⟨j + 1, h3, rfl, rfl, hjm, rfl, zinv_step D I hp (Array.getElem?_eq_getElem (hx j p hjm hp)) ⟨hvs, hva⟩ h12 hs2 hT3 hs3⟩
    · obtain rfl : j = m := by omega
      rw [hm] at hp; cases hp
      refine wpAny_bind (wpAny_nextOf_list_end hh hi (I.ls pm pm') hend fun h₂ e hs₂ he => ?_)
      obtain ⟨oe, hoe, hce⟩ := he
      have hz₂ : IsZip h₂ z TI TO .ellipsis := hs₂ _ _ (D.iz pm pm').1.symm I.hz
      have hez : e ≠ z := fun x => by subst x; rw [hz₂] at hoe; cases hoe; simp at hce
      exact wpAny_setField_rec hz₂ (by simp) fun h₃ _ hs₃ => hE h₃ e (fun c o a b d x => hs₃.extBut _ _ a (hs₂ _ _ (d pm pm') (I.fr c o a b d x))) ⟨oe, hs₃.extBut _ _ hez hoe, hce⟩
  · rintro b s' ⟨j, h5, hr, rfl, hj, rfl, I⟩
    have := congrArg List.length hr
    rw [List.length_drop, Ll, List.length_nil] at this
    omega
end
end Mine
namespace Mine
theorem first_short (n : Nat) : ∀ r : List ZIt, (∃ p ∈ r, p.xs.size = n) → ∃ (m : Nat) (p : ZIt), r[m]? = some p ∧ p.xs.size = n ∧ ∀ (t : Nat) (q : ZIt), t < m → r[t]? = some q → q.xs.size ≠ n
  | [], ⟨_, h, _⟩ => by cases h
  | a :: r, ⟨p, hp, e⟩ => by
    by_cases ha : a.xs.size = n
    · exact ⟨0, a, rfl, ha, fun t q h => absurd h (Nat.not_lt_zero _)⟩
    · have hp' : p ∈ r := by
        rcases List.mem_cons.mp hp with rfl | h
        · exact absurd e ha
        · exact h
      obtain ⟨m, q, h1, h2, h3⟩ := first_short n r ⟨p, hp', e⟩
      refine ⟨m + 1, q, h1, h2, fun t u ht hu => ?_⟩
      cases t with
      | zero => cases hu; exact ha
      | succ t => exact h3 t u (by omega) hu
section
variable {prog : Program} {w : World} {A : Around}
theorem walks_zipN (hh : A.handled = none) (z TI TO : Addr) (r : List ZIt) (D : ZAp z TI TO r) (hne : r ≠ []) (hlen : r.length ≤ 100) (n : Nat) (hn1 : ∀ p ∈ r, n ≤ p.xs.size) (hn2 : ∃ p ∈ r, p.xs.size = n) :
    WalksT prog w A z (z :: TI :: TO :: (r.map ZIt.i ++ r.map ZIt.l)) (z :: TO :: r.map ZIt.i) n
      (fun i vals => vals.size = r.length ∧ ∀ (t : Nat) (p : ZIt), r[t]? = some p → vals[t]? = p.xs[i]?)
      (fun i h => IsZip h z TI TO .none ∧ IsTup h TI (refsOf r) ∧ (∃ vals : Array Value, IsTup h TO vals ∧ vals.size = r.length) ∧ (∀ p ∈ r, h.IsListIter p.i p.l i) ∧ ∀ p ∈ r, h.IsList p.l p.xs)
      (fun i T h => IsZip h z TI TO (rawInt T) ∧ IsTup h TI (refsOf r) ∧ (∃ vals : Array Value, IsTup h TO vals ∧ vals.size = r.length) ∧ (∀ p ∈ r, h.IsListIter p.i p.l (i + 1)) ∧ (∀ p ∈ r, h.IsList p.l p.xs) ∧ T ≠ z ∧ T ≠ TO ∧ ∀ p ∈ r, T ≠ p.i) where
  sub := fun c hc => by
    simp only [List.mem_cons, List.mem_append] at hc ⊢
    rcases hc with h | h | h
    · exact .inl h
    · exact .inr (.inr (.inl h))
    · exact .inr (.inr (.inr (.inl h)))
  frame := fun i h h' hst hk => by
    obtain ⟨hz, hTI, ⟨vals, hTO, hs⟩, hi, hl⟩ := hst
    refine ⟨hk z (by simp) _ hz, hk TI (by simp) _ hTI, ⟨vals, hk TO (by simp) _ hTO, hs⟩, fun p hp => (hi p hp).at fun o e => hk _ ?_ o e, fun p hp => (hl p hp).at fun o e => hk _ ?_ o e⟩
    · exact .tail _ (.tail _ (.tail _ (List.mem_append_left _ (List.mem_map_of_mem hp))))
    · exact .tail _ (.tail _ (.tail _ (List.mem_append_right _ (List.mem_map_of_mem hp))))
  item := fun i s Q E hi hst hQ => by
    obtain ⟨hz, hTI, hTO, hit, hl⟩ := hst
    have hT : s.TypeIs (.ref z) "zip" := ⟨_, hz, rfl⟩
    unfold pyNext
    refine wpAny_bind (wpAny_attempt (wpAny_callSpecial?_slot (name := Str.ofString "__next__") hT F.slot_zip_next
      (wpAny_call_entry F.slot_zip_next hT F.entry_zip_next
        (zipN_next_item D hne hlen hz hTI hTO hit hl (fun p hp => Nat.lt_of_lt_of_le hi (hn1 p hp)) fun h' a1 a2 a3 a4 hk => wpAny_pure ?_) (F.args_zip_next_1 _))))
    obtain ⟨vals, b1, b2, b3⟩ := a4
    have lt : ∀ {c o}, s.heap.get? c = some o → s.heap.objs.size ≠ c := fun e => Nat.ne_of_gt (Heap.lt_size e)
    obtain ⟨v0, hv0, _⟩ := hTO
    refine hQ s.heap.objs.size vals h' s.toks ⟨b2, b3⟩ (Nat.le_refl _) ⟨_, b1, rfl, _, rfl⟩ ⟨a1, hk _ _ D.TIz D.TITO (fun p hp => (D.iz p hp).2.2.symm) hTI, a2, a3, fun p hp => (hl p hp).at fun o e => hk _ o (D.lz p hp).1 (D.lz p hp).2 (fun q hq => D.li p hp q hq) e, lt hz, lt hv0, fun p hp => ?_⟩ fun c o hc e => hk c o (fun x => hc (by simp [x])) (fun x => hc (by simp [x])) (fun p hp x => hc (x ▸ .tail _ (.tail _ (List.mem_map_of_mem hp)))) e
    obtain ⟨o, e, _⟩ := hit p hp
    exact lt e
  go := fun elts k pos i T s Q E hm hQ => by
    obtain ⟨hz, hTI, ⟨vals, hTO, hs⟩, hi, hl, _⟩ := hm
    exact wpAny_letOwnedTupleGo_zip hz fun h' hz' hs' => hQ h' ⟨hz', hs'.extBut _ _ D.TIz hTI, ⟨vals, hs'.extBut _ _ D.TOz hTO, hs⟩, fun p hp => (hi p hp).extBut hs'.extBut (D.iz p hp).1, fun p hp => (hl p hp).extBut hs'.extBut (D.lz p hp).1⟩ fun c o hc e => hs'.extBut _ _ (fun x => hc (by simp [x])) e
  apart := fun i T h hm hT => by
    obtain ⟨_, _, _, _, _, t1, t2, t3⟩ := hm
    simp only [List.mem_cons] at hT
    rcases hT with rfl | rfl | hT
    · exact t1 rfl
    · exact t2 rfl
    · obtain ⟨p, hp, rfl⟩ := List.mem_map.mp hT
      exact t3 p hp rfl
  done := fun s Q E hst hQ => by
    obtain ⟨hz, hTI, hTO, hit, hl⟩ := hst
    obtain ⟨m, p, h1, h2, h3⟩ := first_short n r hn2
    have hT : s.TypeIs (.ref z) "zip" := ⟨_, hz, rfl⟩
    unfold pyNext
    refine wpAny_bind (wpAny_attempt (wpAny_callSpecial?_slot (name := Str.ofString "__next__") hT F.slot_zip_next
      (wpAny_call_entry F.slot_zip_next hT F.entry_zip_next (zipN_next_end hh D hlen hz hTI hTO hit hl h1 (Array.getElem?_eq_none (by omega)) (fun t q ht hq => by
        have := h3 t q ht hq
        have := hn1 q (List.mem_of_getElem? hq)
        omega) fun h' e hk he => ?_) (F.args_zip_next_1 _))))
    obtain ⟨o, ho, hc⟩ := he
    refine wpAny_bind (wpAny_isInstance (T := "StopIteration") (b := true) ⟨o, ho, hc⟩ isSubtype_stop ?_)
    exact wpAny_pure (hQ _ s.toks fun c o hc e => hk c o (fun x => hc (by simp [x])) (fun x => hc (by simp [x])) (fun p hp x => hc (x ▸ .tail _ (.tail _ (List.mem_map_of_mem hp)))) e)
  self := fun i s Q E hst hQ => wpAny_pyIter_zip hst.1 hQ
end
end Mine
namespace Mine
def zits (n0 : Nat) (ls : List (Addr × Array Value)) : List ZIt := ls.zipIdx.map fun p => ⟨n0 + p.2, p.1.1, p.1.2⟩
theorem zits_at {n0 : Nat} {ls : List (Addr × Array Value)} {t : Nat} {p : ZIt} (h : (zits n0 ls)[t]? = some p) : ∃ q, ls[t]? = some q ∧ p = ⟨n0 + t, q.1, q.2⟩ := by
  unfold zits at h
  rw [List.getElem?_map, List.getElem?_zipIdx] at h
  cases e : ls[t]? with
  | none => rw [e] at h; cases h
  | some q =>
    rw [e] at h
    simp only [Option.map_some, Option.some.injEq, Nat.zero_add] at h
    exact ⟨q, rfl, h.symm⟩
theorem zits_mem {n0 : Nat} {ls : List (Addr × Array Value)} {p : ZIt} (h : p ∈ zits n0 ls) : ∃ t q, ls[t]? = some q ∧ p = ⟨n0 + t, q.1, q.2⟩ := by
  obtain ⟨t, ht⟩ := List.mem_iff_getElem?.mp h
  obtain ⟨q, h1, h2⟩ := zits_at ht
  exact ⟨t, q, h1, h2⟩
theorem zits_len (n0 : Nat) (ls : List (Addr × Array Value)) : (zits n0 ls).length = ls.length := by unfold zits; simp
theorem zits_ap {n0 : Nat} {ls : List (Addr × Array Value)} (h : ∀ q ∈ ls, q.1 < n0) : ZAp (n0 + ls.length + 2) (n0 + ls.length) (n0 + ls.length + 1) (zits n0 ls) := by
  have lt : ∀ (t : Nat) (q : Addr × Array Value), ls[t]? = some q → t < ls.length := fun t q e => (List.getElem?_eq_some_iff.mp e).1
  refine ⟨by show (_ : Nat) ≠ _; omega, by show (_ : Nat) ≠ _; omega, by show (_ : Nat) ≠ _; omega, fun j k p q hp hq hjk => ?_, fun p hp => ?_, fun p hp => ?_, fun p hp q hq => ?_⟩
  · obtain ⟨_, _, rfl⟩ := zits_at hp
    obtain ⟨_, _, rfl⟩ := zits_at hq
    show (n0 + j : Nat) ≠ n0 + k
    omega
  · obtain ⟨t, q, e, rfl⟩ := zits_mem hp
    have := lt t q e
    exact ⟨by show (n0 + t : Nat) ≠ _; omega, by show (n0 + t : Nat) ≠ _; omega, by show (n0 + t : Nat) ≠ _; omega⟩
  · obtain ⟨t, q, e, rfl⟩ := zits_mem hp
    have : (q.1 : Nat) < n0 := h q (List.mem_of_getElem? e)
    exact ⟨Nat.ne_of_lt (Nat.lt_of_lt_of_le this (show n0 ≤ n0 + ls.length + 2 by omega)), Nat.ne_of_lt (Nat.lt_of_lt_of_le this (show n0 ≤ n0 + ls.length + 1 by omega))⟩
  · obtain ⟨t, q, e, rfl⟩ := zits_mem hp
    obtain ⟨t', q', e', rfl⟩ := zits_mem hq
    have : (q.1 : Nat) < n0 := h q (List.mem_of_getElem? e)
    exact Nat.ne_of_lt (Nat.lt_of_lt_of_le this (Nat.le_add_right n0 t'))
/-- zip of these lists makes the iterator -/
def ZipMakes (c : Cx) (m : Nat) : Prop := ∀ (s : Shared) (ls : List (Addr × Array Value)) (Q : Value → Shared → Prop), ls.length = m → (∀ q ∈ ls, s.heap.IsList q.1 q.2) →
  (∀ h', IsZip h' (s.heap.objs.size + ls.length + 2) (s.heap.objs.size + ls.length) (s.heap.objs.size + ls.length + 1) .none → IsTup h' (s.heap.objs.size + ls.length) (refsOf (zits s.heap.objs.size ls)) →
    (∃ vals : Array Value, IsTup h' (s.heap.objs.size + ls.length + 1) vals ∧ vals.size = ls.length) → (∀ p ∈ zits s.heap.objs.size ls, h'.IsListIter p.i p.l 0) → (∀ b o, s.heap.get? b = some o → h'.get? b = some o) →
    Q (.ref (s.heap.objs.size + ls.length + 2)) { s with heap := h' }) → wpAny c.M c.A (call (.type "zip") (ls.map fun q => .ref q.1)) Q c.E s
section
variable {c : Cx} {σ : AS}
theorem vrs_lists {h : Heap} {G : Addr → Prop} {O : List Addr} : ∀ {xss : List (List V)} {vs : List Value}, VRs h G O vs (xss.map V.list) → ∃ ls : List (Addr × Array Value), vs = ls.map (fun q => Value.ref q.1) ∧ ls.length = xss.length ∧ (∀ q ∈ ls, G q.1 ∧ h.IsList q.1 q.2) ∧ ∀ (t : Nat) (q : Addr × Array Value) (xs : List V), ls[t]? = some q → xss[t]? = some xs → VRs h G O q.2.toList xs
  | [], vs, hv => by
    obtain rfl := VRs.inv0 hv
    exact ⟨[], rfl, rfl, fun q hq => (by cases hq), fun t q xs e => (by simp at e)⟩
  | xs :: xss, vs, hv => by
    obtain ⟨v, us, rfl, h1, h2⟩ := VRs.invC hv
    obtain ⟨a, its, rfl, ga, hl, hvs⟩ := h1.inv
    obtain ⟨ls, rfl, e2, e3, e4⟩ := vrs_lists h2
    refine ⟨(a, its) :: ls, rfl, by simp [e2], fun q hq => ?_, fun t q ys e f => ?_⟩
    · rcases List.mem_cons.mp hq with rfl | hq
      · exact ⟨ga, hl⟩
      · exact e3 q hq
    · cases t with
      | zero => cases e; cases f; exact hvs
      | succ t => exact e4 t q ys e f
theorem IterT_zipN (ok : Ok c) {ts : List Expr} {k : Nat} {pos : Pos} {xss : List (List V)} {rows : List (List V)} {n : Nat} (hm : ZipMakes c xss.length) (hne : xss ≠ []) (hlen : xss.length ≤ 100) (hr : rows.length = n) (h1 : ∀ xs ∈ xss, n ≤ xs.length) (h2 : ∃ xs ∈ xss, xs.length = n)
    (hrow : ∀ (i : Nat) (row : List V), rows[i]? = some row → row.length = xss.length ∧ ∀ (t : Nat) (xs : List V), xss[t]? = some xs → row[t]? = xs[i]?) (hx : c.hx = false := by first | rfl | assumption) :
    IterT c "zip" (.Tuple ts k pos) (xss.map V.list) rows σ := by
  intro s G O vs Q R hv kk
  obtain ⟨ls, rfl, e2, e3, e4⟩ := vrs_lists hv
  have hlt : ∀ q ∈ ls, q.1 < s.heap.objs.size := fun q hq => by obtain ⟨o, ho, _⟩ := (e3 q hq).2; exact Heap.lt_size ho
  have at2 : ∀ (t : Nat) (q : Addr × Array Value), ls[t]? = some q → ∃ xs, xss[t]? = some xs ∧ xs ∈ xss ∧ VRs s.heap G O q.2.toList xs ∧ q.2.size = xs.length := fun t q hq => by
    have : t < xss.length := by rw [← e2]; exact (List.getElem?_eq_some_iff.mp hq).1
    have hv := e4 t q _ hq (List.getElem?_eq_getElem this)
    exact ⟨_, List.getElem?_eq_getElem this, List.getElem_mem _, hv, by rw [← hv.length]; simp⟩
  refine hm s ls _ e2 (fun q hq => (e3 q hq).2) fun h' hz hTI hTO hi hk => ?_
  have al := R.grow0 (h' := h') (tk := s.toks) ok hk
  have W := walks_zipN (prog := c.g.prog) (w := c.g.w) (A := c.A) (ok.hd hx) _ _ _ (zits s.heap.objs.size ls) (zits_ap hlt) (by
      intro q
      have := congrArg List.length q
      rw [zits_len, e2] at this
      exact hne (List.length_eq_zero_iff.mp this)) (by rw [zits_len, e2]; exact hlen) n
    (fun p hp => by
      obtain ⟨t, q, hq, rfl⟩ := zits_mem hp
      obtain ⟨xs, _, hm, _, e⟩ := at2 t q hq
      show n ≤ q.2.size
      rw [e]; exact h1 xs hm)
    (by
      obtain ⟨xs, hxs, e⟩ := h2
      obtain ⟨t, ht⟩ := List.mem_iff_getElem?.mp hxs
      have tl : t < ls.length := by rw [e2]; exact (List.getElem?_eq_some_iff.mp ht).1
      obtain ⟨xs', h1', _, _, e'⟩ := at2 t _ (List.getElem?_eq_getElem tl)
      rw [ht] at h1'; cases h1'
      refine ⟨⟨s.heap.objs.size + t, (ls[t]).1, (ls[t]).2⟩, ?_, by show (ls[t]).2.size = n; rw [e', e]⟩
      unfold zits
      refine List.mem_map.mpr ⟨(ls[t], t), ?_, rfl⟩
      exact List.mem_iff_getElem?.mpr ⟨t, by rw [List.getElem?_zipIdx, List.getElem?_eq_getElem tl]; simp⟩)
  have hi3 : ∀ p ∈ zits s.heap.objs.size ls, s.heap.IsList p.l p.xs ∧ G p.l := fun p hp => by
    obtain ⟨t, q, hq, rfl⟩ := zits_mem hp
    have := e3 q (List.mem_of_getElem? hq)
    exact ⟨this.2, this.1⟩
  have fresh : ∀ b, b ∈ ((s.heap.objs.size + ls.length + 2) :: (s.heap.objs.size + ls.length + 1) :: (zits s.heap.objs.size ls).map ZIt.i) → (s.heap.objs.size : Nat) ≤ b := fun b hb => by
    rcases List.mem_cons.mp hb with rfl | hb
    · show (_ : Nat) ≤ _ + _ + _; omega
    rcases List.mem_cons.mp hb with rfl | hb
    · show (_ : Nat) ≤ _ + _ + _; omega
    · obtain ⟨p, hp, rfl⟩ := List.mem_map.mp hb
      obtain ⟨t, q, _, rfl⟩ := zits_mem hp
      exact Nat.le_add_right _ _
  refine kk _ _ _ _ _ _ _ _ al.1 al.2 hk ⟨KTurns.ofWalksU W.toU, ⟨hz, hTI, by rw [zits_len]; exact hTO, hi, fun p hp => (hi3 p hp).1.at fun o e => hk _ o e⟩, fun b hb => R.fresh (fresh b hb), fun b hb => ?_, fun i h st b hb => ?_, W.self⟩ hr fun i x v' h'' G' O' hx' hP kG gG oO => ?_
  · rcases List.mem_cons.mp hb with rfl | hb
    · exact .inl (.head _)
    rcases List.mem_cons.mp hb with rfl | hb
    · have f := R.fresh (a := s.heap.objs.size + ls.length) (Nat.le_add_right _ _)
      exact .inr ⟨f.2.2.2.1, f.2.2.1, _, hTI, Dk.no rfl fun _ _ q => by cases q⟩
    rcases List.mem_cons.mp hb with rfl | hb
    · exact .inl (.tail _ (.head _))
    rcases List.mem_append.mp hb with hb | hb
    · exact .inl (.tail _ (.tail _ hb))
    · obtain ⟨p, hp, rfl⟩ := List.mem_map.mp hb
      obtain ⟨⟨o, e, _, _, hc⟩, ga⟩ := hi3 p hp
      exact .inr ⟨fun q => (R.priv _ q).2.1 ga, fun q => (R.onew _ q).2 ga, o, hk _ _ e, Dk.no hc fun _ _ q => by cases q⟩
  · obtain ⟨g1, _, ⟨vals, g2, _⟩, g3, _⟩ := st
    rcases List.mem_cons.mp hb with rfl | hb
    · exact ⟨_, g1, Dk.no rfl fun _ _ q => by cases q⟩
    rcases List.mem_cons.mp hb with rfl | hb
    · exact ⟨_, g2, Dk.no rfl fun _ _ q => by cases q⟩
    · obtain ⟨p, hp, rfl⟩ := List.mem_map.mp hb
      obtain ⟨o, h3, _, h4⟩ := g3 p hp
      exact ⟨o, h3, Dk.no h4 fun _ _ q => by cases q⟩
  · obtain ⟨T, vals, rfl, ⟨hs, hva⟩, hT⟩ := hP
    refine ⟨T, _, rfl, hT, ?_⟩
    obtain ⟨rl, hrw⟩ := hrow i x hx'
    have hin : i < n := by rw [← hr]; exact (List.getElem?_eq_some_iff.mp hx').1
    have key : ∀ (vs : List Value) (ys : List V), vs.length = ys.length → (∀ (t : Nat) (v : Value) (y : V), vs[t]? = some v → ys[t]? = some y → VR h'' G' O' v y) → VRs h'' G' O' vs ys := by
      intro vs
      induction vs with
      | nil => intro ys hl _; cases ys with
        | nil => exact .nil
        | cons _ _ => simp at hl
      | cons v vs ih => intro ys hl h; cases ys with
        | nil => simp at hl
        | cons y ys => exact .cons (h 0 v y rfl rfl) (ih ys (by simpa using hl) fun t v' y' a b => h (t + 1) v' y' a b)
    refine key _ _ (by rw [Array.length_toList, hs, zits_len, e2, rl]) fun t v y hv hy => ?_
    have tl : t < ls.length := by rw [e2, ← rl]; exact (List.getElem?_eq_some_iff.mp hy).1
    obtain ⟨xs, hxs, _, hvr, _⟩ := at2 t _ (List.getElem?_eq_getElem tl)
    have hp : (zits s.heap.objs.size ls)[t]? = some ⟨s.heap.objs.size + t, (ls[t]).1, (ls[t]).2⟩ := by
      unfold zits
      rw [List.getElem?_map, List.getElem?_zipIdx, List.getElem?_eq_getElem tl]; simp
    have a1 := hva t _ hp
    rw [hrw t xs hxs] at hy
    obtain ⟨u, b1, b2⟩ := hvr.get hy
    rw [Array.getElem?_toList] at hv b1
    have a1' : vals[t]? = (ls[t]).2[i]? := a1
    rw [hv, b1] at a1'
    cases a1'
    exact (al.2.vr R b2).mono kG gG oO
end
end Mine
namespace Mine
abbrev itH (h : Heap) (l : Addr) : Heap := h.push { cls := .type "list_iterator", data := .fields #[.ref l, .int 0 0] }
abbrev tuH (h : Heap) (vs : Array Value) : Heap := h.push { cls := .type "tuple", data := .seq vs }
abbrev ziH (h : Heap) (TI TO : Addr) : Heap := h.push { cls := .type "zip", data := .fields #[.none, .bool false, .bool false, .ref TI, .ref TO] }
theorem typeCall_zip3 (a0 a1 a2 : Value) : checkTypeCall "zip" ⟨[a0, a1, a2], []⟩ = pure () := by kernel_rfl
theorem newCall_zip3 (a0 a1 a2 : Value) : checkBuiltinCall "zip.__new__" ⟨[.type "zip", a0, a1, a2], []⟩ = pure () := by kernel_rfl
theorem objInit3 (o a0 a1 a2 : Value) : argsOk "object.__init__" ⟨[o, a0, a1, a2], []⟩ := by
  unfold argsOk; rw [signature?_of (id := "object.__init__") (n := ['_', '_', 't', 'i', 'n', 'i', '_', '_']) (o := ['t', 'c', 'e', 'j', 'b', 'o']) (by kernel_rfl) F.owner_object]; kernel_rfl
abbrev zI3 (h : Heap) (l0 l1 l2 : Addr) : Heap := (itH (itH (itH h l0) l1) l2)
abbrev zT3 (h : Heap) (l0 l1 l2 : Addr) : Heap := tuH (zI3 h l0 l1 l2) #[.ref h.objs.size, .ref (itH h l0).objs.size, .ref (itH (itH h l0) l1).objs.size]
abbrev zU3 (h : Heap) (l0 l1 l2 : Addr) : Heap := tuH (zT3 h l0 l1 l2) #[.none, .none, .none]
abbrev zZ3 (h : Heap) (l0 l1 l2 : Addr) : Heap := ziH (zU3 h l0 l1 l2) (zI3 h l0 l1 l2).objs.size (zT3 h l0 l1 l2).objs.size
set_option maxHeartbeats 4000000 in
theorem meets_zip3 (l0 l1 l2 : Addr) (x0 x1 x2 : Array Value) :
    Meets (Builtin.«zip.__new__» ⟨[.type "zip", .ref l0, .ref l1, .ref l2], []⟩) (fun _ R s => s.heap.IsList l0 x0 ∧ s.heap.IsList l1 x1 ∧ s.heap.IsList l2 x2 ∧
      R (.ok (.ret (.ref (zU3 s.heap l0 l1 l2).objs.size))) { s with heap := zZ3 s.heap l0 l1 l2 }) :=
  .of_wp fun prog w A R s h => by
    obtain ⟨hp, g, d, tk, os⟩ := s; obtain ⟨hl0, hl1, hl2, h⟩ := h
    have hsub := sub_zip
    have hL0 : Heap.IsList (Shared.heap ⟨hp, g, d, tk, os⟩) l0 x0 := hl0
    have hL1 : Heap.IsList (Shared.heap ⟨(itH hp l0), g, d, tk, os⟩) l1 x1 := (Heap.IsList.push hl1 _)
    have hL2 : Heap.IsList (Shared.heap ⟨(itH (itH hp l0) l1), g, d, tk, os⟩) l2 x2 := (Heap.IsList.push (Heap.IsList.push hl2 _) _)
    wp_walk using wpAny_pyIter_list hL0, wpAny_pyIter_list hL1, wpAny_pyIter_list hL2
    exact ⟨_, rfl, h⟩
theorem zipMakes3 (c : Cx) : ZipMakes c 3 := by
  intro s ls Q hls hl h
  obtain ⟨q0, q1, q2, rfl⟩ : ∃ q0 q1 q2, ls = [q0, q1, q2] := by
    match ls, hls with
    | [q0, q1, q2], _ => exact ⟨q0, q1, q2, rfl⟩
  show wpAny _ _ (call (.type "zip") [.ref q0.1, .ref q1.1, .ref q2.1]) _ _ _
  refine callType_new F.called_zip (by decide) (typeCall_zip3 _ _ _ ) (newCall_zip3 _ _ _ ) (fun obj => objInit3 obj _ _ _ ) F.entry_zip_new (meets_zip3 q0.1 q1.1 q2.1 q0.2 q1.2 q2.2) ⟨hl _ (.head _), hl _ (.tail _ (.head _)), hl _ (.tail _ (.tail _ (.head _))), ?_⟩
  have zi : (zI3 s.heap q0.1 q1.1 q2.1).objs.size = s.heap.objs.size + 3 := by simp only [Heap.size_push]
  have zt : (zT3 s.heap q0.1 q1.1 q2.1).objs.size = s.heap.objs.size + 4 := by rw [Heap.size_push, zi]
  have zu : (zU3 s.heap q0.1 q1.1 q2.1).objs.size = s.heap.objs.size + 5 := by rw [Heap.size_push, zt]
  have gz : (zZ3 s.heap q0.1 q1.1 q2.1).get? (zU3 s.heap q0.1 q1.1 q2.1).objs.size = some _ := Heap.get?_push_size _ rfl
  have gu : (zZ3 s.heap q0.1 q1.1 q2.1).get? (zT3 s.heap q0.1 q1.1 q2.1).objs.size = some _ := Heap.get?_push_of_some _ (Heap.get?_push_size _ rfl)
  have gt : (zZ3 s.heap q0.1 q1.1 q2.1).get? (zI3 s.heap q0.1 q1.1 q2.1).objs.size = some _ := Heap.get?_push_of_some _ (Heap.get?_push_of_some _ (Heap.get?_push_size _ rfl))
  have g0 : (zZ3 s.heap q0.1 q1.1 q2.1).get? s.heap.objs.size = some _ := Heap.get?_push_of_some _ (Heap.get?_push_of_some _ (Heap.get?_push_of_some _ (Heap.get?_push_of_some _ (Heap.get?_push_of_some _ (Heap.get?_push_size _ rfl)))))
  have g1 : (zZ3 s.heap q0.1 q1.1 q2.1).get? (itH s.heap q0.1).objs.size = some _ := Heap.get?_push_of_some _ (Heap.get?_push_of_some _ (Heap.get?_push_of_some _ (Heap.get?_push_of_some _ (Heap.get?_push_size _ rfl))))
  have s1 : (itH s.heap q0.1).objs.size = s.heap.objs.size + 1 := by simp only [Heap.size_push]
  have g2 : (zZ3 s.heap q0.1 q1.1 q2.1).get? (itH (itH s.heap q0.1) q1.1).objs.size = some _ := Heap.get?_push_of_some _ (Heap.get?_push_of_some _ (Heap.get?_push_of_some _ (Heap.get?_push_size _ rfl)))
  have s2 : (itH (itH s.heap q0.1) q1.1).objs.size = s.heap.objs.size + 2 := by simp only [Heap.size_push]
  rw [s1] at g1
  rw [s2] at g2
  rw [zi, zt, zu] at gz
  rw [zi, s1, s2] at gt
  rw [zt] at gu
  show _ ∧ _
  rw [zu]
  refine ⟨⟨_, gz, rfl⟩, h _ gz gt ⟨_, gu, rfl⟩ (fun p hp => ?_) fun b o e => Heap.get?_push_of_some _ (Heap.get?_push_of_some _ (Heap.get?_push_of_some _ (Heap.get?_push_of_some _ (Heap.get?_push_of_some _ (Heap.get?_push_of_some _ (e))))))⟩
  obtain ⟨t, q, hq, rfl⟩ := zits_mem hp
  match t, hq with
  | 0, hq => cases hq; exact ⟨_, g0, rfl, rfl⟩
  | 1, hq => cases hq; exact ⟨_, g1, rfl, rfl⟩
  | 2, hq => cases hq; exact ⟨_, g2, rfl, rfl⟩
  | t + 3, hq => simp at hq
theorem typeCall_zip4 (a0 a1 a2 a3 : Value) : checkTypeCall "zip" ⟨[a0, a1, a2, a3], []⟩ = pure () := by kernel_rfl
theorem newCall_zip4 (a0 a1 a2 a3 : Value) : checkBuiltinCall "zip.__new__" ⟨[.type "zip", a0, a1, a2, a3], []⟩ = pure () := by kernel_rfl
theorem objInit4 (o a0 a1 a2 a3 : Value) : argsOk "object.__init__" ⟨[o, a0, a1, a2, a3], []⟩ := by
  unfold argsOk; rw [signature?_of (id := "object.__init__") (n := ['_', '_', 't', 'i', 'n', 'i', '_', '_']) (o := ['t', 'c', 'e', 'j', 'b', 'o']) (by kernel_rfl) F.owner_object]; kernel_rfl
abbrev zI4 (h : Heap) (l0 l1 l2 l3 : Addr) : Heap := (itH (itH (itH (itH h l0) l1) l2) l3)
abbrev zT4 (h : Heap) (l0 l1 l2 l3 : Addr) : Heap := tuH (zI4 h l0 l1 l2 l3) #[.ref h.objs.size, .ref (itH h l0).objs.size, .ref (itH (itH h l0) l1).objs.size, .ref (itH (itH (itH h l0) l1) l2).objs.size]
abbrev zU4 (h : Heap) (l0 l1 l2 l3 : Addr) : Heap := tuH (zT4 h l0 l1 l2 l3) #[.none, .none, .none, .none]
abbrev zZ4 (h : Heap) (l0 l1 l2 l3 : Addr) : Heap := ziH (zU4 h l0 l1 l2 l3) (zI4 h l0 l1 l2 l3).objs.size (zT4 h l0 l1 l2 l3).objs.size
set_option maxHeartbeats 4000000 in
theorem meets_zip4 (l0 l1 l2 l3 : Addr) (x0 x1 x2 x3 : Array Value) :
    Meets (Builtin.«zip.__new__» ⟨[.type "zip", .ref l0, .ref l1, .ref l2, .ref l3], []⟩) (fun _ R s => s.heap.IsList l0 x0 ∧ s.heap.IsList l1 x1 ∧ s.heap.IsList l2 x2 ∧ s.heap.IsList l3 x3 ∧
      R (.ok (.ret (.ref (zU4 s.heap l0 l1 l2 l3).objs.size))) { s with heap := zZ4 s.heap l0 l1 l2 l3 }) :=
  .of_wp fun prog w A R s h => by
    obtain ⟨hp, g, d, tk, os⟩ := s; obtain ⟨hl0, hl1, hl2, hl3, h⟩ := h
    have hsub := sub_zip
    have hL0 : Heap.IsList (Shared.heap ⟨hp, g, d, tk, os⟩) l0 x0 := hl0
    have hL1 : Heap.IsList (Shared.heap ⟨(itH hp l0), g, d, tk, os⟩) l1 x1 := (Heap.IsList.push hl1 _)
    have hL2 : Heap.IsList (Shared.heap ⟨(itH (itH hp l0) l1), g, d, tk, os⟩) l2 x2 := (Heap.IsList.push (Heap.IsList.push hl2 _) _)
    have hL3 : Heap.IsList (Shared.heap ⟨(itH (itH (itH hp l0) l1) l2), g, d, tk, os⟩) l3 x3 := (Heap.IsList.push (Heap.IsList.push (Heap.IsList.push hl3 _) _) _)
    wp_walk using wpAny_pyIter_list hL0, wpAny_pyIter_list hL1, wpAny_pyIter_list hL2, wpAny_pyIter_list hL3
    exact ⟨_, rfl, h⟩
theorem zipMakes4 (c : Cx) : ZipMakes c 4 := by
  intro s ls Q hls hl h
  obtain ⟨q0, q1, q2, q3, rfl⟩ : ∃ q0 q1 q2 q3, ls = [q0, q1, q2, q3] := by
    match ls, hls with
    | [q0, q1, q2, q3], _ => exact ⟨q0, q1, q2, q3, rfl⟩
  show wpAny _ _ (call (.type "zip") [.ref q0.1, .ref q1.1, .ref q2.1, .ref q3.1]) _ _ _
  refine callType_new F.called_zip (by decide) (typeCall_zip4 _ _ _ _ ) (newCall_zip4 _ _ _ _ ) (fun obj => objInit4 obj _ _ _ _ ) F.entry_zip_new (meets_zip4 q0.1 q1.1 q2.1 q3.1 q0.2 q1.2 q2.2 q3.2) ⟨hl _ (.head _), hl _ (.tail _ (.head _)), hl _ (.tail _ (.tail _ (.head _))), hl _ (.tail _ (.tail _ (.tail _ (.head _)))), ?_⟩
  have zi : (zI4 s.heap q0.1 q1.1 q2.1 q3.1).objs.size = s.heap.objs.size + 4 := by simp only [Heap.size_push]
  have zt : (zT4 s.heap q0.1 q1.1 q2.1 q3.1).objs.size = s.heap.objs.size + 5 := by rw [Heap.size_push, zi]
  have zu : (zU4 s.heap q0.1 q1.1 q2.1 q3.1).objs.size = s.heap.objs.size + 6 := by rw [Heap.size_push, zt]
  have gz : (zZ4 s.heap q0.1 q1.1 q2.1 q3.1).get? (zU4 s.heap q0.1 q1.1 q2.1 q3.1).objs.size = some _ := Heap.get?_push_size _ rfl
  have gu : (zZ4 s.heap q0.1 q1.1 q2.1 q3.1).get? (zT4 s.heap q0.1 q1.1 q2.1 q3.1).objs.size = some _ := Heap.get?_push_of_some _ (Heap.get?_push_size _ rfl)
  have gt : (zZ4 s.heap q0.1 q1.1 q2.1 q3.1).get? (zI4 s.heap q0.1 q1.1 q2.1 q3.1).objs.size = some _ := Heap.get?_push_of_some _ (Heap.get?_push_of_some _ (Heap.get?_push_size _ rfl))
  have g0 : (zZ4 s.heap q0.1 q1.1 q2.1 q3.1).get? s.heap.objs.size = some _ := Heap.get?_push_of_some _ (Heap.get?_push_of_some _ (Heap.get?_push_of_some _ (Heap.get?_push_of_some _ (Heap.get?_push_of_some _ (Heap.get?_push_of_some _ (Heap.get?_push_size _ rfl))))))
  have g1 : (zZ4 s.heap q0.1 q1.1 q2.1 q3.1).get? (itH s.heap q0.1).objs.size = some _ := Heap.get?_push_of_some _ (Heap.get?_push_of_some _ (Heap.get?_push_of_some _ (Heap.get?_push_of_some _ (Heap.get?_push_of_some _ (Heap.get?_push_size _ rfl)))))
  have s1 : (itH s.heap q0.1).objs.size = s.heap.objs.size + 1 := by simp only [Heap.size_push]
  have g2 : (zZ4 s.heap q0.1 q1.1 q2.1 q3.1).get? (itH (itH s.heap q0.1) q1.1).objs.size = some _ := Heap.get?_push_of_some _ (Heap.get?_push_of_some _ (Heap.get?_push_of_some _ (Heap.get?_push_of_some _ (Heap.get?_push_size _ rfl))))
  have s2 : (itH (itH s.heap q0.1) q1.1).objs.size = s.heap.objs.size + 2 := by simp only [Heap.size_push]
  have g3 : (zZ4 s.heap q0.1 q1.1 q2.1 q3.1).get? (itH (itH (itH s.heap q0.1) q1.1) q2.1).objs.size = some _ := Heap.get?_push_of_some _ (Heap.get?_push_of_some _ (Heap.get?_push_of_some _ (Heap.get?_push_size _ rfl)))
  have s3 : (itH (itH (itH s.heap q0.1) q1.1) q2.1).objs.size = s.heap.objs.size + 3 := by simp only [Heap.size_push]
  rw [s1] at g1
  rw [s2] at g2
  rw [s3] at g3
  rw [zi, zt, zu] at gz
  rw [zi, s1, s2, s3] at gt
  rw [zt] at gu
  show _ ∧ _
  rw [zu]
  refine ⟨⟨_, gz, rfl⟩, h _ gz gt ⟨_, gu, rfl⟩ (fun p hp => ?_) fun b o e => Heap.get?_push_of_some _ (Heap.get?_push_of_some _ (Heap.get?_push_of_some _ (Heap.get?_push_of_some _ (Heap.get?_push_of_some _ (Heap.get?_push_of_some _ (Heap.get?_push_of_some _ (e)))))))⟩
  obtain ⟨t, q, hq, rfl⟩ := zits_mem hp
  match t, hq with
  | 0, hq => cases hq; exact ⟨_, g0, rfl, rfl⟩
  | 1, hq => cases hq; exact ⟨_, g1, rfl, rfl⟩
  | 2, hq => cases hq; exact ⟨_, g2, rfl, rfl⟩
  | 3, hq => cases hq; exact ⟨_, g3, rfl, rfl⟩
  | t + 4, hq => simp at hq
end Mine
namespace Mine
/-! ## strs -/
def okS (ns : List Str) : Bool := ns.all PyData.strOk
theorem canLayS : ∀ ns : List Str, okS ns = true → PyData.canLayAll0 (ns.map PyData.str) = true
  | [], _ => rfl
  | a :: r, h => by
    have h' : (PyData.strOk a && okS r) = true := h
    rw [Bool.and_eq_true] at h'
    simp [PyData.canLayAll0, PyData.canLay0, canLayS r h'.2, h'.1]
theorem depthS : ∀ ns : List Str, PyData.depthAll (ns.map PyData.str) = 0
  | [] => rfl
  | _ :: r => by simp [PyData.depthAll, PyData.depth, depthS r]
theorem shapedS (ns : List Str) (h : okS ns = true) : SeqAt.shaped (.list (ns.map PyData.str)) = true := by
  simp [SeqAt.shaped, PyData.canLay0, PyData.depth, canLayS ns h, depthS]
theorem sameS : ∀ ns ms : List Str, PySem.Spec.sameAll (ns.map PyData.str) (ms.map PyData.str) = decide (ns = ms)
  | [], [] => by simp [PySem.Spec.sameAll]
  | [], _ :: _ => by simp [PySem.Spec.sameAll]
  | _ :: _, [] => by simp [PySem.Spec.sameAll]
  | a :: r, b :: t => by
    simp only [List.map_cons, PySem.Spec.sameAll, PySem.Spec.same, sameS r t]
    by_cases h : a = b <;> by_cases h' : r = t <;> simp [h, h']
theorem sameSL (ns ms : List Str) : PySem.Spec.same (.list (ns.map PyData.str)) (.list (ms.map PyData.str)) = decide (ns = ms) := by
  simp only [PySem.Spec.same]; exact sameS ns ms
theorem carriedS : ∀ {vs : List Value} {ns : List Str}, StrsAre vs ns → CarriedAll vs (ns.map PyData.str)
  | _, _, .nil => .nil
  | _, _, .cons _ t r => .cons (.str _ t) (carriedS r)
theorem any_hitS {x : Str} (ns : List Str) : (ns.map PyData.str).any (datHitsStr x) = ns.contains x := by
  induction ns with
  | nil => rfl
  | cons n ns ih => rw [List.map_cons, List.any_cons, ih, List.contains_cons]; show (n == x || _) = (x == n || _); rw [show (n == x) = (x == n) by exact BEq.comm]
section
variable {c : Cx} {σ : AS} {P : V → AS → Prop}
theorem O2_addS {a b : Str} (hz : a.length + b.length ≤ 1000000) (h : P (.str (a ++ b)) σ) : O2 c (binaryOp .Add) (.str a) (.str b) σ P := by
  intro s G O v u R hv hu; obtain ⟨t, rfl⟩ := hv.inv; obtain ⟨t', rfl⟩ := hu.inv
  exact PyProof.Rows.add_str (fun t' tk => fin_ R h (.str _ _)) (Nat.le_trans hz (by decide))
theorem O2_iaddS {a b : Str} (hz : a.length + b.length ≤ 1000000) (h : P (.str (a ++ b)) σ) : O2 c (inplaceOp .Add) (.str a) (.str b) σ P := by
  intro s G O v u R hv hu; obtain ⟨t, rfl⟩ := hv.inv; obtain ⟨t', rfl⟩ := hu.inv
  exact PyProof.Rows.iadd_str (fun t' tk => fin_ R h (.str _ _)) (Nat.le_trans hz (by decide))
theorem O2_inS {x : Str} {Y : V} {ns : List Str} (hy : LV σ Y (vS ns)) (h : P (.bool (ns.contains x)) σ) : O2 c (compareOp .In) (.str x) Y σ P := by
  intro s G O v u R hv hu; obtain ⟨t, rfl⟩ := hv.inv
  obtain ⟨a, vs, rfl, hl, hvs, _⟩ := hy.at R hu
  exact in_made_str (ys := vs.toList) (by simpa using hl) (carriedS hvs.toS) (by rw [any_hitS]; exact fin0 R h (.bool _))
theorem O2_notInS {x : Str} {Y : V} {ns : List Str} (hy : LV σ Y (vS ns)) (h : P (.bool (!ns.contains x)) σ) : O2 c (compareOp .NotIn) (.str x) Y σ P := by
  intro s G O v u R hv hu; obtain ⟨t, rfl⟩ := hv.inv
  obtain ⟨a, vs, rfl, hl, hvs, _⟩ := hy.at R hu
  exact notin_made_str (ys := vs.toList) (by simpa using hl) (carriedS hvs.toS) (by rw [any_hitS]; exact fin0 R h (.bool _))
theorem O2_neSL (ok : Ok c) {X Y : V} {ns ms : List Str} (hx : LV σ X (vS ns)) (hy : LV σ Y (vS ms)) (on : okS ns = true) (om : okS ms = true) (h : P (.bool (!decide (ns = ms))) σ) : O2 c (compareOp .NotEq) X Y σ P := by
  intro s G O v u R hv hu
  obtain ⟨l, vs, rfl, hl, hvs, _⟩ := hx.at R hv
  obtain ⟨b, us, rfl, hb, hus, _⟩ := hy.at R hu
  exact ne_dataH_same (reads_newData (ys := vs.toList) (by simpa using hl) (carriedS hvs.toS)) (reads_newData (ys := us.toList) (by simpa using hb) (carriedS hus.toS)) (shapedS _ on) (shapedS _ om) (by have := ok.room; omega) (SeqAt.noMix_of_shape (.list .str) rfl _ _ (list_map_has fun _ => rfl) (list_map_has fun _ => rfl)) (by rw [sameSL]; exact fin0 R h (.bool _))
/-! ### slices -/
theorem EV_uptoS (ok : Ok c) {v e : Expr} {p pos : Pos} (h : EV c v σ fun X σ₁ => EV c e σ₁ fun Y σ₂ => ∃ x i, X = .str x ∧ Y = .int i ∧ x.length ≤ 1000000 ∧ P (.str (Txt.slice x none (some i))) σ₂) : EV c (.Subscript v (.Slice none (some e) none p) pos) σ P := by
  intro s G O R
  refine Subscript_ (TV.use h R fun a s₁ X σ₁ G₁ O₁ h₁ R₁ L₁ v₁ => wpAny_Slice (wpAny_evalPart_none (wpAny_evalPart_some (TV.use h₁ R₁ fun u s₂ Y σ₂ G₂ O₂ h₂ R₂ L₂ v₂ => wpAny_evalPart_none ?_))))
  obtain ⟨x, i, rfl, rfl, hz, hp⟩ := h₂
  obtain ⟨t, rfl⟩ := v₂.inv
  obtain ⟨t', rfl⟩ := v₁.inv
  refine tail_any (typeIs_str _ _ _) slot_str_getitem.lookup (wpAny_getItem_str_slice (l := none) (u := some (i, t)) (st := none) ⟨_, Heap.get?_push_size _ rfl, rfl, rfl⟩ rfl (post_val_or_str ⟨Nat.le_trans (Txt.slice_le x _ _) (Nat.le_trans hz (by decide)), fun t' k => ?_⟩)) rfl
  exact Po.le (L₁.trans L₂) (fin_grow ok R₂ (fun b o e => Heap.get?_push_of_some _ e) hp fun _ _ _ => .str _ _)
theorem EV_fromS (ok : Ok c) {v e : Expr} {p pos : Pos} (h : EV c v σ fun X σ₁ => EV c e σ₁ fun Y σ₂ => ∃ x i, X = .str x ∧ Y = .int i ∧ x.length ≤ 1000000 ∧ P (.str (Txt.slice x (some i) none)) σ₂) : EV c (.Subscript v (.Slice (some e) none none p) pos) σ P := by
  intro s G O R
  refine Subscript_ (TV.use h R fun a s₁ X σ₁ G₁ O₁ h₁ R₁ L₁ v₁ => wpAny_Slice (wpAny_evalPart_some (TV.use h₁ R₁ fun u s₂ Y σ₂ G₂ O₂ h₂ R₂ L₂ v₂ => wpAny_evalPart_none (wpAny_evalPart_none ?_))))
  obtain ⟨x, i, rfl, rfl, hz, hp⟩ := h₂
  obtain ⟨t, rfl⟩ := v₂.inv
  obtain ⟨t', rfl⟩ := v₁.inv
  refine tail_any (typeIs_str _ _ _) slot_str_getitem.lookup (wpAny_getItem_str_slice (l := some (i, t)) (u := none) (st := none) ⟨_, Heap.get?_push_size _ rfl, rfl, rfl⟩ rfl (post_val_or_str ⟨Nat.le_trans (Txt.slice_le x _ _) (Nat.le_trans hz (by decide)), fun t' k => ?_⟩)) rfl
  exact Po.le (L₁.trans L₂) (fin_grow ok R₂ (fun b o e => Heap.get?_push_of_some _ e) hp fun _ _ _ => .str _ _)
end
end Mine
namespace Mine
/-! ## dicts of strs by strs -/
theorem sEntry_some {e : DictEntry} {i : Int} {k v : Str} (h : sEntry e = some (i, k, v)) : e.hash = i ∧ (∃ t, e.key = .str k t) ∧ ∃ t, e.val = .str v t := by
  obtain ⟨hh, hk, hv⟩ := e
  unfold sEntry at h
  split at h
  · rename_i a t b u e1 e2
    simp only [Option.some.injEq, Prod.mk.injEq] at h
    obtain ⟨rfl, rfl, rfl⟩ := h
    exact ⟨rfl, ⟨_, e1⟩, ⟨_, e2⟩⟩
  · cases h
def sget (es : List (Str × Str)) (k d : Str) : Str := match es.find? (fun p => p.1 == k) with
  | some p => p.2
  | none => d
theorem sdict_keys {prog : Program} {w : World} {hs : Str → Int} (hh : hs = hashStr w) : ∀ {l : List DictEntry} {es : List (Str × Str)}, l.map sEntry = es.map (fun p => some (hs p.1, p.1, p.2)) → ∀ e ∈ l, ∃ k, (strKind prog w).is k e.key = true ∧ e.hash = (strKind prog w).hash k
  | [], _, _, e, he => by cases he
  | a :: l, [], h, e, he => by simp at h
  | a :: l, p :: es, h, e, he => by
    simp only [List.map_cons, List.cons.injEq] at h
    rcases List.mem_cons.mp he with rfl | he
    · obtain ⟨h1, ⟨t, h2⟩, _⟩ := sEntry_some h.1
      refine ⟨p.1, ?_, ?_⟩
      · rw [h2]; show (p.1 == p.1) = true; simp
      · rw [h1, hh]; rfl
    · exact sdict_keys hh h.2 e he
theorem sdict_find {hs : Str → Int} (k d : Str) (dt : Tok) : ∀ {l : List DictEntry} {es : List (Str × Str)}, l.map sEntry = es.map (fun p => some (hs p.1, p.1, p.2)) → ∃ t, (((l.find? fun e => Value.isStrOf k e.key).map (·.val)).getD (.str d dt)) = .str (sget es k d) t
  | [], [], _ => ⟨dt, rfl⟩
  | [], _ :: _, h => by simp at h
  | a :: l, [], h => by simp at h
  | a :: l, p :: es, h => by
    simp only [List.map_cons, List.cons.injEq] at h
    obtain ⟨_, ⟨t, h2⟩, ⟨t', h3⟩⟩ := sEntry_some h.1
    unfold sget
    rw [List.find?_cons, List.find?_cons, h2]
    rw [show Value.isStrOf k (.str p.1 t) = (p.1 == k) from rfl]
    cases e : (p.1 == k) with
    | true => exact ⟨t', by simp [h3]⟩
    | false => exact sdict_find k d dt h.2
section
variable {c : Cx} {σ : AS} {P : V → AS → Prop}
theorem Mt_get {hs : Str → Int} {es : List (Str × Str)} : Mt c (.sdict hs es) "get" "dict.get" σ := fun s G O v pl Q R hv kk => by
  obtain ⟨a, rfl, ga, o, ds, ep, e, _, hc, hd, _⟩ := hv.inv
  exact getMethod_builtin ⟨o, e, hc⟩ PySem.F.plainAttrs_dict PySem.F.slot_dict_get PySem.F.type_dict_get (fun b q => by cases q; exact ⟨o, e, hd⟩) kk
theorem CL_dget {hs : Str → Int} {es : List (Str × Str)} {k d : Str} (hh : hs = hashStr c.g.w) (h : P (.str (sget es k d)) σ) : CL c (.bi "dict.get") [.sdict hs es, .str k, .str d] [] σ P := by
  intro s G O fv vs kvs R hf hv hk
  obtain rfl := hf.inv
  obtain ⟨v, us, rfl, h1, h2⟩ := hv.invC
  obtain ⟨u, us, rfl, h3, h4⟩ := h2.invC
  obtain ⟨x, us, rfl, h5, h6⟩ := h4.invC
  rw [h6.inv0]
  obtain ⟨a, rfl, ga, o, ds, ep, e, hm, hc, hd, hdt, hes⟩ := h1.inv
  obtain ⟨t, rfl⟩ := h3.inv
  obtain ⟨dt, rfl⟩ := h5.inv
  obtain ⟨tr, er⟩ := sdict_find k d dt hes
  have hkeys : KeysOf (strKind c.g.prog c.g.w) ds := fun en hen => sdict_keys (prog := c.g.prog) hh hes en (by simpa using hen)
  have hkey : (strKind c.g.prog c.g.w).is k (.str k t) = true := by show (k == k) = true; simp
  refine call_meetsIn PySem.F.slot_dict_get ⟨o, e, hc⟩ PySem.F.entry_dict_get (PySem.F.args_dict_get_3 _ _ _) (S := fun _ R' s' => s'.heap.get? a = some o ∧ R' (.ok (.ret (.str (sget es k d) tr))) { s' with toks := s'.toks + 1 }) (MeetsIn.of_wp fun A R' s' ⟨e', h'⟩ => ?_) ⟨e, fin_ R h (.str _ _)⟩
  show wpAny _ _ (dictGet a (.str k t) >>= _) _ _ s'
  have eq : (findBy (strKind c.g.prog c.g.w).is ds k).getD (.str d dt) = .str (sget es k d) tr := by
    unfold findBy
    rw [← er]
    obtain ⟨l⟩ := ds
    simp only [List.find?_toArray]
    rfl
  have got : ∀ {Q : Option Value → Shared → Prop}, Q (findBy (strKind c.g.prog c.g.w).is ds k) { s' with toks := s'.toks + 1 } → wpAny (model c.g.prog c.g.w) A.in1 (dictGet a (.str k t)) Q (fun e s' => R' (.error e) s') s' := by
    intro Q hq
    unfold dictGet
    try with_reducible refine wpAny_holding ?_
    refine wpAny_bind ((strKind c.g.prog c.g.w).pyHash hkey (wpAny_bind (wpAny_dictFind_of (s := { s' with toks := s'.toks + 1 }) hkey e' hdt hkeys ?_)))
    rw [findBy_of_findIdx?] at hq
    cases hi : ds.findIdx? fun e => (strKind c.g.prog c.g.w).is k e.key with
    | none => rw [hi] at hq; exact wpAny_pure hq
    | some i => rw [hi] at hq; exact wpAny_bind (wpAny_dictEntries (s := { s' with toks := s'.toks + 1 }) e' hdt (wpAny_pure hq))
  refine wpAny_bind (got ?_)
  cases hf : findBy (strKind c.g.prog c.g.w).is ds k with
  | some v =>
    rw [hf] at eq
    exact wpAny_pure ⟨v, rfl, by rw [show v = _ from eq]; exact h'⟩
  | none =>
    rw [hf] at eq
    show wpAny _ _ (Builtin.Dict.missed a (.str k t) >>= _) _ _ _
    exact wpAny_bind (wpAny_missed_other hm (wpAny_pure ⟨_, rfl, by rw [show Value.str d dt = _ from eq]; exact h'⟩))
theorem entries_of' {prog : Program} {w : World} : ∀ {l : List DictEntry} {kvs : List (Str × Value)} {es : List (Str × Str)}, (∀ e ∈ l, ∃ k, (strKind prog w).is k e.key = true ∧ e.hash = (strKind prog w).hash k) → Pairs (strKind prog w) l kvs → PyProof.V.FlatPairs PyData.str kvs (es.map fun p => (PyData.str p.1, PyData.str p.2)) → l.map sEntry = es.map fun p => some (hashStr w p.1, p.1, p.2)
  | _, _, [], _, hp, hf => by
    cases hf
    cases hp
    rfl
  | _, _, p :: es, hk, hp, hf => by
    rw [List.map_cons] at hf
    generalize hd : (PyData.str p.1, PyData.str p.2) :: es.map (fun p => (PyData.str p.1, PyData.str p.2)) = D at hf
    cases hf with
    | nil => cases hd
    | @cons k v d kvs D fv fr =>
      simp only [List.cons.injEq, Prod.mk.injEq, PyData.str.injEq] at hd
      obtain ⟨⟨rfl, rfl⟩, rfl⟩ := hd
      cases hp with
      | @cons e _ l _ hi hv hp' =>
        obtain ⟨t, ht⟩ := Value.isStrOf_shape hi
        obtain ⟨k', hk1, hk2⟩ := hk e (.head _)
        obtain rfl := Value.isStrOf_inj _ _ _ hk1 hi
        obtain ⟨u, hu⟩ := fv.str_inv
        rw [List.map_cons, List.map_cons, entries_of' (fun e he => hk e (.tail _ he)) hp' fr]
        congr 1
        obtain ⟨a1, a2, a3⟩ := e
        simp only at ht hv hk2
        subst ht hk2
        rw [show a3 = _ from hv, hu]
        rfl
theorem entries_of {prog : Program} {w : World} {ds : Array DictEntry} {kvs : List (Str × Value)} {es : List (Str × Str)} (hk : KeysOf (strKind prog w) ds) (hp : Pairs (strKind prog w) ds.toList kvs) (hf : PyProof.V.FlatPairs PyData.str kvs (es.map fun p => (PyData.str p.1, PyData.str p.2))) : ds.toList.map sEntry = es.map fun p => some (hashStr w p.1, p.1, p.2) :=
  entries_of' (fun e he => hk e (by simpa using he)) hp hf
/-- a dict that is written out -/
theorem EV_dictLit (ok : Ok c) {keys : List (Option Expr)} {values : List Expr} {pos : Pos} {es : List (Str × Str)} {af : Addr} (hf : IsFn c.g af) (ha : 1 < (af : Nat)) (hD : litPairs keys values = some (es.map fun p => (.str p.1, .str p.2))) (hn : (es.map (·.1)).Nodup)
    (hall : keys.all (·.isSome) = true) (hl : keys.length = values.length) (h0 : keys ≠ []) (hlen : keys.length ≤ 15) (h : P (.sdict (hashStr c.g.w) es) σ) : EV c (.Dict keys values pos) σ P := by
  intro s G O R
  have e1 : strKeyed (es.map fun p => (PyData.str p.1, PyData.str p.2)) = true := by
    clear hD hn h
    induction es with
    | nil => rfl
    | cons p es ih => exact ih
  have e2 : strKeysOf (es.map fun p => (PyData.str p.1, PyData.str p.2)) = es.map (·.1) := by
    clear hD hn h e1
    induction es with
    | nil => rfl
    | cons p es ih => exact congrArg (p.1 :: ·) ih
  refine Dict_lits_str hD e1 (by rw [e2]; exact hn) hall hl h0 hlen fun a o h₁ tk hge ho T hk => ?_
  obtain ⟨kvs, ⟨ds, ep, hx, hdt, hks, hp, _⟩, hfl⟩ := T
  refine fin_new ok R hk (fresh_ge hge) ⟨o, ho⟩ h fun L => .sdict (.inr rfl) ⟨o, ds, ep, ho, ?_, hx.1, hx.2.1, hdt, ?_⟩
  · obtain ⟨of, fd, e, _⟩ := hf
    have lt := Heap.lt_size (R.base af of e)
    have : ¬ a = sysModules := fun q => by
      have h1 : @LE.le Nat _ s.heap.objs.size sysModules := Nat.le_trans hge (Nat.le_of_eq q)
      exact absurd (Nat.lt_trans ha (Nat.lt_of_lt_of_le lt h1)) (Nat.lt_irrefl 1)
    exact beq_eq_false_iff_ne.mpr this
  · exact entries_of hks hp hfl
end
end Mine
namespace Mine
def tUptoS (T₁ T₂ : Cx → AS → (V → AS → Prop) → Prop) : Cx → AS → (V → AS → Prop) → Prop := fun c σ P => T₁ c σ fun X σ₁ => T₂ c σ₁ fun Y σ₂ => ∃ x i, X = .str x ∧ Y = .int i ∧ x.length ≤ 1000000 ∧ P (.str (Txt.slice x none (some i))) σ₂
def tFrmS (T₁ T₂ : Cx → AS → (V → AS → Prop) → Prop) : Cx → AS → (V → AS → Prop) → Prop := fun c σ P => T₁ c σ fun X σ₁ => T₂ c σ₁ fun Y σ₂ => ∃ x i, X = .str x ∧ Y = .int i ∧ x.length ≤ 1000000 ∧ P (.str (Txt.slice x (some i) none)) σ₂
def tDictL (es : List (Str × Str)) : Cx → AS → (V → AS → Prop) → Prop := fun c σ P => P (.sdict (hashStr c.g.w) es) σ
section
variable {c : Cx} {σ : AS} {P : V → AS → Prop}
theorem SE.uptoS (ok : Ok c) {v e : Expr} {p pos : Pos} {T₁ T₂ : Cx → AS → (V → AS → Prop) → Prop} (h₁ : SE c v T₁) (h₂ : SE c e T₂) : SE c (.Subscript v (.Slice none (some e) none p) pos) (tUptoS T₁ T₂) :=
  fun _ _ h => EV_uptoS ok (TV.mono (h₁ _ _ h) fun _ _ h => h₂ _ _ h)
theorem SE.frmS (ok : Ok c) {v e : Expr} {p pos : Pos} {T₁ T₂ : Cx → AS → (V → AS → Prop) → Prop} (h₁ : SE c v T₁) (h₂ : SE c e T₂) : SE c (.Subscript v (.Slice (some e) none none p) pos) (tFrmS T₁ T₂) :=
  fun _ _ h => EV_fromS ok (TV.mono (h₁ _ _ h) fun _ _ h => h₂ _ _ h)
theorem SE.dictL (ok : Ok c) {keys : List (Option Expr)} {values : List Expr} {pos : Pos} (es : List (Str × Str)) {af : Addr} (hf : IsFn c.g af) (ha : 1 < (af : Nat)) (hD : litPairs keys values = some (es.map fun p => (.str p.1, .str p.2))) (hn : (es.map (·.1)).Nodup)
    (hall : keys.all (·.isSome) = true) (hl : keys.length = values.length) (h0 : keys ≠ []) (hlen : keys.length ≤ 15) : SE c (.Dict keys values pos) (tDictL es) :=
  fun _ _ h => EV_dictLit ok hf ha hD hn hall hl h0 hlen h
/-- a str's slices -/
theorem slice_to {l : List Nat} {j : Nat} (h : j ≤ l.length) : Txt.slice ⟨l.toArray⟩ none (some (j : Int)) = ⟨(l.take j).toArray⟩ := by
  have e := StrLaws.sliceText_to (x := ⟨l.toArray⟩) (j := (j : Int)) ⟨by omega, by simpa using h⟩
  have r : Txt.slice ⟨l.toArray⟩ none (some (j : Int)) = StrLaws.sliceText ⟨l.toArray⟩ none (some (j : Int)) := rfl
  rw [r, e]
  simp
theorem slice_from {l : List Nat} {i : Nat} (h : i ≤ l.length) : Txt.slice ⟨l.toArray⟩ (some (i : Int)) none = ⟨(l.drop i).toArray⟩ := by
  have e := StrLaws.sliceText_from (x := ⟨l.toArray⟩) (i := (i : Int)) ⟨by omega, by simpa using h⟩
  have r : Txt.slice ⟨l.toArray⟩ (some (i : Int)) none = StrLaws.sliceText ⟨l.toArray⟩ (some (i : Int)) none := rfl
  rw [r, e]
  have : ((l.length : Int) - (i : Int)).toNat = l.length - i := by omega
  simp [this, ← List.length_drop]
/-- the last of an own list -/
theorem sub_ownLast {v sl : Expr} {k : Nat} {xs : List V} {x : V} (hk : σ.own[k]? = some (xs ++ [x])) (hz : xs.length ≤ 1000000) (h : P x σ) (hs : ∀ o i, subscripted sl false o i = operate [o, i] (getItem o i) := by intro _ _; rfl) : O2 c (fun o i => subscriptTail v sl o i) (.own k) (.int (-1)) σ P := by
  intro s G O o u R ho hu
  obtain ⟨a, rfl, ha⟩ := ho.inv
  obtain ⟨t, rfl⟩ := hu.inv
  obtain ⟨b, vs, h1, hl, hvs⟩ := R.own k _ hk
  rw [ha] at h1; cases h1
  have hl := hl.isList
  have hlen := hvs.length
  rw [List.length_append, List.length_singleton, Array.length_toList] at hlen
  have hat : (xs ++ [x])[xs.length]? = some x := by simp
  obtain ⟨y, hy, hv⟩ := hvs.get hat
  refine tail_any hl.typeIs slot_list_getitem.lookup (wpAny_getItem_list_neg (x := y) hl (by decide) (by omega) (by decide) ?_ (fin0 R h hv)) (hs _ _)
  rw [show ((-1 : Int) + (vs.size : Nat)).toNat = xs.length by omega, ← Array.getElem?_toList]
  exact hy
end
end Mine
namespace Mine
/-! ## the order of strs -/
def ltS (a b : Str) : Bool := decide (a.cps.toList < b.cps.toList)
theorem str_ext {a b : Str} (h : a.cps.toList = b.cps.toList) : a = b := by
  cases a; cases b
  simp only [Str.mk.injEq]
  exact Array.toList_inj.mp h
section
variable {c : Cx} {σ : AS} {P : V → AS → Prop}
theorem O2_ltS {a b : Str} (h : P (.bool (ltS a b)) σ) : O2 c (compareOp .Lt) (.str a) (.str b) σ P := by
  intro s G O v u R hv hu; obtain ⟨t, rfl⟩ := hv.inv; obtain ⟨t', rfl⟩ := hu.inv; exact PyProof.Rows.lt_str (fin0 R h (.bool _))
theorem O2_gtS {a b : Str} (h : P (.bool (ltS b a)) σ) : O2 c (compareOp .Gt) (.str a) (.str b) σ P := by
  intro s G O v u R hv hu; obtain ⟨t, rfl⟩ := hv.inv; obtain ⟨t', rfl⟩ := hu.inv; exact PySem.P.gt_str (fin0 R h (.bool _))
end
theorem beq_dec (a b : Str) : (a == b) = decide (a = b) := by
  by_cases h : a = b
  · subst h; simp
  · rw [decide_eq_false h]; exact beq_eq_false_iff_ne.mpr h
def odS : Od Str where
  val := .str
  lt := ltS
  irr := fun a => decide_eq_false (List.lt_irrefl _)
  tr := fun a b c h k => decide_eq_true (List.lt_trans (of_decide_eq_true h) (of_decide_eq_true k))
  tot := fun a b h k => str_ext (List.le_antisymm (List.not_lt.mp (of_decide_eq_false k)) (List.not_lt.mp (of_decide_eq_false h)))
  cLt := fun _ _ _ _ _ h => O2_ltS h
  cGt := fun _ _ _ _ _ h => O2_gtS h
  cEq := fun _ a b _ _ h => O2_eqS (by rw [beq_dec]; exact h)
  low := fun _ _ => rfl
end Mine
namespace Mine
/-- a comprehension over three names with a test -/
theorem CompT.fm3 {A : V → AS → (AS → Prop) → Prop} {F : AS → (Bool → AS → Prop) → Prop} {T : AS → (V → AS → Prop) → Prop} {ι : Type} (g f u w z : ι → V) (p : ι → Bool) {P : List V → Prop} (xs : List ι) (a b d : Option V)
    (hA : ∀ x ∈ xs, ∀ a b d ys (K : AS → Prop), K { vars := [some (u x), some (w x), some (z x)], own := [ys] } → A (g x) { vars := [a, b, d], own := [ys] } K)
    (hF : ∀ x ∈ xs, ∀ ys P, P (p x) { vars := [some (u x), some (w x), some (z x)], own := [ys] } → F { vars := [some (u x), some (w x), some (z x)], own := [ys] } P)
    (hT : ∀ x ∈ xs, ∀ ys P, P (f x) { vars := [some (u x), some (w x), some (z x)], own := [ys] } → T { vars := [some (u x), some (w x), some (z x)], own := [ys] } P)
    (hz : xs.length ≤ 1000000) (hl : V.lows 0 ((xs.filter p).map f) = true) (hp : ∀ zs, zs = (xs.filter p).map f → P zs) : CompT A F T (xs.map g) { vars := [a, b, d], own := [[]] } P := by
  have main : ∀ (xs : List ι) (a b d : Option V) (ys : List V), (∀ x ∈ xs, ∀ a b d ys (K : AS → Prop), K { vars := [some (u x), some (w x), some (z x)], own := [ys] } → A (g x) { vars := [a, b, d], own := [ys] } K) →
      (∀ x ∈ xs, ∀ ys P, P (p x) { vars := [some (u x), some (w x), some (z x)], own := [ys] } → F { vars := [some (u x), some (w x), some (z x)], own := [ys] } P) →
      (∀ x ∈ xs, ∀ ys P, P (f x) { vars := [some (u x), some (w x), some (z x)], own := [ys] } → T { vars := [some (u x), some (w x), some (z x)], own := [ys] } P) →
      ys.length + xs.length ≤ 1000000 → V.lows 0 (ys ++ (xs.filter p).map f) = true → (∀ zs, zs = ys ++ (xs.filter p).map f → P zs) → CompT A F T (xs.map g) { vars := [a, b, d], own := [ys] } P := by
    intro xs
    induction xs with
    | nil => intro a b d ys _ _ _ _ hl hp; exact ⟨ys, rfl, by simpa using hl, hp _ (by simp)⟩
    | cons x xs ih =>
      intro a b d ys hA hF hT hz hl hp
      refine hA x (.head _) a b d ys _ (hF x (.head _) ys _ ?_)
      cases h : p x with
      | true =>
        rw [List.filter_cons_of_pos h, List.map_cons] at hl
        refine hT x (.head _) ys _ ⟨ys, rfl, by simp at hz; omega, ?_⟩
        exact ih (some (u x)) (some (w x)) (some (z x)) (ys ++ [f x]) (fun y hy => hA y (.tail _ hy)) (fun y hy => hF y (.tail _ hy)) (fun y hy => hT y (.tail _ hy)) (by simp at hz ⊢; omega) (by simpa using hl) fun zs e => hp zs (by rw [e, List.filter_cons_of_pos h]; simp)
      | false =>
        rw [List.filter_cons_of_neg (by simp [h])] at hl
        exact ⟨rfl, ih (some (u x)) (some (w x)) (some (z x)) ys (fun y hy => hA y (.tail _ hy)) (fun y hy => hF y (.tail _ hy)) (fun y hy => hT y (.tail _ hy)) (by simp at hz ⊢; omega) hl fun zs e => hp zs (by rw [e, List.filter_cons_of_neg (by simp [h])])⟩
  exact main xs a b d [] hA hF hT (by simpa using hz) hl hp
section
variable {c : Cx} {σ : AS}
/-- zip of three lists of one length -/
theorem IterT_zip3 (ok : Ok c) {ts : List Expr} {k : Nat} {pos : Pos} {ι : Type} (u w z : ι → V) (l : List ι) (hx : c.hx = false := by first | rfl | assumption) : IterT c "zip" (.Tuple ts k pos) [.list (l.map u), .list (l.map w), .list (l.map z)] (l.map fun x => [u x, w x, z x]) σ := by
  refine IterT_zipN (xss := [l.map u, l.map w, l.map z]) (n := l.length) ok (zipMakes3 c) (by simp) (by simp) (by simp) (fun xs h => ?_) ⟨_, .head _, by simp⟩ (fun i row h => ?_) hx
  · simp only [List.mem_cons, List.not_mem_nil, or_false] at h
    rcases h with rfl | rfl | rfl <;> simp
  · rw [List.getElem?_map] at h
    cases e : l[i]? with
    | none => rw [e] at h; cases h
    | some x =>
      rw [e] at h
      obtain rfl := Option.some.inj h
      refine ⟨rfl, fun t xs ht => ?_⟩
      match t, ht with
      | 0, ht => obtain rfl := Option.some.inj ht; rw [List.getElem?_map, e]; rfl
      | 1, ht => obtain rfl := Option.some.inj ht; rw [List.getElem?_map, e]; rfl
      | 2, ht => obtain rfl := Option.some.inj ht; rw [List.getElem?_map, e]; rfl
      | t + 3, ht => simp at ht
/-- zip of two lists and what is behind their firsts -/
theorem IterT_zip4 (ok : Ok c) {ts : List Expr} {k : Nat} {pos : Pos} (u w : Nat → V) (n : Nat) (hx : c.hx = false := by first | rfl | assumption) : IterT c "zip" (.Tuple ts k pos) [.list ((List.range (n + 1)).map u), .list (((List.range (n + 1)).map u).drop 1), .list ((List.range (n + 1)).map w), .list (((List.range (n + 1)).map w).drop 1)] ((List.range n).map fun r => [u r, u (r + 1), w r, w (r + 1)]) σ := by
  refine IterT_zipN (xss := [(List.range (n + 1)).map u, ((List.range (n + 1)).map u).drop 1, (List.range (n + 1)).map w, ((List.range (n + 1)).map w).drop 1]) (n := n) ok (zipMakes4 c) (by simp) (by simp) (by simp) (fun xs h => ?_) ⟨_, .tail _ (.head _), by simp⟩ (fun i row h => ?_) hx
  · simp only [List.mem_cons, List.not_mem_nil, or_false] at h
    rcases h with rfl | rfl | rfl | rfl <;> simp
  · rw [List.getElem?_map] at h
    cases e : (List.range n)[i]? with
    | none => rw [e] at h; cases h
    | some x =>
      rw [e] at h
      obtain rfl := Option.some.inj h
      have hi : i < n := by have := (List.getElem?_eq_some_iff.mp e).1; simpa using this
      obtain rfl : i = x := by rw [List.getElem?_range hi] at e; exact Option.some.inj e
      refine ⟨rfl, fun t xs ht => ?_⟩
      match t, ht with
      | 0, ht => obtain rfl := Option.some.inj ht; rw [List.getElem?_map, List.getElem?_range (by omega)]; rfl
      | 1, ht => obtain rfl := Option.some.inj ht; rw [List.getElem?_drop, List.getElem?_map, List.getElem?_range (by omega), Nat.add_comm 1 i]; rfl
      | 2, ht => obtain rfl := Option.some.inj ht; rw [List.getElem?_map, List.getElem?_range (by omega)]; rfl
      | 3, ht => obtain rfl := Option.some.inj ht; rw [List.getElem?_drop, List.getElem?_map, List.getElem?_range (by omega), Nat.add_comm 1 i]; rfl
      | t + 4, ht => simp at ht
end
theorem fzs_app (m : Nat) (l : List (List V)) : ∀ a b : List V, V.fzs m l (a ++ b) = V.fzs m l a ++ V.fzs m l b
  | [], b => rfl
  | x :: a, b => congrArg (V.fz m l x :: ·) (fzs_app m l a b)
theorem fzs_map {ι : Type} (m : Nat) (l : List (List V)) (f : ι → V) (h : ∀ i, V.fz m l (f i) = f i) : ∀ xs : List ι, V.fzs m l (xs.map f) = xs.map f
  | [] => rfl
  | x :: xs => by show V.fz m l (f x) :: V.fzs m l (xs.map f) = _; rw [h, fzs_map m l f h xs]; rfl
theorem lows_map {ι : Type} (m : Nat) (f : ι → V) (h : ∀ i, V.low m (f i) = true) : ∀ xs : List ι, V.lows m (xs.map f) = true
  | [] => rfl
  | x :: xs => by show (V.low m (f x) && V.lows m (xs.map f)) = true; rw [h, lows_map m f h xs]; rfl
end Mine
namespace Mine
/-! ## unlike values -/
theorem step_dedup_mem (l : List Int) (x y : Int) : y ∈ step_dedup l x ↔ y ∈ l ∨ y = x := by
  unfold step_dedup
  split
  · rename_i h
    rw [List.any_eq_true] at h
    obtain ⟨z, hz, e⟩ := h
    have : z = x := by simpa using e
    subst this
    exact ⟨.inl, fun q => q.elim id fun q => q ▸ hz⟩
  · simp
theorem step_dedup_nodup {l : List Int} (h : l.Nodup) (x : Int) : (step_dedup l x).Nodup := by
  unfold step_dedup
  split
  · exact h
  · rename_i hn
    rw [List.nodup_append]
    refine ⟨h, by simp, fun a ha b hb => ?_⟩
    rw [List.mem_singleton] at hb
    rintro rfl
    subst hb
    exact hn (List.any_eq_true.mpr ⟨a, ha, by simp⟩)
theorem step_dedup_len (l : List Int) (x : Int) : (step_dedup l x).length ≤ l.length + 1 := by
  unfold step_dedup; split <;> simp
theorem unlike_fold : ∀ (ns l : List Int), l.Nodup → (ns.foldl step_dedup l).Nodup ∧ (∀ y, y ∈ ns.foldl step_dedup l ↔ y ∈ l ∨ y ∈ ns) ∧ (ns.foldl step_dedup l).length ≤ l.length + ns.length
  | [], l, h => ⟨h, fun y => by simp, Nat.le_refl _⟩
  | x :: ns, l, h => by
    have ih := unlike_fold ns (step_dedup l x) (step_dedup_nodup h x)
    refine ⟨ih.1, fun y => ?_, ?_⟩
    · rw [List.foldl_cons, ih.2.1, step_dedup_mem, List.mem_cons, or_assoc]
    · have := ih.2.2
      have := step_dedup_len l x
      rw [List.foldl_cons, List.length_cons]
      omega
theorem unlike_nodup (ns : List Int) : (unlike ns).Nodup := (unlike_fold ns [] List.nodup_nil).1
theorem unlike_mem (ns : List Int) (y : Int) : y ∈ unlike ns ↔ y ∈ ns := by rw [unlike, (unlike_fold ns [] List.nodup_nil).2.1]; simp
theorem unlike_le (ns : List Int) : (unlike ns).length ≤ ns.length := by have := (unlike_fold ns [] List.nodup_nil).2.2; rw [List.length_nil, Nat.zero_add] at this; exact this
/-- a list without doubles within another is no longer -/
theorem nodup_le {α : Type} [DecidableEq α] : ∀ {l m : List α}, l.Nodup → (∀ x ∈ l, x ∈ m) → l.length ≤ m.length
  | [], _, _, _ => Nat.zero_le _
  | x :: l, m, h, k => by
    have hx := k x (.head _)
    have hn := List.nodup_cons.mp h
    have := nodup_le (l := l) (m := m.erase x) hn.2 fun y hy => (List.mem_erase_of_ne (fun e : y = x => hn.1 (e ▸ hy))).mpr (k y (.tail _ hy))
    rw [List.length_erase_of_mem hx] at this
    have : 0 < m.length := List.length_pos_of_mem hx
    rw [List.length_cons]; omega
/-! ## four functions (Ahlswede, Daykin), over the numbers of n bits -/
theorem nodup_map_on {α β : Type} {f : α → β} : ∀ {l : List α}, l.Nodup → (∀ x ∈ l, ∀ y ∈ l, f x = f y → x = y) → (l.map f).Nodup
  | [], _, _ => List.nodup_nil
  | a :: l, h, k => by
    have hn := List.nodup_cons.mp h
    rw [List.map_cons, List.nodup_cons]
    refine ⟨fun hm => ?_, nodup_map_on hn.2 fun x hx y hy => k x (.tail _ hx) y (.tail _ hy)⟩
    obtain ⟨y, hy, e⟩ := List.mem_map.mp hm
    exact hn.1 (k y (.tail _ hy) a (.head _) e ▸ hy)
theorem or_add_and : ∀ (a b : Nat), (a ||| b) + (a &&& b) = a + b
  | 0, b => by simp
  | a + 1, b => by
    have ih := or_add_and ((a + 1) / 2) (b / 2)
    have h1 := Nat.and_div_two (a := a + 1) (b := b)
    have h2 := Nat.or_div_two (a := a + 1) (b := b)
    have h3 := Nat.and_mod_two_pow (a := a + 1) (b := b) (n := 1)
    have h4 := Nat.or_mod_two_pow (a := a + 1) (b := b) (n := 1)
    rw [Nat.pow_one] at h3 h4
    have m1 : (a + 1) % 2 = 0 ∨ (a + 1) % 2 = 1 := by omega
    have m2 : b % 2 = 0 ∨ b % 2 = 1 := by omega
    have h5 : (a + 1 ||| b) % 2 + (a + 1 &&& b) % 2 = (a + 1) % 2 + b % 2 := by
      rw [h3, h4]
      rcases m1 with e1 | e1 <;> rcases m2 with e2 | e2 <;> rw [e1, e2] <;> rfl
    omega
  termination_by a => a
  decreasing_by omega
end Mine
namespace Mine
/-! ## the plain law of law 2: down-compression and what it shatters -/
def clr (k n : Nat) : Nat := n - n / 2 ^ k % 2 * 2 ^ k
def comp (k : Nat) (F : List Nat) : List Nat := F.map fun n => if clr k n ∈ F then n else clr k n
theorem bit_div (n k : Nat) : n / 2 ^ k % 2 = (n.testBit k).toNat := by
  rw [Nat.testBit_eq_decide_div_mod_eq]
  have : n / 2 ^ k % 2 = 0 ∨ n / 2 ^ k % 2 = 1 := by omega
  rcases this with e | e <;> rw [e] <;> rfl
theorem clr_xor (k n : Nat) : clr k n = n ^^^ (n &&& 2 ^ k) := by
  unfold clr
  rw [bit_div, ← and_two_pow]
  have h1 := or_add_and n (n &&& 2 ^ k)
  have h2 : n &&& (n &&& 2 ^ k) = n &&& 2 ^ k := by rw [← Nat.and_assoc, Nat.and_self]
  have h3 : (n ^^^ (n &&& 2 ^ k)) ||| (n &&& 2 ^ k) = n := by
    apply Nat.eq_of_testBit_eq
    intro i
    rw [Nat.testBit_or, Nat.testBit_xor, Nat.testBit_and]
    cases n.testBit i <;> cases (2 ^ k).testBit i <;> rfl
  have h4 : (n ^^^ (n &&& 2 ^ k)) &&& (n &&& 2 ^ k) = 0 := by
    apply Nat.eq_of_testBit_eq
    intro i
    rw [Nat.testBit_and, Nat.testBit_xor, Nat.testBit_and, Nat.zero_testBit]
    cases n.testBit i <;> cases (2 ^ k).testBit i <;> rfl
  have h5 := or_add_and (n ^^^ (n &&& 2 ^ k)) (n &&& 2 ^ k)
  rw [h3, h4] at h5
  omega
theorem clr_bit (k n i : Nat) : (clr k n).testBit i = (n.testBit i && !decide (i = k)) := by
  rw [clr_xor, Nat.testBit_xor, Nat.testBit_and, Nat.testBit_two_pow]
  by_cases h : i = k
  · subst h; simp
  · have h' : ¬ k = i := fun q => h q.symm
    simp [h, h']
theorem clr_le (k n : Nat) : clr k n ≤ n := Nat.sub_le ..
theorem clr_idem (k n : Nat) : clr k (clr k n) = clr k n := by
  apply Nat.eq_of_testBit_eq
  intro i
  rw [clr_bit, clr_bit]
  cases n.testBit i <;> simp
theorem clr_comm (j k n : Nat) : clr j (clr k n) = clr k (clr j n) := by
  apply Nat.eq_of_testBit_eq
  intro i
  rw [clr_bit, clr_bit, clr_bit, clr_bit]
  cases n.testBit i <;> cases decide (i = j) <;> cases decide (i = k) <;> rfl
theorem clr_not {k n : Nat} (h : n.testBit k = false) : clr k n = n := by
  apply Nat.eq_of_testBit_eq
  intro i
  rw [clr_bit]
  by_cases e : i = k
  · subst e; rw [h]; rfl
  · simp [e]
theorem clr_inj {k x y : Nat} (hx : x.testBit k = true) (hy : y.testBit k = true) (h : clr k x = clr k y) : x = y := by
  apply Nat.eq_of_testBit_eq
  intro i
  by_cases e : i = k
  · subst e; rw [hx, hy]
  · have := congrArg (fun z => Nat.testBit z i) h
    simpa [clr_bit, e] using this
/-- the image of one number -/
def img (k : Nat) (F : List Nat) (n : Nat) : Nat := if clr k n ∈ F then n else clr k n
theorem mem_comp {k : Nat} {F : List Nat} {y : Nat} : y ∈ comp k F ↔ ∃ x ∈ F, img k F x = y := List.mem_map
theorem img_changed {k : Nat} {F : List Nat} {n : Nat} (hn : n ∈ F) (h : clr k n ∉ F) : n.testBit k = true := by
  cases e : n.testBit k with
  | true => rfl
  | false => rw [clr_not e] at h; exact absurd hn h
theorem img_inj {k : Nat} {F : List Nat} {x y : Nat} (hx : x ∈ F) (hy : y ∈ F) (h : img k F x = img k F y) : x = y := by
  unfold img at h
  by_cases h1 : clr k x ∈ F <;> by_cases h2 : clr k y ∈ F
  · rwa [if_pos h1, if_pos h2] at h
  · rw [if_pos h1, if_neg h2] at h; exact absurd (h ▸ hx) h2
  · rw [if_neg h1, if_pos h2] at h; exact absurd (h ▸ hy) h1
  · rw [if_neg h1, if_neg h2] at h; exact clr_inj (img_changed hx h1) (img_changed hy h2) h
theorem comp_nodup {k : Nat} {F : List Nat} (h : F.Nodup) : (comp k F).Nodup := nodup_map_on h fun x hx y hy e => img_inj hx hy e
theorem comp_lt {k : Nat} {F : List Nat} (h : ∀ n ∈ F, n < 4096) : ∀ n ∈ comp k F, n < 4096 := fun n hn => by
  obtain ⟨x, hx, rfl⟩ := mem_comp.mp hn
  have := h x hx
  unfold img
  split
  · exact this
  · exact Nat.lt_of_le_of_lt (clr_le k x) this
/-- a number stays iff it is there after -/
theorem stays_iff {k : Nat} {F : List Nat} {x : Nat} (hx : x ∈ F) : x ∈ comp k F ↔ img k F x = x := by
  constructor
  · intro h
    obtain ⟨y, hy, e⟩ := mem_comp.mp h
    unfold img at e
    by_cases h2 : clr k y ∈ F
    · rw [if_pos h2] at e; subst e; unfold img; rw [if_pos h2]
    · rw [if_neg h2] at e; exact absurd (e ▸ hx) h2
  · intro h; exact mem_comp.mpr ⟨x, hx, h⟩
theorem was_iff {k : Nat} {F : List Nat} {x : Nat} (hx : x ∈ F) : img k F x ∈ F ↔ img k F x = x := by
  constructor
  · intro h
    unfold img at h ⊢
    by_cases h2 : clr k x ∈ F
    · rw [if_pos h2]
    · rw [if_neg h2] at h; exact absurd h h2
  · intro h; rw [h]; exact hx
def Cl (j : Nat) (F : List Nat) : Prop := ∀ x ∈ F, clr j x ∈ F
theorem cl_self (k : Nat) (F : List Nat) : Cl k (comp k F) := by
  intro y hy
  obtain ⟨x, hx, rfl⟩ := mem_comp.mp hy
  unfold img
  by_cases h : clr k x ∈ F
  · rw [if_pos h]
    refine mem_comp.mpr ⟨_, h, ?_⟩
    unfold img; rw [clr_idem, if_pos h]
  · rw [if_neg h, clr_idem]
    exact mem_comp.mpr ⟨x, hx, if_neg h⟩
theorem cl_comp {j k : Nat} {F : List Nat} (hj : Cl j F) : Cl j (comp k F) := by
  intro y hy
  obtain ⟨x, hx, rfl⟩ := mem_comp.mp hy
  have hz := hj x hx
  unfold img
  by_cases h : clr k x ∈ F
  · rw [if_pos h]
    refine mem_comp.mpr ⟨_, hz, if_pos ?_⟩
    rw [← clr_comm]; exact hj _ h
  · rw [if_neg h, clr_comm]
    by_cases h2 : clr k (clr j x) ∈ F
    · exact mem_comp.mpr ⟨_, h2, by unfold img; rw [clr_idem, if_pos h2]⟩
    · exact mem_comp.mpr ⟨_, hz, if_neg h2⟩
/-- after r steps -/
def down (F : List Nat) : Nat → List Nat
  | 0 => F
  | r + 1 => comp (11 - r) (down F r)
theorem down_cl (F : List Nat) : ∀ r j, r ≤ 12 → 12 - r ≤ j → j < 12 → Cl j (down F r)
  | 0, j, _, h, h2 => by omega
  | r + 1, j, hr, h, h2 => by
    by_cases e : j = 11 - r
    · subst e; exact cl_self _ _
    · exact cl_comp (down_cl F r j (by omega) (by omega) h2)
theorem down_nodup {F : List Nat} (h : F.Nodup) : ∀ r, (down F r).Nodup
  | 0 => h
  | r + 1 => comp_nodup (down_nodup h r)
theorem down_lt {F : List Nat} (h : ∀ n ∈ F, n < 4096) : ∀ r, ∀ n ∈ down F r, n < 4096
  | 0 => h
  | r + 1 => comp_lt (down_lt h r)
theorem down_len (F : List Nat) : ∀ r, (down F r).length = F.length
  | 0 => rfl
  | r + 1 => by show (comp _ _).length = _; unfold comp; rw [List.length_map, down_len F r]
/-- F shatters S -/
def Sh (F : List Nat) (S : Nat) : Prop := ∀ T, T &&& S = T → ∃ x ∈ F, x &&& S = T
theorem sub_bit {T S i : Nat} (h : T &&& S = T) (ht : T.testBit i = true) : S.testBit i = true := by
  have := congrArg (fun z => Nat.testBit z i) h
  simp only [Nat.testBit_and, ht, Bool.true_and] at this
  exact this
theorem sh_comp {k : Nat} {F : List Nat} {S : Nat} (h : Sh (comp k F) S) : Sh F S := by
  have key : ∀ x, (clr k x) &&& S = clr k (x &&& S) := fun x => by
    apply Nat.eq_of_testBit_eq
    intro i
    rw [Nat.testBit_and, clr_bit, clr_bit, Nat.testBit_and]
    cases x.testBit i <;> cases S.testBit i <;> simp
  intro T hT
  cases hk : S.testBit k with
  | false =>
    obtain ⟨y, hy, e⟩ := h T hT
    obtain ⟨x, hx, rfl⟩ := mem_comp.mp hy
    refine ⟨x, hx, ?_⟩
    unfold img at e
    split at e
    · exact e
    · rw [key, clr_not (by rw [Nat.testBit_and, hk, Bool.and_false])] at e; exact e
  | true =>
    have up : ∀ U, U &&& S = U → U.testBit k = true → ∃ x ∈ F, x &&& S = U ∧ clr k x ∈ F := fun U hU hb => by
      obtain ⟨y, hy, e⟩ := h U hU
      obtain ⟨x, hx, rfl⟩ := mem_comp.mp hy
      unfold img at e
      split at e
      · exact ⟨x, hx, e, by assumption⟩
      · have := congrArg (fun z => Nat.testBit z k) e
        simp only [Nat.testBit_and, clr_bit, hb] at this
        simp at this
    cases ht : T.testBit k with
    | true => obtain ⟨x, hx, e, _⟩ := up T hT ht; exact ⟨x, hx, e⟩
    | false =>
      obtain ⟨x, hx, e, hc⟩ := up (T ||| 2 ^ k) (by
        apply Nat.eq_of_testBit_eq
        intro i
        rw [Nat.testBit_and, Nat.testBit_or, Nat.testBit_two_pow]
        by_cases ei : k = i
        · subst ei; simp [hk]
        · have := congrArg (fun z => Nat.testBit z i) hT
          simp only [Nat.testBit_and] at this
          simp [ei, this]) (by rw [Nat.testBit_or, Nat.testBit_two_pow]; simp)
      refine ⟨_, hc, ?_⟩
      rw [key, e]
      apply Nat.eq_of_testBit_eq
      intro i
      rw [clr_bit, Nat.testBit_or, Nat.testBit_two_pow]
      by_cases ei : i = k
      · subst ei; simp [ht]
      · have ei' : ¬ k = i := fun q => ei q.symm
        simp [ei, ei']
theorem sh_down {F : List Nat} {S : Nat} : ∀ r, Sh (down F r) S → Sh F S
  | 0, h => h
  | r + 1, h => sh_down r (sh_comp h)
theorem bits_lt {n : Nat} (h : n < 4096) {i : Nat} (hi : 12 ≤ i) : n.testBit i = false :=
  Nat.testBit_lt_two_pow (Nat.lt_of_lt_of_le h (Nat.pow_le_pow_right (n := 2) (by decide) hi))
def keep (T : Nat) : Nat → Nat → Nat
  | x, 0 => x
  | x, j + 1 => if T.testBit j then keep T x j else clr j (keep T x j)
theorem keep_bit (T x : Nat) : ∀ j i, (keep T x j).testBit i = (x.testBit i && (decide (j ≤ i) || T.testBit i))
  | 0, i => by simp [keep]
  | j + 1, i => by
    unfold keep
    cases ht : T.testBit j with
    | true =>
      rw [if_pos rfl, keep_bit T x j i]
      by_cases e : i = j
      · subst e; simp [ht]
      · have : (j ≤ i) ↔ (j + 1 ≤ i) := by omega
        simp only [this]
    | false =>
      rw [if_neg (by simp), clr_bit, keep_bit T x j i]
      by_cases e : i = j
      · subst e; simp [ht]
      · have : (j ≤ i) ↔ (j + 1 ≤ i) := by omega
        simp [this, e]
theorem keep_mem {F : List Nat} (h : ∀ j, j < 12 → Cl j F) {T x : Nat} (hx : x ∈ F) : ∀ j, j ≤ 12 → keep T x j ∈ F
  | 0, _ => hx
  | j + 1, hj => by
    unfold keep
    split
    · exact keep_mem h hx j (by omega)
    · exact h j (by omega) _ (keep_mem h hx j (by omega))
theorem sh_closed {F : List Nat} (h : ∀ j, j < 12 → Cl j F) (hF : ∀ n ∈ F, n < 4096) {x : Nat} (hx : x ∈ F) : Sh F x := by
  intro T hT
  refine ⟨keep T x 12, keep_mem h hx 12 (Nat.le_refl _), ?_⟩
  apply Nat.eq_of_testBit_eq
  intro i
  rw [Nat.testBit_and, keep_bit]
  have hb := bits_lt (hF x hx) (i := i)
  have ht := sub_bit hT (i := i)
  by_cases hi : 12 ≤ i
  · rw [hb hi]
    cases e : T.testBit i with
    | true => rw [hb hi] at ht; exact absurd (ht e) (by simp)
    | false => rfl
  · cases e : T.testBit i with
    | true => rw [ht e]; simp
    | false => simp [hi]
/-! counting the parts -/
def subs (S : Nat) : Nat → List Nat
  | 0 => [0]
  | k + 1 => if S.testBit k then subs S k ++ (subs S k).map (· + 2 ^ k) else subs S k
def pop (S k : Nat) : Nat := ((List.range k).map fun i => S / 2 ^ i % 2).sum
theorem subs_len (S : Nat) : ∀ k, (subs S k).length = 2 ^ pop S k
  | 0 => rfl
  | k + 1 => by
    have e : pop S (k + 1) = pop S k + S / 2 ^ k % 2 := by unfold pop; rw [List.range_succ, List.map_append, List.sum_append]; simp
    rw [e, bit_div]
    unfold subs
    cases S.testBit k with
    | true => rw [if_pos rfl, List.length_append, List.length_map, subs_len S k, Nat.pow_add]; show _ = 2 ^ pop S k * 2 ^ 1; omega
    | false => rw [if_neg (by simp), subs_len S k]; rfl
theorem subs_lt (S : Nat) : ∀ k, ∀ t ∈ subs S k, t < 2 ^ k
  | 0, t, h => by rw [List.mem_singleton.mp h]; decide
  | k + 1, t, h => by
    unfold subs at h
    rw [Nat.pow_succ]
    split at h
    · rcases List.mem_append.mp h with h | h
      · have := subs_lt S k t h; omega
      · obtain ⟨u, hu, rfl⟩ := List.mem_map.mp h
        have := subs_lt S k u hu; omega
    · have := subs_lt S k t h; omega
theorem subs_nodup (S : Nat) : ∀ k, (subs S k).Nodup
  | 0 => by simp [subs]
  | k + 1 => by
    unfold subs
    split
    · refine List.nodup_append.mpr ⟨subs_nodup S k, nodup_map_on (subs_nodup S k) fun x _ y _ e => by omega, fun a ha b hb e => ?_⟩
      obtain ⟨u, hu, rfl⟩ := List.mem_map.mp hb
      have := subs_lt S k a ha
      omega
    · exact subs_nodup S k
theorem subs_mem (S : Nat) : ∀ k t, t ∈ subs S k ↔ t < 2 ^ k ∧ t &&& S = t
  | 0, t => by
    constructor
    · intro h; rw [List.mem_singleton.mp h]; exact ⟨by decide, Nat.zero_and S⟩
    · rintro ⟨h, _⟩
      have : t = 0 := by simpa using h
      rw [this]; exact .head _
  | k + 1, t => by
    have hi : ∀ u, u < 2 ^ k → (((u + 2 ^ k) &&& S = u + 2 ^ k) ↔ (u &&& S = u ∧ S.testBit k = true)) := fun u hu => by
      have eb : ∀ i, (u + 2 ^ k).testBit i = (u.testBit i || decide (k = i)) := fun i => by
        have e2 := Nat.two_pow_add_eq_or_of_lt hu 1
        rw [Nat.mul_one] at e2
        rw [Nat.add_comm, e2, Nat.testBit_or, Nat.testBit_two_pow, Bool.or_comm]
      have uk : u.testBit k = false := Nat.testBit_lt_two_pow hu
      constructor
      · intro h
        have hb : ∀ i, ((u.testBit i || decide (k = i)) && S.testBit i) = (u.testBit i || decide (k = i)) := fun i => by
          have := congrArg (fun z => Nat.testBit z i) h
          simp only [Nat.testBit_and, eb] at this
          exact this
        refine ⟨?_, by have := hb k; simpa using this⟩
        apply Nat.eq_of_testBit_eq
        intro i
        rw [Nat.testBit_and]
        by_cases e : k = i
        · subst e; rw [uk]; rfl
        · have := hb i; simpa [e] using this
      · rintro ⟨h1, h2⟩
        apply Nat.eq_of_testBit_eq
        intro i
        rw [Nat.testBit_and, eb]
        by_cases e : k = i
        · subst e; rw [h2]; simp
        · have := congrArg (fun z => Nat.testBit z i) h1
          simp only [Nat.testBit_and] at this
          simp [e, this]
    unfold subs
    rw [Nat.pow_succ]
    constructor
    · intro h
      split at h
      · rename_i hs
        rcases List.mem_append.mp h with h | h
        · have := (subs_mem S k t).mp h; exact ⟨by omega, this.2⟩
        · obtain ⟨u, hu, rfl⟩ := List.mem_map.mp h
          have := (subs_mem S k u).mp hu
          exact ⟨by omega, (hi u this.1).mpr ⟨this.2, hs⟩⟩
      · have := (subs_mem S k t).mp h; exact ⟨by omega, this.2⟩
    · rintro ⟨h1, h2⟩
      by_cases hl : t < 2 ^ k
      · have := (subs_mem S k t).mpr ⟨hl, h2⟩
        split
        · exact List.mem_append_left _ this
        · exact this
      · obtain ⟨u, rfl⟩ : ∃ u, t = u + 2 ^ k := ⟨t - 2 ^ k, by omega⟩
        have := (hi u (by omega)).mp h2
        rw [if_pos this.2]
        exact List.mem_append_right _ (List.mem_map.mpr ⟨u, (subs_mem S k u).mpr ⟨by omega, this.1⟩, rfl⟩)
theorem sh_count {F : List Nat} {S : Nat} (hS : S < 4096) (h : Sh F S) : (unlike (F.map fun x => ((x &&& S : Nat) : Int))).length = 2 ^ pop S 12 := by
  rw [← subs_len]
  have nd : ((subs S 12).map fun (t : Nat) => (t : Int)).Nodup := nodup_map_on (subs_nodup S 12) fun x _ y _ e => by omega
  have e : (subs S 12).length = ((subs S 12).map fun (t : Nat) => (t : Int)).length := by rw [List.length_map]
  rw [e]
  refine Nat.le_antisymm (nodup_le (unlike_nodup _) fun y hy => ?_) (nodup_le nd fun y hy => ?_)
  · obtain ⟨x, hx, rfl⟩ := List.mem_map.mp ((unlike_mem _ _).mp hy)
    refine List.mem_map.mpr ⟨x &&& S, (subs_mem S 12 _).mpr ⟨Nat.lt_of_le_of_lt Nat.and_le_right hS, ?_⟩, rfl⟩
    rw [Nat.and_assoc, Nat.and_self]
  · obtain ⟨t, ht, rfl⟩ := List.mem_map.mp hy
    obtain ⟨x, hx, e⟩ := h t ((subs_mem S 12 t).mp ht).2
    exact (unlike_mem _ _).mpr (List.mem_map.mpr ⟨x, hx, by rw [e]⟩)
theorem law2_math {F : List Nat} (hF : ∀ n ∈ F, n < 4096) {S : Nat} (hS : S ∈ down F 12) : (∀ j, j < 12 → clr j S ∈ down F 12) ∧ (unlike (F.map fun x => ((x &&& S : Nat) : Int))).length = 2 ^ pop S 12 := by
  have hc : ∀ j, j < 12 → Cl j (down F 12) := fun j hj => down_cl F 12 j (by omega) (by omega) hj
  have hl := down_lt hF 12
  exact ⟨fun j hj => hc j hj S hS, sh_count (hl S hS) (sh_down 12 (sh_closed hc hl hS))⟩
end Mine
namespace Mine
def nineL (n : Nat) : List Nat := (List.range 9).map fun k => ch n (k + 1)
def nine (n : Nat) : Str := ⟨(nineL n).toArray⟩
def takA : List (Str × Str) := [("r", "-"), ("w", "-"), ("x", "-"), ("s", "S"), ("t", "T")]
def takB : List (Str × Str) := [("s", "x"), ("S", "-"), ("t", "x"), ("T", "-")]
def chB (p : Nat) (b x : Bool) : Nat :=
  if p % 3 = 1 then cond b 114 45
  else if p % 3 = 2 then cond b 119 45
  else if p = 9 then cond (x && b) 116 (cond x 84 (cond b 120 45))
  else cond (x && b) 115 (cond x 83 (cond b 120 45))
theorem ch_B (n p : Nat) : ch n p = chB p (n.testBit (9 - p)) (n.testBit (12 - p / 3)) := rfl
def lessSpot (r : Nat) : Nat := if 2 < r then r - 3 else 3 * r + 2
def lessTab (r : Nat) : List (Str × Str) := if r < 3 then takB else takA
theorem less_char (n r : Nat) (hr : r < 12) : sget (lessTab r) (one (ch n (lessSpot r + 1))) (one (ch n (lessSpot r + 1))) = one (ch (clr (11 - r) n) (lessSpot r + 1)) := by
  have h : r = 0 ∨ r = 1 ∨ r = 2 ∨ r = 3 ∨ r = 4 ∨ r = 5 ∨ r = 6 ∨ r = 7 ∨ r = 8 ∨ r = 9 ∨ r = 10 ∨ r = 11 := by omega
  rw [ch_B, ch_B, clr_bit, clr_bit]
  have key : ∀ b x : Bool, sget (lessTab r) (one (chB (lessSpot r + 1) b x)) (one (chB (lessSpot r + 1) b x)) = one (chB (lessSpot r + 1) (b && !decide (9 - (lessSpot r + 1) = 11 - r)) (x && !decide (12 - (lessSpot r + 1) / 3 = 11 - r))) := by
    rcases h with rfl | rfl | rfl | rfl | rfl | rfl | rfl | rfl | rfl | rfl | rfl | rfl <;> decide +kernel
  exact key _ _
theorem less_else (n r k : Nat) (hr : r < 12) (hk : k < 9) (hne : k ≠ lessSpot r) : ch (clr (11 - r) n) (k + 1) = ch n (k + 1) := by
  rw [ch_B, ch_B, clr_bit, clr_bit]
  have key : ∀ b x : Bool, chB (k + 1) (b && !decide (9 - (k + 1) = 11 - r)) (x && !decide (12 - (k + 1) / 3 = 11 - r)) = chB (k + 1) b x := by
    have : ((List.range 12).all fun r => (List.range 9).all fun k => decide (k = lessSpot r) || (decide (∀ b x : Bool, chB (k + 1) (b && !decide (9 - (k + 1) = 11 - r)) (x && !decide (12 - (k + 1) / 3 = 11 - r)) = chB (k + 1) b x))) = true := by decide +kernel
    have h1 := List.all_eq_true.mp (List.all_eq_true.mp this r (List.mem_range.mpr hr)) k (List.mem_range.mpr hk)
    rw [Bool.or_eq_true, decide_eq_true_eq, decide_eq_true_eq] at h1
    exact h1.resolve_left hne
  exact key _ _
theorem nineL_len (n : Nat) : (nineL n).length = 9 := by simp [nineL]
theorem nineL_at (n k : Nat) (hk : k < 9) : (nineL n)[k]? = some (ch n (k + 1)) := by simp [nineL, hk]
theorem less_list (n r : Nat) (hr : r < 12) : (nineL n).take (lessSpot r) ++ [ch (clr (11 - r) n) (lessSpot r + 1)] ++ (nineL n).drop (lessSpot r + 1) = nineL (clr (11 - r) n) := by
  have hs : lessSpot r < 9 := by unfold lessSpot; split <;> omega
  apply List.ext_getElem?
  intro k
  by_cases hk : k < 9
  · rw [nineL_at _ k hk, List.append_assoc]
    rcases Nat.lt_trichotomy k (lessSpot r) with h | h | h
    · rw [List.getElem?_append_left (by rw [List.length_take, nineL_len]; omega), List.getElem?_take_of_lt h, nineL_at _ k hk, less_else n r k hr hk (by omega)]
    · subst h
      rw [List.getElem?_append_right (by rw [List.length_take, nineL_len]; omega), List.length_take, nineL_len, show lessSpot r - min (lessSpot r) 9 = 0 by omega]
      rfl
    · rw [List.getElem?_append_right (by rw [List.length_take, nineL_len]; omega), List.length_take, nineL_len, show k - min (lessSpot r) 9 = (k - lessSpot r - 1) + 1 by omega, List.singleton_append, List.getElem?_cons_succ, List.getElem?_drop, show lessSpot r + 1 + (k - lessSpot r - 1) = k by omega, nineL_at _ k hk, less_else n r k hr hk (by omega)]
  · rw [List.getElem?_eq_none (by simp [nineL_len]; omega), List.getElem?_eq_none (by rw [nineL_len]; omega)]
/-- a nine tells its number -/
theorem nine_inj {a b : Nat} (ha : a < 4096) (hb : b < 4096) (h : nine a = nine b) : a = b := by
  have hl : nineL a = nineL b := by
    have : (nineL a).toArray = (nineL b).toArray := congrArg Str.cps h
    simpa using this
  have hc : ∀ p, 1 ≤ p → p ≤ 9 → ch a p = ch b p := fun p h1 h9 => by
    have e1 := nineL_at a (p - 1) (by omega)
    have e2 := nineL_at b (p - 1) (by omega)
    rw [hl, e2, show p - 1 + 1 = p by omega] at e1
    exact (Option.some.inj e1).symm
  have lo : ∀ p, 1 ≤ p → p ≤ 9 → a.testBit (9 - p) = b.testBit (9 - p) := fun p h1 h9 => by rw [← (told a p h1 h9).2, ← (told b p h1 h9).2, hc p h1 h9]
  have hi : ∀ q, 1 ≤ q → q ≤ 3 → a.testBit (12 - q) = b.testBit (12 - q) := fun q h1 h3 => by
    have t1 := (told a (3 * q) (by omega) (by omega)).1
    have t2 := (told b (3 * q) (by omega) (by omega)).1
    rw [hc (3 * q) (by omega) (by omega), t2] at t1
    have e : 3 * q % 3 = 0 := by omega
    have e' : 3 * q / 3 = q := by omega
    rw [e, e'] at t1
    simpa using t1.symm
  apply Nat.eq_of_testBit_eq
  intro i
  by_cases h1 : i ≤ 8
  · have := lo (9 - i) (by omega) (by omega)
    rwa [show 9 - (9 - i) = i by omega] at this
  · by_cases h2 : i < 12
    · have := hi (12 - i) (by omega) (by omega)
      rwa [show 12 - (12 - i) = i by omega] at this
    · rw [bits_lt ha (by omega), bits_lt hb (by omega)]
end Mine
namespace Mine
def iN (l : List Nat) : List Int := l.map fun (n : Nat) => (n : Int)
theorem small3 (d : Nat) (h : d ≤ 100) : Builtin.Range.small 0 ((3 * d : Nat) : Int) 3 = true := by
  have : ((List.range 101).all fun (d : Nat) => Builtin.Range.small 0 ((3 * d : Nat) : Int) 3) = true := by decide +kernel
  exact List.all_eq_true.mp this d (List.mem_range.mpr (by omega))
theorem vI_iN (l : List Nat) : vI (iN l) = l.map fun (n : Nat) => V.int n := by simp [vI, iN, List.map_map, Function.comp_def]
theorem iN_app (a b : List Nat) : iN (a ++ b) = iN a ++ iN b := List.map_append
theorem vI_app (a b : List Int) : vI (a ++ b) = vI a ++ vI b := List.map_append
def padI (ns : List Nat) : List Nat := ns ++ List.replicate (ns.length % 2) 0
theorem padI_even (ns : List Nat) : (padI ns).length % 2 = 0 := by unfold padI; rw [List.length_append, List.length_replicate]; omega
theorem padI_lt {ns : List Nat} (h : ∀ n ∈ ns, n < 4096) : ∀ n ∈ padI ns, n < 4096 := fun n hn => (List.mem_append.mp hn).elim (h n) fun q => by rw [(List.mem_replicate.mp q).2]; decide
theorem padI_len (ns : List Nat) : (padI ns).length ≤ ns.length + 1 := by unfold padI; rw [List.length_append, List.length_replicate]; omega
theorem padI_take (ns : List Nat) : (padI ns).take ns.length = ns := List.take_left' rfl
def sgsN (l : List Nat) : List Int := l.flatMap fun (n : Nat) => signs2 (n : Int)
def texts (ns : List Nat) : List Int := sgsN (padI ns)
def bys : List Nat → List Int
  | x :: y :: r => octs x y ++ bys r
  | _ => []
theorem two_rec {α : Type} {P : List α → Prop} (nil : P []) (one : ∀ a, P [a]) (cons : ∀ x y q, P q → P (x :: y :: q)) : ∀ q, P q
  | [] => nil
  | [a] => one a
  | x :: y :: q => cons x y q (two_rec nil one cons q)
theorem nat12 {n : Nat} (h : n < 4096) : (0 : Int) ≤ (n : Int) ∧ (n : Int) < 4096 := by omega
theorem decs_sgs (l : List Nat) (h : ∀ n ∈ l, n < 4096) (he : l.length % 2 = 0) : decs (sgsN l) = bys l := by
  induction l using two_rec with
  | nil => rfl
  | one a => simp at he
  | cons x y q ih =>
    show decs (signs2 x ++ (signs2 y ++ sgsN q)) = octs x y ++ bys q
    rw [decs_signs (nat12 (h x (.head _))) (nat12 (h y (.tail _ (.head _)))), ih (fun n hn => h n (.tail _ (.tail _ hn))) (by simp at he; omega)]
theorem encs_bys (l : List Nat) (h : ∀ n ∈ l, n < 4096) (he : l.length % 2 = 0) : encs (bys l) = sgsN l := by
  induction l using two_rec with
  | nil => rfl
  | one a => simp at he
  | cons x y q ih =>
    show encs (octs x y ++ bys q) = signs2 x ++ (signs2 y ++ sgsN q)
    rw [encs_octs (nat12 (h x (.head _))) (nat12 (h y (.tail _ (.head _)))), ih (fun n hn => h n (.tail _ (.tail _ hn))) (by simp at he; omega)]
theorem sgsN_in (l : List Nat) (h : ∀ n ∈ l, n < 4096) : InS (sgsN l) := fun n hn => by
  obtain ⟨x, hx, hn⟩ := List.mem_flatMap.mp hn
  exact signs2_ok (nat12 (h x hx)) n hn
theorem sgsN_len (l : List Nat) : (sgsN l).length = 2 * l.length := by
  induction l with
  | nil => rfl
  | cons a l ih => show (signs2 a ++ sgsN l).length = _; rw [List.length_append, ih]; simp [signs2]; omega
theorem bys_in (l : List Nat) (h : ∀ n ∈ l, n < 4096) : InB (bys l) := by
  induction l using two_rec with
  | nil => intro n hn; simp [bys] at hn
  | one a => intro n hn; simp [bys] at hn
  | cons x y q ih =>
    intro n hn
    rcases List.mem_append.mp hn with hn | hn
    · exact octs_in (nat12 (h x (.head _))) (nat12 (h y (.tail _ (.head _)))) n hn
    · exact ih (fun n hn => h n (.tail _ (.tail _ hn))) n hn
theorem bys_len (l : List Nat) : (bys l).length = 3 * (l.length / 2) := by
  induction l using two_rec with
  | nil => rfl
  | one a => simp [bys]
  | cons x y q ih => show (octs x y ++ bys q).length = _; rw [List.length_append, ih]; simp [octs]; omega
theorem bys_app (a b : List Nat) (he : a.length % 2 = 0) : bys (a ++ b) = bys a ++ bys b := by
  induction a using two_rec with
  | nil => rfl
  | one a => simp at he
  | cons x y q ih => show octs x y ++ bys (q ++ b) = (octs x y ++ bys q) ++ bys b; rw [ih (by simp at he; omega), List.append_assoc]
theorem bys_at {p q : List Nat} {x y : Nat} (he : p.length % 2 = 0) (i : Nat) (hi : i < 3) : (bys (p ++ x :: y :: q)).getD (3 * (p.length / 2) + i) 0 = (octs x y).getD i 0 := by
  rw [bys_app p _ he, List.getD_eq_getElem?_getD, List.getElem?_append_right (by rw [bys_len]; omega), bys_len, show 3 * (p.length / 2) + i - 3 * (p.length / 2) = i by omega]
  rw [show bys (x :: y :: q) = octs x y ++ bys q from rfl, List.getElem?_append_left (by simpa [octs] using hi), ← List.getD_eq_getElem?_getD]
theorem rng_items3 (d : Nat) : rngItems 0 (3 * d : Nat) 3 = (List.range d).map fun (k : Nat) => V.int ((3 * k : Nat) : Int) := by
  unfold rngItems
  have e : (Builtin.Range.rangeSize (0 : Int) ((3 * d : Nat) : Int) 3).toNat = d := by
    unfold Builtin.Range.rangeSize
    by_cases h : d = 0
    · subst h; simp
    · simp; omega
  rw [e]
  refine List.map_congr_left fun i _ => ?_
  congr 1
  omega
end Mine
namespace Mine
/-! ## sorted lists of nines -/
theorem ltCps_lt : ∀ a b : List Nat, PySem.Spec.ltCps a b = decide (a < b)
  | [], [] => by simp [PySem.Spec.ltCps]
  | [], _ :: _ => by simp [PySem.Spec.ltCps]
  | _ :: _, [] => by simp [PySem.Spec.ltCps]
  | a :: r, b :: t => by
    unfold PySem.Spec.ltCps
    rw [ltCps_lt r t]
    have : (a :: r < b :: t) ↔ (a < b ∨ a = b ∧ r < t) := List.cons_lt_cons_iff
    rw [Bool.eq_iff_iff]
    simp [this]
theorem sorted_srt : ∀ {l : List Str}, sortedS l = true → l.Nodup → odS.Srt l
  | [], _, _ => .nil
  | [a], _, _ => List.pairwise_singleton _ _
  | a :: b :: r, h, hn => by
    have h' : (!PySem.Spec.ltCps b.cps.toList a.cps.toList && risingS b r) = true := h
    rw [Bool.and_eq_true, ltCps_lt] at h'
    have hs : odS.Srt (b :: r) := sorted_srt (l := b :: r) h'.2 (List.nodup_cons.mp hn).2
    have hab : odS.lt a b = true := by
      cases e : odS.lt a b with
      | true => rfl
      | false =>
        have h1 : odS.lt b a = false := by have := h'.1; simpa [odS, ltS] using this
        have := odS.tot a b e h1
        exact absurd (by rw [this]; exact .head _) (List.nodup_cons.mp hn).1
    refine List.pairwise_cons.mpr ⟨fun x hx => ?_, hs⟩
    rcases List.mem_cons.mp hx with rfl | hx
    · exact hab
    · exact odS.tr _ _ _ hab ((List.pairwise_cons.mp hs).1 x hx)
theorem srt_ext : ∀ {a b : List Str}, odS.Srt a → odS.Srt b → (∀ x, x ∈ a ↔ x ∈ b) → a = b
  | [], [], _, _, _ => rfl
  | [], y :: b, _, _, h => absurd ((h y).mpr (.head _)) (by simp)
  | x :: a, [], _, _, h => absurd ((h x).mp (.head _)) (by simp)
  | x :: a, y :: b, ha, hb, h => by
    have na := Od.not_mem_head ha
    have nb := Od.not_mem_head hb
    have pa := List.pairwise_cons.mp ha
    have pb := List.pairwise_cons.mp hb
    have e : x = y := by
      rcases List.mem_cons.mp ((h x).mp (.head _)) with e | hx
      · exact e
      · rcases List.mem_cons.mp ((h y).mpr (.head _)) with e | hy
        · exact e.symm
        · have := odS.tr _ _ _ (pb.1 x hx) (pa.1 y hy)
          rw [odS.irr] at this; cases this
    subst e
    rw [srt_ext pa.2 pb.2 fun z => ?_]
    have hz := h z
    rw [List.mem_cons, List.mem_cons] at hz
    constructor
    · intro m
      exact (hz.mp (.inr m)).resolve_left fun q => na (q ▸ m)
    · intro m
      exact (hz.mpr (.inr m)).resolve_left fun q => nb (q ▸ m)
/-- the difference of two sorted lists of nines is what changed, sorted -/
theorem diff_sorted {xs ys zs ms us cs : List Str} (hm : ms.Perm xs) (sm : sortedS ms = true) (nx : xs.Nodup) (hu : us.Perm ys) (su : sortedS us = true) (ny : ys.Nodup) (hc : cs.Perm zs) (sc : sortedS cs = true) (nz : zs.Nodup)
    (h : ∀ x, x ∈ zs ↔ x ∈ xs ∧ x ∉ ys) : odS.Srt ms ∧ odS.Srt us ∧ diff ms us = cs := by
  have h1 := sorted_srt sm (hm.nodup_iff.mpr nx)
  have h2 := sorted_srt su (hu.nodup_iff.mpr ny)
  have h3 := sorted_srt sc (hc.nodup_iff.mpr nz)
  refine ⟨h1, h2, srt_ext (List.Pairwise.filter _ h1) h3 fun x => ?_⟩
  rw [hc.mem_iff, h]
  unfold diff
  rw [List.mem_filter, hm.mem_iff, decide_eq_true_eq, hu.mem_iff]
/-! ## a step of the folder -/
def chg (k : Nat) (F : List Nat) : List Nat := F.filter fun n => n != img k F n
theorem chg_mem {k : Nat} {F : List Nat} {x : Nat} : x ∈ chg k F ↔ x ∈ F ∧ img k F x ≠ x := by
  unfold chg
  rw [List.mem_filter, bne_iff_ne]
  exact and_congr_right fun _ => ⟨fun h e => h e.symm, fun h e => h e.symm⟩
theorem comp_eq (k : Nat) (F : List Nat) : comp k F = F.map (img k F) := rfl
theorem nine_map_nodup {F : List Nat} (hF : ∀ n ∈ F, n < 4096) (hn : F.Nodup) : (F.map nine).Nodup := nodup_map_on hn fun x hx y hy e => nine_inj (hF x hx) (hF y hy) e
theorem nine_mem {F : List Nat} (hF : ∀ n ∈ F, n < 4096) {x : Nat} (hx : x < 4096) : nine x ∈ F.map nine ↔ x ∈ F := by
  constructor
  · intro h
    obtain ⟨y, hy, e⟩ := List.mem_map.mp h
    exact nine_inj (hF y hy) hx e ▸ hy
  · exact fun h => List.mem_map_of_mem h
theorem gone_iff {k : Nat} {F : List Nat} (hF : ∀ n ∈ F, n < 4096) (y : Str) : y ∈ (chg k F).map nine ↔ y ∈ F.map nine ∧ y ∉ (comp k F).map nine := by
  constructor
  · intro h
    obtain ⟨x, hx, rfl⟩ := List.mem_map.mp h
    obtain ⟨h1, h2⟩ := chg_mem.mp hx
    exact ⟨List.mem_map_of_mem h1, fun q => h2 ((stays_iff h1).mp ((nine_mem (comp_lt hF) (hF x h1)).mp q))⟩
  · rintro ⟨h, h2⟩
    obtain ⟨x, hx, rfl⟩ := List.mem_map.mp h
    exact List.mem_map_of_mem (chg_mem.mpr ⟨hx, fun q => h2 (List.mem_map_of_mem ((stays_iff hx).mpr q))⟩)
theorem came_iff {k : Nat} {F : List Nat} (hF : ∀ n ∈ F, n < 4096) (y : Str) : y ∈ (chg k F).map (fun x => nine (img k F x)) ↔ y ∈ (comp k F).map nine ∧ y ∉ F.map nine := by
  have hi : ∀ x ∈ F, img k F x < 4096 := fun x hx => comp_lt hF _ (mem_comp.mpr ⟨x, hx, rfl⟩)
  constructor
  · intro h
    obtain ⟨x, hx, rfl⟩ := List.mem_map.mp h
    obtain ⟨h1, h2⟩ := chg_mem.mp hx
    exact ⟨List.mem_map_of_mem (mem_comp.mpr ⟨x, h1, rfl⟩), fun q => h2 ((was_iff h1).mp ((nine_mem hF (hi x h1)).mp q))⟩
  · rintro ⟨h, h2⟩
    obtain ⟨z, hz, rfl⟩ := List.mem_map.mp h
    obtain ⟨x, hx, rfl⟩ := mem_comp.mp hz
    exact List.mem_map.mpr ⟨x, chg_mem.mpr ⟨hx, fun q => h2 (List.mem_map_of_mem ((was_iff hx).mpr q))⟩, rfl⟩
theorem chg_nodup {k : Nat} {F : List Nat} (hF : ∀ n ∈ F, n < 4096) (hn : F.Nodup) : ((chg k F).map nine).Nodup ∧ ((chg k F).map (fun x => nine (img k F x))).Nodup := by
  have h1 : (chg k F).Nodup := hn.sublist List.filter_sublist
  have hm : ∀ x ∈ chg k F, x ∈ F := fun x hx => (chg_mem.mp hx).1
  have hi : ∀ x ∈ F, img k F x < 4096 := fun x hx => comp_lt hF _ (mem_comp.mpr ⟨x, hx, rfl⟩)
  exact ⟨nodup_map_on h1 fun x hx y hy e => nine_inj (hF x (hm x hx)) (hF y (hm y hy)) e, nodup_map_on h1 fun x hx y hy e => img_inj (hm x hx) (hm y hy) (nine_inj (hi x (hm x hx)) (hi y (hm y hy)) e)⟩
/-! ## what the strs are -/
theorem str_app (a b : List Nat) : (⟨a.toArray⟩ : Str) ++ ⟨b.toArray⟩ = ⟨(a ++ b).toArray⟩ := by
  show Str.mk _ = _
  simp
theorem nine_len (n : Nat) : (nine n).length = 9 := by show (nineL n).toArray.size = 9; simp [nineL_len]
theorem shown_from (m : Int) : Txt.slice (shown m) (some ((1 : Nat) : Int)) none = nine (md m) := by
  unfold shown
  rw [slice_from (by simp [codes])]
  rfl
theorem shown_len (m : Int) : (shown m).length = 10 := by show (codes m).toArray.size = 10; simp [codes]
theorem ch_ok (n p : Nat) : ch n p < 1114112 := by
  rw [ch_B]
  have : ∀ (p : Nat) (b x : Bool), chB p b x < 1114112 := by
    intro p b x
    unfold chB
    cases b <;> cases x <;> simp <;> split <;> (try omega) <;> split <;> (try omega) <;> split <;> omega
  exact this _ _ _
theorem nine_ok (n : Nat) : PyData.strOk (nine n) = true := by
  unfold PyData.strOk nine nineL
  simp only [List.all_toArray, List.all_map, List.all_eq_true]
  intro k _
  exact decide_eq_true (ch_ok n (k + 1))
theorem nines_ok (F : List Nat) : okS (F.map nine) = true := by
  unfold okS
  rw [List.all_map, List.all_eq_true]
  exact fun n _ => nine_ok n
theorem okS_of {l : List Str} (h : ∀ x ∈ l, PyData.strOk x = true) : okS l = true := List.all_eq_true.mpr h
theorem okS_mem {l : List Str} (h : okS l = true) : ∀ x ∈ l, PyData.strOk x = true := List.all_eq_true.mp h
/-- less by a right -/
theorem less_str (n r : Nat) (hr : r < 12) : Txt.slice (nine n) none (some ((lessSpot r : Nat) : Int)) ++ sget (lessTab r) (one (ch n (lessSpot r + 1))) (one (ch n (lessSpot r + 1))) ++ Txt.slice (nine n) (some ((lessSpot r + 1 : Nat) : Int)) none = nine (clr (11 - r) n) := by
  have hs : lessSpot r < 9 := by unfold lessSpot; split <;> omega
  unfold nine
  rw [slice_to (by rw [nineL_len]; omega), slice_from (by rw [nineL_len]; omega), less_char n r hr]
  show (⟨_⟩ : Str) ++ ⟨[_].toArray⟩ ++ ⟨_⟩ = _
  rw [str_app, str_app, less_list n r hr]
theorem less_len (n r : Nat) (hr : r < 12) : (Txt.slice (nine n) none (some ((lessSpot r : Nat) : Int))).length + (sget (lessTab r) (one (ch n (lessSpot r + 1))) (one (ch n (lessSpot r + 1)))).length ≤ 10 ∧ (Txt.slice (nine n) none (some ((lessSpot r : Nat) : Int)) ++ sget (lessTab r) (one (ch n (lessSpot r + 1))) (one (ch n (lessSpot r + 1)))).length + (Txt.slice (nine n) (some ((lessSpot r + 1 : Nat) : Int)) none).length ≤ 20 := by
  have hs : lessSpot r < 9 := by unfold lessSpot; split <;> omega
  unfold nine
  rw [slice_to (by rw [nineL_len]; omega), slice_from (by rw [nineL_len]; omega), less_char n r hr]
  have e : one (ch (clr (11 - r) n) (lessSpot r + 1)) = ⟨[ch (clr (11 - r) n) (lessSpot r + 1)].toArray⟩ := rfl
  rw [e, str_app]
  have h1 : ((nineL n).take (lessSpot r)).length ≤ 9 := by rw [List.length_take, nineL_len]; omega
  have h2 : ((nineL n).drop (lessSpot r + 1)).length ≤ 9 := by rw [List.length_drop, nineL_len]; omega
  show (List.toArray _).size + (List.toArray _).size ≤ 10 ∧ (List.toArray _).size + (List.toArray _).size ≤ 20
  simp only [List.size_toArray, List.length_append, List.length_singleton]
  omega
/-- a plain file shows its rights behind a dash -/
theorem shown_plain {n : Nat} (h : n < 4096) : shown (32768 + (n : Int)) = (("-" : Str) ++ nine n) ∧ md (32768 + (n : Int)) = n := by
  have hm : md (32768 + (n : Int)) = n := by unfold md; omega
  refine ⟨?_, hm⟩
  have hk : kind (32768 + (n : Int)) = 45 := by
    have : Builtin.bitAnd (32768 + (n : Int)) 61440 = 32768 := by
      rw [bitAnd_nat (by omega) (by decide)]
      have e1 : (32768 + (n : Int)).toNat = 2 ^ 12 * 8 + n := by omega
      have e2 : (61440 : Int).toNat = 2 ^ 12 * 15 + 0 := by decide
      rw [e1, e2]
      have : (2 ^ 12 * 8 + n) &&& (2 ^ 12 * 15 + 0) = 32768 := by
        have hd : ((2 ^ 12 * 8 + n) &&& (2 ^ 12 * 15 + 0)) / 2 ^ 12 = 8 := by
          rw [Nat.and_div_two_pow, show (2 ^ 12 * 8 + n) / 2 ^ 12 = 8 by omega, show (2 ^ 12 * 15 + 0) / 2 ^ 12 = 15 by omega]; rfl
        have hr : ((2 ^ 12 * 8 + n) &&& (2 ^ 12 * 15 + 0)) % 2 ^ 12 = 0 := by
          rw [Nat.and_mod_two_pow, show (2 ^ 12 * 15 + 0) % 2 ^ 12 = 0 by omega, Nat.and_zero]
        omega
      rw [this]; rfl
    unfold kind
    rw [this]; decide
  unfold shown codes
  rw [hm, hk]
  show _ = Str.mk (#[45] ++ (nineL n).toArray)
  simp [nineL]
end Mine
namespace Mine
/-! ## nines by division -/
theorem bitZ (n m : Nat) : (n : Int) / 2 ^ m % 2 = ((n.testBit m).toNat : Int) := by
  rw [← bit_div, show (2 : Int) ^ m = ((2 ^ m : Nat) : Int) by rw [Int.natCast_pow]; rfl]
  rfl
theorem twoZ {m : Nat} (h : m ≤ 20) : 0 < (2 : Int) ^ m ∧ (2 : Int) ^ m < 1073741824 := by
  have h1 : 2 ^ m ≤ 2 ^ 20 := Nat.pow_le_pow_right (by decide) h
  have h2 : 0 < 2 ^ m := Nat.pow_pos (by decide)
  rw [show (2 : Int) ^ m = ((2 ^ m : Nat) : Int) by rw [Int.natCast_pow]; rfl]
  generalize (2 ^ m : Nat) = z at h1 h2
  have : (2 : Nat) ^ 20 = 1048576 := rfl
  omega
def rwxC (k : Nat) : Nat := if k % 3 = 0 then 114 else if k % 3 = 1 then 119 else 120
def signsS (k : Nat) (a : Bool) : Str := cond a (if k = 8 then "Tt" else "Ss") (("-" : Str) ++ one (rwxC k))
theorem signs_at (n k : Nat) (hk : k < 9) : (signsS k (decide (k % 3 = 2) && n.testBit (11 - k / 3))).cps[(n.testBit (8 - k)).toNat]? = some (ch n (k + 1)) := by
  rw [ch_B, show 9 - (k + 1) = 8 - k by omega]
  have key : ∀ b x : Bool, (signsS k (decide (k % 3 = 2) && x)).cps[b.toNat]? = some (chB (k + 1) b (if k % 3 = 2 then x else false)) ∧ ∀ y : Bool, k % 3 ≠ 2 → chB (k + 1) b y = chB (k + 1) b false := by
    have h : k = 0 ∨ k = 1 ∨ k = 2 ∨ k = 3 ∨ k = 4 ∨ k = 5 ∨ k = 6 ∨ k = 7 ∨ k = 8 := by omega
    rcases h with rfl | rfl | rfl | rfl | rfl | rfl | rfl | rfl | rfl <;> decide +kernel
  have := (key (n.testBit (8 - k)) (n.testBit (11 - k / 3))).1
  rw [this]
  split
  · rename_i h3
    rw [show 12 - (k + 1) / 3 = 11 - k / 3 by omega]
  · rename_i h3
    rw [(key (n.testBit (8 - k)) true).2 (n.testBit (12 - (k + 1) / 3)) h3]
theorem rwx_at (k : Nat) : ("rwx" : Str).cps[((k : Int) % 3).toNat]? = some (rwxC k) := by
  have e : ((k : Int) % 3).toNat = k % 3 := by omega
  rw [e]
  unfold rwxC
  have h3 : k % 3 = 0 ∨ k % 3 = 1 ∨ k % 3 = 2 := by omega
  rcases h3 with h3 | h3 | h3 <;> rw [h3] <;> rfl
def nineT (n k : Nat) : Str := ⟨((nineL n).take k).toArray⟩
theorem nineT_len (n k : Nat) : (nineT n k).length ≤ 9 := by
  show (List.toArray _).size ≤ 9
  rw [List.size_toArray, List.length_take, nineL_len]; omega
theorem nineT_next (n k : Nat) (hk : k < 9) : nineT n k ++ one (ch n (k + 1)) = nineT n (k + 1) := by
  unfold nineT
  show (⟨_⟩ : Str) ++ ⟨[ch n (k + 1)].toArray⟩ = _
  rw [str_app, List.take_succ, nineL_at n k hk]
  rfl
theorem nineT_end (n : Nat) : nineT n 9 = nine n := by
  unfold nineT nine
  rw [List.take_of_length_le (by rw [nineL_len]; decide)]
end Mine
namespace Mine
/-! ## the folder's files -/
def addTo (l : List Int) (x : Int) : List Int := if (Builtin.bitAnd x 4095) ∈ l.map (Builtin.bitAnd · 4095) then l else l ++ [x]
def filesFrom : List Int → List Int → List Int
  | [], f => f
  | v :: ns, f => filesFrom ns (addTo f v)
structure FlOk (f : List Int) (n : Nat) : Prop where
  r : ∀ m ∈ f, 0 ≤ m
  d : (f.map md).Nodup
  l : f.length ≤ n
theorem addTo_ok {f : List Int} {n : Nat} {x : Int} (h : FlOk f n) (h0 : 0 ≤ x) : FlOk (addTo f x) (n + 1) := by
  unfold addTo
  split
  · exact ⟨h.r, h.d, by have := h.l; omega⟩
  · rename_i hm
    refine ⟨fun m hm' => ?_, ?_, by have := h.l; simp; omega⟩
    · rcases List.mem_append.mp hm' with q | q
      · exact h.r m q
      · rw [List.mem_singleton] at q; subst q; exact h0
    · rw [List.map_append, List.nodup_append]
      refine ⟨h.d, by simp, fun a ha b hb => ?_⟩
      simp only [List.map_cons, List.map_nil, List.mem_singleton] at hb
      subst hb
      rintro rfl
      obtain ⟨y, hy, e⟩ := List.mem_map.mp ha
      refine hm (List.mem_map.mpr ⟨y, hy, ?_⟩)
      rw [imode_md (h.r y hy), imode_md h0, e]
theorem files_ok : ∀ (ns f : List Int) (n : Nat), (∀ v ∈ ns, 0 ≤ v) → FlOk f n → FlOk (filesFrom ns f) (n + ns.length)
  | [], f, n, _, hf => hf
  | v :: ns, f, n, hv, hf => by
    have := files_ok ns (addTo f v) (n + 1) (fun x hx => hv x (.tail _ hx)) (addTo_ok hf (hv v (.head _)))
    unfold filesFrom
    rw [List.length_cons, Nat.add_comm ns.length, ← Nat.add_assoc]
    exact this
theorem first_files : FlOk [35309, 8684, 16841] 3 := ⟨by decide, by decide +kernel, by decide⟩
/-! ## rows and folders as values -/
def rwV (F : List Nat) (r : Nat) : V := .list (vI (iN (down F r)))
def fdV (F : List Nat) (r : Nat) : V := .list (vS ((down F r).map nine))
theorem fz_rwV (m : Nat) (l : List (List V)) (F : List Nat) (r : Nat) : V.fz m l (rwV F r) = rwV F r := fz_vI m l _
theorem fz_fdV (m : Nat) (l : List (List V)) (F : List Nat) (r : Nat) : V.fz m l (fdV F r) = fdV F r := fz_vS m l _
theorem low_rwV (m : Nat) (F : List Nat) (r : Nat) : V.low m (rwV F r) = true := low_vI m _
theorem low_fdV (m : Nat) (F : List Nat) (r : Nat) : V.low m (fdV F r) = true := low_vS m _
theorem clrZ (x j : Nat) : (x : Int) - (x : Int) / 2 ^ j % 2 * 2 ^ j = ((clr j x : Nat) : Int) := by
  unfold clr
  have h1 : x / 2 ^ j % 2 * 2 ^ j ≤ x := by
    rw [bit_div, ← and_two_pow]; exact Nat.and_le_left
  rw [Int.natCast_sub h1, Int.natCast_mul, Int.natCast_emod, Int.natCast_ediv, Int.natCast_pow]
  rfl
theorem hasI (F : List Nat) (x : Nat) : (iN F).contains (x : Int) = decide (x ∈ F) := by
  rw [Bool.eq_iff_iff, List.contains_iff_mem, decide_eq_true_eq]
  unfold iN
  rw [List.mem_map]
  constructor
  · rintro ⟨y, hy, e⟩
    have : y = x := by omega
    exact this ▸ hy
  · exact fun h => ⟨x, h, rfl⟩
theorem hasS {F : List Nat} (hF : ∀ n ∈ F, n < 4096) {x : Nat} (hx : x < 4096) : (F.map nine).contains (nine x) = decide (x ∈ F) := by
  rw [Bool.eq_iff_iff, List.contains_iff_mem, decide_eq_true_eq, nine_mem hF hx]
theorem clr_lt {k x : Nat} (h : x < 4096) : clr k x < 4096 := Nat.lt_of_le_of_lt (clr_le k x) h
theorem img_eq (k : Nat) (F : List Nat) (x : Nat) : img k F x = cond (decide (clr k x ∈ F)) x (clr k x) := by
  unfold img
  by_cases h : clr k x ∈ F <;> simp [h]
theorem small2 (d : Nat) (h : d ≤ 100) : Builtin.Range.small 0 ((2 * d : Nat) : Int) 2 = true := by
  have : ((List.range 101).all fun (d : Nat) => Builtin.Range.small 0 ((2 * d : Nat) : Int) 2) = true := by decide +kernel
  exact List.all_eq_true.mp this d (List.mem_range.mpr (by omega))
theorem rng_items2 (d : Nat) : rngItems 0 (2 * d : Nat) 2 = (List.range d).map fun (k : Nat) => V.int ((2 * k : Nat) : Int) := by
  unfold rngItems
  have e : (Builtin.Range.rangeSize (0 : Int) ((2 * d : Nat) : Int) 2).toNat = d := by
    unfold Builtin.Range.rangeSize
    by_cases h : d = 0
    · subst h; simp
    · simp; omega
  rw [e]
  refine List.map_congr_left fun i _ => ?_
  congr 1
  omega
end Mine
namespace Mine
/-! ## the steps of law, as lists -/
def goneL (k : Nat) (G : List Nat) : List (Str × Nat × Nat) := G.map fun x => (nine x, x, img k G x)
def cameL (k : Nat) (G : List Nat) : List (Str × Nat × Nat) := G.map fun x => (nine (img k G x), x, img k G x)
theorem goneL_len (k : Nat) (G : List Nat) : (goneL k G).length = G.length := List.length_map _
theorem cameL_len (k : Nat) (G : List Nat) : (cameL k G).length = G.length := List.length_map _
theorem goneL_1 (k : Nat) (G : List Nat) : ((goneL k G).map fun p => V.str p.1) = vS (G.map nine) := by simp [goneL, vS, List.map_map, Function.comp_def]
theorem goneL_2 (k : Nat) (G : List Nat) : ((goneL k G).map fun p => V.int (p.2.1 : Nat)) = vI (iN G) := by simp [goneL, vI, iN, List.map_map, Function.comp_def]
theorem goneL_3 (k : Nat) (G : List Nat) : ((goneL k G).map fun p => V.int (p.2.2 : Nat)) = vI (iN (comp k G)) := by simp [goneL, comp_eq, vI, iN, List.map_map, Function.comp_def]
theorem cameL_1 (k : Nat) (G : List Nat) : ((cameL k G).map fun p => V.str p.1) = vS ((comp k G).map nine) := by simp [cameL, comp_eq, vS, List.map_map, Function.comp_def]
theorem cameL_2 (k : Nat) (G : List Nat) : ((cameL k G).map fun p => V.int (p.2.1 : Nat)) = vI (iN G) := by simp [cameL, vI, iN, List.map_map, Function.comp_def]
theorem cameL_3 (k : Nat) (G : List Nat) : ((cameL k G).map fun p => V.int (p.2.2 : Nat)) = vI (iN (comp k G)) := by simp [cameL, comp_eq, vI, iN, List.map_map, Function.comp_def]
theorem goneL_f (k : Nat) (G : List Nat) : (((goneL k G).filter fun p => p.2.1 != p.2.2).map (·.1)) = (chg k G).map nine := by simp [goneL, chg, List.filter_map, List.map_map, Function.comp_def]
theorem cameL_f (k : Nat) (G : List Nat) : (((cameL k G).filter fun p => p.2.1 != p.2.2).map (·.1)) = (chg k G).map fun x => nine (img k G x) := by simp [cameL, chg, List.filter_map, List.map_map, Function.comp_def]
theorem okS_perm {ms ns : List Str} (h : ms.Perm ns) (k : okS ns = true) : okS ms = true := okS_of fun x hx => okS_mem k x (h.mem_iff.mp hx)
theorem okS_came (k : Nat) (G H : List Nat) : okS (H.map fun x => nine (img k G x)) = true := okS_of fun x hx => by
  obtain ⟨y, _, rfl⟩ := List.mem_map.mp hx
  exact nine_ok _
theorem okS_diff {ms us : List Str} (h : okS ms = true) : okS (diff ms us) = true := okS_of fun x hx => okS_mem h x (List.mem_filter.mp hx).1
def dash (n : Nat) : Str := ("-" : Str) ++ nine n
theorem dash_ok (D : List Nat) : okS (D.map dash) = true := okS_of fun x hx => by
  obtain ⟨n, _, rfl⟩ := List.mem_map.mp hx
  have h := nine_ok n
  unfold PyData.strOk at h ⊢
  unfold dash
  show (#[45] ++ (nine n).cps).all _ = true
  rw [Array.all_append, h]
  simp
theorem zip_kept (D : List Nat) : ((vI (iN D)).zip (vS (D.map nine))).map (fun p => [p.1, p.2]) = D.map fun n => [V.int (n : Nat), V.str (nine n)] := by
  induction D with
  | nil => rfl
  | cons n D ih => show _ :: _ = _ :: _; rw [← ih]; rfl
theorem sumN' (l : List Nat) : (iN l).sum = ((l.sum : Nat) : Int) := by
  induction l with
  | nil => rfl
  | cons a l ih => show (a : Int) + (iN l).sum = _; rw [ih]; simp
theorem pop_le (S k : Nat) : pop S k ≤ k := by
  unfold pop
  induction k with
  | zero => exact Nat.le_refl 0
  | succ k ih =>
    rw [List.range_succ, List.map_append, List.sum_append]
    have : S / 2 ^ k % 2 ≤ 1 := by omega
    simp
    omega
theorem bitN (n m : Nat) : (n : Int) / 2 ^ m % 2 = ((n / 2 ^ m % 2 : Nat) : Int) := by rw [bitZ, bit_div]
end Mine
namespace Mine
set_option maxHeartbeats 8000000
noncomputable abbrev pw : Program := PySem.Challenge.pw_pa0051_02
noncomputable abbrev q1 : Program := view pw [52]
noncomputable abbrev loose1 : List Str := [("_wall" : Str), ("S_IMODE" : Str), ("S_IFMT" : Str), ("S_IFDIR" : Str), ("S_IFCHR" : Str), ("S_IFBLK" : Str), ("S_IFREG" : Str), ("S_IFIFO" : Str), ("S_IFLNK" : Str), ("S_IFSOCK" : Str), ("S_ISUID" : Str), ("S_ISGID" : Str), ("S_ISVTX" : Str), ("S_IRUSR" : Str), ("S_IWUSR" : Str), ("S_IXUSR" : Str), ("S_IRGRP" : Str), ("S_IWGRP" : Str), ("S_IXGRP" : Str), ("S_IROTH" : Str), ("S_IWOTH" : Str), ("S_IXOTH" : Str), ("_filemode_table" : Str), ("filemode" : Str), ("bytes_types" : Str), ("_bytes_from_decode_data" : Str), ("Error" : Str), ("_ascii_buffer" : Str), ("_buffer" : Str), ("_truth" : Str), ("_B64" : Str), ("_b64_value" : Str), ("a2b_base64" : Str), ("b2a_base64" : Str), ("b64encode" : Str), ("b64decode" : Str), ("sorted_list_difference" : Str), ("_law_files" : Str), ("_law_nine" : Str), ("_law_less" : Str), ("_law_folders" : Str), ("_law_rows" : Str), ("_law_changed" : Str), ("_law_text" : Str), ("_law_octets" : Str), ("_law_numbers" : Str)]
noncomputable def I1 : HI where
  objs := fun P => [(163, fo pw 41 .none .none (.str "cpy313.unittest.util" 399) 162),
    (83, fo pw 27 .none .none (.str "cpy313.base64" 286) 82),
    (103, fo pw 30 .none .none (.str "binascii" 296) 102),
    (110, fo pw 31 .none .none (.str "binascii" 296) 109),
    (117, fo pw 32 .none .none (.str "binascii" 296) 116),
    (124, fo pw 34 .none .none (.str "binascii" 296) 123),
    (132, fo pw 35 .none (.ref 125) (.str "binascii" 296) 131),
    (140, fo pw 36 .none (.ref 133) (.str "binascii" 296) 139),
    (148, fo pw 38 (.ref 141) .none (.str "cpy313.base64" 379) 147),
    (156, fo pw 39 (.ref 149) .none (.str "cpy313.base64" 379) 155),
    (28, fo pw 2 .none .none (.str "cpy313.stat" 194) 27),
    (35, fo pw 3 .none .none (.str "cpy313.stat" 194) 34),
    (75, fo pw 24 .none .none (.str "cpy313.stat" 194) 74),
    (168, fo pw 43 .none .none (.str "law_pa0051_02" 415) 167),
    (175, fo pw 44 .none .none (.str "law_pa0051_02" 415) 174),
    (182, fo pw 45 .none .none (.str "law_pa0051_02" 415) 181),
    (189, fo pw 46 .none .none (.str "law_pa0051_02" 415) 188),
    (196, fo pw 47 .none .none (.str "law_pa0051_02" 415) 195),
    (201, fo pw 48 .none .none (.str "law_pa0051_02" 415) 200),
    (208, fo pw 49 .none .none (.str "law_pa0051_02" 415) 207),
    (215, fo pw 50 .none .none (.str "law_pa0051_02" 415) 214),
    (222, fo pw 51 .none .none (.str "law_pa0051_02" 415) 221),
    (227, fo pw 52 .none .none (.str "law_pa0051_02" 415) 226),
    (76, { cls := Value.type "tuple", data := Data.seq #[Value.type "bytes", Value.type "bytearray"] }),
    (141, { cls := Value.type "tuple", data := Data.seq #[Value.none] }),
    (149, { cls := Value.type "tuple", data := Data.seq #[Value.none, Value.bool false] }),
    (36, { cls := Value.type "tuple", data := Data.seq #[Value.int 40960 220, Value.str (Str.ofString "l") 248] }),
    (37, { cls := Value.type "tuple", data := Data.seq #[Value.int 49152 222, Value.str (Str.ofString "s") 249] }),
    (38, { cls := Value.type "tuple", data := Data.seq #[Value.int 32768 216, Value.str (Str.ofString "-") 250] }),
    (39, { cls := Value.type "tuple", data := Data.seq #[Value.int 24576 214, Value.str (Str.ofString "b") 251] }),
    (40, { cls := Value.type "tuple", data := Data.seq #[Value.int 16384 210, Value.str (Str.ofString "d") 252] }),
    (41, { cls := Value.type "tuple", data := Data.seq #[Value.int 8192 212, Value.str (Str.ofString "c") 253] }),
    (42, { cls := Value.type "tuple", data := Data.seq #[Value.int 4096 218, Value.str (Str.ofString "p") 254] }),
    (43, { cls := Value.type "tuple", data := Data.seq #[Value.ref 36, Value.ref 37, Value.ref 38, Value.ref 39, Value.ref 40, Value.ref 41, Value.ref 42] }),
    (44, { cls := Value.type "tuple", data := Data.seq #[Value.int 256 230, Value.str (Str.ofString "r") 255] }),
    (45, { cls := Value.type "tuple", data := Data.seq #[Value.ref 44] }),
    (46, { cls := Value.type "tuple", data := Data.seq #[Value.int 128 232, Value.str (Str.ofString "w") 256] }),
    (47, { cls := Value.type "tuple", data := Data.seq #[Value.ref 46] }),
    (48, { cls := Value.type "tuple", data := Data.seq #[Value.int 2112 257, Value.str (Str.ofString "s") 258] }),
    (49, { cls := Value.type "tuple", data := Data.seq #[Value.int 2048 224, Value.str (Str.ofString "S") 259] }),
    (50, { cls := Value.type "tuple", data := Data.seq #[Value.int 64 234, Value.str (Str.ofString "x") 260] }),
    (51, { cls := Value.type "tuple", data := Data.seq #[Value.ref 48, Value.ref 49, Value.ref 50] }),
    (52, { cls := Value.type "tuple", data := Data.seq #[Value.int 32 236, Value.str (Str.ofString "r") 261] }),
    (53, { cls := Value.type "tuple", data := Data.seq #[Value.ref 52] }),
    (54, { cls := Value.type "tuple", data := Data.seq #[Value.int 16 238, Value.str (Str.ofString "w") 262] }),
    (55, { cls := Value.type "tuple", data := Data.seq #[Value.ref 54] }),
    (56, { cls := Value.type "tuple", data := Data.seq #[Value.int 1032 263, Value.str (Str.ofString "s") 264] }),
    (57, { cls := Value.type "tuple", data := Data.seq #[Value.int 1024 226, Value.str (Str.ofString "S") 265] }),
    (58, { cls := Value.type "tuple", data := Data.seq #[Value.int 8 240, Value.str (Str.ofString "x") 266] }),
    (59, { cls := Value.type "tuple", data := Data.seq #[Value.ref 56, Value.ref 57, Value.ref 58] }),
    (60, { cls := Value.type "tuple", data := Data.seq #[Value.int 4 242, Value.str (Str.ofString "r") 267] }),
    (61, { cls := Value.type "tuple", data := Data.seq #[Value.ref 60] }),
    (62, { cls := Value.type "tuple", data := Data.seq #[Value.int 2 244, Value.str (Str.ofString "w") 268] }),
    (63, { cls := Value.type "tuple", data := Data.seq #[Value.ref 62] }),
    (64, { cls := Value.type "tuple", data := Data.seq #[Value.int 513 269, Value.str (Str.ofString "t") 270] }),
    (65, { cls := Value.type "tuple", data := Data.seq #[Value.int 512 228, Value.str (Str.ofString "T") 271] }),
    (66, { cls := Value.type "tuple", data := Data.seq #[Value.int 1 246, Value.str (Str.ofString "x") 272] }),
    (67, { cls := Value.type "tuple", data := Data.seq #[Value.ref 64, Value.ref 65, Value.ref 66] }),
    (68, { cls := Value.type "tuple", data := Data.seq #[Value.ref 43, Value.ref 45, Value.ref 47, Value.ref 51, Value.ref 53, Value.ref 55, Value.ref 59, Value.ref 61, Value.ref 63, Value.ref 67] })]
  as := [163, 83, 103, 110, 117, 124, 132, 140, 148, 156, 28, 35, 75, 168, 175, 182, 189, 196, 201, 208, 215, 222, 227, 76, 141, 149, 36, 37, 38, 39, 40, 41, 42, 43, 44, 45, 46, 47, 48, 49, 50, 51, 52, 53, 54, 55, 56, 57, 58, 59, 60, 61, 62, 63, 64, 65, 66, 67, 68]
  gt := [(("sorted_list_difference" : Str), some (Value.ref 163)), (("_bytes_from_decode_data" : Str), some (Value.ref 83)), (("_ascii_buffer" : Str), some (Value.ref 103)), (("_buffer" : Str), some (Value.ref 110)), (("_truth" : Str), some (Value.ref 117)), (("_b64_value" : Str), some (Value.ref 124)), (("a2b_base64" : Str), some (Value.ref 132)), (("b2a_base64" : Str), some (Value.ref 140)), (("b64encode" : Str), some (Value.ref 148)), (("b64decode" : Str), some (Value.ref 156)), (("S_IMODE" : Str), some (Value.ref 28)), (("S_IFMT" : Str), some (Value.ref 35)), (("filemode" : Str), some (Value.ref 75)), (("bytes_types" : Str), some (Value.ref 76)), (("_filemode_table" : Str), some (Value.ref 68)), (("_B64" : Str), some (Value.bytes #[65, 66, 67, 68, 69, 70, 71, 72, 73, 74, 75, 76, 77, 78, 79, 80, 81, 82, 83, 84, 85, 86, 87, 88, 89, 90, 97, 98, 99, 100, 101, 102, 103, 104, 105, 106, 107, 108, 109, 110, 111, 112, 113, 114, 115, 116, 117, 118, 119, 120, 121, 122, 48, 49, 50, 51, 52, 53, 54, 55, 56, 57, 43, 47] 340)), (("int" : Str), (none : Option Value)), (("type" : Str), (none : Option Value)), (("bool" : Str), (none : Option Value)), (("bytes" : Str), (none : Option Value)), (("str" : Str), (none : Option Value)), (("isinstance" : Str), (none : Option Value)), (("range" : Str), (none : Option Value)), (("sum" : Str), (none : Option Value)), (("len" : Str), (none : Option Value)), (("set" : Str), (none : Option Value)), (("sorted" : Str), (none : Option Value)), (("zip" : Str), (none : Option Value)), (("enumerate" : Str), (none : Option Value)), (("min" : Str), (none : Option Value)), (("IndexError" : Str), (none : Option Value)), (("_law_files" : Str), some (Value.ref 168)), (("_law_nine" : Str), some (Value.ref 175)), (("_law_less" : Str), some (Value.ref 182)), (("_law_folders" : Str), some (Value.ref 189)), (("_law_rows" : Str), some (Value.ref 196)), (("_law_changed" : Str), some (Value.ref 201)), (("_law_text" : Str), some (Value.ref 208)), (("_law_octets" : Str), some (Value.ref 215)), (("_law_numbers" : Str), some (Value.ref 222)), (("law" : Str), some (Value.ref 227))]
  cs := [(162, ("sorted_list_difference" : Str)), (82, ("_bytes_from_decode_data" : Str)), (102, ("_ascii_buffer" : Str)), (109, ("_buffer" : Str)), (116, ("_truth" : Str)), (123, ("_b64_value" : Str)), (131, ("a2b_base64" : Str)), (139, ("b2a_base64" : Str)), (147, ("b64encode" : Str)), (155, ("b64decode" : Str)), (27, ("S_IMODE" : Str)), (34, ("S_IFMT" : Str)), (74, ("filemode" : Str)), (167, ("_law_files" : Str)), (174, ("_law_nine" : Str)), (181, ("_law_less" : Str)), (188, ("_law_folders" : Str)), (195, ("_law_rows" : Str)), (200, ("_law_changed" : Str)), (207, ("_law_text" : Str)), (214, ("_law_octets" : Str)), (221, ("_law_numbers" : Str)), (226, ("law" : Str))]
noncomputable def H1 : Hook := hook I1 (fun _ => by kernel_rfl)
abbrev g1 (w : World) (base : Heap) : Gc := ⟨PySem.Challenge.rw_pa0051_02.row.prog, w, base⟩
end Mine
namespace Mine
section
variable {w : World} {base : Heap} (B : Bs (g1 w base) I1)
include B
theorem Bs.inS {s : Shared} (hs : (g1 w base).base.StaysIn s.heap) : (I1.objs w.params).In s.heap := fun a o e => hs a o (B.S.1 a o e)
theorem G_int : Glb (g1 w base) "int" (.ty "int") := B.bi (.type "int") 16 rfl (by kernel_rfl) (by decide +kernel) (.ty _)
theorem G_type : Glb (g1 w base) "type" (.ty "type") := B.bi (.type "type") 17 rfl (by kernel_rfl) (by decide +kernel) (.ty _)
theorem G_bool : Glb (g1 w base) "bool" (.ty "bool") := B.bi (.type "bool") 18 rfl (by kernel_rfl) (by decide +kernel) (.ty _)
theorem G_bytes : Glb (g1 w base) "bytes" (.ty "bytes") := B.bi (.type "bytes") 19 rfl (by kernel_rfl) (by decide +kernel) (.ty _)
theorem G_str : Glb (g1 w base) "str" (.ty "str") := B.bi (.type "str") 20 rfl (by kernel_rfl) (by decide +kernel) (.ty _)
theorem G_range : Glb (g1 w base) "range" (.ty "range") := B.bi (.type "range") 22 rfl (by kernel_rfl) (by decide +kernel) (.ty _)
theorem G_set : Glb (g1 w base) "set" (.ty "set") := B.bi (.type "set") 25 rfl (by kernel_rfl) (by decide +kernel) (.ty _)
theorem G_zip : Glb (g1 w base) "zip" (.ty "zip") := B.bi (.type "zip") 27 rfl (by kernel_rfl) (by decide +kernel) (.ty _)
theorem G_enumerate : Glb (g1 w base) "enumerate" (.ty "enumerate") := B.bi (.type "enumerate") 28 rfl (by kernel_rfl) (by decide +kernel) (.ty _)
theorem G_isinstance : Glb (g1 w base) "isinstance" (.bi "isinstance") := B.bi (.builtin "isinstance") 21 rfl (by kernel_rfl) (by decide +kernel) (.bi _)
theorem G_sum : Glb (g1 w base) "sum" (.bi "sum") := B.bi (.builtin "sum") 23 rfl (by kernel_rfl) (by decide +kernel) (.bi _)
theorem G_len : Glb (g1 w base) "len" (.bi "len") := B.bi (.builtin "len") 24 rfl (by kernel_rfl) (by decide +kernel) (.bi _)
theorem G_sorted : Glb (g1 w base) "sorted" (.bi "sorted") := B.bi (.builtin "sorted") 26 rfl (by kernel_rfl) (by decide +kernel) (.bi _)
theorem G_sorted_list_difference : Glb (g1 w base) "sorted_list_difference" (.fn 163) := B.fn (v := .ref 163) 0 rfl (.fn _)
theorem I_sorted_list_difference : IsFn (g1 w base) 163 := B.isF (by kernel_rfl)
theorem G__bytes_from_decode_data : Glb (g1 w base) "_bytes_from_decode_data" (.fn 83) := B.fn (v := .ref 83) 1 rfl (.fn _)
theorem I__bytes_from_decode_data : IsFn (g1 w base) 83 := B.isF (by kernel_rfl)
theorem G__ascii_buffer : Glb (g1 w base) "_ascii_buffer" (.fn 103) := B.fn (v := .ref 103) 2 rfl (.fn _)
theorem I__ascii_buffer : IsFn (g1 w base) 103 := B.isF (by kernel_rfl)
theorem G__buffer : Glb (g1 w base) "_buffer" (.fn 110) := B.fn (v := .ref 110) 3 rfl (.fn _)
theorem I__buffer : IsFn (g1 w base) 110 := B.isF (by kernel_rfl)
theorem G__truth : Glb (g1 w base) "_truth" (.fn 117) := B.fn (v := .ref 117) 4 rfl (.fn _)
theorem I__truth : IsFn (g1 w base) 117 := B.isF (by kernel_rfl)
theorem G__b64_value : Glb (g1 w base) "_b64_value" (.fn 124) := B.fn (v := .ref 124) 5 rfl (.fn _)
theorem I__b64_value : IsFn (g1 w base) 124 := B.isF (by kernel_rfl)
theorem G_a2b_base64 : Glb (g1 w base) "a2b_base64" (.fn 132) := B.fn (v := .ref 132) 6 rfl (.fn _)
theorem I_a2b_base64 : IsFn (g1 w base) 132 := B.isF (by kernel_rfl)
theorem G_b2a_base64 : Glb (g1 w base) "b2a_base64" (.fn 140) := B.fn (v := .ref 140) 7 rfl (.fn _)
theorem I_b2a_base64 : IsFn (g1 w base) 140 := B.isF (by kernel_rfl)
theorem G_b64encode : Glb (g1 w base) "b64encode" (.fn 148) := B.fn (v := .ref 148) 8 rfl (.fn _)
theorem I_b64encode : IsFn (g1 w base) 148 := B.isF (by kernel_rfl)
theorem G_b64decode : Glb (g1 w base) "b64decode" (.fn 156) := B.fn (v := .ref 156) 9 rfl (.fn _)
theorem I_b64decode : IsFn (g1 w base) 156 := B.isF (by kernel_rfl)
theorem G_S_IMODE : Glb (g1 w base) "S_IMODE" (.fn 28) := B.fn (v := .ref 28) 10 rfl (.fn _)
theorem I_S_IMODE : IsFn (g1 w base) 28 := B.isF (by kernel_rfl)
theorem G_S_IFMT : Glb (g1 w base) "S_IFMT" (.fn 35) := B.fn (v := .ref 35) 11 rfl (.fn _)
theorem I_S_IFMT : IsFn (g1 w base) 35 := B.isF (by kernel_rfl)
theorem G_filemode : Glb (g1 w base) "filemode" (.fn 75) := B.fn (v := .ref 75) 12 rfl (.fn _)
theorem I_filemode : IsFn (g1 w base) 75 := B.isF (by kernel_rfl)
theorem G_bytes_types : Glb (g1 w base) "bytes_types" (.tup [.ty "bytes", .ty "bytearray"]) := by
  refine B.fn (v := .ref 76) 13 rfl (.tup (vs := #[.type "bytes", .type "bytearray"]) ?_ ?_ (.cons (.ty _) (.cons (.ty _) .nil)))
  · exact ⟨_, B.S.1 76 _ (by with_unfolding_all rfl)⟩
  · exact ⟨_, B.S.1 76 _ (by with_unfolding_all rfl), rfl, _, rfl⟩
theorem G__B64 : Glb (g1 w base) "_B64" (.bytes alph) := B.fn (v := _) 15 rfl (.bytes alph _)
theorem tupAt {a : Addr} {vs : List Value} {xs : List V} (e : (I1.objs w.params).lookup a = some { cls := .type "tuple", data := .seq vs.toArray }) (r : VRs base (fun a => ∃ o, base.get? a = some o) [] vs xs) : VR base (fun a => ∃ o, base.get? a = some o) [] (.ref a) (.tup xs) :=
  .tup ⟨_, B.S.1 _ _ e⟩ ⟨_, B.S.1 _ _ e, rfl, _, rfl⟩ (by simpa using r)
theorem pairAt {a : Addr} {i : Int} {t : Tok} {s : Str} {u : Tok} (e : (I1.objs w.params).lookup a = some { cls := .type "tuple", data := .seq (List.toArray [Value.int i t, Value.str s u]) }) : VR base (fun a => ∃ o, base.get? a = some o) [] (.ref a) (pairV (i, s)) :=
  tupAt B e (.cons (.int _ _) (.cons (.str _ _) .nil))
theorem G__filemode_table : Glb (g1 w base) "_filemode_table" (.tup ((row0 :: rows9).map rowV)) := by
  refine B.fn (v := .ref 68) 14 rfl ?_
  refine tupAt B (vs := [.ref 43, .ref 45, .ref 47, .ref 51, .ref 53, .ref 55, .ref 59, .ref 61, .ref 63, .ref 67]) rfl ?_
  have one : ∀ {a b : Addr} {i : Int} {s : Str} {t u : Tok}, (I1.objs w.params).lookup a = some { cls := .type "tuple", data := .seq (List.toArray [Value.ref b]) } → (I1.objs w.params).lookup b = some { cls := .type "tuple", data := .seq (List.toArray [Value.int i t, Value.str s u]) } → VR base (fun a => ∃ o, base.get? a = some o) [] (.ref a) (rowV [(i, s)]) := fun h1 h2 => tupAt B h1 (.cons (pairAt B h2) .nil)
  have three : ∀ {a b c d : Addr} {i j k : Int} {x y z : Str} {t u t' u' t'' u'' : Tok}, (I1.objs w.params).lookup a = some { cls := .type "tuple", data := .seq (List.toArray [Value.ref b, Value.ref c, Value.ref d]) } → (I1.objs w.params).lookup b = some { cls := .type "tuple", data := .seq (List.toArray [Value.int i t, Value.str x u]) } → (I1.objs w.params).lookup c = some { cls := .type "tuple", data := .seq (List.toArray [Value.int j t', Value.str y u']) } → (I1.objs w.params).lookup d = some { cls := .type "tuple", data := .seq (List.toArray [Value.int k t'', Value.str z u'']) } → VR base (fun a => ∃ o, base.get? a = some o) [] (.ref a) (rowV [(i, x), (j, y), (k, z)]) := fun h1 h2 h3 h4 => tupAt B h1 (.cons (pairAt B h2) (.cons (pairAt B h3) (.cons (pairAt B h4) .nil)))
  refine .cons (tupAt B (vs := [.ref 36, .ref 37, .ref 38, .ref 39, .ref 40, .ref 41, .ref 42]) rfl ?_) ?_
  · exact .cons (pairAt B rfl) (.cons (pairAt B rfl) (.cons (pairAt B rfl) (.cons (pairAt B rfl) (.cons (pairAt B rfl) (.cons (pairAt B rfl) (.cons (pairAt B rfl) .nil))))))
  · exact .cons (one rfl rfl) (.cons (one rfl rfl) (.cons (three rfl rfl rfl rfl) (.cons (one rfl rfl) (.cons (one rfl rfl) (.cons (three rfl rfl rfl rfl) (.cons (one rfl rfl) (.cons (one rfl rfl) (.cons (three rfl rfl rfl rfl) .nil))))))))
theorem F_S_IMODE (m : Int) : Fn (g1 w base) 28 1 [.int m] [] (fun X => X = .int (Builtin.bitAnd m 4095)) := by
  refine' fn_go 1 (bxs := [.int m]) (ps := ["mode"]) (ls := []) (gls := []) (names := ["mode"]) (vars₀ := [some (.int m)]) (FnOk.of B.S.1 B.nl ?ho ?hcd ?hc) .nil (?hbd) rfl ?hlow rfl rfl ?hS ?hT (by decide)
  case ho => with_unfolding_all rfl
  case hcd => exact B.code 10 rfl
  case hc => decide +kernel
  case hbd => exact bind1 fun _ _ => BindsTo.of_eq rfl
  case hlow => first | rfl | simp [V.lows, V.low, low_vI, low_vS]
  case hS => exact fun A he G₀ outer L ok => SF.of (SS.cons (SX.ret (SE.bin (SE.var ok 0 rfl) SE.cint)) SS.nil)
  intro c H
  have hx := H.hx
  exact ⟨.inl rfl, rfl⟩
theorem F_S_IFMT (m : Int) : Fn (g1 w base) 35 1 [.int m] [] (fun X => X = .int (Builtin.bitAnd m 61440)) := by
  refine' fn_go 1 (bxs := [.int m]) (ps := ["mode"]) (ls := []) (gls := []) (names := ["mode"]) (vars₀ := [some (.int m)]) (FnOk.of B.S.1 B.nl ?ho ?hcd ?hc) .nil (?hbd) rfl ?hlow rfl rfl ?hS ?hT (by decide)
  case ho => with_unfolding_all rfl
  case hcd => exact B.code 11 rfl
  case hc => decide +kernel
  case hbd => exact bind1 fun _ _ => BindsTo.of_eq rfl
  case hlow => first | rfl | simp [V.lows, V.low, low_vI, low_vS]
  case hS => exact fun A he G₀ outer L ok => SF.of (SS.cons (SX.ret (SE.bin (SE.var ok 0 rfl) SE.cint)) SS.nil)
  intro c H
  have hx := H.hx
  exact ⟨.inl rfl, rfl⟩
theorem F__truth  : Fn (g1 w base) 117 1 [.bool false] [] (fun X => X = .bool false) := by
  refine' fn_go 1 (bxs := [.bool false]) (ps := ["x"]) (ls := ["t"]) (gls := [("type", .ty "type"), ("bool", .ty "bool")]) (names := ["x", "t"]) (vars₀ := [some (.bool false), none]) (FnOk.of B.S.1 B.nl ?ho ?hcd ?hc) (.cons (G_type B) (.cons (G_bool B) .nil)) (?hbd) rfl ?hlow rfl rfl ?hS ?hT (by decide)
  case ho => with_unfolding_all rfl
  case hcd => exact B.code 4 rfl
  case hc => decide +kernel
  case hbd => exact bind1 fun _ _ => BindsTo.of_eq rfl
  case hlow => first | rfl | simp [V.lows, V.low, low_vI, low_vS]
  case hS => exact fun A he G₀ outer L ok => SF.of (SS.cons (SX.assign (SE.callT ok (SL.cons (SE.var ok 0 rfl) SL.nil fun _ => rfl) (fun _ => rfl) 0 rfl (fun _ => rfl)) (SA.name ok 1 rfl) rfl rfl fun _ => rfl) (SS.cons (SX.ife (SB.or (SB.cmp (SE.var ok 0 rfl) SE.cnone rfl) (SB.or (SB.cmp (SE.var ok 1 rfl) (SE.glob ok 1 rfl) rfl) SB.leaf)) (SS.cons (SX.ret (SE.ife (SB.plain (SE.var ok 0 rfl) fun _ => rfl) SE.cbool SE.cbool)) SS.nil) SS.nil) SS.leaf))
  intro c H
  have hx := H.hx
  refine CL_typeBool ?_
  refine O2_isBN ?_
  refine O2_isTy ?_
  exact ⟨.inl rfl, rfl⟩
theorem F__buffer (b : Array UInt8) : Fn (g1 w base) 110 1 [.bytes b] [] (fun X => X = .bytes b) := by
  refine' fn_go 1 (bxs := [.bytes b]) (ps := ["data"]) (ls := ["t"]) (gls := [("type", .ty "type"), ("bytes", .ty "bytes")]) (names := ["data", "t"]) (vars₀ := [some (.bytes b), none]) (FnOk.of B.S.1 B.nl ?ho ?hcd ?hc) (.cons (G_type B) (.cons (G_bytes B) .nil)) (?hbd) rfl ?hlow rfl rfl ?hS ?hT (by decide)
  case ho => with_unfolding_all rfl
  case hcd => exact B.code 3 rfl
  case hc => decide +kernel
  case hbd => exact bind1 fun _ _ => BindsTo.of_eq rfl
  case hlow => first | rfl | simp [V.lows, V.low, low_vI, low_vS]
  case hS => exact fun A he G₀ outer L ok => SF.of (SS.cons (SX.assign (SE.callT ok (SL.cons (SE.var ok 0 rfl) SL.nil fun _ => rfl) (fun _ => rfl) 0 rfl (fun _ => rfl)) (SA.name ok 1 rfl) rfl rfl fun _ => rfl) (SS.cons (SX.ife (SB.cmp (SE.var ok 1 rfl) (SE.glob ok 1 rfl) rfl) (SS.cons (SX.ret (SE.var ok 0 rfl)) SS.nil) SS.nil) SS.leaf))
  intro c H
  have hx := H.hx
  refine CL_typeB ?_
  refine O2_isTy ?_
  exact ⟨.inl rfl, rfl⟩
theorem F__ascii_buffer (b : Array UInt8) : Fn (g1 w base) 103 1 [.bytes b] [] (fun X => X = .bytes b) := by
  refine' fn_go 1 (bxs := [.bytes b]) (ps := ["data"]) (ls := ["t"]) (gls := [("type", .ty "type"), ("str", .ty "str"), ("bytes", .ty "bytes")]) (names := ["data", "t"]) (vars₀ := [some (.bytes b), none]) (FnOk.of B.S.1 B.nl ?ho ?hcd ?hc) (.cons (G_type B) (.cons (G_str B) (.cons (G_bytes B) .nil))) (?hbd) rfl ?hlow rfl rfl ?hS ?hT (by decide)
  case ho => with_unfolding_all rfl
  case hcd => exact B.code 2 rfl
  case hc => decide +kernel
  case hbd => exact bind1 fun _ _ => BindsTo.of_eq rfl
  case hlow => first | rfl | simp [V.lows, V.low, low_vI, low_vS]
  case hS => exact fun A he G₀ outer L ok => SF.of (SS.cons (SX.assign (SE.callT ok (SL.cons (SE.var ok 0 rfl) SL.nil fun _ => rfl) (fun _ => rfl) 0 rfl (fun _ => rfl)) (SA.name ok 1 rfl) rfl rfl fun _ => rfl) (SS.cons (SX.ife (SB.cmp (SE.var ok 1 rfl) (SE.glob ok 1 rfl) rfl) SS.leaf SS.nil) (SS.cons (SX.ife (SB.cmp (SE.var ok 1 rfl) (SE.glob ok 2 rfl) rfl) (SS.cons (SX.ret (SE.var ok 0 rfl)) SS.nil) SS.nil) SS.leaf)))
  intro c H
  have hx := H.hx
  refine CL_typeB ?_
  refine O2_isTy ?_
  refine O2_isTy ?_
  exact ⟨.inl rfl, rfl⟩
theorem F__bytes_from_decode_data (b : Array UInt8) : Fn (g1 w base) 83 1 [.bytes b] [] (fun X => X = .bytes b) := by
  refine' fn_go 1 (bxs := [.bytes b]) (ps := ["s"]) (ls := []) (gls := [("isinstance", .bi "isinstance"), ("str", .ty "str"), ("bytes_types", .tup [.ty "bytes", .ty "bytearray"])]) (names := ["s"]) (vars₀ := [some (.bytes b)]) (FnOk.of B.S.1 B.nl ?ho ?hcd ?hc) (.cons (G_isinstance B) (.cons (G_str B) (.cons (G_bytes_types B) .nil))) (?hbd) rfl ?hlow rfl rfl ?hS ?hT (by decide)
  case ho => with_unfolding_all rfl
  case hcd => exact B.code 1 rfl
  case hc => decide +kernel
  case hbd => exact bind1 fun _ _ => BindsTo.of_eq rfl
  case hlow => first | rfl | simp [V.lows, V.low, low_vI, low_vS]
  case hS => exact fun A he G₀ outer L ok => SF.of (SS.cons (SX.ife (SB.plain (SE.callB ok (SL.cons (SE.var ok 0 rfl) (SL.cons (SE.glob ok 1 rfl) SL.nil fun _ => rfl) fun _ => rfl) (fun _ => rfl) 0 rfl (fun _ => rfl)) fun _ => rfl) SS.leaf SS.nil) (SS.cons (SX.ife (SB.plain (SE.callB ok (SL.cons (SE.var ok 0 rfl) (SL.cons (SE.glob ok 2 rfl) SL.nil fun _ => rfl) fun _ => rfl) (fun _ => rfl) 0 rfl (fun _ => rfl)) fun _ => rfl) (SS.cons (SX.ret (SE.var ok 0 rfl)) SS.nil) SS.nil) SS.leaf))
  intro c H
  have hx := H.hx
  refine CL_isBS ?_
  refine CL_isBB ?_
  exact ⟨.inl rfl, rfl⟩
theorem F__b64_value (n : Int) : Fn (g1 w base) 124 1 [.int n] [] (fun X => X = .int (bval n)) := by
  refine' fn_go 1 (bxs := [.int n]) (ps := ["c"]) (ls := []) (gls := []) (names := ["c"]) (vars₀ := [some (.int n)]) (FnOk.of B.S.1 B.nl ?ho ?hcd ?hc) .nil (?hbd) rfl ?hlow rfl rfl ?hS ?hT (by decide)
  case ho => with_unfolding_all rfl
  case hcd => exact B.code 5 rfl
  case hc => decide +kernel
  case hbd => exact bind1 fun _ _ => BindsTo.of_eq rfl
  case hlow => first | rfl | simp [V.lows, V.low, low_vI, low_vS]
  case hS => exact fun A he G₀ outer L ok => SF.of (SS.cons (SX.ife (SB.chain SE.cint (SE.var ok 0 rfl) SE.cint rfl) (SS.cons (SX.ret (SE.bin (SE.var ok 0 rfl) SE.cint)) SS.nil) SS.nil) (SS.cons (SX.ife (SB.chain SE.cint (SE.var ok 0 rfl) SE.cint rfl) (SS.cons (SX.ret (SE.bin (SE.var ok 0 rfl) SE.cint)) SS.nil) SS.nil) (SS.cons (SX.ife (SB.chain SE.cint (SE.var ok 0 rfl) SE.cint rfl) (SS.cons (SX.ret (SE.bin (SE.var ok 0 rfl) SE.cint)) SS.nil) SS.nil) (SS.cons (SX.ife (SB.cmp (SE.var ok 0 rfl) SE.cint rfl) (SS.cons (SX.ret SE.cint) SS.nil) SS.nil) (SS.cons (SX.ife (SB.cmp (SE.var ok 0 rfl) SE.cint rfl) (SS.cons (SX.ret SE.cint) SS.nil) SS.nil) (SS.cons (SX.ret SE.cint) SS.nil))))))
  intro c H
  have hx := H.hx
  exact bval_vc n (fun z => FnPost (fun X => X = .int (bval n)) (.ret (.int z)) { vars := [some (.int n)], own := [] }) ⟨.inl rfl, rfl⟩
set_option maxHeartbeats 2000000 in
theorem F_filemode (m : Int) : Fn (g1 w base) 75 2 [.int m] [] (fun X => X = .str (Txt.join "" (fmS m))) := by
  refine' fn_go 2 (bxs := [.int m]) (ps := ["mode"]) (ls := ["perm", "index", "table", "bit", "char"]) (gls := [("enumerate", .ty "enumerate"), ("_filemode_table", .tup ((row0 :: rows9).map rowV)), ("S_IFMT", .fn 35)]) (names := ["mode", "perm", "index", "table", "bit", "char"]) (vars₀ := [some (.int m), none, none, none, none, none]) (FnOk.of B.S.1 B.nl ?ho ?hcd ?hc) (.cons (G_enumerate B) (.cons (G__filemode_table B) (.cons (G_S_IFMT B) .nil))) (?hbd) rfl ?hlow rfl rfl ?hS ?hT (by decide)
  case ho => with_unfolding_all rfl
  case hcd => exact B.code 12 rfl
  case hc => decide +kernel
  case hbd => exact bind1 fun _ _ => BindsTo.of_eq rfl
  case hlow => first | rfl | simp [V.lows, V.low, low_vI, low_vS]
  case hS => exact fun A he G₀ outer L ok => SF.of (SS.cons (SX.assign (SE.own ok SL.nil) (SA.name ok 1 rfl) rfl rfl fun _ => rfl) (SS.cons (SX.forT ok rfl 0 rfl (SL.cons (SE.glob ok 1 rfl) SL.nil fun _ => rfl) (SAL.cons (SA.name ok 2 rfl) (SAL.cons (SA.name ok 3 rfl) SAL.nil fun _ => rfl) fun _ => rfl) (SS.cons (SX.for_ ok rfl (SE.var ok 3 rfl) (SA.tup ok (SAL.cons (SA.name ok 4 rfl) (SAL.cons (SA.name ok 5 rfl) SAL.nil fun _ => rfl) fun _ => rfl) (fun _ => rfl) (fun _ => rfl)) (SS.cons (SX.ife (SB.cmp (SE.var ok 2 rfl) SE.cint rfl) (SS.cons (SX.ife (SB.cmp (SE.callF ok (SL.cons (SE.var ok 0 rfl) SL.nil fun _ => rfl) (fun _ => rfl) 2 rfl (I_S_IFMT B)) (SE.var ok 4 rfl) rfl) (SS.cons (SX.expr (SE.meth "list.append" (SE.var ok 1 rfl) (SL.cons (SE.var ok 5 rfl) SL.nil fun _ => rfl) rfl (fun _ => rfl) (fun _ => rfl)) rfl rfl) (SS.cons SX.brk SS.nil)) SS.nil) SS.nil) (SS.cons (SX.ife (SB.cmp (SE.bin (SE.var ok 0 rfl) (SE.var ok 4 rfl)) (SE.var ok 4 rfl) rfl) (SS.cons (SX.expr (SE.meth "list.append" (SE.var ok 1 rfl) (SL.cons (SE.var ok 5 rfl) SL.nil fun _ => rfl) rfl (fun _ => rfl) (fun _ => rfl)) rfl rfl) (SS.cons SX.brk SS.nil)) SS.nil) SS.nil)) SS.nil) (SS.cons (SX.ife (SB.cmp (SE.var ok 2 rfl) SE.cint rfl) (SS.cons (SX.expr (SE.meth "list.append" (SE.var ok 1 rfl) (SL.cons SE.cstr SL.nil fun _ => rfl) rfl (fun _ => rfl) (fun _ => rfl)) rfl rfl) SS.nil) (SS.cons (SX.expr (SE.meth "list.append" (SE.var ok 1 rfl) (SL.cons SE.cstr SL.nil fun _ => rfl) rfl (fun _ => rfl) (fun _ => rfl)) rfl rfl) SS.nil)) SS.nil) fun _ => rfl) SS.nil) SS.nil (fun _ => rfl) (fun _ => rfl) (fun _ => rfl) (fun _ => rfl) fun _ => rfl) (SS.cons (SX.ret (SE.meth "str.join" SE.cstr (SL.cons (SE.var ok 1 rfl) SL.nil fun _ => rfl) rfl (fun _ => rfl) (fun _ => rfl))) SS.nil)))
  intro c H
  have hx := H.hx
  refine ⟨Nat.zero_le _, ?_⟩
  refine ⟨_, IterT_enumT H.ok, ?_⟩
  refine (?H : ∀ (rs : List (List (Int × Str))) (i : Nat) (perm : List Str) (v2 v3 v4 v5 : Option V), perm.length + rs.length ≤ 10 → perm ++ sgs m i rs = fmS m → LoopT _ _ _ ((((rs.map rowV).zipIdx i).map fun p => [V.int (p.2 : Nat), p.1]).map V.tup) { vars := [some (.int m), some (.own 0), v2, v3, v4, v5], own := [vS perm] } _) (row0 :: rows9) 0 [] none none none none (by decide) rfl
  intro rs
  induction rs with
  | nil =>
    intro i perm v2 v3 v4 v5 hz hf
    refine ⟨Mt_join, ?_⟩
    have hl : perm = fmS m := by simpa [sgs] using hf
    refine CL_join (ys := perm) (.o rfl) ?_ ⟨.inr ⟨Nat.zero_le _, ?_⟩, ?_⟩
    · rw [hl]; exact fm_len m
    · simp [low_vS]
    · rw [hl]; rfl
  | cons r rs ih =>
    intro i perm v2 v3 v4 v5 hz hf
    refine ⟨_, rfl, rfl, ?_⟩
    refine ⟨_, Iter_tup H.ok, ?_⟩
    refine (?H2 : ∀ (q : List (Int × Str)) (v4 v5 : Option V), sg m i q = sg m i r → LoopT _ _ _ (q.map pairV) { vars := [some (.int m), some (.own 0), some (.int (i : Nat)), some (rowV r), v4, v5], own := [vS perm] } _) r _ _ rfl
    have next : ∀ (v4 v5 : Option V) (c : Str), c = sg m i r → LoopT _ _ _ ((((rs.map rowV).zipIdx (i + 1)).map fun p => [V.int (p.2 : Nat), p.1]).map V.tup) { vars := [some (.int m), some (.own 0), some (.int (i : Nat)), some (rowV r), v4, v5], own := [vS (perm ++ [c])] } _ := fun v4 v5 c hc => ih (i + 1) (perm ++ [c]) _ _ v4 v5 (by simp at hz ⊢; omega) (by rw [hc, List.append_assoc]; exact hf)
    have sn : ∀ c, vS perm ++ [V.str c] = vS (perm ++ [c]) := fun c => by simp [vS]
    have hl : (vS perm).length ≤ 1000000 := by simp [vS]; omega
    intro q
    induction q with
    | nil =>
      intro v4 v5 hq
      refine cd (fun h => ?_) fun h => ?_
      · refine ⟨Mt_append (k := 0) rfl, ?_⟩
        refine CL_append H.ok (k := 0) (xs := vS perm) rfl hl ⟨rfl, .inl rfl, sn _ ▸ next _ _ "?" ?_⟩
        have : i = 0 := by simpa using h
        rw [← hq, this]; rfl
      · refine ⟨Mt_append (k := 0) rfl, ?_⟩
        refine CL_append H.ok (k := 0) (xs := vS perm) rfl hl ⟨rfl, .inl rfl, sn _ ▸ next _ _ "-" ?_⟩
        have : i ≠ 0 := by simpa using h
        rw [← hq, sg, if_neg this]; rfl
    | cons p q ihq =>
      intro v4 v5 hq
      obtain ⟨b, ch⟩ := p
      refine ⟨_, .inl rfl, rfl, ?_⟩
      refine cd (fun h => ?_) fun h => ?_
      · have hi : i = 0 := by simpa using h
        refine CLf H (F_S_IFMT B m) ?_
        rintro _ rfl
        refine cd (fun h2 => ?_) fun h2 => ?_
        · refine ⟨Mt_append (k := 0) rfl, ?_⟩
          refine CL_append H.ok (k := 0) (xs := vS perm) rfl hl ⟨rfl, .inl rfl, sn _ ▸ next _ _ ch ?_⟩
          rw [← hq, hi]; simp only [sg, if_pos, pick]; rw [h2]; rfl
        · refine ⟨.inl rfl, ihq _ _ ?_⟩
          rw [← hq, hi]; simp only [sg, if_pos, pick]; rw [h2]; rfl
      · have hi : i ≠ 0 := by simpa using h
        refine cd (fun h2 => ?_) fun h2 => ?_
        · refine ⟨Mt_append (k := 0) rfl, ?_⟩
          refine CL_append H.ok (k := 0) (xs := vS perm) rfl hl ⟨rfl, .inl rfl, sn _ ▸ next _ _ ch ?_⟩
          rw [← hq]; simp only [sg, if_neg hi, pick]; rw [h2]; rfl
        · refine ⟨.inl rfl, ihq _ _ ?_⟩
          rw [← hq]; simp only [sg, if_neg hi, pick]; rw [h2]; rfl
end
end Mine
namespace Mine
section
variable {w : World} {base : Heap} (B : Bs (g1 w base) I1)
include B
theorem F_b2a_base64 (ns : List Int) (hn : InB ns) (hl : ns.length % 3 = 0) (hz : ns.length ≤ 300) : Fn (g1 w base) 140 2 [.bytes (byteArr ns)] [("newline", .bool false)] (fun X => X = .bytes (byteArr (encs ns))) := by
  refine' fn_go 2 (bxs := [.bytes (byteArr ns), .bool false]) (ps := ["data", "newline"]) (ls := ["bin_data", "out", "leftbits", "leftchar", "b"]) (gls := [("_buffer", .fn 110), ("_truth", .fn 117), ("_B64", .bytes alph), ("bytes", .ty "bytes")]) (names := ["data", "newline", "bin_data", "out", "leftbits", "leftchar", "b"]) (vars₀ := [some (.bytes (byteArr ns)), some (.bool false), none, none, none, none, none]) (FnOk.of B.S.1 B.nl ?ho ?hcd ?hc) (.cons (G__buffer B) (.cons (G__truth B) (.cons (G__B64 B) (.cons (G_bytes B) .nil)))) (?hbd) rfl ?hlow rfl rfl ?hS ?hT (by decide)
  case ho => with_unfolding_all rfl
  case hcd => exact B.code 7 rfl
  case hc => decide +kernel
  case hbd => exact bindK fun _ _ _ => BindsTo.of_eq rfl
  case hlow => first | rfl | simp [V.lows, V.low, low_vI, low_vS]
  case hS => exact fun A he G₀ outer L ok => SF.of (SS.cons (SX.assign (SE.callF ok (SL.cons (SE.var ok 0 rfl) SL.nil fun _ => rfl) (fun _ => rfl) 0 rfl (I__buffer B)) (SA.name ok 2 rfl) rfl rfl fun _ => rfl) (SS.cons (SX.assign (SE.callF ok (SL.cons (SE.var ok 1 rfl) SL.nil fun _ => rfl) (fun _ => rfl) 1 rfl (I__truth B)) (SA.name ok 1 rfl) rfl rfl fun _ => rfl) (SS.cons (SX.assign (SE.own ok SL.nil) (SA.name ok 3 rfl) rfl rfl fun _ => rfl) (SS.cons (SX.assign SE.cint (SA.name ok 4 rfl) rfl rfl fun _ => rfl) (SS.cons (SX.assign SE.cint (SA.name ok 5 rfl) rfl rfl fun _ => rfl) (SS.cons (SX.for_ ok rfl (SE.var ok 2 rfl) (SA.name ok 6 rfl) (SS.cons (SX.assign (SE.bin (SE.bin (SE.bin (SE.var ok 5 rfl) SE.cint) (SE.var ok 6 rfl)) SE.cint) (SA.name ok 5 rfl) rfl rfl fun _ => rfl) (SS.cons (SX.assign (SE.bin (SE.var ok 4 rfl) SE.cint) (SA.name ok 4 rfl) rfl rfl fun _ => rfl) (SS.cons (SX.wh rfl (SB.cmp (SE.var ok 4 rfl) SE.cint rfl) (SS.cons (SX.expr (SE.meth "list.append" (SE.var ok 3 rfl) (SL.cons (SE.sub (SE.glob ok 2 rfl) (SE.bin (SE.bin (SE.var ok 5 rfl) (SE.bin (SE.var ok 4 rfl) SE.cint)) SE.cint)) SL.nil fun _ => rfl) rfl (fun _ => rfl) (fun _ => rfl)) rfl rfl) (SS.cons (SX.assign (SE.bin (SE.var ok 4 rfl) SE.cint) (SA.name ok 4 rfl) rfl rfl fun _ => rfl) SS.nil)) SS.nil) SS.nil))) SS.nil fun _ => rfl) (SS.cons (SX.ife (SB.cmp (SE.var ok 4 rfl) SE.cint rfl) (SS.cons (SX.expr (SE.meth "list.append" (SE.var ok 3 rfl) (SL.cons (SE.sub (SE.glob ok 2 rfl) (SE.bin (SE.bin (SE.var ok 5 rfl) SE.cint) SE.cint)) SL.nil fun _ => rfl) rfl (fun _ => rfl) (fun _ => rfl)) rfl rfl) (SS.cons (SX.expr (SE.meth "list.append" (SE.var ok 3 rfl) (SL.cons SE.cint SL.nil fun _ => rfl) rfl (fun _ => rfl) (fun _ => rfl)) rfl rfl) (SS.cons (SX.expr (SE.meth "list.append" (SE.var ok 3 rfl) (SL.cons SE.cint SL.nil fun _ => rfl) rfl (fun _ => rfl) (fun _ => rfl)) rfl rfl) SS.nil))) (SS.cons (SX.ife (SB.cmp (SE.var ok 4 rfl) SE.cint rfl) (SS.cons (SX.expr (SE.meth "list.append" (SE.var ok 3 rfl) (SL.cons (SE.sub (SE.glob ok 2 rfl) (SE.bin (SE.bin (SE.var ok 5 rfl) SE.cint) SE.cint)) SL.nil fun _ => rfl) rfl (fun _ => rfl) (fun _ => rfl)) rfl rfl) (SS.cons (SX.expr (SE.meth "list.append" (SE.var ok 3 rfl) (SL.cons SE.cint SL.nil fun _ => rfl) rfl (fun _ => rfl) (fun _ => rfl)) rfl rfl) SS.nil)) SS.nil) SS.nil)) (SS.cons (SX.ife (SB.plain (SE.var ok 1 rfl) fun _ => rfl) (SS.cons (SX.expr (SE.meth "list.append" (SE.var ok 3 rfl) (SL.cons SE.cint SL.nil fun _ => rfl) rfl (fun _ => rfl) (fun _ => rfl)) rfl rfl) SS.nil) SS.nil) (SS.cons (SX.ret (SE.callT ok (SL.cons (SE.var ok 3 rfl) SL.nil fun _ => rfl) (fun _ => rfl) 3 rfl (fun _ => rfl))) SS.nil)))))))))
  intro c H
  have hx := H.hx
  refine CLf H (F__buffer B _) ?_
  rintro _ rfl
  refine CLf H (F__truth B) ?_
  rintro _ rfl
  refine ⟨Nat.zero_le _, ?_⟩
  refine ⟨_, Iter_bytes H.ok, ?_⟩
  rw [items_byteArr hn]
  refine (?H : ∀ (q : List Int) (ys : List V) (lc : Int) (v6 : Option V), q.length % 3 = 0 → InB q → 0 ≤ lc → lc < 65536 → (∃ out, ys = vI out ∧ out ++ encs q = encs ns) → LoopT _ _ _ (vI q) { vars := [some (.bytes (byteArr ns)), some (.bool false), some (.bytes (byteArr ns)), some (.own 0), some (.int 0), some (.int lc), v6], own := [ys] } _) ns [] 0 none hl hn (by decide) (by decide) ⟨[], rfl, rfl⟩
  have hel := encs_len ns hl
  intro q
  induction q using three_rec with
  | nil =>
    rintro ys lc v6 - - - - ⟨out, rfl, ho⟩
    have ho : out = encs ns := by simpa [encs] using ho
    subst ho
    refine CL_bytesO H.ok (ns := encs ns) rfl (encs_in ns) (by omega) ⟨.inr ⟨Nat.zero_le _, by simp [lows_vI]⟩, rfl⟩
  | one a => intro _ _ _ h; simp at h
  | two a b => intro _ _ _ h; simp at h
  | cons x y z q ih =>
    rintro ys lc v6 h3 hb h0 h1 ⟨out, rfl, ho⟩
    have hx := hb x (by simp); have hy := hb y (by simp); have hz' := hb z (by simp)
    have hol : out.length + 4 ≤ 1000 := by
      have := congrArg List.length ho
      simp only [encs, List.length_append, List.length_cons] at this
      omega
    have b1 := s8_range h0 h1 hx
    have b2 := s8_range b1.1 b1.2 hy
    have b3 := s8_range b2.1 b2.2 hz'
    have r1 := sign1 h0 h1 hx
    have r2 := sign2 h0 h1 hx hy
    have r3 := sign3 b1.1 b1.2 hy hz'
    have r4 := sign4 b2.1 b2.2 hz'
    have as : alph.size = 64 := rfl
    refine ⟨⟨by decide, by decide, by omega⟩, ?_⟩
    refine ⟨2, ?_⟩
    refine ⟨Mt_append (k := 0) rfl, ?_⟩
    refine ⟨by decide, ?_⟩
    refine sub_bytes (b := alph) (i := Builtin.bitAnd (s8 lc x / 2 ^ (2 : Int).toNat) 63) (by omega) (by omega) (by decide) ?_
    refine CL_append H.ok (k := 0) rfl (by simp [vI]; omega) ⟨rfl, ?_⟩
    refine ⟨.inl rfl, ?_⟩
    refine ⟨⟨by decide, by decide, ?_⟩, ?_⟩
    · show (s8 lc x).natAbs < 2 ^ 64
      omega
    refine ⟨2, ?_⟩
    refine ⟨Mt_append (k := 0) rfl, ?_⟩
    refine ⟨by decide, ?_⟩
    refine sub_bytes (b := alph) (i := Builtin.bitAnd (s8 (s8 lc x) y / 2 ^ (4 : Int).toNat) 63) (by omega) (by omega) (by decide) ?_
    refine CL_append H.ok (k := 0) rfl (by simp [vI]; omega) ⟨rfl, ?_⟩
    refine ⟨.inl rfl, ?_⟩
    refine ⟨⟨by decide, by decide, ?_⟩, ?_⟩
    · show (s8 (s8 lc x) y).natAbs < 2 ^ 64
      omega
    refine ⟨3, ?_⟩
    refine ⟨Mt_append (k := 0) rfl, ?_⟩
    refine ⟨by decide, ?_⟩
    refine sub_bytes (b := alph) (i := Builtin.bitAnd (s8 (s8 (s8 lc x) y) z / 2 ^ (6 : Int).toNat) 63) (by omega) (by omega) (by decide) ?_
    refine CL_append H.ok (k := 0) rfl (by simp [vI]; omega) ⟨rfl, ?_⟩
    refine ⟨Mt_append (k := 0) rfl, ?_⟩
    refine ⟨by decide, ?_⟩
    refine sub_bytes (b := alph) (i := Builtin.bitAnd (s8 (s8 (s8 lc x) y) z / 2 ^ (0 : Int).toNat) 63) (by omega) (by omega) (by decide) ?_
    refine CL_append H.ok (k := 0) rfl (by simp [vI]; omega) ⟨rfl, ?_⟩
    refine ⟨.inl rfl, ?_⟩
    refine ih _ (s8 (s8 (s8 lc x) y) z) _ (by simp at h3; omega) (fun n hn => hb n (by simp [hn])) b3.1 b3.2 ⟨out ++ [alphAt (x / 4), alphAt (x % 4 * 16 + y / 16), alphAt (y % 16 * 4 + z / 64), alphAt (z % 64)], ?_, ?_⟩
    · rw [← r1, ← r2, ← r3, ← r4]; simp [vI, alphAt]
    · rw [← ho]; simp [encs]
theorem F_b64encode (ns : List Int) (hn : InB ns) (hl : ns.length % 3 = 0) (hz : ns.length ≤ 300) : Fn (g1 w base) 148 3 [.bytes (byteArr ns)] [] (fun X => X = .bytes (byteArr (encs ns))) := by
  refine' fn_go 3 (bxs := [.bytes (byteArr ns), .none]) (ps := ["s", "altchars"]) (ls := ["encoded"]) (gls := [("b2a_base64", .fn 140)]) (names := ["s", "altchars", "encoded"]) (vars₀ := [some (.bytes (byteArr ns)), some (.none), none]) (FnOk.of B.S.1 B.nl ?ho ?hcd ?hc) (.cons (G_b2a_base64 B) .nil) (?hbd) rfl ?hlow rfl rfl ?hS ?hT (by decide)
  case ho => with_unfolding_all rfl
  case hcd => exact B.code 8 rfl
  case hc => decide +kernel
  case hbd => exact bindD1 (d := .none) (fun _ _ _ => .none) fun s v hs => kp_binds (Bs.inS B hs) fun S => by with_unfolding_all rfl
  case hlow => first | rfl | simp [V.lows, V.low, low_vI, low_vS]
  case hS => exact fun A he G₀ outer L ok => SF.of (SS.cons (SX.assign (SE.callK ok (SL.cons (SE.var ok 0 rfl) SL.nil fun _ => rfl) (fun _ => rfl) 0 rfl (I_b2a_base64 B) SE.cbool) (SA.name ok 2 rfl) rfl rfl fun _ => rfl) (SS.cons (SX.ife (SB.cmp (SE.var ok 1 rfl) SE.cnone rfl) SS.leaf SS.nil) (SS.cons (SX.ret (SE.var ok 2 rfl)) SS.nil)))
  intro c H
  have hx := H.hx
  refine CLf H (F_b2a_base64 B ns hn hl hz) ?_
  rintro _ rfl
  refine O2_isNotNN ?_
  exact ⟨.inl rfl, rfl⟩
set_option maxHeartbeats 1000000 in
theorem F_a2b_base64 (ns : List Int) (hn : InS ns) (hl : ns.length % 4 = 0) (hz : ns.length ≤ 400) : Fn (g1 w base) 132 2 [.bytes (byteArr ns)] [("strict_mode", .bool false)] (fun X => X = .bytes (byteArr (decs ns))) := by
  refine' fn_go 2 (bxs := [.bytes (byteArr ns), .bool false]) (ps := ["data", "strict_mode"]) (ls := ["ascii_data", "out", "quad_pos", "leftchar", "pads", "i", "this_ch"]) (gls := [("_ascii_buffer", .fn 103), ("_truth", .fn 117), ("_b64_value", .fn 124), ("bytes", .ty "bytes")]) (names := ["data", "strict_mode", "ascii_data", "out", "quad_pos", "leftchar", "pads", "i", "this_ch"]) (vars₀ := [some (.bytes (byteArr ns)), some (.bool false), none, none, none, none, none, none, none]) (FnOk.of B.S.1 B.nl ?ho ?hcd ?hc) (.cons (G__ascii_buffer B) (.cons (G__truth B) (.cons (G__b64_value B) (.cons (G_bytes B) .nil)))) (?hbd) rfl ?hlow rfl rfl ?hS ?hT (by decide)
  case ho => with_unfolding_all rfl
  case hcd => exact B.code 6 rfl
  case hc => decide +kernel
  case hbd => exact bindK fun _ _ _ => BindsTo.of_eq rfl
  case hlow => first | rfl | simp [V.lows, V.low, low_vI, low_vS]
  case hS => exact fun A he G₀ outer L ok => SF.of (SS.cons (SX.assign (SE.callF ok (SL.cons (SE.var ok 0 rfl) SL.nil fun _ => rfl) (fun _ => rfl) 0 rfl (I__ascii_buffer B)) (SA.name ok 2 rfl) rfl rfl fun _ => rfl) (SS.cons (SX.assign (SE.callF ok (SL.cons (SE.var ok 1 rfl) SL.nil fun _ => rfl) (fun _ => rfl) 1 rfl (I__truth B)) (SA.name ok 1 rfl) rfl rfl fun _ => rfl) (SS.cons (SX.assign (SE.own ok SL.nil) (SA.name ok 3 rfl) rfl rfl fun _ => rfl) (SS.cons (SX.assign SE.cint (SA.name ok 4 rfl) rfl rfl fun _ => rfl) (SS.cons (SX.assign SE.cint (SA.name ok 5 rfl) rfl rfl fun _ => rfl) (SS.cons (SX.assign SE.cint (SA.name ok 6 rfl) rfl rfl fun _ => rfl) (SS.cons (SX.assign SE.cint (SA.name ok 7 rfl) rfl rfl fun _ => rfl) (SS.cons (SX.for_ ok rfl (SE.var ok 2 rfl) (SA.name ok 8 rfl) (SS.cons (SX.ife (SB.cmp (SE.var ok 8 rfl) SE.cint rfl) (SS.cons (SX.assign (SE.bin (SE.var ok 6 rfl) SE.cint) (SA.name ok 6 rfl) rfl rfl fun _ => rfl) (SS.cons (SX.ife (SB.and (SB.cmp (SE.var ok 4 rfl) SE.cint rfl) (SB.and (SB.cmp (SE.bin (SE.var ok 4 rfl) (SE.var ok 6 rfl)) SE.cint rfl) SB.and0)) (SS.cons (SX.assign (SE.bin (SE.var ok 7 rfl) SE.cint) (SA.name ok 7 rfl) rfl rfl fun _ => rfl) (SS.cons SX.cont SS.nil)) SS.nil) (SS.cons (SX.ife (SB.not (SB.plain (SE.var ok 1 rfl) fun _ => rfl)) (SS.cons (SX.assign (SE.bin (SE.var ok 7 rfl) SE.cint) (SA.name ok 7 rfl) rfl rfl fun _ => rfl) (SS.cons SX.cont SS.nil)) SS.nil) (SS.cons (SX.ife (SB.cmp (SE.var ok 4 rfl) SE.cint rfl) (SS.cons SX.brk SS.nil) SS.nil) (SS.cons (SX.ife (SB.and (SB.cmp (SE.var ok 4 rfl) SE.cint rfl) (SB.and (SB.cmp (SE.var ok 7 rfl) SE.cint rfl) SB.and0)) SS.leaf SS.nil) SS.leaf))))) SS.nil) (SS.cons (SX.assign (SE.callF ok (SL.cons (SE.var ok 8 rfl) SL.nil fun _ => rfl) (fun _ => rfl) 2 rfl (I__b64_value B)) (SA.name ok 8 rfl) rfl rfl fun _ => rfl) (SS.cons (SX.ife (SB.cmp (SE.var ok 8 rfl) SE.cint rfl) (SS.cons (SX.ife (SB.plain (SE.var ok 1 rfl) fun _ => rfl) SS.leaf SS.nil) (SS.cons (SX.assign (SE.bin (SE.var ok 7 rfl) SE.cint) (SA.name ok 7 rfl) rfl rfl fun _ => rfl) (SS.cons SX.cont SS.nil))) SS.nil) (SS.cons (SX.ife (SB.and (SB.plain (SE.var ok 6 rfl) fun _ => rfl) (SB.and (SB.plain (SE.var ok 1 rfl) fun _ => rfl) SB.and0)) (SS.cons (SX.ife (SB.cmp (SE.bin (SE.var ok 4 rfl) (SE.var ok 6 rfl)) SE.cint rfl) SS.leaf SS.nil) SS.leaf) SS.nil) (SS.cons (SX.assign SE.cint (SA.name ok 6 rfl) rfl rfl fun _ => rfl) (SS.cons (SX.ife (SB.cmp (SE.var ok 4 rfl) SE.cint rfl) (SS.cons (SX.assign SE.cint (SA.name ok 4 rfl) rfl rfl fun _ => rfl) (SS.cons (SX.assign (SE.var ok 8 rfl) (SA.name ok 5 rfl) rfl rfl fun _ => rfl) SS.nil)) (SS.cons (SX.ife (SB.cmp (SE.var ok 4 rfl) SE.cint rfl) (SS.cons (SX.assign SE.cint (SA.name ok 4 rfl) rfl rfl fun _ => rfl) (SS.cons (SX.expr (SE.meth "list.append" (SE.var ok 3 rfl) (SL.cons (SE.bin (SE.bin (SE.var ok 5 rfl) SE.cint) (SE.bin (SE.var ok 8 rfl) SE.cint)) SL.nil fun _ => rfl) rfl (fun _ => rfl) (fun _ => rfl)) rfl rfl) (SS.cons (SX.assign (SE.bin (SE.var ok 8 rfl) SE.cint) (SA.name ok 5 rfl) rfl rfl fun _ => rfl) SS.nil))) (SS.cons (SX.ife (SB.cmp (SE.var ok 4 rfl) SE.cint rfl) (SS.cons (SX.assign SE.cint (SA.name ok 4 rfl) rfl rfl fun _ => rfl) (SS.cons (SX.expr (SE.meth "list.append" (SE.var ok 3 rfl) (SL.cons (SE.bin (SE.bin (SE.var ok 5 rfl) SE.cint) (SE.bin (SE.var ok 8 rfl) SE.cint)) SL.nil fun _ => rfl) rfl (fun _ => rfl) (fun _ => rfl)) rfl rfl) (SS.cons (SX.assign (SE.bin (SE.var ok 8 rfl) SE.cint) (SA.name ok 5 rfl) rfl rfl fun _ => rfl) SS.nil))) (SS.cons (SX.assign SE.cint (SA.name ok 4 rfl) rfl rfl fun _ => rfl) (SS.cons (SX.expr (SE.meth "list.append" (SE.var ok 3 rfl) (SL.cons (SE.bin (SE.bin (SE.var ok 5 rfl) SE.cint) (SE.var ok 8 rfl)) SL.nil fun _ => rfl) rfl (fun _ => rfl) (fun _ => rfl)) rfl rfl) (SS.cons (SX.assign SE.cint (SA.name ok 5 rfl) rfl rfl fun _ => rfl) SS.nil)))) SS.nil)) SS.nil)) (SS.cons (SX.assign (SE.bin (SE.var ok 7 rfl) SE.cint) (SA.name ok 7 rfl) rfl rfl fun _ => rfl) SS.nil))))))) SS.nil fun _ => rfl) (SS.cons (SX.ife (SB.cmp (SE.var ok 4 rfl) SE.cint rfl) SS.leaf SS.nil) (SS.cons (SX.ife (SB.and (SB.cmp (SE.var ok 4 rfl) SE.cint rfl) (SB.and (SB.cmp (SE.bin (SE.var ok 4 rfl) (SE.var ok 6 rfl)) SE.cint rfl) SB.and0)) SS.leaf SS.nil) (SS.cons (SX.ret (SE.callT ok (SL.cons (SE.var ok 3 rfl) SL.nil fun _ => rfl) (fun _ => rfl) 3 rfl (fun _ => rfl))) SS.nil)))))))))))
  intro c H
  have hx := H.hx
  refine CLf H (F__ascii_buffer B _) ?_
  rintro _ rfl
  refine CLf H (F__truth B) ?_
  rintro _ rfl
  refine ⟨Nat.zero_le _, ?_⟩
  refine ⟨_, Iter_bytes H.ok, ?_⟩
  rw [items_byteArr (fun n h => (hn n h).1)]
  refine (?H : ∀ (q : List Int) (ys : List V) (iv : Int) (v8 : Option V), q.length % 4 = 0 → InS q → (∃ out, ys = vI out ∧ out ++ decs q = decs ns) → LoopT _ _ _ (vI q) { vars := [some (.bytes (byteArr ns)), some (.bool false), some (.bytes (byteArr ns)), some (.own 0), some (.int 0), some (.int 0), some (.int 0), some (.int iv), v8], own := [ys] } _) ns [] 0 none hl hn ⟨[], rfl, rfl⟩
  have hel := decs_len ns hl
  intro q
  induction q using four_rec with
  | nil =>
    rintro ys iv v8 - - ⟨out, rfl, ho⟩
    have ho : out = decs ns := by simpa [decs] using ho
    subst ho
    refine CL_bytesO H.ok (ns := decs ns) rfl (decs_in ns hn) (by omega) ⟨.inr ⟨Nat.zero_le _, by simp [lows_vI]⟩, rfl⟩
  | one a => intro _ _ _ h; simp at h
  | two a b => intro _ _ _ h; simp at h
  | three a b d => intro _ _ _ h; simp at h
  | cons x y z u q ih =>
    rintro ys iv v8 h3 hs ⟨out, rfl, ho⟩
    have hol : out.length + 3 ≤ 1000 := by
      have := congrArg List.length ho
      simp only [decs, List.length_append, List.length_cons] at this
      omega
    have vx := bval_nonneg x; have vy := bval_nonneg y; have vz := bval_nonneg z; have vu := bval_nonneg u
    have wx := (hs x (by simp)).2.2; have wy := (hs y (by simp)).2.2; have wz := (hs z (by simp)).2.2; have wu := (hs u (by simp)).2.2
    refine cd (fun h => absurd h (by simpa using (hs x (by simp)).2.1)) fun _ => ?_
    refine CLf H (F__b64_value B x) ?_
    rintro _ rfl
    refine cd (fun h => absurd h (by have := (hs x (by simp)).2.2; simpa using this)) fun _ => ?_
    refine ⟨.inl rfl, ?_⟩
    refine cd (fun h => absurd h (by simpa using (hs y (by simp)).2.1)) fun _ => ?_
    refine CLf H (F__b64_value B y) ?_
    rintro _ rfl
    refine cd (fun h => absurd h (by have := (hs y (by simp)).2.2; simpa using this)) fun _ => ?_
    refine ⟨Mt_append (k := 0) rfl, ?_⟩
    refine ⟨⟨by decide, by decide, by omega⟩, by decide, ?_⟩
    refine CL_append H.ok (k := 0) rfl (by simp [vI]; omega) ⟨rfl, ?_⟩
    refine ⟨.inl rfl, ?_⟩
    refine cd (fun h => absurd h (by simpa using (hs z (by simp)).2.1)) fun _ => ?_
    refine CLf H (F__b64_value B z) ?_
    rintro _ rfl
    refine cd (fun h => absurd h (by have := (hs z (by simp)).2.2; simpa using this)) fun _ => ?_
    refine ⟨Mt_append (k := 0) rfl, ?_⟩
    refine ⟨⟨by decide, by decide, by rw [bitAnd_m4]; omega⟩, by decide, ?_⟩
    refine CL_append H.ok (k := 0) rfl (by simp [vI]; omega) ⟨rfl, ?_⟩
    refine ⟨.inl rfl, ?_⟩
    refine cd (fun h => absurd h (by simpa using (hs u (by simp)).2.1)) fun _ => ?_
    refine CLf H (F__b64_value B u) ?_
    rintro _ rfl
    refine cd (fun h => absurd h (by have := (hs u (by simp)).2.2; simpa using this)) fun _ => ?_
    refine ⟨Mt_append (k := 0) rfl, ?_⟩
    refine ⟨⟨by decide, by decide, by rw [bitAnd_m2]; omega⟩, ?_⟩
    refine CL_append H.ok (k := 0) rfl (by simp [vI]; omega) ⟨rfl, ?_⟩
    refine ⟨.inl rfl, ?_⟩
    refine ih _ (iv + 1 + 1 + 1 + 1) _ (by simp at h3; omega) (fun n hn => hs n (by simp [hn])) ⟨out ++ [bval x * 4 + bval y / 16, bval y % 16 * 16 + bval z / 4, bval z % 4 * 64 + bval u], ?_, ?_⟩
    · rw [← oct1 vx vy wy, ← oct2 vy vz wz, ← oct3 vz vu wu]; simp [vI]
    · rw [← ho]; simp [decs]
theorem F_b64decode (ns : List Int) (hn : InS ns) (hl : ns.length % 4 = 0) (hz : ns.length ≤ 400) : Fn (g1 w base) 156 3 [.bytes (byteArr ns)] [] (fun X => X = .bytes (byteArr (decs ns))) := by
  refine' fn_go 3 (bxs := [.bytes (byteArr ns), .none, .bool false]) (ps := ["s", "altchars", "validate"]) (ls := []) (gls := [("_bytes_from_decode_data", .fn 83), ("a2b_base64", .fn 132)]) (names := ["s", "altchars", "validate"]) (vars₀ := [some (.bytes (byteArr ns)), some (.none), some (.bool false)]) (FnOk.of B.S.1 B.nl ?ho ?hcd ?hc) (.cons (G__bytes_from_decode_data B) (.cons (G_a2b_base64 B) .nil)) (?hbd) rfl ?hlow rfl rfl ?hS ?hT (by decide)
  case ho => with_unfolding_all rfl
  case hcd => exact B.code 9 rfl
  case hc => decide +kernel
  case hbd => exact bindD2 (d := .none) (e := .bool false) (fun _ _ _ => .none) (fun _ _ _ => .bool _) fun s v hs => kp_binds (Bs.inS B hs) fun S => by with_unfolding_all rfl
  case hlow => first | rfl | simp [V.lows, V.low, low_vI, low_vS]
  case hS => exact fun A he G₀ outer L ok => SF.of (SS.cons (SX.assign (SE.callF ok (SL.cons (SE.var ok 0 rfl) SL.nil fun _ => rfl) (fun _ => rfl) 0 rfl (I__bytes_from_decode_data B)) (SA.name ok 0 rfl) rfl rfl fun _ => rfl) (SS.cons (SX.ife (SB.cmp (SE.var ok 1 rfl) SE.cnone rfl) SS.leaf SS.nil) (SS.cons (SX.ret (SE.callK ok (SL.cons (SE.var ok 0 rfl) SL.nil fun _ => rfl) (fun _ => rfl) 1 rfl (I_a2b_base64 B) (SE.var ok 2 rfl))) SS.nil)))
  intro c H
  have hx := H.hx
  refine CLf H (F__bytes_from_decode_data B _) ?_
  rintro _ rfl
  refine O2_isNotNN ?_
  refine CLf H (F_a2b_base64 B ns hn hl hz) ?_
  rintro _ rfl
  exact ⟨.inl rfl, rfl⟩
end
end Mine
namespace Mine
section
variable {w : World} {base : Heap} (B : Bs (g1 w base) I1)
include B
theorem G_IndexError : Glb (g1 w base) "IndexError" (.ty "IndexError") := B.bi (.type "IndexError") 30 rfl (by kernel_rfl) (by decide +kernel) (.ty _)
set_option maxHeartbeats 2000000 in
theorem F_sorted_list_difference (xs ys : List Str) (sx : odS.Srt xs) (sy : odS.Srt ys) (zx : xs.length ≤ 500) (zy : ys.length ≤ 500) : Fn (g1 w base) 163 1 [.list (odS.vs xs), .list (odS.vs ys)] [] (fun X => X = .tup [.list (odS.vs (diff xs ys)), .list (odS.vs (diff ys xs))]) := by
  refine' fn_go 1 (bxs := [.list (odS.vs xs), .list (odS.vs ys)]) (ps := ["expected", "actual"]) (ls := ["i", "j", "missing", "unexpected", "e", "a"]) (gls := [("IndexError", .ty "IndexError")]) (names := ["expected", "actual", "i", "j", "missing", "unexpected", "e", "a"]) (vars₀ := [some (.list (odS.vs xs)), some (.list (odS.vs ys)), none, none, none, none, none, none]) (FnOk.of B.S.1 B.nl ?ho ?hcd ?hc) (.cons (G_IndexError B) .nil) (?hbd) rfl ?hlow rfl rfl ?hS ?hT (by decide)
  case ho => with_unfolding_all rfl
  case hcd => exact B.code 0 rfl
  case hc => decide +kernel
  case hbd => exact bind2 fun _ _ _ => BindsTo.of_eq rfl
  case hlow => exact Od.low2
  case hS => exact fun A he G₀ outer L ok => SF.of (SS.cons (SX.assign2 SE.cint (SA.name ok 2 rfl) (SA.name ok 3 rfl) rfl fun _ => rfl) (SS.cons (SX.assign (SE.own ok SL.nil) (SA.name ok 4 rfl) rfl rfl fun _ => rfl) (SS.cons (SX.assign (SE.own ok SL.nil) (SA.name ok 5 rfl) rfl rfl fun _ => rfl) (SS.cons (SX.wh rfl (SB.plain SE.cbool fun _ => rfl) (SS.cons (SX.tryX ok rfl rfl rfl 0 (SSR.cons (SXR.assign rfl (SVR.sub ok rfl (fun _ => rfl) rfl (SE.var ok 0 rfl) (SE.var ok 2 rfl) fun _ _ => rfl) (SA.name ok 6 rfl) rfl rfl fun _ => rfl) (SSR.cons (SXR.assign rfl (SVR.sub ok rfl (fun _ => rfl) rfl (SE.var ok 1 rfl) (SE.var ok 3 rfl) fun _ _ => rfl) (SA.name ok 7 rfl) rfl rfl fun _ => rfl) (SSR.cons (SXR.ife rfl (SB.cmp (SE.var ok 6 rfl) (SE.var ok 7 rfl) rfl) (SSR.cons (SXR.of rfl (SX.expr (SE.meth "list.append" (SE.var ok 4 rfl) (SL.cons (SE.var ok 6 rfl) SL.nil fun _ => rfl) rfl (fun _ => rfl) (fun _ => rfl)) rfl rfl)) (SSR.cons (SXR.of rfl (SX.aug ok 2 rfl SE.cint)) (SSR.cons (SXR.wh ok rfl (SBR.cmp rfl (SVR.sub ok rfl (fun _ => rfl) rfl (SE.var ok 0 rfl) (SE.var ok 2 rfl) fun _ _ => rfl) (SE.var ok 6 rfl) rfl) (SSR.cons (SXR.of rfl (SX.aug ok 2 rfl SE.cint)) (SSR.nil rfl)) (SSR.nil rfl)) (SSR.nil rfl)))) (SSR.cons (SXR.ife rfl (SB.cmp (SE.var ok 6 rfl) (SE.var ok 7 rfl) rfl) (SSR.cons (SXR.of rfl (SX.expr (SE.meth "list.append" (SE.var ok 5 rfl) (SL.cons (SE.var ok 7 rfl) SL.nil fun _ => rfl) rfl (fun _ => rfl) (fun _ => rfl)) rfl rfl)) (SSR.cons (SXR.of rfl (SX.aug ok 3 rfl SE.cint)) (SSR.cons (SXR.wh ok rfl (SBR.cmp rfl (SVR.sub ok rfl (fun _ => rfl) rfl (SE.var ok 1 rfl) (SE.var ok 3 rfl) fun _ _ => rfl) (SE.var ok 7 rfl) rfl) (SSR.cons (SXR.of rfl (SX.aug ok 3 rfl SE.cint)) (SSR.nil rfl)) (SSR.nil rfl)) (SSR.nil rfl)))) (SSR.cons (SXR.of rfl (SX.aug ok 2 rfl SE.cint)) (SSR.cons (SXR.fin ok rfl rfl rfl (SSR.cons (SXR.wh ok rfl (SBR.cmp rfl (SVR.sub ok rfl (fun _ => rfl) rfl (SE.var ok 0 rfl) (SE.var ok 2 rfl) fun _ _ => rfl) (SE.var ok 6 rfl) rfl) (SSR.cons (SXR.of rfl (SX.aug ok 2 rfl SE.cint)) (SSR.nil rfl)) (SSR.nil rfl)) (SSR.nil rfl)) (SSR.cons (SXR.of rfl (SX.aug ok 3 rfl SE.cint)) (SSR.cons (SXR.wh ok rfl (SBR.cmp rfl (SVR.sub ok rfl (fun _ => rfl) rfl (SE.var ok 1 rfl) (SE.var ok 3 rfl) fun _ _ => rfl) (SE.var ok 7 rfl) rfl) (SSR.cons (SXR.of rfl (SX.aug ok 3 rfl SE.cint)) (SSR.nil rfl)) (SSR.nil rfl)) (SSR.nil rfl))) fun e ok => (SSR.cons (SXR.of rfl (SX.aug ok 3 rfl SE.cint)) (SSR.cons (SXR.wh ok rfl (SBR.cmp rfl (SVR.sub ok rfl (fun q => by cases q) rfl (SE.var ok 1 rfl) (SE.var ok 3 rfl) fun _ _ => rfl) (SE.var ok 7 rfl) rfl) (SSR.cons (SXR.of rfl (SX.aug ok 3 rfl SE.cint)) (SSR.nil rfl)) (SSR.nil rfl)) (SSR.nil rfl)))) (SSR.nil rfl)))) (SSR.nil rfl))) (SSR.nil rfl)))) rfl fun e ok => (SS.cons (SX.expr (SE.meth "list.extend" (SE.var ok 4 rfl) (SL.cons (SE.frm ok (SE.var ok 0 rfl) (SE.var ok 2 rfl)) SL.nil fun _ => rfl) rfl (fun _ => rfl) (fun _ => rfl)) rfl rfl) (SS.cons (SX.expr (SE.meth "list.extend" (SE.var ok 5 rfl) (SL.cons (SE.frm ok (SE.var ok 1 rfl) (SE.var ok 3 rfl)) SL.nil fun _ => rfl) rfl (fun _ => rfl) (fun _ => rfl)) rfl rfl) (SS.cons SX.brk SS.nil)))) SS.nil) SS.nil) (SS.cons (SX.ret (SE.tup ok (SL.cons (SE.var ok 4 rfl) (SL.cons (SE.var ok 5 rfl) SL.nil fun _ => rfl) fun _ => rfl))) SS.nil)))))
  intro c H
  have hx := H.hx
  refine ⟨Nat.zero_le _, Nat.zero_le _, ?_⟩
  refine ⟨xs.length + ys.length + 1, ?_⟩
  refine (?W : ∀ (n : Nat) (a b p q : List Str) (i j : Int) (ms us : List V) (ve va : Option V), a.length + b.length < n → Sld odS xs ys a b p q i j ms us → WhT _ _ _ n { vars := [some (.list (odS.vs xs)), some (.list (odS.vs ys)), some (.int i), some (.int j), some (.own 0), some (.own 1), ve, va], own := [ms, us] } _) _ xs ys [] [] 0 0 [] [] none none (by omega) ⟨rfl, rfl, rfl, rfl, ⟨[], rfl, rfl⟩, ⟨[], rfl, rfl⟩⟩
  intro n
  induction n with
  | zero => omega
  | succ n ih =>
    intro a b p q i j ms us ve va hn S
    have hpx := congrArg List.length S.x
    have hpy := congrArg List.length S.y
    simp only [List.length_append] at hpx hpy
    rcases a with _ | ⟨x, a⟩
    · refine ⟨odS.vs xs, p.length, rfl, congrArg V.int S.i, by omega, fun X hX => ?_, fun _ => ?_⟩
      · rw [vs_end S.x] at hX; cases hX
      · exact fun e => S.hand H.ok.cM (.inl rfl) zx zy fun ms' us' hm hu => ⟨Nat.le_of_ble_eq_true rfl, sld_end hm hu⟩
    refine ⟨odS.vs xs, p.length, rfl, congrArg V.int S.i, by omega, fun X hX => ?_, fun hX => ?_⟩
    case refine_2 => rw [vs_at S.x] at hX; cases hX
    obtain rfl : odS.val x = X := by rw [vs_at S.x] at hX; cases hX; rfl
    rcases b with _ | ⟨y, b⟩
    · refine ⟨odS.vs ys, q.length, rfl, congrArg V.int S.j, by omega, fun X hX => ?_, fun _ => ?_⟩
      · rw [vs_end S.y] at hX; cases hX
      · exact fun e => S.hand H.ok.cM (.inr rfl) zx zy fun ms' us' hm hu => ⟨Nat.le_of_ble_eq_true rfl, sld_end hm hu⟩
    refine ⟨odS.vs ys, q.length, rfl, congrArg V.int S.j, by omega, fun X hX => ?_, fun hX => ?_⟩
    case refine_2 => rw [vs_at S.y] at hX; cases hX
    obtain rfl : odS.val y = X := by rw [vs_at S.y] at hX; cases hX; rfl
    have tx : odS.Srt (x :: a) := (List.pairwise_append.mp (S.x ▸ sx)).2.1
    have ty : odS.Srt (y :: b) := (List.pairwise_append.mp (S.y ▸ sy)).2.1
    have nx := odS.srt_next sx S.x
    have ny := odS.srt_next sy S.y
    have lm : ms.length ≤ 1000 := by
      obtain ⟨m, rfl, hm⟩ := S.m
      have := congrArg List.length hm
      have := diff_len xs ys
      simp only [List.length_append] at *
      rw [vs_len]; omega
    have lu : us.length ≤ 1000 := by
      obtain ⟨m, rfl, hm⟩ := S.u
      have := congrArg List.length hm
      have := diff_len ys xs
      simp only [List.length_append] at *
      rw [vs_len]; omega
    simp only [List.length_cons] at hpx hpy hn
    refine O2_ltS ?_; refine cd (fun hlt => ?_) fun hlt => ?_
    · refine ⟨Mt_append (k := 0) rfl, CL_append H.ok (k := 0) rfl (by omega) ⟨rfl, ?_⟩⟩
      have S' := S.lt ty hlt
      refine scan (xs := xs) (i := p.length + 1) (e := x) (by rw [S.i]; rfl) (by omega) (fun _ h => h) (fun _ h => h) (fun _ h => h) nx (fun _ => ?_) fun hge => ?_
      · exact ih a (y :: b) _ _ _ _ _ _ _ _ (by simp only [List.length_cons]; omega) S'
      · obtain rfl : a = [] := List.eq_nil_of_length_eq_zero (by omega)
        exact fun e => S'.hand H.ok.cM (.inl rfl) zx zy fun ms' us' hm hu => ⟨Nat.le_of_ble_eq_true rfl, sld_end hm hu⟩
    refine O2_gtS ?_; refine cd (fun hgt => ?_) fun hgt => ?_
    · refine ⟨Mt_append (k := 1) rfl, CL_append H.ok (k := 1) rfl (by omega) ⟨rfl, ?_⟩⟩
      have S' := S.gt tx hgt
      refine scan (xs := ys) (i := q.length + 1) (e := y) (by rw [S.j]; rfl) (by omega) (fun _ h => h) (fun _ h => h) (fun _ h => h) ny (fun _ => ?_) fun hge => ?_
      · exact ih (x :: a) b _ _ _ _ _ _ _ _ (by simp only [List.length_cons]; omega) S'
      · obtain rfl : b = [] := List.eq_nil_of_length_eq_zero (by omega)
        exact fun e => S'.hand H.ok.cM (.inr rfl) zx zy fun ms' us' hm hu => ⟨Nat.le_of_ble_eq_true rfl, sld_end hm hu⟩
    obtain rfl := odS.tot _ _ hlt hgt
    have S' := S.eq tx ty
    refine scan (xs := xs) (i := p.length + 1) (e := x) (by rw [S.i]; rfl) (by omega) (fun _ h => h) (fun _ h => h) (fun _ h => h) nx (fun _ => ⟨rfl, ?_⟩) fun hge e => ?_
    · refine scan (xs := ys) (i := q.length + 1) (e := x) (by rw [S.j]; rfl) (by omega) (fun _ h => h) (fun _ h => h) (fun _ h => h) ny (fun _ => ⟨rfl, ?_⟩) fun hge => ?_
      · exact ih a b _ _ _ _ _ _ _ _ (by omega) S'
      · obtain rfl : b = [] := List.eq_nil_of_length_eq_zero (by omega)
        exact fun e => S'.hand H.ok.cM (.inr rfl) zx zy fun ms' us' hm hu => ⟨Nat.le_of_ble_eq_true rfl, sld_end hm hu⟩
    · obtain rfl : a = [] := List.eq_nil_of_length_eq_zero (by omega)
      refine scan (xs := ys) (i := q.length + 1) (e := x) (by rw [S.j]; rfl) (by omega) (fun _ h => h) (fun _ h => h) (fun _ h => h) ny (fun _ => ⟨rfl, ?_⟩) fun hge => ?_
      · exact fun e => S'.hand H.ok.cM (.inl rfl) zx zy fun ms' us' hm hu => ⟨Nat.le_of_ble_eq_true rfl, sld_end hm hu⟩
      · exact fun e => S'.hand H.ok.cM (.inl rfl) zx zy fun ms' us' hm hu => ⟨Nat.le_of_ble_eq_true rfl, sld_end hm hu⟩
end
end Mine
namespace Mine
section
variable {w : World} {base : Heap} (B : Bs (g1 w base) I1)
include B
theorem G__law_files : Glb (g1 w base) "_law_files" (.fn 168) := B.fn (v := .ref 168) 31 rfl (.fn _)
theorem I__law_files : IsFn (g1 w base) 168 := B.isF (by kernel_rfl)
theorem G__law_nine : Glb (g1 w base) "_law_nine" (.fn 175) := B.fn (v := .ref 175) 32 rfl (.fn _)
theorem I__law_nine : IsFn (g1 w base) 175 := B.isF (by kernel_rfl)
theorem G__law_less : Glb (g1 w base) "_law_less" (.fn 182) := B.fn (v := .ref 182) 33 rfl (.fn _)
theorem I__law_less : IsFn (g1 w base) 182 := B.isF (by kernel_rfl)
theorem G__law_folders : Glb (g1 w base) "_law_folders" (.fn 189) := B.fn (v := .ref 189) 34 rfl (.fn _)
theorem I__law_folders : IsFn (g1 w base) 189 := B.isF (by kernel_rfl)
theorem G__law_rows : Glb (g1 w base) "_law_rows" (.fn 196) := B.fn (v := .ref 196) 35 rfl (.fn _)
theorem I__law_rows : IsFn (g1 w base) 196 := B.isF (by kernel_rfl)
theorem G__law_changed : Glb (g1 w base) "_law_changed" (.fn 201) := B.fn (v := .ref 201) 36 rfl (.fn _)
theorem I__law_changed : IsFn (g1 w base) 201 := B.isF (by kernel_rfl)
theorem G__law_text : Glb (g1 w base) "_law_text" (.fn 208) := B.fn (v := .ref 208) 37 rfl (.fn _)
theorem I__law_text : IsFn (g1 w base) 208 := B.isF (by kernel_rfl)
theorem G__law_octets : Glb (g1 w base) "_law_octets" (.fn 215) := B.fn (v := .ref 215) 38 rfl (.fn _)
theorem I__law_octets : IsFn (g1 w base) 215 := B.isF (by kernel_rfl)
theorem G__law_numbers : Glb (g1 w base) "_law_numbers" (.fn 222) := B.fn (v := .ref 222) 39 rfl (.fn _)
theorem I__law_numbers : IsFn (g1 w base) 222 := B.isF (by kernel_rfl)
set_option maxHeartbeats 2000000 in
theorem F__law_numbers (l : List Nat) (hn : ∀ n ∈ l, n < 4096) (he : l.length % 2 = 0) (hz : l.length ≤ 100) : Fn (g1 w base) 222 1 [.bytes (byteArr (bys l))] [] (fun X => X = .list (vI (iN l))) := by
  refine' fn_go 1 (bxs := [.bytes (byteArr (bys l))]) (ps := ["octets"]) (ls := ["numbers", "k", "value"]) (gls := [("range", .ty "range"), ("len", .bi "len")]) (names := ["octets", "numbers", "k", "value"]) (vars₀ := [some (.bytes (byteArr (bys l))), none, none, none]) (FnOk.of B.S.1 B.nl ?ho ?hcd ?hc) (.cons (G_range B) (.cons (G_len B) .nil)) (?hbd) rfl ?hlow rfl rfl ?hS ?hT (by decide)
  case ho => with_unfolding_all rfl
  case hcd => exact B.code 21 rfl
  case hc => decide +kernel
  case hbd => exact bind1 fun _ _ => BindsTo.of_eq rfl
  case hlow => first | rfl | simp [V.lows, V.low, low_vI, low_vS]
  case hS => exact fun A he G₀ outer L ok => SF.of (SS.cons (SX.assign (SE.own ok SL.nil) (SA.name ok 1 rfl) rfl rfl fun _ => rfl) (SS.cons (SX.for_ ok rfl (SE.callT ok (SL.cons SE.cint (SL.cons (SE.callB ok (SL.cons (SE.var ok 0 rfl) SL.nil fun _ => rfl) (fun _ => rfl) 1 rfl (fun _ => rfl)) (SL.cons SE.cint SL.nil fun _ => rfl) fun _ => rfl) fun _ => rfl) (fun _ => rfl) 0 rfl (fun _ => rfl)) (SA.name ok 2 rfl) (SS.cons (SX.assign (SE.bin (SE.bin (SE.bin (SE.sub (SE.var ok 0 rfl) (SE.var ok 2 rfl)) SE.cint) (SE.bin (SE.sub (SE.var ok 0 rfl) (SE.bin (SE.var ok 2 rfl) SE.cint)) SE.cint)) (SE.sub (SE.var ok 0 rfl) (SE.bin (SE.var ok 2 rfl) SE.cint))) (SA.name ok 3 rfl) rfl rfl fun _ => rfl) (SS.cons (SX.aug ok 1 rfl (SE.lst ok (SL.cons (SE.bin (SE.var ok 3 rfl) SE.cint) (SL.cons (SE.bin (SE.var ok 3 rfl) SE.cint) SL.nil fun _ => rfl) fun _ => rfl))) SS.nil)) SS.nil fun _ => rfl) (SS.cons (SX.ret (SE.var ok 1 rfl)) SS.nil)))
  intro c H
  have hx := H.hx
  have sz : (byteArr (bys l)).size = 3 * (l.length / 2) := by rw [← bys_len]; simp [byteArr]
  refine ⟨Nat.le_of_ble_eq_true rfl, ?_⟩
  refine CL_lenB (by omega) ?_
  refine CL_rng3 H.ok (by decide) (by decide) ?_
  rw [sz]
  refine ⟨_, Iter_rng H.ok (small3 _ (by omega)) (by unfold Builtin.Range.rangeSize; split <;> omega), ?_⟩
  rw [rng_items3, List.range_eq_range']
  refine (?H : ∀ (d k : Nat) (p q : List Nat) (Q : List V) (v2 v3 : Option V), k + d = l.length / 2 → p.length = 2 * k → p ++ q = l → Q = vI (iN p) → LoopT _ _ _ ((List.range' k d).map fun (k : Nat) => V.int ((3 * k : Nat) : Int)) { vars := [some (.bytes (byteArr (bys l))), some (.own 0), v2, v3], own := [Q] } _) (l.length / 2) 0 [] l [] none none (by omega) rfl rfl rfl
  intro d
  induction d with
  | zero =>
    rintro k p q Q v2 v3 hk hp e rfl
    have e2 := congrArg List.length e
    rw [List.length_append] at e2
    obtain rfl : q = [] := List.length_eq_zero_iff.mp (by omega)
    rw [List.append_nil] at e
    subst e
    exact ⟨.inr ⟨Nat.zero_le _, by simp [lows_vI]⟩, by show V.fz 0 _ _ = _; rw [show V.fz 0 [vI (iN p)] (.own 0) = .list (vI (iN p)) from rfl]⟩
  | succ d ih =>
    rintro k p q Q v2 v3 hk hp e rfl
    have e2 := congrArg List.length e
    rw [List.length_append] at e2
    obtain ⟨x, y, r, rfl⟩ : ∃ x y r, q = x :: y :: r := by
      match q, e2 with
      | [], e2 => simp at e2; omega
      | [a], e2 => simp at e2; omega
      | x :: y :: r, _ => exact ⟨x, y, r, rfl⟩
    have hx4 : x < 4096 := hn x (by rw [← e]; simp)
    have hy4 : y < 4096 := hn y (by rw [← e]; simp)
    have pe : p.length % 2 = 0 := by omega
    have ph : p.length / 2 = k := by omega
    have at3 : ∀ (j : Int) (i : Nat), i < 3 → j = 3 * k + i → (((byteArr (bys l)).toList.getD j.toNat 0).toNat : Int) = (octs x y).getD i 0 := by
      rintro j i hi rfl
      rw [byteArr_at (bys_in l hn) _ (by rw [bys_len]; omega), show ((3 * k + i : Int)).toNat = 3 * (p.length / 2) + i by omega, ← e, bys_at pe i hi]
    have b0 := nat12 hx4
    have b1 := nat12 hy4
    refine sub_bytes (i := ((3 * k : Nat) : Int)) (by omega) (by rw [sz]; omega) (by omega) ?_
    rw [at3 ((3 * k : Nat) : Int) 0 (by decide) (by omega)]
    refine ⟨by simp [octs]; omega, ?_⟩
    refine sub_bytes (i := ((3 * k : Nat) : Int) + 1) (by omega) (by rw [sz]; omega) (by omega) ?_
    rw [at3 (((3 * k : Nat) : Int) + 1) 1 (by decide) (by omega)]
    refine ⟨by simp [octs]; omega, ?_⟩
    refine sub_bytes (i := ((3 * k : Nat) : Int) + 2) (by omega) (by rw [sz]; omega) (by omega) ?_
    rw [at3 (((3 * k : Nat) : Int) + 2) 2 (by decide) (by omega)]
    have ev : (octs x y).getD 0 0 * 65536 + (octs x y).getD 1 0 * 256 + (octs x y).getD 2 0 = (x : Int) * 4096 + y := by
      show (_ : Int) / 65536 * 65536 + _ / 256 % 256 * 256 + _ % 256 = _
      omega
    change tAName 3 c (V.int ((octs x y).getD 0 0 * 65536 + (octs x y).getD 1 0 * 256 + (octs x y).getD 2 0)) _ _
    rw [ev]
    refine ⟨by decide, by decide, Nat.le_of_ble_eq_true rfl, ?_⟩
    rw [show ((x : Int) * 4096 + y) / 4096 = x by omega, show ((x : Int) * 4096 + y) % 4096 = y by omega]
    refine O2_iaddO H.ok (k := 0) rfl .l (by simp [vI, iN]; omega) ?_
    refine ⟨.inl rfl, ?_⟩
    refine ih (k + 1) (p ++ [x, y]) r _ _ _ (by omega) (by simp; omega) (by simpa using e) ?_
    show vI (iN p) ++ [V.int x, V.int y] = _
    rw [iN_app, vI_app]; rfl
set_option maxHeartbeats 2000000 in
theorem F__law_text (ns : List Nat) (hn : ∀ n ∈ ns, n < 4096) (hz : ns.length ≤ 10) : Fn (g1 w base) 208 1 [.list (vI (iN ns))] [] (fun X => X = .bytes (byteArr (texts ns))) := by
  refine' fn_go 1 (bxs := [.list (vI (iN ns))]) (ps := ["numbers"]) (ls := ["alphabet", "text", "number"]) (gls := [("len", .bi "len"), ("bytes", .ty "bytes")]) (names := ["numbers", "alphabet", "text", "number"]) (vars₀ := [some (.list (vI (iN ns))), none, none, none]) (FnOk.of B.S.1 B.nl ?ho ?hcd ?hc) (.cons (G_len B) (.cons (G_bytes B) .nil)) (?hbd) rfl ?hlow rfl rfl ?hS ?hT (by decide)
  case ho => with_unfolding_all rfl
  case hcd => exact B.code 19 rfl
  case hc => decide +kernel
  case hbd => exact bind1 fun _ _ => BindsTo.of_eq rfl
  case hlow => first | rfl | simp [V.lows, V.low, low_vI, low_vS]
  case hS => exact fun A he G₀ outer L ok => SF.of (SS.cons (SX.assign SE.cbytes (SA.name ok 1 rfl) rfl rfl fun _ => rfl) (SS.cons (SX.assign (SE.own ok SL.nil) (SA.name ok 2 rfl) rfl rfl fun _ => rfl) (SS.cons (SX.for_ ok rfl (SE.bin (SE.var ok 0 rfl) (SE.bin (SE.own ok (SL.cons SE.cint SL.nil fun _ => rfl)) (SE.bin (SE.callB ok (SL.cons (SE.var ok 0 rfl) SL.nil fun _ => rfl) (fun _ => rfl) 0 rfl (fun _ => rfl)) SE.cint))) (SA.name ok 3 rfl) (SS.cons (SX.aug ok 2 rfl (SE.lst ok (SL.cons (SE.sub (SE.var ok 1 rfl) (SE.bin (SE.var ok 3 rfl) SE.cint)) (SL.cons (SE.sub (SE.var ok 1 rfl) (SE.bin (SE.var ok 3 rfl) SE.cint)) SL.nil fun _ => rfl) fun _ => rfl))) SS.nil) SS.nil fun _ => rfl) (SS.cons (SX.ret (SE.callT ok (SL.cons (SE.var ok 2 rfl) SL.nil fun _ => rfl) (fun _ => rfl) 1 rfl (fun _ => rfl))) SS.nil))))
  intro c H
  have hx := H.hx
  refine ⟨Nat.le_of_ble_eq_true rfl, Nat.le_of_ble_eq_true rfl, ?_⟩
  refine CL_lenL (xs := vI (iN ns)) (by simp [vI, iN]; omega) ?_
  refine ⟨by decide, ?_⟩
  refine O2_mulO H.ok (k := 1) (xs := [V.int 0]) rfl (by omega) (by omega) (by decide) (by simp) ?_
  have el : (List.replicate ((((vI (iN ns)).length : Nat) : Int) % 2).toNat [V.int 0]).flatten = vI (iN (List.replicate (ns.length % 2) 0)) := by
    rw [show (vI (iN ns)).length = ns.length by simp [vI, iN], show ((ns.length : Int) % 2).toNat = ns.length % 2 by omega]
    have : ns.length % 2 = 0 ∨ ns.length % 2 = 1 := by omega
    rcases this with e | e <;> rw [e] <;> rfl
  rw [el]
  refine O2_addL H.ok .l .l (by simp [vI, iN]; omega) ?_
  rw [← vI_app, ← iN_app]
  refine ⟨_, Iter_list H.ok, ?_⟩
  have lp := padI_len ns
  refine (?H : ∀ (q : List Nat) (Q : List V) (v3 : Option V), (∀ n ∈ q, n < 4096) → (∃ out, Q = vI out ∧ out ++ sgsN q = texts ns ∧ out.length ≤ 1000) → LoopT _ _ _ (vI (iN q)) { vars := [some (.list (vI (iN ns))), some (.bytes alph), some (.own 0), v3], own := [Q, [.int 0]] } _) (padI ns) [] none (padI_lt hn) ⟨[], rfl, rfl, by decide⟩
  intro q
  induction q with
  | nil =>
    rintro Q v3 - ⟨out, rfl, ho, -⟩
    have e : out = texts ns := by rw [← ho]; simp [sgsN]
    subst e
    refine CL_bytesO H.ok (k := 0) (ns := texts ns) rfl (fun n h => (sgsN_in _ (padI_lt hn) n h).1) (by unfold texts; rw [sgsN_len]; omega) ⟨.inr ⟨Nat.zero_le _, by simp [lows_vI, V.lows, V.low]⟩, rfl⟩
  | cons n q ih =>
    rintro Q v3 hq ⟨out, rfl, ho, hl⟩
    have hn' := hq n (.head _)
    have ho' := congrArg List.length ho
    unfold texts at ho'
    rw [List.length_append, sgsN_len, sgsN_len, List.length_cons] at ho'
    have as : alph.size = 64 := rfl
    refine ⟨⟨by decide, by decide⟩, ?_⟩
    refine sub_bytes (b := alph) (i := (n : Int) / 64) (by omega) (by omega) (by decide) ?_
    refine ⟨by decide, ?_⟩
    refine sub_bytes (b := alph) (i := (n : Int) % 64) (by omega) (by omega) (by decide) ?_
    refine ⟨Nat.le_of_ble_eq_true rfl, ?_⟩
    refine O2_iaddO H.ok (k := 0) rfl .l (by simp [vI]; omega) ?_
    refine ⟨.inl rfl, ?_⟩
    exact ih _ _ (fun m h => hq m (.tail _ h)) ⟨out ++ signs2 n, (vI_app out (signs2 n)).symm, by rw [← ho, List.append_assoc]; rfl, by rw [List.length_append]; simp [signs2]; omega⟩
end
end Mine
namespace Mine
section
variable {w : World} {base : Heap} (B : Bs (g1 w base) I1)
include B
set_option maxHeartbeats 2000000 in
theorem F__law_less (n r : Nat) (hr : r < 12) : Fn (g1 w base) 182 1 [.str (nine n), .int (r : Int)] [] (fun X => X = .str (nine (clr (11 - r) n))) := by
  refine' fn_go 1 (bxs := [.str (nine n), .int (r : Int)]) (ps := ["nine", "right"]) (ls := ["spot", "taken"]) (gls := []) (names := ["nine", "right", "spot", "taken"]) (vars₀ := [some (.str (nine n)), some (.int (r : Int)), none, none]) (FnOk.of B.S.1 B.nl ?ho ?hcd ?hc) .nil (?hbd) rfl ?hlow rfl rfl ?hS ?hT (by decide)
  case ho => with_unfolding_all rfl
  case hcd => exact B.code 15 rfl
  case hc => decide +kernel
  case hbd => exact bind2 fun _ _ _ => BindsTo.of_eq rfl
  case hlow => first | rfl | simp [V.lows, V.low, low_vI, low_vS]
  case hS => exact fun A he G₀ outer L ok => SF.of (@SS.cons _ _ _ _ _ (@SX.assign _ _ _ _ _ _ (SE.ife (SB.cmp (SE.var ok 1 rfl) SE.cint rfl) (SE.bin (SE.var ok 1 rfl) SE.cint) (SE.bin (SE.bin SE.cint (SE.var ok 1 rfl)) SE.cint)) (SA.name ok 2 rfl) rfl rfl fun _ => rfl) (@SS.cons _ _ _ _ _ (@SX.assign _ _ _ _ _ _ (@SE.dictL _ ok _ _ _ [("r", "-"), ("w", "-"), ("x", "-"), ("s", "S"), ("t", "T")] _ (I__law_less B) (by decide) rfl (by decide +kernel) rfl rfl (List.cons_ne_nil _ _) (Nat.le_of_ble_eq_true rfl)) (SA.name ok 3 rfl) rfl rfl fun _ => rfl) (@SS.cons _ _ _ _ _ (@SX.ife _ _ _ _ _ _ _ _ (SB.cmp (SE.var ok 1 rfl) SE.cint rfl) (@SS.cons _ _ _ _ _ (@SX.assign _ _ _ _ _ _ (@SE.dictL _ ok _ _ _ [("s", "x"), ("S", "-"), ("t", "x"), ("T", "-")] _ (I__law_less B) (by decide) rfl (by decide +kernel) rfl rfl (List.cons_ne_nil _ _) (Nat.le_of_ble_eq_true rfl)) (SA.name ok 3 rfl) rfl rfl fun _ => rfl) SS.nil) SS.nil) (@SS.cons _ _ _ _ _ (SX.ret (SE.bin (SE.bin (SE.uptoS ok (SE.var ok 0 rfl) (SE.var ok 2 rfl)) (SE.meth "dict.get" (SE.var ok 3 rfl) (SL.cons (SE.sub (SE.var ok 0 rfl) (SE.var ok 2 rfl)) (SL.cons (SE.sub (SE.var ok 0 rfl) (SE.var ok 2 rfl)) SL.nil fun _ => rfl) fun _ => rfl) rfl (fun _ => rfl) (fun _ => rfl))) (SE.frmS ok (SE.var ok 0 rfl) (SE.bin (SE.var ok 2 rfl) SE.cint)))) SS.nil))))
  intro c H
  have hx := H.hx
  have hs : lessSpot r < 9 := by unfold lessSpot; split <;> omega
  have nl := nine_len n
  have ll := less_len n r hr
  have at_ : (nine n).cps[lessSpot r]? = some (ch n (lessSpot r + 1)) := by
    show (nineL n).toArray[lessSpot r]? = _
    rw [List.getElem?_toArray]; exact nineL_at n _ hs
  have fin := less_str n r hr
  refine cd (fun h => ?_) fun h => ?_
  · have h2 : 2 < r := by have := of_decide_eq_true h; omega
    have e : (r : Int) - 3 = ((lessSpot r : Nat) : Int) := by unfold lessSpot; rw [if_pos h2]; omega
    have et : lessTab r = takA := by unfold lessTab; rw [if_neg (by omega)]
    rw [et] at ll fin
    refine cd (fun h => absurd (of_decide_eq_true h) (by omega)) fun _ => ?_
    refine ⟨nine n, ((lessSpot r : Nat) : Int), rfl, congrArg V.int e, by omega, ?_⟩
    refine ⟨Mt_get, ?_⟩
    refine sub_str (i := (r : Int) - 3) (ch := ch n (lessSpot r + 1)) (by omega) (by omega) (by rw [e]; exact at_) ?_
    refine sub_str (i := (r : Int) - 3) (ch := ch n (lessSpot r + 1)) (by omega) (by omega) (by rw [e]; exact at_) ?_
    refine CL_dget rfl ?_
    refine O2_addS (Nat.le_trans ll.1 (by decide)) ?_
    refine ⟨nine n, ((lessSpot r + 1 : Nat) : Int), rfl, congrArg V.int (by omega), by omega, ?_⟩
    refine O2_addS (Nat.le_trans ll.2 (by decide)) ⟨.inl rfl, congrArg V.str fin⟩
  · have h2 : ¬ 2 < r := by have := of_decide_eq_false h; omega
    have e : 3 * (r : Int) + 2 = ((lessSpot r : Nat) : Int) := by unfold lessSpot; rw [if_neg h2]; omega
    have et : lessTab r = takB := by unfold lessTab; rw [if_pos (by omega)]
    rw [et] at ll fin
    refine ⟨by decide, ?_⟩
    refine cd (fun _ => ?_) fun h => absurd (of_decide_eq_false h) (by omega)
    refine ⟨nine n, ((lessSpot r : Nat) : Int), rfl, congrArg V.int e, by omega, ?_⟩
    refine ⟨Mt_get, ?_⟩
    refine sub_str (i := 3 * (r : Int) + 2) (ch := ch n (lessSpot r + 1)) (by omega) (by omega) (by rw [e]; exact at_) ?_
    refine sub_str (i := 3 * (r : Int) + 2) (ch := ch n (lessSpot r + 1)) (by omega) (by omega) (by rw [e]; exact at_) ?_
    refine CL_dget rfl ?_
    refine O2_addS (Nat.le_trans ll.1 (by decide)) ?_
    refine ⟨nine n, ((lessSpot r + 1 : Nat) : Int), rfl, congrArg V.int (by omega), by omega, ?_⟩
    refine O2_addS (Nat.le_trans ll.2 (by decide)) ⟨.inl rfl, congrArg V.str fin⟩
end
end Mine
namespace Mine
section
variable {w : World} {base : Heap} (B : Bs (g1 w base) I1)
include B
set_option maxHeartbeats 2000000 in
theorem F__law_nine (n : Nat) (hn : n < 4096) : Fn (g1 w base) 175 1 [.int (n : Int)] [] (fun X => X = .str (nine n)) := by
  refine' fn_go 1 (bxs := [.int (n : Int)]) (ps := ["number"]) (ls := ["nine", "spot", "above", "signs"]) (gls := [("range", .ty "range")]) (names := ["number", "nine", "spot", "above", "signs"]) (vars₀ := [some (.int (n : Int)), none, none, none, none]) (FnOk.of B.S.1 B.nl ?ho ?hcd ?hc) (.cons (G_range B) .nil) (?hbd) rfl ?hlow rfl rfl ?hS ?hT (by decide)
  case ho => with_unfolding_all rfl
  case hcd => exact B.code 14 rfl
  case hc => decide +kernel
  case hbd => exact bind1 fun _ _ => BindsTo.of_eq rfl
  case hlow => first | rfl | simp [V.lows, V.low, low_vI, low_vS]
  case hS => exact fun A he G₀ outer L ok => SF.of (@SS.cons _ _ _ _ _ (@SX.assign _ _ _ _ _ _ SE.cstr (SA.name ok 1 rfl) rfl rfl fun _ => rfl) (@SS.cons _ _ _ _ _ (SX.for_ ok rfl (SE.callT ok (SL.cons SE.cint SL.nil fun _ => rfl) (fun _ => rfl) 0 rfl (fun _ => rfl)) (SA.name ok 2 rfl) (@SS.cons _ _ _ _ _ (@SX.assign _ _ _ _ _ _ (SE.ife (SB.cmp (SE.bin (SE.var ok 2 rfl) SE.cint) SE.cint rfl) (SE.bin (SE.bin (SE.var ok 0 rfl) (SE.bin SE.cint (SE.bin SE.cint (SE.bin (SE.var ok 2 rfl) SE.cint)))) SE.cint) SE.cint) (SA.name ok 3 rfl) rfl rfl fun _ => rfl) (@SS.cons _ _ _ _ _ (@SX.assign _ _ _ _ _ _ (SE.sub (SE.tup ok (SL.cons (SE.bin SE.cstr (SE.sub SE.cstr (SE.bin (SE.var ok 2 rfl) SE.cint))) (SL.cons (SE.ife (SB.cmp (SE.var ok 2 rfl) SE.cint rfl) SE.cstr SE.cstr) SL.nil fun _ => rfl) fun _ => rfl)) (SE.var ok 3 rfl)) (SA.name ok 4 rfl) rfl rfl fun _ => rfl) (@SS.cons _ _ _ _ _ (SX.aug ok 1 rfl (SE.sub (SE.var ok 4 rfl) (SE.bin (SE.bin (SE.var ok 0 rfl) (SE.bin SE.cint (SE.bin SE.cint (SE.var ok 2 rfl)))) SE.cint))) SS.nil))) SS.nil fun _ => rfl) (@SS.cons _ _ _ _ _ (SX.ret (SE.var ok 1 rfl)) SS.nil)))
  intro c H
  have hx := H.hx
  refine CL_rng1 H.ok ?_
  refine ⟨_, Iter_rng H.ok (by decide) (by decide), ?_⟩
  rw [show rngItems 0 9 1 = _ from rng_items 0 9]
  refine (?H : ∀ (d k : Nat) (x : Str) (v2 v3 v4 : Option V), k + d = 9 → x = nineT n k → LoopT _ _ _ ((List.range' k d).map fun p => V.int (p : Nat)) { vars := [some (.int (n : Int)), some (.str x), v2, v3, v4], own := [] } _) 9 0 _ none none none rfl rfl
  intro d
  induction d with
  | zero =>
    rintro k x v2 v3 v4 hk rfl
    obtain rfl : k = 9 := by omega
    exact ⟨.inl rfl, congrArg V.str (nineT_end n)⟩
  | succ d ih =>
    rintro k x v2 v3 v4 hk rfl
    have hk9 : k < 9 := by omega
    have t1 := twoZ (m := (11 - (k : Int) / 3).toNat) (by omega)
    have t2 := twoZ (m := (8 - (k : Int)).toNat) (by omega)
    have nt := nineT_len n k
    have sa := signs_at n k hk9
    have z1 := bitZ n (11 - (k : Int) / 3).toNat
    have z2 := bitZ n (8 - (k : Int)).toNat
    rw [show (11 - (k : Int) / 3).toNat = 11 - k / 3 by omega] at z1
    rw [show (8 - (k : Int)).toNat = 8 - k by omega] at z2
    have b2 : (n.testBit (8 - k)).toNat ≤ 1 := by cases n.testBit (8 - k) <;> decide
    have last : ∀ (a : Bool) (x : Str), a = (decide (k % 3 = 2) && n.testBit (11 - k / 3)) → x = signsS k a → x.cps[((n : Int) / 2 ^ (8 - (k : Int)).toNat % 2).toNat]? = some (ch n (k + 1)) := by
      rintro a x rfl rfl
      rw [show (8 - (k : Int)).toNat = 8 - k by omega, z2, Int.toNat_natCast]
      exact sa
    refine ⟨by decide, ?_⟩
    refine cd (fun h => ⟨⟨by decide, by decide⟩, ⟨by omega, by omega, by decide⟩, t1, by decide, (?_ : tAName 3 c (V.int ((n : Int) / 2 ^ (11 - (k : Int) / 3).toNat % 2)) _ _)⟩) fun h => (?_ : tAName 3 c (V.int 0) _ _)
    case' refine_1 =>
      have h3 : k % 3 = 2 := by have : (k : Int) % 3 = 2 := by simpa using h
                                omega
      rw [show (11 - (k : Int) / 3).toNat = 11 - k / 3 by omega, z1]
      obtain ⟨a, ha⟩ : ∃ a, a = n.testBit (11 - k / 3) := ⟨_, rfl⟩
      have ea : a = (decide (k % 3 = 2) && n.testBit (11 - k / 3)) := by rw [← ha]; simp [h3]
      rw [← ha]
    case' refine_2 =>
      have h3 : ¬ k % 3 = 2 := by have : ¬ (k : Int) % 3 = 2 := by simpa using h
                                  omega
      obtain ⟨a, ha⟩ : ∃ a, a = false := ⟨_, rfl⟩
      have ea : a = (decide (k % 3 = 2) && n.testBit (11 - k / 3)) := by rw [ha]; simp [h3]
      refine Eq.mp (congrArg (fun z : Int => tAName 3 c (V.int z) _ _) (show ((a.toNat : Nat) : Int) = 0 by rw [ha]; rfl)) ?_
    all_goals
      have an : a.toNat ≤ 1 := by cases a <;> decide
      refine ⟨by decide, ?_⟩
      refine sub_str (i := (k : Int) % 3) (ch := rwxC k) (by omega) (by omega) (rwx_at k) ?_
      refine O2_addS (Nat.le_of_ble_eq_true rfl) ?_
      refine cd (fun h8 => ?_) fun h8 => ?_
      all_goals
        first
          | have e8 : k = 8 := by have : (k : Int) = 8 := by simpa using h8
                                  omega
            have es : signsS k a = cond a ("Tt" : Str) (("-" : Str) ++ one (rwxC k)) := by unfold signsS; rw [if_pos e8]
          | have e8 : ¬ k = 8 := by have : ¬ (k : Int) = 8 := by simpa using h8
                                    omega
            have es : signsS k a = cond a ("Ss" : Str) (("-" : Str) ++ one (rwxC k)) := by unfold signsS; rw [if_neg e8]
        refine ⟨Nat.le_of_ble_eq_true rfl, ?_⟩
        refine sub_tup (i := ((a.toNat : Nat) : Int)) (x := .str (signsS k a)) (by omega) (by rw [es]; cases a <;> rfl) (by omega) ?_
        refine ⟨⟨by omega, by omega, by decide⟩, t2, by decide, ?_⟩
        refine sub_str (i := (n : Int) / 2 ^ (8 - (k : Int)).toNat % 2) (ch := ch n (k + 1)) (by omega) (by omega) (last a _ ea rfl) ?_
        refine O2_iaddS (Nat.le_trans (Nat.add_le_add_right nt 1) (by decide)) ?_
        refine ⟨.inl rfl, ?_⟩
        exact ih (k + 1) _ _ _ _ (by omega) (nineT_next n k hk9)
end
end Mine
namespace Mine
section
variable {w : World} {base : Heap} (B : Bs (g1 w base) I1)
include B
set_option maxHeartbeats 2000000 in
theorem F__law_files (ns : List Int) (hz : ns.length ≤ 100) : Fn (g1 w base) 168 2 [.list (vI ns)] [] (fun X => X = .list (vI (filesFrom ns [35309, 8684, 16841]))) := by
  refine' fn_go 2 (bxs := [.list (vI ns)]) (ps := ["numbers"]) (ls := ["files", "mode"]) (gls := [("S_IMODE", .fn 28)]) (names := ["numbers", "files", "mode"]) (vars₀ := [some (.list (vI ns)), none, none]) (FnOk.of B.S.1 B.nl ?ho ?hcd ?hc) (.cons (G_S_IMODE B) .nil) (?hbd) rfl ?hlow rfl rfl ?hS ?hT (by decide)
  case ho => with_unfolding_all rfl
  case hcd => exact B.code 13 rfl
  case hc => decide +kernel
  case hbd => exact bind1 fun _ _ => BindsTo.of_eq rfl
  case hlow => first | rfl | simp [V.lows, V.low, low_vI, low_vS]
  case hS => exact fun A he G₀ outer L ok => SF.of (@SS.cons _ _ _ _ _ (@SX.assign _ _ _ _ _ _ (SE.own ok (SL.cons SE.cint (SL.cons SE.cint (SL.cons SE.cint SL.nil fun _ => rfl) fun _ => rfl) fun _ => rfl)) (SA.name ok 1 rfl) rfl rfl fun _ => rfl) (@SS.cons _ _ _ _ _ (SX.for_ ok rfl (SE.var ok 0 rfl) (SA.name ok 2 rfl) (@SS.cons _ _ _ _ _ (@SX.ife _ _ _ _ _ _ _ _ (SB.cmp (SE.callF ok (SL.cons (SE.var ok 2 rfl) SL.nil fun _ => rfl) (fun _ => rfl) 0 rfl (I_S_IMODE B)) (SE.cmpr ok rfl ["other"] [("S_IMODE", .fn 28)] (.cons (G_S_IMODE B) .nil) [] (SE.var ok 1 rfl) (fun vs0 he G₀ C ok => ⟨(SA.name ok 0 rfl), SIF.nil, (SE.callF ok (SL.cons (SE.var ok 0 rfl) SL.nil fun _ => rfl) (fun _ => rfl) 0 rfl (I_S_IMODE B))⟩) rfl trivial (by decide +kernel) (fun _ => rfl)) rfl) (@SS.cons _ _ _ _ _ (SX.expr (SE.meth "list.append" (SE.var ok 1 rfl) (SL.cons (SE.var ok 2 rfl) SL.nil fun _ => rfl) rfl (fun _ => rfl) (fun _ => rfl)) rfl rfl) SS.nil) SS.nil) SS.nil) SS.nil fun _ => rfl) (@SS.cons _ _ _ _ _ (SX.ret (SE.var ok 1 rfl)) SS.nil)))
  intro c H
  have hx := H.hx
  refine ⟨Nat.le_of_ble_eq_true rfl, ?_⟩
  refine ⟨_, Iter_list H.ok, ?_⟩
  refine (?H : ∀ (q f : List Int) (F : List V) (v2 : Option V), f.length + q.length ≤ 200 → F = vI f → filesFrom q f = filesFrom ns [35309, 8684, 16841] → LoopT _ _ _ (vI q) { vars := [some (.list (vI ns)), some (.own 0), v2], own := [F] } _) ns [35309, 8684, 16841] _ none (by simp; omega) rfl rfl
  intro q
  induction q with
  | nil =>
    rintro f F v2 hf rfl e
    refine ⟨.inr ⟨Nat.zero_le _, by simp [lows_vI]⟩, ?_⟩
    rw [← e]; rfl
  | cons v q ih =>
    rintro f F v2 hf rfl e
    simp only [List.length_cons] at hf
    refine CLf H (F_S_IMODE B v) ?_
    rintro _ rfl
    refine ⟨vI f, IterC_own H.ok (k := 0) rfl (lows_vI 0 f), fun c' ok' hg hA hE hx' => ?_⟩
    refine CompT.mapI V.int (fun x => .int (Builtin.bitAnd x 4095)) f _ (fun x hx ys P hP => CLf (H.comp ok' hg hA hE hx') (F_S_IMODE B x) fun _ e => e ▸ hP) (by omega) (by have := lows_vI 0 (f.map (Builtin.bitAnd · 4095)); simpa [vI, List.map_map, Function.comp_def] using this) fun zs ez => ?_
    obtain rfl : zs = vI (f.map (Builtin.bitAnd · 4095)) := by rw [ez]; simp [vI, List.map_map, Function.comp_def]
    refine O2_notInI .l ?_
    refine cd (fun hm => ?_) fun hm => ?_
    · refine ⟨Mt_append (k := 0) rfl, ?_⟩
      refine CL_append H.ok (k := 0) rfl (by simp only [vI, List.length_map]; omega) ⟨rfl, .inl rfl, ?_⟩
      have ea : addTo f v = f ++ [v] := if_neg (by simpa using hm)
      exact ih (f ++ [v]) _ _ (by simp; omega) (vI_snoc _ _) (by rw [← e]; show _ = filesFrom q (addTo f v); rw [ea])
    · refine ⟨.inl rfl, ?_⟩
      have ea : addTo f v = f := if_pos (by simpa using hm)
      exact ih f _ _ (by omega) rfl (by rw [← e]; show _ = filesFrom q (addTo f v); rw [ea])
set_option maxHeartbeats 2000000 in
theorem F__law_octets (ns : List Nat) (hn : ∀ n ∈ ns, n < 4096) (hz : ns.length ≤ 10) : Fn (g1 w base) 215 1 [.list (vI (iN ns))] [] (fun X => X = .bytes (byteArr (bys (padI ns)))) := by
  refine' fn_go 1 (bxs := [.list (vI (iN ns))]) (ps := ["numbers"]) (ls := ["full", "octets", "k", "value"]) (gls := [("len", .bi "len"), ("range", .ty "range"), ("bytes", .ty "bytes")]) (names := ["numbers", "full", "octets", "k", "value"]) (vars₀ := [some (.list (vI (iN ns))), none, none, none, none]) (FnOk.of B.S.1 B.nl ?ho ?hcd ?hc) (.cons (G_len B) (.cons (G_range B) (.cons (G_bytes B) .nil))) (?hbd) rfl ?hlow rfl rfl ?hS ?hT (by decide)
  case ho => with_unfolding_all rfl
  case hcd => exact B.code 20 rfl
  case hc => decide +kernel
  case hbd => exact bind1 fun _ _ => BindsTo.of_eq rfl
  case hlow => first | rfl | simp [V.lows, V.low, low_vI, low_vS]
  case hS => exact fun A he G₀ outer L ok => SF.of (@SS.cons _ _ _ _ _ (SX.swap2 ok 1 2 (SE.tup ok (SL.cons (SE.bin (SE.var ok 0 rfl) (SE.bin (SE.own ok (SL.cons SE.cint SL.nil fun _ => rfl)) (SE.bin (SE.callB ok (SL.cons (SE.var ok 0 rfl) SL.nil fun _ => rfl) (fun _ => rfl) 0 rfl (fun _ => rfl)) SE.cint))) (SL.cons (SE.own ok SL.nil) SL.nil fun _ => rfl) fun _ => rfl)) rfl rfl rfl rfl) (@SS.cons _ _ _ _ _ (SX.for_ ok rfl (SE.callT ok (SL.cons SE.cint (SL.cons (SE.callB ok (SL.cons (SE.var ok 1 rfl) SL.nil fun _ => rfl) (fun _ => rfl) 0 rfl (fun _ => rfl)) (SL.cons SE.cint SL.nil fun _ => rfl) fun _ => rfl) fun _ => rfl) (fun _ => rfl) 1 rfl (fun _ => rfl)) (SA.name ok 3 rfl) (@SS.cons _ _ _ _ _ (@SX.assign _ _ _ _ _ _ (SE.bin (SE.bin (SE.sub (SE.var ok 1 rfl) (SE.var ok 3 rfl)) SE.cint) (SE.sub (SE.var ok 1 rfl) (SE.bin (SE.var ok 3 rfl) SE.cint))) (SA.name ok 4 rfl) rfl rfl fun _ => rfl) (@SS.cons _ _ _ _ _ (SX.aug ok 2 rfl (SE.lst ok (SL.cons (SE.bin (SE.var ok 4 rfl) SE.cint) (SL.cons (SE.bin (SE.bin (SE.var ok 4 rfl) SE.cint) SE.cint) (SL.cons (SE.bin (SE.var ok 4 rfl) SE.cint) SL.nil fun _ => rfl) fun _ => rfl) fun _ => rfl))) SS.nil)) SS.nil fun _ => rfl) (@SS.cons _ _ _ _ _ (SX.ret (SE.callT ok (SL.cons (SE.var ok 2 rfl) SL.nil fun _ => rfl) (fun _ => rfl) 2 rfl (fun _ => rfl))) SS.nil)))
  intro c H
  have hx := H.hx
  refine ⟨Nat.le_of_ble_eq_true rfl, ?_⟩
  refine CL_lenL (xs := vI (iN ns)) (by simp [vI, iN]; omega) ?_
  refine ⟨by decide, ?_⟩
  refine O2_mulO H.ok (k := 0) (xs := [V.int 0]) rfl (by omega) (by omega) (by decide) (by simp) ?_
  have el : (List.replicate ((((vI (iN ns)).length : Nat) : Int) % 2).toNat [V.int 0]).flatten = vI (iN (List.replicate (ns.length % 2) 0)) := by
    rw [show (vI (iN ns)).length = ns.length by simp [vI, iN], show ((ns.length : Int) % 2).toNat = ns.length % 2 by omega]
    have : ns.length % 2 = 0 ∨ ns.length % 2 = 1 := by omega
    rcases this with e | e <;> rw [e] <;> rfl
  rw [el]
  refine O2_addL H.ok .l .l (by simp [vI, iN]; omega) ?_
  rw [← vI_app, ← iN_app]
  have lp := padI_len ns
  have pe := padI_even ns
  have pl := padI_lt hn
  obtain ⟨l, hl⟩ : ∃ l, l = padI ns := ⟨_, rfl⟩
  rw [← hl] at lp pe pl ⊢
  rw [show ns ++ List.replicate (ns.length % 2) 0 = l from hl.symm]
  clear hl
  refine ⟨Nat.le_of_ble_eq_true rfl, Nat.le_of_ble_eq_true rfl, _, _, rfl, ?_⟩
  refine CL_lenL (xs := vI (iN l)) (by simp [vI, iN]; omega) ?_
  refine CL_rng3 H.ok (by decide) (by decide) ?_
  have e2 : (((vI (iN l)).length : Nat) : Int) = ((2 * (l.length / 2) : Nat) : Int) := by simp only [vI, iN, List.length_map]; omega
  rw [e2]
  refine ⟨_, Iter_rng H.ok (small2 _ (by omega)) (by unfold Builtin.Range.rangeSize; split <;> omega), ?_⟩
  rw [rng_items2, List.range_eq_range']
  refine (?H : ∀ (d k : Nat) (p q : List Nat) (Q : List V) (v3 v4 : Option V), k + d = l.length / 2 → p.length = 2 * k → p ++ q = l → Q = vI (bys p) → LoopT _ _ _ ((List.range' k d).map fun (k : Nat) => V.int ((2 * k : Nat) : Int)) { vars := [some (.list (vI (iN ns))), some (.list (vI (iN l))), some (.own 1), v3, v4], own := [[.int 0], Q] } _) (l.length / 2) 0 [] l [] none none (by omega) rfl rfl rfl
  intro d
  induction d with
  | zero =>
    rintro k p q Q v3 v4 hk hp e rfl
    have e2 := congrArg List.length e
    rw [List.length_append] at e2
    obtain rfl : q = [] := List.length_eq_zero_iff.mp (by omega)
    rw [List.append_nil] at e
    subst e
    refine CL_bytesO H.ok (k := 1) (ns := bys p) rfl (bys_in p pl) (by rw [bys_len]; omega) ⟨.inr ⟨Nat.zero_le _, by simp [lows_vI, V.lows, V.low]⟩, rfl⟩
  | succ d ih =>
    rintro k p q Q v3 v4 hk hp e rfl
    have e2 := congrArg List.length e
    rw [List.length_append] at e2
    obtain ⟨x, y, r, rfl⟩ : ∃ x y r, q = x :: y :: r := by
      match q, e2 with
      | [], e2 => simp at e2; omega
      | [a], e2 => simp at e2; omega
      | x :: y :: r, _ => exact ⟨x, y, r, rfl⟩
    have hx4 : x < 4096 := pl x (by rw [← e]; simp)
    have hy4 : y < 4096 := pl y (by rw [← e]; simp)
    have b0 := nat12 hx4
    have b1 := nat12 hy4
    have ax : (vI (iN l))[(((2 * k : Nat) : Int)).toNat]? = some (V.int (x : Int)) := by
      rw [← e, Int.toNat_natCast, vI_iN, List.getElem?_map, List.getElem?_append_right (by omega), hp, Nat.sub_self]; rfl
    have ay : (vI (iN l))[(((2 * k : Nat) : Int) + 1).toNat]? = some (V.int (y : Int)) := by
      rw [← e, show (((2 * k : Nat) : Int) + 1).toNat = 2 * k + 1 by omega, vI_iN, List.getElem?_map, List.getElem?_append_right (by omega), hp, show 2 * k + 1 - 2 * k = 1 by omega]; rfl
    refine sub_listL (i := ((2 * k : Nat) : Int)) (by omega) ax (by omega) ?_
    refine ⟨by omega, ?_⟩
    refine sub_listL (i := ((2 * k : Nat) : Int) + 1) (by omega) ay (by omega) ?_
    refine ⟨⟨by decide, by decide⟩, ⟨by decide, by decide⟩, by decide, by decide, Nat.le_of_ble_eq_true rfl, ?_⟩
    have hb := bys_len p
    refine O2_iaddO H.ok (k := 1) rfl .l (by simp [vI]; omega) ?_
    refine ⟨.inl rfl, ?_⟩
    refine ih (k + 1) (p ++ [x, y]) r _ _ _ (by omega) (by simp; omega) (by simpa using e) ?_
    show vI (bys p) ++ vI (octs x y) = _
    rw [bys_app p _ (by omega), vI_app]; rfl
end
end Mine
set_option linter.unusedSimpArgs false
namespace Mine
theorem low_chg {l : List (Str × Nat × Nat)} : V.lows 0 [.list (l.map fun p => V.str p.1), .list (l.map fun p => V.int (p.2.1 : Nat)), .list (l.map fun p => V.int (p.2.2 : Nat))] = true := by
  simp only [V.lows, V.low, Bool.and_true, Bool.and_eq_true]
  exact ⟨lows_map 0 _ (fun _ => rfl) l, lows_map 0 _ (fun _ => rfl) l, lows_map 0 _ (fun _ => rfl) l⟩
theorem rw_next (f : Nat → V) (k : Nat) : (List.range k).map f ++ [f k] = (List.range (k + 1)).map f := by rw [List.range_succ, List.map_append]; rfl
theorem next_own (f : Nat → V) (k : Nat) (l : List (List V)) (h : ∀ i, V.fz 1 l (f i) = f i) (x : V) (hx : V.fz 1 l x = f (k + 1)) : V.fzs 1 l ((List.range k).map f ++ [f k] ++ [x]) = (List.range (k + 1)).map f ++ [f (k + 1)] := by
  rw [rw_next, fzs_app, fzs_map 1 l f h, ← hx]; rfl
section
variable {w : World} {base : Heap} (B : Bs (g1 w base) I1)
include B
set_option maxHeartbeats 2000000 in
theorem F__law_changed (l : List (Str × Nat × Nat)) (hz : l.length ≤ 50) : Fn (g1 w base) 201 1 [.list (l.map fun p => V.str p.1), .list (l.map fun p => V.int (p.2.1 : Nat)), .list (l.map fun p => V.int (p.2.2 : Nat))] [] (fun X => ∃ ms, X = .list (vS ms) ∧ ms.Perm ((l.filter fun p => p.2.1 != p.2.2).map (·.1)) ∧ sortedS ms = true) := by
  refine' fn_go 1 (bxs := [.list (l.map fun p => V.str p.1), .list (l.map fun p => V.int (p.2.1 : Nat)), .list (l.map fun p => V.int (p.2.2 : Nat))]) (ps := ["nines", "earlier", "later"]) (ls := []) (gls := [("sorted", .bi "sorted"), ("zip", .ty "zip")]) (names := ["nines", "earlier", "later"]) (vars₀ := [some (.list (l.map fun p => V.str p.1)), some (.list (l.map fun p => V.int (p.2.1 : Nat))), some (.list (l.map fun p => V.int (p.2.2 : Nat)))]) (FnOk.of B.S.1 B.nl ?ho ?hcd ?hc) (.cons (G_sorted B) (.cons (G_zip B) .nil)) (?hbd) rfl ?hlow rfl rfl ?hS ?hT (by decide)
  case ho => with_unfolding_all rfl
  case hcd => exact B.code 18 rfl
  case hc => decide +kernel
  case hbd => exact bind3 fun _ _ _ _ => BindsTo.of_eq rfl
  case hlow => exact low_chg
  case hS => exact fun A he G₀ outer L ok => SF.of (@SS.cons _ _ _ _ _ (SX.ret (SE.callB ok (SL.cons (SE.cmprT ok rfl ["nine", "old", "new"] [] .nil [] 1 rfl (SL.cons (SE.var ok 0 rfl) (SL.cons (SE.var ok 1 rfl) (SL.cons (SE.var ok 2 rfl) SL.nil fun _ => rfl) fun _ => rfl) fun _ => rfl) (fun vs0 he G₀ C ok => ⟨(SAL.cons (SA.name ok 0 rfl) (SAL.cons (SA.name ok 1 rfl) (SAL.cons (SA.name ok 2 rfl) SAL.nil fun _ => rfl) fun _ => rfl) fun _ => rfl), (SIF.one (SB.cmp (SE.var ok 1 rfl) (SE.var ok 2 rfl) rfl)), (SE.var ok 0 rfl)⟩) rfl trivial (by decide +kernel) (fun _ => rfl) (fun _ => rfl) (fun _ => rfl) (fun _ => rfl) (fun _ => rfl)) SL.nil fun _ => rfl) (fun _ => rfl) 0 rfl (fun _ => rfl))) SS.nil)
  intro c H
  have hx := H.hx
  refine ⟨_, IterT_zip3 H.ok (fun p : Str × Nat × Nat => V.str p.1) (fun p => V.int (p.2.1 : Nat)) (fun p => V.int (p.2.2 : Nat)) l, ?_, fun c' ok' hg hA hE hx' => ?_⟩
  · rw [List.all_map, List.all_eq_true]; exact fun x _ => rfl
  rw [List.map_map]
  refine CompT.fm3 _ (fun p : Str × Nat × Nat => V.str p.1) (fun p : Str × Nat × Nat => V.str p.1) (fun p => V.int (p.2.1 : Nat)) (fun p => V.int (p.2.2 : Nat)) (fun p => p.2.1 != p.2.2) l _ _ _ (fun x hx a b d ys K hK => ⟨_, rfl, rfl, hK⟩) (fun x hx ys P hP => ?_) (fun x hx ys P hP => hP) (by omega) (lows_map 0 _ (fun _ => rfl) _) fun zs ez => ?_
  · have e : ((x.2.1 : Int) != (x.2.2 : Int)) = (x.2.1 != x.2.2) := by
      rw [Bool.eq_iff_iff, bne_iff_ne, bne_iff_ne]; omega
    rw [← e] at hP
    exact hP
  obtain rfl : zs = vS ((l.filter fun p => p.2.1 != p.2.2).map (·.1)) := by rw [ez]; simp [vS, List.map_map, Function.comp_def]
  have lf := List.length_filter_le (fun p : Str × Nat × Nat => p.2.1 != p.2.2) l
  refine CL_sortedS H.ok (by rw [List.length_map]; omega) fun ms h1 h2 => ?_
  exact ⟨.inl rfl, ms, rfl, h1, h2⟩
set_option maxHeartbeats 2000000 in
theorem F__law_rows (F : List Nat) (hF : ∀ n ∈ F, n < 4096) (hz : F.length ≤ 10) : Fn (g1 w base) 196 1 [.list (vI (iN F))] [] (fun X => X = .list ((List.range 13).map (rwV F))) := by
  refine' fn_go 1 (bxs := [.list (vI (iN F))]) (ps := ["numbers"]) (ls := ["rows", "right", "worth", "after", "number", "fewer"]) (gls := [("range", .ty "range")]) (names := ["numbers", "rows", "right", "worth", "after", "number", "fewer"]) (vars₀ := [some (.list (vI (iN F))), none, none, none, none, none, none]) (FnOk.of B.S.1 B.nl ?ho ?hcd ?hc) (.cons (G_range B) .nil) (?hbd) rfl ?hlow rfl rfl ?hS ?hT (by decide)
  case ho => with_unfolding_all rfl
  case hcd => exact B.code 17 rfl
  case hc => decide +kernel
  case hbd => exact bind1 fun _ _ => BindsTo.of_eq rfl
  case hlow => first | rfl | simp [V.lows, V.low, low_vI, low_vS]
  case hS => exact fun A he G₀ outer L ok => SF.of (@SS.cons _ _ _ _ _ (@SX.assign _ _ _ _ _ _ (SE.own ok (SL.cons (SE.var ok 0 rfl) SL.nil fun _ => rfl)) (SA.name ok 1 rfl) rfl rfl fun _ => rfl) (@SS.cons _ _ _ _ _ (SX.for_ ok rfl (SE.callT ok (SL.cons SE.cint SL.nil fun _ => rfl) (fun _ => rfl) 0 rfl (fun _ => rfl)) (SA.name ok 2 rfl) (@SS.cons _ _ _ _ _ (SX.swap2 ok 3 4 (SE.tup ok (SL.cons (SE.bin SE.cint (SE.bin SE.cint (SE.var ok 2 rfl))) (SL.cons (SE.own ok SL.nil) SL.nil fun _ => rfl) fun _ => rfl)) rfl rfl rfl rfl) (@SS.cons _ _ _ _ _ (SX.for_ ok rfl (SE.sub (SE.var ok 1 rfl) (SE.neg SE.cint)) (SA.name ok 5 rfl) (@SS.cons _ _ _ _ _ (@SX.assign _ _ _ _ _ _ (SE.bin (SE.var ok 5 rfl) (SE.bin (SE.bin (SE.bin (SE.var ok 5 rfl) (SE.var ok 3 rfl)) SE.cint) (SE.var ok 3 rfl))) (SA.name ok 6 rfl) rfl rfl fun _ => rfl) (@SS.cons _ _ _ _ _ (SX.expr (SE.meth "list.append" (SE.var ok 4 rfl) (SL.cons (SE.ife (SB.cmp (SE.var ok 6 rfl) (SE.sub (SE.var ok 1 rfl) (SE.neg SE.cint)) rfl) (SE.var ok 5 rfl) (SE.var ok 6 rfl)) SL.nil fun _ => rfl) rfl (fun _ => rfl) (fun _ => rfl)) rfl rfl) SS.nil)) SS.nil fun _ => rfl) (@SS.cons _ _ _ _ _ (SX.expr (SE.meth "list.append" (SE.var ok 1 rfl) (SL.cons (SE.var ok 4 rfl) SL.nil fun _ => rfl) rfl (fun _ => rfl) (fun _ => rfl)) rfl rfl) SS.nil))) SS.nil fun _ => rfl) (@SS.cons _ _ _ _ _ (SX.ret (SE.var ok 1 rfl)) SS.nil)))
  intro c H
  have hx := H.hx
  refine ⟨Nat.le_of_ble_eq_true rfl, ?_⟩
  refine CL_rng1 H.ok ?_
  refine ⟨_, Iter_rng H.ok (by decide) (by decide), ?_⟩
  rw [show rngItems 0 12 1 = _ from rng_items 0 12]
  refine (?H : ∀ (d k : Nat) (Q : List V) (v0 v2 v3 v4 v5 v6 : Option V), k + d = 12 → Q = (List.range k).map (rwV F) ++ [rwV F k] → LoopT _ _ _ ((List.range' k d).map fun p => V.int (p : Nat)) { vars := [v0, some (.own 0), v2, v3, v4, v5, v6], own := [Q] } _) 12 0 _ _ none none none none none rfl rfl
  intro d
  induction d with
  | zero =>
    rintro k Q v0 v2 v3 v4 v5 v6 hk rfl
    obtain rfl : k = 12 := by omega
    rw [rw_next]
    exact ⟨.inr ⟨Nat.zero_le _, by simp [lows_map 0 (rwV F) (low_rwV 0 F)]⟩, rfl⟩
  | succ d ih =>
    rintro k Q v0 v2 v3 v4 v5 v6 hk rfl
    have lG := down_len F k
    have gG := down_lt hF k
    have eG : down F (k + 1) = comp (11 - k) (down F k) := rfl
    have er : rwV F k = .list (vI (iN (down F k))) := rfl
    have nxt := next_own (rwV F) k
    have fz_ := fun l i => fz_rwV 1 l F i
    have en : rwV F (k + 1) = .list (vI (iN (comp (11 - k) (down F k)))) := rfl
    rw [er] at nxt ⊢
    have lQ : ((List.range k).map (rwV F)).length = k := by simp
    generalize (List.range k).map (rwV F) = pre at lQ nxt ⊢
    generalize down F k = G at lG gG nxt en ⊢
    have t1 := twoZ (m := (11 - (k : Int)).toNat) (by omega)
    have et : (11 - (k : Int)).toNat = 11 - k := by omega
    refine ⟨⟨by omega, by omega, by decide⟩, Nat.le_of_ble_eq_true rfl, Nat.le_of_ble_eq_true rfl, _, _, rfl, ?_⟩
    refine ⟨1, rfl, ?_⟩
    refine sub_ownLast (k := 0) (xs := pre) (x := .list (vI (iN G))) rfl (by omega) ?_
    refine ⟨_, Iter_list H.ok, ?_⟩
    refine (?H2 : ∀ (q a : List Nat) (A : List V) (v5 v6 : Option V), a.length + q.length ≤ 20 → (∀ x ∈ q, x ∈ G) → A = vI (iN a) → a ++ q.map (img (11 - k) G) = comp (11 - k) G → LoopT _ _ _ (vI (iN q)) { vars := [v0, some (.own 0), some (.int (k : Nat)), some (.int (2 ^ (11 - (k : Int)).toNat)), some (.own 1), v5, v6], own := [pre ++ [.list (vI (iN G))], A] } _) G [] [] _ _ (by simp; omega) (fun _ h => h) rfl rfl
    intro q
    induction q with
    | nil =>
      rintro a A v5 v6 hl - rfl ha
      obtain rfl : a = comp (11 - k) G := by rw [← ha]; simp
      refine ⟨Mt_append (k := 0) rfl, ?_⟩
      refine CL_append H.ok (k := 0) rfl (by simp; omega) ⟨rfl, .inr ⟨Nat.le_of_ble_eq_true rfl, by simp [low_vI]⟩, ?_⟩
      exact ih (k + 1) _ _ _ _ _ _ _ (by omega) (nxt [vI (iN (comp (11 - k) G))] (fz_ _) (.own 1) en.symm)
    | cons x q ihq =>
      rintro a A v5 v6 hl hq rfl ha
      have hx4 := gG x (hq x (.head _))
      rw [List.length_cons] at hl
      have cz := clrZ x (11 - k)
      have m2 : ((x : Int) / 2 ^ (11 - (k : Int)).toNat % 2).natAbs < 2 ^ 64 := by rw [et, bitZ]; cases x.testBit (11 - k) <;> decide
      have hi := img_eq (11 - k) G x
      refine ⟨t1, by decide, m2, ?_⟩
      refine Eq.mp (congrArg (fun z : Int => tAName 6 c (V.int z) _ _) (show ((clr (11 - k) x : Nat) : Int) = (x : Int) - (x : Int) / 2 ^ (11 - (k : Int)).toNat % 2 * 2 ^ (11 - (k : Int)).toNat by rw [et, cz])) ?_
      refine ⟨Mt_append (k := 1) rfl, ?_⟩
      refine ⟨1, rfl, ?_⟩
      refine sub_ownLast (k := 0) (xs := pre) (x := .list (vI (iN G))) rfl (by omega) ?_
      refine O2_inI (ns := iN G) .l ?_
      rw [hasI]
      refine cd (fun hm => ?_) fun hm => ?_
      all_goals
        rw [hm] at hi
        refine CL_append H.ok (k := 1) rfl (by simp [vI, iN]; omega) ⟨rfl, .inl rfl, ?_⟩
        exact ihq (a ++ [_]) _ _ _ (by simp; omega) (fun y hy => hq y (.tail _ hy)) (by rw [iN_app, vI_app]; rfl) (by rw [List.append_assoc, ← ha, List.map_cons, hi]; rfl)
end
end Mine
namespace Mine
theorem snocS (a : List Nat) (y : Nat) : vS (a.map nine) ++ [V.str (nine y)] = vS ((a ++ [y]).map nine) := by simp [vS]
section
variable {w : World} {base : Heap} (B : Bs (g1 w base) I1)
include B
set_option maxHeartbeats 2000000 in
theorem F__law_folders (F : List Nat) (hF : ∀ n ∈ F, n < 4096) (hz : F.length ≤ 10) : Fn (g1 w base) 189 2 [.list (vS (F.map nine))] [] (fun X => X = .list ((List.range 13).map (fdV F))) := by
  refine' fn_go 2 (bxs := [.list (vS (F.map nine))]) (ps := ["folder"]) (ls := ["folders", "right", "after", "nine", "fewer"]) (gls := [("range", .ty "range"), ("_law_less", .fn 182)]) (names := ["folder", "folders", "right", "after", "nine", "fewer"]) (vars₀ := [some (.list (vS (F.map nine))), none, none, none, none, none]) (FnOk.of B.S.1 B.nl ?ho ?hcd ?hc) (.cons (G_range B) (.cons (G__law_less B) .nil)) (?hbd) rfl ?hlow rfl rfl ?hS ?hT (by decide)
  case ho => with_unfolding_all rfl
  case hcd => exact B.code 16 rfl
  case hc => decide +kernel
  case hbd => exact bind1 fun _ _ => BindsTo.of_eq rfl
  case hlow => first | rfl | simp [V.lows, V.low, low_vI, low_vS]
  case hS => exact fun A he G₀ outer L ok => SF.of (@SS.cons _ _ _ _ _ (@SX.assign _ _ _ _ _ _ (SE.own ok (SL.cons (SE.var ok 0 rfl) SL.nil fun _ => rfl)) (SA.name ok 1 rfl) rfl rfl fun _ => rfl) (@SS.cons _ _ _ _ _ (SX.for_ ok rfl (SE.callT ok (SL.cons SE.cint SL.nil fun _ => rfl) (fun _ => rfl) 0 rfl (fun _ => rfl)) (SA.name ok 2 rfl) (@SS.cons _ _ _ _ _ (@SX.assign _ _ _ _ _ _ (SE.own ok SL.nil) (SA.name ok 3 rfl) rfl rfl fun _ => rfl) (@SS.cons _ _ _ _ _ (SX.for_ ok rfl (SE.sub (SE.var ok 1 rfl) (SE.neg SE.cint)) (SA.name ok 4 rfl) (@SS.cons _ _ _ _ _ (@SX.assign _ _ _ _ _ _ (SE.callF ok (SL.cons (SE.var ok 4 rfl) (SL.cons (SE.var ok 2 rfl) SL.nil fun _ => rfl) fun _ => rfl) (fun _ => rfl) 1 rfl (I__law_less B)) (SA.name ok 5 rfl) rfl rfl fun _ => rfl) (@SS.cons _ _ _ _ _ (SX.expr (SE.meth "list.append" (SE.var ok 3 rfl) (SL.cons (SE.ife (SB.cmp (SE.var ok 5 rfl) (SE.sub (SE.var ok 1 rfl) (SE.neg SE.cint)) rfl) (SE.var ok 4 rfl) (SE.var ok 5 rfl)) SL.nil fun _ => rfl) rfl (fun _ => rfl) (fun _ => rfl)) rfl rfl) SS.nil)) SS.nil fun _ => rfl) (@SS.cons _ _ _ _ _ (SX.expr (SE.meth "list.append" (SE.var ok 1 rfl) (SL.cons (SE.var ok 3 rfl) SL.nil fun _ => rfl) rfl (fun _ => rfl) (fun _ => rfl)) rfl rfl) SS.nil))) SS.nil fun _ => rfl) (@SS.cons _ _ _ _ _ (SX.ret (SE.var ok 1 rfl)) SS.nil)))
  intro c H
  have hx := H.hx
  refine ⟨Nat.le_of_ble_eq_true rfl, ?_⟩
  refine CL_rng1 H.ok ?_
  refine ⟨_, Iter_rng H.ok (by decide) (by decide), ?_⟩
  rw [show rngItems 0 12 1 = _ from rng_items 0 12]
  refine (?H : ∀ (d k : Nat) (Q : List V) (v0 v2 v3 v4 v5 : Option V), k + d = 12 → Q = (List.range k).map (fdV F) ++ [fdV F k] → LoopT _ _ _ ((List.range' k d).map fun p => V.int (p : Nat)) { vars := [v0, some (.own 0), v2, v3, v4, v5], own := [Q] } _) 12 0 _ _ none none none none rfl rfl
  intro d
  induction d with
  | zero =>
    rintro k Q v0 v2 v3 v4 v5 hk rfl
    obtain rfl : k = 12 := by omega
    rw [rw_next]
    exact ⟨.inr ⟨Nat.zero_le _, by simp [lows_map 0 (fdV F) (low_fdV 0 F)]⟩, rfl⟩
  | succ d ih =>
    rintro k Q v0 v2 v3 v4 v5 hk rfl
    have lG := down_len F k
    have gG := down_lt hF k
    have er : fdV F k = .list (vS ((down F k).map nine)) := rfl
    have nxt := next_own (fdV F) k
    have fz_ := fun l i => fz_fdV 1 l F i
    have en : fdV F (k + 1) = .list (vS ((comp (11 - k) (down F k)).map nine)) := rfl
    rw [er] at nxt ⊢
    have lQ : ((List.range k).map (fdV F)).length = k := by simp
    generalize (List.range k).map (fdV F) = pre at lQ nxt ⊢
    generalize down F k = G at lG gG nxt en ⊢
    refine ⟨Nat.le_of_ble_eq_true rfl, ?_⟩
    refine ⟨1, rfl, ?_⟩
    refine sub_ownLast (k := 0) (xs := pre) (x := .list (vS (G.map nine))) rfl (by omega) ?_
    refine ⟨_, Iter_list H.ok, ?_⟩
    refine (?H2 : ∀ (q a : List Nat) (A : List V) (v4 v5 : Option V), a.length + q.length ≤ 20 → (∀ x ∈ q, x ∈ G) → A = vS (a.map nine) → a ++ q.map (img (11 - k) G) = comp (11 - k) G → LoopT _ _ _ (vS (q.map nine)) { vars := [v0, some (.own 0), some (.int (k : Nat)), some (.own 1), v4, v5], own := [pre ++ [.list (vS (G.map nine))], A] } _) G [] [] _ _ (by simp; omega) (fun _ h => h) rfl rfl
    intro q
    induction q with
    | nil =>
      rintro a A v4 v5 hl - rfl ha
      obtain rfl : a = comp (11 - k) G := by rw [← ha]; simp
      refine ⟨Mt_append (k := 0) rfl, ?_⟩
      refine CL_append H.ok (k := 0) rfl (by simp; omega) ⟨rfl, .inr ⟨Nat.le_of_ble_eq_true rfl, by simp [low_vS]⟩, ?_⟩
      exact ih (k + 1) _ _ _ _ _ _ (by omega) (nxt [vS ((comp (11 - k) G).map nine)] (fz_ _) (.own 1) en.symm)
    | cons x q ihq =>
      rintro a A v4 v5 hl hq rfl ha
      have hx4 := gG x (hq x (.head _))
      rw [List.length_cons] at hl
      have hi := img_eq (11 - k) G x
      refine CLf H (F__law_less B x k (by omega)) ?_
      rintro _ rfl
      refine ⟨Mt_append (k := 1) rfl, ?_⟩
      refine ⟨1, rfl, ?_⟩
      refine sub_ownLast (k := 0) (xs := pre) (x := .list (vS (G.map nine))) rfl (by omega) ?_
      refine O2_inS (ns := G.map nine) .l ?_
      rw [hasS gG (clr_lt hx4)]
      refine cd (fun hm => ?_) fun hm => ?_
      all_goals
        rw [hm] at hi
        refine CL_append H.ok (k := 1) rfl (by simp [vS]; omega) ⟨rfl, .inl rfl, ?_⟩
        exact ihq (a ++ [_]) _ _ _ (by simp; omega) (fun y hy => hq y (.tail _ hy)) (snocS a _) (by rw [List.append_assoc, ← ha, List.map_cons, hi]; rfl)
end
end Mine
namespace Mine
section
variable {w : World} {base : Heap} (B : Bs (g1 w base) I1)
include B
set_option maxHeartbeats 4000000 in
theorem F_law (script : List Int) (hlen : script.length ≤ 63) {A : Around} {s : Shared} {vs : List Value} (hA : A.handled = none) (hfr : A.frames = some []) (hu : A.units ≤ 3 * A.depth) (hd : A.depth + 4 ≤ 500) (hb0 : s.heap = base) (hv : VRs s.heap (fun a => ∃ o, s.heap.get? a = some o) [] vs [.list (vI script)]) :
    wpAny (model (g1 w base).prog (g1 w base).w) A (call (.ref 227) vs) (fun v s' => ∃ X G', (fun X => X = .bool true) X ∧ VR s'.heap G' [] v X ∧ (g1 w base).base.StaysIn s'.heap ∧ ∃ h tk, s' = { s with heap := h, toks := tk }) (fun _ _ => False) s := by
  refine' fn_top 4 (bxs := [.list (vI script)]) (ps := ["script"]) (ls := ["files", "rows", "folders", "before", "after", "earlier", "later", "missing", "unexpected", "kept", "number", "nine", "shown"]) (gls := [("_law_files", .fn 168), ("_law_rows", .fn 196), ("b64encode", .fn 148), ("_law_octets", .fn 215), ("_law_text", .fn 208), ("_law_folders", .fn 189), ("zip", .ty "zip"), ("sorted_list_difference", .fn 163), ("sorted", .bi "sorted"), ("_law_changed", .fn 201), ("_law_numbers", .fn 222), ("b64decode", .fn 156), ("len", .bi "len"), ("sum", .bi "sum"), ("range", .ty "range"), ("set", .ty "set")]) (names := ["script", "files", "rows", "folders", "before", "after", "earlier", "later", "missing", "unexpected", "kept", "number", "nine", "shown"]) (vars₀ := [some (.list (vI script)), none, none, none, none, none, none, none, none, none, none, none, none, none]) (FnOk.of B.S.1 B.nl ?ho ?hcd ?hc) (.cons (G__law_files B) (.cons (G__law_rows B) (.cons (G_b64encode B) (.cons (G__law_octets B) (.cons (G__law_text B) (.cons (G__law_folders B) (.cons (G_zip B) (.cons (G_sorted_list_difference B) (.cons (G_sorted B) (.cons (G__law_changed B) (.cons (G__law_numbers B) (.cons (G_b64decode B) (.cons (G_len B) (.cons (G_sum B) (.cons (G_range B) (.cons (G_set B) .nil)))))))))))))))) (?hbd) rfl ?hlow rfl rfl ?hS ?hT (by decide) hA hfr hu hd hb0 hv
  case ho => with_unfolding_all rfl
  case hcd => exact B.code 22 rfl
  case hc => decide +kernel
  case hbd => exact bind1 fun _ _ => BindsTo.of_eq rfl
  case hlow => first | rfl | simp [V.lows, V.low, low_vI, low_vS]
  case hS => exact fun A he G₀ outer L ok => SF.of (@SS.cons _ _ _ _ _ (@SX.assign _ _ _ _ _ _ (SE.callF ok (SL.cons (SE.cmpr ok rfl ["cell"] [("int", .ty "int")] (.cons (G_int B) .nil) [] (SE.upto ok (SE.var ok 0 rfl) SE.cint) (fun vs0 he G₀ C ok => ⟨(SA.name ok 0 rfl), SIF.nil, (SE.bin (SE.callT ok (SL.cons (SE.var ok 0 rfl) SL.nil fun _ => rfl) (fun _ => rfl) 0 rfl (fun _ => rfl)) (SE.bin SE.cint SE.cint))⟩) rfl trivial (by decide +kernel) (fun _ => rfl)) SL.nil fun _ => rfl) (fun _ => rfl) 0 rfl (I__law_files B)) (SA.name ok 1 rfl) rfl rfl fun _ => rfl) (@SS.cons _ _ _ _ _ (@SX.assign _ _ _ _ _ _ (SE.callF ok (SL.cons (SE.cmpr ok rfl ["mode"] [("S_IMODE", .fn 28)] (.cons (G_S_IMODE B) .nil) [] (SE.var ok 1 rfl) (fun vs0 he G₀ C ok => ⟨(SA.name ok 0 rfl), SIF.nil, (SE.callF ok (SL.cons (SE.var ok 0 rfl) SL.nil fun _ => rfl) (fun _ => rfl) 0 rfl (I_S_IMODE B))⟩) rfl trivial (by decide +kernel) (fun _ => rfl)) SL.nil fun _ => rfl) (fun _ => rfl) 1 rfl (I__law_rows B)) (SA.name ok 2 rfl) rfl rfl fun _ => rfl) (@SS.cons _ _ _ _ _ (@SX.ife _ _ _ _ _ _ _ _ (SB.cmp (SE.callF ok (SL.cons (SE.callF ok (SL.cons (SE.sub (SE.var ok 2 rfl) SE.cint) SL.nil fun _ => rfl) (fun _ => rfl) 3 rfl (I__law_octets B)) SL.nil fun _ => rfl) (fun _ => rfl) 2 rfl (I_b64encode B)) (SE.callF ok (SL.cons (SE.sub (SE.var ok 2 rfl) SE.cint) SL.nil fun _ => rfl) (fun _ => rfl) 4 rfl (I__law_text B)) rfl) (@SS.cons _ _ _ _ _ (SX.ret SE.cbool) SS.nil) SS.nil) (@SS.cons _ _ _ _ _ (@SX.assign _ _ _ _ _ _ (SE.callF ok (SL.cons (SE.cmpr ok rfl ["mode"] [("filemode", .fn 75)] (.cons (G_filemode B) .nil) [] (SE.var ok 1 rfl) (fun vs0 he G₀ C ok => ⟨(SA.name ok 0 rfl), SIF.nil, (SE.frmS ok (SE.callF ok (SL.cons (SE.var ok 0 rfl) SL.nil fun _ => rfl) (fun _ => rfl) 0 rfl (I_filemode B)) SE.cint)⟩) rfl trivial (by decide +kernel) (fun _ => rfl)) SL.nil fun _ => rfl) (fun _ => rfl) 5 rfl (I__law_folders B)) (SA.name ok 3 rfl) rfl rfl fun _ => rfl) (@SS.cons _ _ _ _ _ (@SX.ife _ _ _ _ _ _ _ _ (SB.cmp (SE.sub (SE.var ok 3 rfl) SE.cint) (SE.cmpr ok rfl ["number"] [("_law_nine", .fn 175)] (.cons (G__law_nine B) .nil) [] (SE.sub (SE.var ok 2 rfl) SE.cint) (fun vs0 he G₀ C ok => ⟨(SA.name ok 0 rfl), SIF.nil, (SE.callF ok (SL.cons (SE.var ok 0 rfl) SL.nil fun _ => rfl) (fun _ => rfl) 0 rfl (I__law_nine B))⟩) rfl trivial (by decide +kernel) (fun _ => rfl)) rfl) (@SS.cons _ _ _ _ _ (SX.ret SE.cbool) SS.nil) SS.nil) (@SS.cons _ _ _ _ _ (SX.forT ok rfl 6 rfl (SL.cons (SE.var ok 3 rfl) (SL.cons (SE.frm ok (SE.var ok 3 rfl) SE.cint) (SL.cons (SE.var ok 2 rfl) (SL.cons (SE.frm ok (SE.var ok 2 rfl) SE.cint) SL.nil fun _ => rfl) fun _ => rfl) fun _ => rfl) fun _ => rfl) (SAL.cons (SA.name ok 4 rfl) (SAL.cons (SA.name ok 5 rfl) (SAL.cons (SA.name ok 6 rfl) (SAL.cons (SA.name ok 7 rfl) SAL.nil fun _ => rfl) fun _ => rfl) fun _ => rfl) fun _ => rfl) (@SS.cons _ _ _ _ _ (@SX.assign _ _ _ _ _ _ (SE.callF ok (SL.cons (SE.callB ok (SL.cons (SE.var ok 4 rfl) SL.nil fun _ => rfl) (fun _ => rfl) 8 rfl (fun _ => rfl)) (SL.cons (SE.callB ok (SL.cons (SE.var ok 5 rfl) SL.nil fun _ => rfl) (fun _ => rfl) 8 rfl (fun _ => rfl)) SL.nil fun _ => rfl) fun _ => rfl) (fun _ => rfl) 7 rfl (I_sorted_list_difference B)) (SA.tup ok (SAL.cons (SA.name ok 8 rfl) (SAL.cons (SA.name ok 9 rfl) SAL.nil fun _ => rfl) fun _ => rfl) (fun _ => rfl) (fun _ => rfl)) rfl rfl fun _ => rfl) (@SS.cons _ _ _ _ _ (@SX.ife _ _ _ _ _ _ _ _ (SB.or (SB.cmp (SE.var ok 8 rfl) (SE.callF ok (SL.cons (SE.var ok 4 rfl) (SL.cons (SE.var ok 6 rfl) (SL.cons (SE.var ok 7 rfl) SL.nil fun _ => rfl) fun _ => rfl) fun _ => rfl) (fun _ => rfl) 9 rfl (I__law_changed B)) rfl) (SB.or (SB.cmp (SE.var ok 9 rfl) (SE.callF ok (SL.cons (SE.var ok 5 rfl) (SL.cons (SE.var ok 6 rfl) (SL.cons (SE.var ok 7 rfl) SL.nil fun _ => rfl) fun _ => rfl) fun _ => rfl) (fun _ => rfl) 9 rfl (I__law_changed B)) rfl) SB.or0)) (@SS.cons _ _ _ _ _ (SX.ret SE.cbool) SS.nil) SS.nil) SS.nil)) SS.nil (fun _ => rfl) (fun _ => rfl) (fun _ => rfl) (fun _ => rfl) fun _ => rfl) (@SS.cons _ _ _ _ _ (@SX.assign _ _ _ _ _ _ (SE.upto ok (SE.callF ok (SL.cons (SE.callF ok (SL.cons (SE.callF ok (SL.cons (SE.sub (SE.var ok 2 rfl) SE.cint) SL.nil fun _ => rfl) (fun _ => rfl) 4 rfl (I__law_text B)) SL.nil fun _ => rfl) (fun _ => rfl) 11 rfl (I_b64decode B)) SL.nil fun _ => rfl) (fun _ => rfl) 10 rfl (I__law_numbers B)) (SE.callB ok (SL.cons (SE.var ok 1 rfl) SL.nil fun _ => rfl) (fun _ => rfl) 12 rfl (fun _ => rfl))) (SA.name ok 10 rfl) rfl rfl fun _ => rfl) (@SS.cons _ _ _ _ _ (@SX.ife _ _ _ _ _ _ _ _ (SB.cmp (SE.cmpr ok rfl ["number"] [("filemode", .fn 75)] (.cons (G_filemode B) .nil) [] (SE.var ok 10 rfl) (fun vs0 he G₀ C ok => ⟨(SA.name ok 0 rfl), SIF.nil, (SE.callF ok (SL.cons (SE.bin SE.cint (SE.var ok 0 rfl)) SL.nil fun _ => rfl) (fun _ => rfl) 0 rfl (I_filemode B))⟩) rfl trivial (by decide +kernel) (fun _ => rfl)) (SE.cmpr ok rfl ["nine"] [] .nil [] (SE.sub (SE.var ok 3 rfl) SE.cint) (fun vs0 he G₀ C ok => ⟨(SA.name ok 0 rfl), SIF.nil, (SE.bin SE.cstr (SE.var ok 0 rfl))⟩) rfl trivial (by decide +kernel) (fun _ => rfl)) rfl) (@SS.cons _ _ _ _ _ (SX.ret SE.cbool) SS.nil) SS.nil) (@SS.cons _ _ _ _ _ (SX.forT ok rfl 6 rfl (SL.cons (SE.var ok 10 rfl) (SL.cons (SE.sub (SE.var ok 3 rfl) SE.cint) SL.nil fun _ => rfl) fun _ => rfl) (SAL.cons (SA.name ok 11 rfl) (SAL.cons (SA.name ok 12 rfl) SAL.nil fun _ => rfl) fun _ => rfl) (@SS.cons _ _ _ _ _ (@SX.ife _ _ _ _ _ _ _ _ (SB.cmp (SE.callB ok (SL.cons (SE.cmpr ok rfl ["right"] [("_law_less", .fn 182)] (.cons (G__law_less B) .nil) [("nine", .loc 12), ("folders", .loc 3)] (SE.callT ok (SL.cons SE.cint SL.nil fun _ => rfl) (fun _ => rfl) 14 rfl (fun _ => rfl)) (fun vs0 he G₀ C ok => ⟨(SA.name ok 0 rfl), (SIF.one (SB.cmp (SE.callF ok (SL.cons (SE.capv ok 0 rfl (by decide +kernel)) (SL.cons (SE.var ok 0 rfl) SL.nil fun _ => rfl) fun _ => rfl) (fun _ => rfl) 0 rfl (I__law_less B)) (SE.sub (SE.capv ok 1 rfl (by decide +kernel)) SE.cint) rfl)), SE.cint⟩) rfl ⟨rfl, by kernel_rfl, ⟨by kernel_rfl, by kernel_rfl⟩, by kernel_rfl, ⟨rfl, by kernel_rfl, ⟨by kernel_rfl, by kernel_rfl⟩, by kernel_rfl, trivial⟩⟩ (by decide +kernel) (fun _ => rfl)) SL.nil fun _ => rfl) (fun _ => rfl) 13 rfl (fun _ => rfl)) SE.cint rfl) (@SS.cons _ _ _ _ _ (SX.ret SE.cbool) SS.nil) SS.nil) (@SS.cons _ _ _ _ _ (SX.acmpr ok rfl 13 rfl ["mode"] [("S_IMODE", .fn 28)] (.cons (G_S_IMODE B) .nil) [("number", .loc 11)] (SE.var ok 1 rfl) (fun vs0 he G₀ C ok => ⟨(SA.name ok 0 rfl), SIF.nil, (SE.bin (SE.callF ok (SL.cons (SE.var ok 0 rfl) SL.nil fun _ => rfl) (fun _ => rfl) 0 rfl (I_S_IMODE B)) (SE.capv ok 0 rfl (by decide +kernel)))⟩) rfl ⟨rfl, by kernel_rfl, ⟨by kernel_rfl, by kernel_rfl⟩, by kernel_rfl, trivial⟩ (by decide +kernel) (fun _ => rfl) rfl) (@SS.cons _ _ _ _ _ (@SX.ife _ _ _ _ _ _ _ _ (SB.cmp (SE.callB ok (SL.cons (SE.callT ok (SL.cons (SE.var ok 13 rfl) SL.nil fun _ => rfl) (fun _ => rfl) 15 rfl (fun _ => rfl)) SL.nil fun _ => rfl) (fun _ => rfl) 12 rfl (fun _ => rfl)) (SE.bin SE.cint (SE.callB ok (SL.cons (SE.cmpr ok rfl ["k"] [] .nil [("number", .loc 11)] (SE.callT ok (SL.cons SE.cint SL.nil fun _ => rfl) (fun _ => rfl) 14 rfl (fun _ => rfl)) (fun vs0 he G₀ C ok => ⟨(SA.name ok 0 rfl), SIF.nil, (SE.bin (SE.bin (SE.capv ok 0 rfl (by decide +kernel)) (SE.bin SE.cint (SE.var ok 0 rfl))) SE.cint)⟩) rfl ⟨rfl, by kernel_rfl, ⟨by kernel_rfl, by kernel_rfl⟩, by kernel_rfl, trivial⟩ (by decide +kernel) (fun _ => rfl)) SL.nil fun _ => rfl) (fun _ => rfl) 13 rfl (fun _ => rfl))) rfl) (@SS.cons _ _ _ _ _ (SX.ret SE.cbool) SS.nil) SS.nil) SS.nil))) SS.nil (fun _ => rfl) (fun _ => rfl) (fun _ => rfl) (fun _ => rfl) fun _ => rfl) (@SS.cons _ _ _ _ _ (SX.ret SE.cbool) SS.nil))))))))))
  intro c H
  have hx := H.hx
  refine ⟨vI script, 3, LV.l, rfl, by decide, by simp [vI]; omega, ?_⟩
  have it : ∀ σ t, IterC c t (.list ((vI script).take 3)) (vI (script.take 3)) σ := fun σ t => by
    rw [show (vI script).take 3 = vI (script.take 3) by simp [vI, List.map_take]]; exact IterC_of (Iter_list H.ok) (lows_vI 0 _)
  have l3 : (script.take 3).length ≤ 3 := by rw [List.length_take]; omega
  refine ⟨vI (script.take 3), it _ _, fun c' ok' hg hA' hE hx' => ?_⟩
  refine CompT.mapI V.int (fun v => .int (v % 1000000)) (script.take 3) _ (fun v _ ys P hP => ?_) (by omega) (by have := lows_vI 0 ((script.take 3).map (· % 1000000)); simpa [vI, List.map_map, Function.comp_def] using this) fun zs e => ?_
  · refine CL_int ?_
    exact ⟨⟨by decide, by decide, by decide⟩, by decide, hP⟩
  obtain ⟨ns, hns⟩ : ∃ ns, ns = (script.take 3).map (· % 1000000) := ⟨_, rfl⟩
  obtain rfl : zs = vI ns := by rw [e, hns]; simp [vI, List.map_map, Function.comp_def]
  have lns : ns.length ≤ 3 := by rw [hns, List.length_map]; exact l3
  have rns : ∀ n ∈ ns, 0 ≤ n := by
    intro n hn
    rw [hns] at hn
    obtain ⟨v, _, rfl⟩ := List.mem_map.mp hn
    exact Int.emod_nonneg _ (by decide)
  refine CLf H (F__law_files B ns (by omega)) ?_
  rintro _ rfl
  have FO := files_ok ns _ 3 rns first_files
  generalize filesFrom ns [35309, 8684, 16841] = fs at FO ⊢
  obtain ⟨rfs, dfs, lfs⟩ := FO
  have lf6 : fs.length ≤ 6 := by omega
  obtain ⟨L, hL⟩ : ∃ L, L = fs.map md := ⟨_, rfl⟩
  have gL : ∀ n ∈ L, n < 4096 := by
    intro n hn
    rw [hL] at hn
    obtain ⟨x, _, rfl⟩ := List.mem_map.mp hn
    exact md_lt x
  have dL : L.Nodup := by rw [hL]; exact dfs
  have lL : L.length = fs.length := by rw [hL, List.length_map]
  refine ⟨vI fs, IterC_of (Iter_list H.ok) (lows_vI 0 fs), fun c' ok' hg hA' hE hx' => ?_⟩
  refine CompT.mapI V.int (fun m => .int (md m)) fs _ (fun m hm ys P hP => ?_) (by omega) (by have := lows_vI 0 (iN (fs.map md)); simpa [vI, iN, List.map_map, Function.comp_def] using this) fun zs e => ?_
  · refine CLf (H.comp ok' hg hA' hE hx') (F_S_IMODE B m) fun X e => ?_
    subst e
    rw [← imode_md (rfs m hm)] at hP
    exact hP
  obtain rfl : zs = vI (iN L) := by rw [e, hL]; simp [vI, iN, List.map_map, Function.comp_def]
  refine CLf H (F__law_rows B L gL (by omega)) ?_
  rintro _ rfl
  -- the signs of base 64
  have lp := padI_len L
  have pe := padI_even L
  have pl := padI_lt gL
  have FE : Fn (g1 w base) 148 3 [.bytes (byteArr (bys (padI L)))] [] (fun X => X = .bytes (byteArr (texts L))) := by
    have := F_b64encode B (bys (padI L)) (bys_in _ pl) (by rw [bys_len]; omega) (by rw [bys_len]; omega)
    rwa [show encs (bys (padI L)) = texts L from encs_bys _ pl pe] at this
  refine sub_listL (i := 0) (x := .list (vI (iN L))) (by decide) rfl (by decide) ?_
  refine CLf H (F__law_octets B L gL (by omega)) ?_
  rintro _ rfl
  refine CLf H FE ?_
  rintro _ rfl
  refine sub_listL (i := 0) (x := .list (vI (iN L))) (by decide) rfl (by decide) ?_
  refine CLf H (F__law_text B L gL (by omega)) ?_
  rintro _ rfl
  refine O2_neB ?_
  refine cd (fun h => absurd h (by simp)) fun _ => ?_
  -- the folders
  have hfm : ∀ m, 0 ≤ m → Fn (g1 w base) 75 2 [.int m] [] (fun X => X = .str (shown m)) := fun m h => shown_eq h ▸ F_filemode B m
  refine ⟨vI fs, IterC_of (Iter_list H.ok) (lows_vI 0 fs), fun c' ok' hg hA' hE hx' => ?_⟩
  refine CompT.mapI V.int (fun m => .str (nine (md m))) fs _ (fun m hm ys P hP => ?_) (by omega) (lows_map 0 _ (fun _ => rfl) _) fun zs e => ?_
  · refine CLf (H.comp ok' hg hA' hE hx') (hfm m (rfs m hm)) fun X e => ?_
    subst e
    have sl := shown_len m
    refine ⟨shown m, 1, rfl, rfl, by omega, ?_⟩
    rw [show Txt.slice (shown m) (some 1) none = nine (md m) from shown_from m]
    exact hP
  obtain rfl : zs = vS (L.map nine) := by rw [e, hL]; simp [vS, List.map_map, Function.comp_def]
  refine CLf H (F__law_folders B L gL (by omega)) ?_
  rintro _ rfl
  refine sub_listL (i := 0) (x := .list (vS (L.map nine))) (by decide) rfl (by decide) ?_
  refine sub_listL (i := 0) (x := .list (vI (iN L))) (by decide) rfl (by decide) ?_
  refine ⟨vI (iN L), IterC_of (Iter_list H.ok) (lows_vI 0 _), fun c' ok' hg hA' hE hx' => ?_⟩
  rw [vI_iN L]
  refine CompT.mapI (fun (n : Nat) => V.int n) (fun n => .str (nine n)) L _ (fun n hn ys P hP => ?_) (by omega) (lows_map 0 _ (fun _ => rfl) _) fun zs e => ?_
  · exact CLf (H.comp ok' hg hA' hE hx') (F__law_nine B n (gL n hn)) fun X e => by subst e; exact hP
  obtain rfl : zs = vS (L.map nine) := by rw [e]; simp [vS, List.map_map, Function.comp_def]
  refine O2_neSL H.ok .l .l (nines_ok L) (nines_ok L) ?_
  refine cd (fun h => absurd h (by simp)) fun _ => ?_
  -- step by step
  have lr : ∀ f : Nat → V, ((List.range 13).map f).length = 13 := fun f => by simp
  have lowF : V.low 0 (.list ((List.range 13).map (fdV L))) = true := lows_map 0 (fdV L) (low_fdV 0 L) _
  have lowR : V.low 0 (.list ((List.range 13).map (rwV L))) = true := lows_map 0 (rwV L) (low_rwV 0 L) _
  refine ⟨(List.range 13).map (fdV L), 1, LV.l, rfl, by decide, by rw [lr]; decide, ?_⟩
  refine ⟨(List.range 13).map (rwV L), 1, LV.l, rfl, by decide, by rw [lr]; decide, ?_⟩
  refine ⟨_, IterT_zip4 H.ok (fdV L) (rwV L) 12, ?_⟩
  rw [List.range_eq_range' (n := 12)]
  refine (?H1 : ∀ (d k : Nat) (v4 v5 v6 v7 v8 v9 v10 v11 v12 v13 : Option V), k + d = 12 → LoopT _ _ _ (((List.range' k d).map fun r => [fdV L r, fdV L (r + 1), rwV L r, rwV L (r + 1)]).map V.tup) { vars := [some (.list (vI script)), some (.list (vI fs)), some (.list ((List.range 13).map (rwV L))), some (.list ((List.range 13).map (fdV L))), v4, v5, v6, v7, v8, v9, v10, v11, v12, v13], own := [] } _) 12 0 none none none none none none none none none none rfl
  intro d
  induction d with
  | zero =>
    rintro k v4 v5 v6 v7 v8 v9 v10 v11 v12 v13 hk
    obtain ⟨D, hD⟩ : ∃ D, D = down L 12 := ⟨_, rfl⟩
    have gD : ∀ n ∈ D, n < 4096 := by rw [hD]; exact down_lt gL 12
    have lD : D.length = fs.length := by rw [hD, down_len, lL]
    have aR : ((List.range 13).map (rwV L))[(12 : Int).toNat]? = some (.list (vI (iN D))) := by rw [hD]; rfl
    have aF : ((List.range 13).map (fdV L))[(12 : Int).toNat]? = some (.list (vS (D.map nine))) := by rw [hD]; rfl
    have mth : ∀ S ∈ D, (∀ j, j < 12 → clr j S ∈ D) ∧ (unlike (L.map fun x => ((x &&& S : Nat) : Int))).length = 2 ^ pop S 12 := by
      rw [hD]; exact fun S hS => law2_math gL hS
    clear hD
    generalize (List.range 13).map (rwV L) = RR at aR lowR ⊢
    generalize (List.range 13).map (fdV L) = FF at aF lowF ⊢
    have lp := padI_len D
    have pe := padI_even D
    have pl := padI_lt gD
    have lt : (texts D).length = 2 * (padI D).length := sgsN_len _
    have FD : Fn (g1 w base) 156 3 [.bytes (byteArr (texts D))] [] (fun X => X = .bytes (byteArr (bys (padI D)))) := by
      have := F_b64decode B (texts D) (sgsN_in _ pl) (by rw [lt]; omega) (by rw [lt]; omega)
      rwa [show decs (texts D) = bys (padI D) from decs_sgs _ pl pe] at this
    refine sub_listL (i := 12) (by decide) aR (by decide) ?_
    refine CLf H (F__law_text B D gD (by omega)) ?_
    rintro _ rfl
    refine CLf H FD ?_
    rintro _ rfl
    refine CLf H (F__law_numbers B (padI D) pl pe (by omega)) ?_
    rintro _ rfl
    refine CL_lenL (by simp [vI]; omega) ?_
    refine ⟨vI (iN (padI D)), _, LV.l, rfl, by omega, by simp [vI, iN]; omega, ?_⟩
    have et : (vI (iN (padI D))).take (((vI fs).length : Nat) : Int).toNat = vI (iN D) := by
      rw [Int.toNat_natCast, show (vI fs).length = D.length by simp [vI, lD], vI_iN, ← List.map_take, padI_take, ← vI_iN]
    rw [et]
    refine ⟨vI (iN D), IterC_of (Iter_list H.ok) (lows_vI 0 _), fun c' ok' hg hA' hE hx' => ?_⟩
    rw [vI_iN D]
    refine CompT.mapI (fun (n : Nat) => V.int n) (fun n => .str (dash n)) D _ (fun n hn ys P hP => ?_) (by omega) (lows_map 0 _ (fun _ => rfl) _) fun zs e => ?_
    · refine CLf (H.comp ok' hg hA' hE hx') (hfm (32768 + (n : Int)) (by omega)) fun X e => ?_
      subst e
      rw [(shown_plain (gD n hn)).1]
      exact hP
    obtain rfl : zs = vS (D.map dash) := by rw [e]; simp [vS, List.map_map, Function.comp_def]
    clear e
    refine sub_listL (i := 12) (by decide) aF (by decide) ?_
    refine ⟨vS (D.map nine), IterC_of (Iter_list H.ok) (low_vS 0 _), fun c' ok' hg hA' hE hx' => ?_⟩
    rw [show vS (D.map nine) = D.map (fun n => V.str (nine n)) by simp [vS, List.map_map, Function.comp_def]]
    refine CompT.mapI (fun (n : Nat) => V.str (nine n)) (fun n => .str (dash n)) D _ (fun n hn ys P hP => ?_) (by omega) (lows_map 0 _ (fun _ => rfl) _) fun zs e => ?_
    · have := nine_len n
      exact O2_addS (by rw [this]; exact Nat.le_of_ble_eq_true rfl) hP
    obtain rfl : zs = vS (D.map dash) := by rw [e]; simp [vS, List.map_map, Function.comp_def]
    clear e
    refine O2_neSL H.ok .l .l (dash_ok D) (dash_ok D) ?_
    refine cd (fun h => absurd h (by simp)) fun _ => ?_
    rw [← vI_iN D]
    refine sub_listL (i := 12) (by decide) aF (by decide) ?_
    refine ⟨_, IterT_zip H.ok, ?_⟩
    rw [zip_kept]
    have it12 : ∀ σ t, IterC c t (.rng 0 12 1) ((List.range' 0 12).map fun p => V.int (p : Nat)) σ := fun σ t => by
      rw [← show rngItems 0 12 1 = _ from rng_items 0 12]
      exact IterC_of (Iter_rng H.ok (by decide) (by decide)) rfl
    have ff : ∀ l : List V, l.filter (fun _ => false) = [] := fun l => List.filter_eq_nil_iff.mpr (by simp)
    have l12 : (List.range' 0 12).length = 12 := List.length_range'
    refine (?H2 : ∀ (q : List Nat) (w11 w12 w13 : Option V), (∀ S ∈ q, S ∈ D) → LoopT _ _ _ ((q.map fun n => [V.int (n : Nat), V.str (nine n)]).map V.tup) { vars := [some (.list (vI script)), some (.list (vI fs)), some (.list RR), some (.list FF), v4, v5, v6, v7, v8, v9, some (.list (vI (iN D))), w11, w12, w13], own := [] } _) D _ _ _ fun _ h => h
    intro q
    induction q with
    | nil =>
      rintro w11 w12 w13 -
      exact ⟨.inl rfl, rfl⟩
    | cons S q ihq =>
      rintro w11 w12 w13 hq
      have hS := hq S (.head _)
      have gS := gD S hS
      have mS := mth S hS
      refine ⟨_, rfl, rfl, ?_⟩
      refine CL_rng1 H.ok ?_
      refine ⟨_, it12 _ _, rfl, lowF, fun c' ok' hg hA' hE hx' => ?_⟩
      refine CompT.fm1 (fun _ => false) (fun _ => .int 1) _ _ [] (fun x hx ys P hP => ?_) (fun x hx ys P hP => hP) (by rw [List.length_map, l12]; decide) (by rw [ff]; rfl) fun zs e => ?_
      · obtain ⟨r, hr, rfl⟩ := List.mem_map.mp hx
        have hr12 : r < 12 := by have := List.mem_range'_1.mp hr; omega
        refine CLf (H.comp ok' hg hA' hE hx') (F__law_less B S r hr12) ?_
        rintro _ rfl
        refine sub_listL (i := 12) (by decide) aF (by decide) ?_
        refine O2_notInS (ns := D.map nine) .l ?_
        rw [hasS gD (clr_lt gS), decide_eq_true (mS.1 (11 - r) (by omega))]
        exact hP
      obtain rfl : zs = vI [] := by rw [e, ff]; rfl
      clear e
      refine CL_sum H.ok (ns := []) .l ?_
      refine ⟨vI fs, IterC_of (Iter_list H.ok) (lows_vI 0 fs), rfl, fun c' ok' hg hA' hE hx' => ?_⟩
      refine CompT.mapI V.int (fun m => .int ((md m &&& S : Nat) : Int)) fs _ (fun m hm ys P hP => ?_) (by omega) (lows_map 0 _ (fun _ => rfl) _) fun zs e => ?_
      · refine CLf (H.comp ok' hg hA' hE hx') (F_S_IMODE B m) ?_
        rintro _ rfl
        rw [show ((md m &&& S : Nat) : Int) = Builtin.bitAnd (Builtin.bitAnd m 4095) (S : Int) by rw [imode_md (rfs m hm), bitAnd_nat (by omega) (by omega)]; simp] at hP
        exact hP
      obtain rfl : zs = vI (L.map fun x => ((x &&& S : Nat) : Int)) := by rw [e, hL]; simp [vI, List.map_map, Function.comp_def]
      clear e
      have lu := unlike_le (L.map fun x => ((x &&& S : Nat) : Int))
      rw [List.length_map] at lu
      refine CL_set H.ok .l (by rw [List.length_map]; omega) ?_
      refine CL_lenSet (by omega) ?_
      refine CL_rng1 H.ok ?_
      refine ⟨_, it12 _ _, rfl, fun c' ok' hg hA' hE hx' => ?_⟩
      refine CompT.mapI (fun (p : Nat) => V.int (p : Nat)) (fun p => .int ((S / 2 ^ p % 2 : Nat) : Int)) (List.range' 0 12) _ (fun p hp ys P hP => ?_) (by rw [l12]; decide) (lows_map 0 _ (fun _ => rfl) _) fun zs e => ?_
      · have hp12 : p < 12 := by have := List.mem_range'_1.mp hp; omega
        refine ⟨⟨by omega, by omega, by decide⟩, twoZ (by omega), by decide, ?_⟩
        rw [← bitN] at hP
        exact hP
      obtain rfl : zs = vI (iN ((List.range 12).map fun p => S / 2 ^ p % 2)) := by rw [e, List.range_eq_range']; simp [vI, iN, List.map_map, Function.comp_def]
      clear e
      refine CL_sum H.ok .l ?_
      have hp := pop_le S 12
      rw [sumN', show ((List.range 12).map fun p => S / 2 ^ p % 2).sum = pop S 12 from rfl]
      refine ⟨⟨by omega, by omega, by decide⟩, ?_⟩
      refine cd (fun h => absurd h ?_) fun _ => ?_
      · rw [mS.2, Int.toNat_natCast, Int.natCast_pow]; simp
      exact ⟨.inl rfl, ihq _ _ _ fun z hz => hq z (.tail _ hz)⟩
  | succ d ih =>
    rintro k v4 v5 v6 v7 v8 v9 v10 v11 v12 v13 hk
    have lG := down_len L k
    have gG := down_lt gL k
    have nG := down_nodup dL k
    have e1 : fdV L k = .list (vS ((down L k).map nine)) := rfl
    have e2 : fdV L (k + 1) = .list (vS ((comp (11 - k) (down L k)).map nine)) := rfl
    have e3 : rwV L k = .list (vI (iN (down L k))) := rfl
    have e4 : rwV L (k + 1) = .list (vI (iN (comp (11 - k) (down L k)))) := rfl
    rw [List.range'_succ, List.map_cons, List.map_cons, e1, e2, e3, e4]
    generalize down L k = G at lG gG nG
    have gC := comp_lt (k := 11 - k) gG
    have nC := comp_nodup (k := 11 - k) nG
    have lC : (comp (11 - k) G).length = G.length := List.length_map _
    have n1 := nine_map_nodup gG nG
    have n2 := nine_map_nodup gC nC
    have n3 := chg_nodup (k := 11 - k) gG nG
    have FC1 : Fn (g1 w base) 201 1 [.list (vS (G.map nine)), .list (vI (iN G)), .list (vI (iN (comp (11 - k) G)))] [] (fun X => ∃ cs, X = .list (vS cs) ∧ cs.Perm ((chg (11 - k) G).map nine) ∧ sortedS cs = true) := by
      have := F__law_changed B (goneL (11 - k) G) (by rw [goneL_len]; omega)
      rwa [goneL_1, goneL_2, goneL_3, goneL_f] at this
    have FC2 : Fn (g1 w base) 201 1 [.list (vS ((comp (11 - k) G).map nine)), .list (vI (iN G)), .list (vI (iN (comp (11 - k) G)))] [] (fun X => ∃ cs, X = .list (vS cs) ∧ cs.Perm ((chg (11 - k) G).map fun x => nine (img (11 - k) G x)) ∧ sortedS cs = true) := by
      have := F__law_changed B (cameL (11 - k) G) (by rw [cameL_len]; omega)
      rwa [cameL_1, cameL_2, cameL_3, cameL_f] at this
    refine ⟨_, rfl, rfl, ?_⟩
    refine CL_sortedS H.ok (ns := G.map nine) (by rw [List.length_map]; omega) fun ms m1 m2 => ?_
    refine CL_sortedS H.ok (ns := (comp (11 - k) G).map nine) (by rw [List.length_map]; omega) fun us u1 u2 => ?_
    have lm := m1.length_eq
    have lu := u1.length_eq
    rw [List.length_map] at lm lu
    refine CLf H (F_sorted_list_difference B ms us (sorted_srt m2 (m1.nodup_iff.mpr n1)) (sorted_srt u2 (u1.nodup_iff.mpr n2)) (by omega) (by omega)) ?_
    rintro _ rfl
    refine ⟨_, .inl rfl, rfl, ?_⟩
    refine CLf H FC1 ?_
    rintro _ ⟨cs, rfl, c1, c2⟩
    have d1 := (diff_sorted m1 m2 n1 u1 u2 n2 c1 c2 n3.1 (gone_iff gG)).2.2
    have om := okS_perm m1 (nines_ok G)
    have ou := okS_perm u1 (nines_ok (comp (11 - k) G))
    refine O2_neSL H.ok (ns := diff ms us) (ms := cs) .l .l (okS_diff om) (okS_perm c1 (nines_ok _)) ?_
    refine cd (fun h => absurd h (by simp [d1])) fun _ => ?_
    refine CLf H FC2 ?_
    rintro _ ⟨cs', rfl, c1', c2'⟩
    have d2 := (diff_sorted u1 u2 n2 m1 m2 n1 c1' c2' n3.2 (came_iff gG)).2.2
    refine O2_neSL H.ok (ns := diff us ms) (ms := cs') .l .l (okS_diff ou) (okS_perm c1' (okS_came _ _ _)) ?_
    refine cd (fun h => absurd h (by simp [d2])) fun _ => ?_
    refine ⟨.inl rfl, ?_⟩
    exact ih (k + 1) _ _ _ _ _ _ _ _ _ _ (by omega)
end
end Mine
set_option maxHeartbeats 8000000 in
theorem Mine.hd_said : PySem.Challenge.rw_pa0051_02.wellSaid = true := by
  unfold OpenLaw.wellSaid OpenRow.wellSaid OpenRow.partSaid looksOpen
  repeat' (with_reducible refine look_both ?_ ?_)
  all_goals decide +kernel
set_option maxHeartbeats 8000000 in
theorem PySem.Challenge.cw_pa0051_02_holds : PySem.Challenge.rw_pa0051_02.Holds := by
  w_on
  refine holds_law Mine.hd_said fun said => ?_
  refine holds_open (q := Mine.q1) (loose := Mine.loose1) (Xt := fun s => xlAt Mine.q1 [] s && recOk (RowW.records (PySem.Challenge.rw_pa0051_02.row.toRowW)) s) (XP := XL Mine.q1 []) (Yf := Hook.obs Mine.H1) (Ya := Hook.val Mine.H1) (YP := Hook.says Mine.H1) (N := 2840) ?hl (Hook.of Mine.H1) (Hook.keeps Mine.H1) (fun s e => xl_of s (Bool.and_eq_true_iff.mp e).1) XL.keeps (by rfl) (by rfl) (by rfl) (fun s e => recFacts_of (Bool.and_eq_true_iff.mp e).2) (by first | rfl | fail "x") (by first | assumption | decide +kernel) (by decide +kernel) ⟨rfl, rfl, rfl, rfl, rfl, by decide +kernel⟩ ?hw ?hc
  case hw => w_witness2
  case hl => intro w; kernel_rfl
  case hc =>
    intro w s₀ s₁ mg mb G Y fa o pm cd doc dV kV ho hd hcd hD hmg hg args vals as hpre hlay hrd hwl hlo
    have B : Mine.Bs (Mine.g1 w s₁.heap) Mine.I1 := ⟨Y, G.T.nolimit, mb, G.T.b, G.T.builtins⟩
    have hfa : fa = 227 := by
      obtain ⟨mg', h1, h2⟩ := Y.2.1
      have e := Mine.ns_unique h1 G.T.g
      subst e
      have h3 := h2 _ (List.mem_of_getElem? (show Mine.I1.gt[40]? = _ from rfl))
      have h4 := hmg.symm.trans h3
      cases h4; rfl
    clear ho hd hcd hD hmg
    subst hfa
    wrow_args hpre hlay hrd hwl hlo
    rename_i ns _ _ _ _ _ _ _ l vs _ hL _ _ _ hI _ hc _
    have hlen : ns.length ≤ 63 := by
      have := hc
      omega
    refine wpAny_mono (Mine.F_law B ns hlen (A := callerA) rfl rfl (by decide) (by decide) rfl (.cons (.list (let ⟨o, e, _⟩ := hL; ⟨o, e⟩) hL (by simpa using Mine.VRs.ofI hI)) .nil)) (fun v s' h => ?_) fun _ _ e => e.elim
    obtain ⟨X, G', hX, hv, hb, h', tk, rfl⟩ := h
    subst hX
    obtain rfl := hv.inv
    refine GoodW.toG ⟨.inl ⟨_, .bool true, [], rfl, raisesW_false (fun _ h => nomatch h), .bool true, ?_, unshared_nil⟩, hb, rfl, hg⟩
    exact postW_of (by wrow_shape) (by wtm_val) (by w_fin)
