import PyProof.Rows.All
import Wide.All
import OpenK.AllK
import Wide.FinOn
import PySem.Challenge.RW_ty0028_01
open PySem PySem.W PyProof.Rows
set_option Elab.async false
set_option maxRecDepth 100000
set_option linter.unusedVariables false
set_option linter.unusedSimpArgs false

-- D0
namespace Mine
open PySem PySem.W PyProof.Rows

/-! heaps -/
abbrev Ext (h h' : Heap) : Prop := ∀ b o, h.get? b = some o → h'.get? b = some o
theorem Ext.refl (h : Heap) : Ext h h := fun _ _ e => e
theorem Ext.trans {h h' h'' : Heap} (x : Ext h h') (y : Ext h' h'') : Ext h h'' := fun b o e => y b o (x b o e)
theorem Ext.push (h : Heap) (o : Obj) : Ext h (h.push o) := fun _ _ e => Heap.get?_push_of_some o e
theorem fresh_none {h : Heap} {a : Addr} (ha : h.objs.size ≤ a) : h.get? a = none := by
  cases e : h.get? a with
  | none => rfl
  | some o => exact absurd (Heap.lt_size e) (Nat.not_lt.mpr ha)

abbrev lObj (vs : List Value) (n : Nat) : Obj := { cls := .type "list", data := .seq vs.toArray n }
abbrev tObj (vs : List Value) (n : Nat) : Obj := { cls := .type "tuple", data := .seq vs.toArray n }

structure Ws where
  raw : Str
  n : Int
  nt : Int
  cnt : List Int
  tr : Int
  simple : Bool

inductive D where
  | none
  | bool (b : Bool)
  | int (i : Int)
  | str (x : Str)
  | bytes (b : Array UInt8)
  | list (ds : List D)
  | tup (ds : List D)
  | range (a b c : Int)
  | ws (w : Ws)
  | opq (a : Addr)

abbrev iD (ns : List Int) : D := .list (ns.map .int)
abbrev normD (w : Ws) : D := .tup [.tup (w.cnt.map .int), .int w.tr]

/-- the class Whitespace stands at this address -/
abbrev wsC : Addr := 105

mutual
inductive Rep (M : List Addr) (h : Heap) : Value → D → Prop
  | none : Rep M h .none .none
  | bool (b : Bool) : Rep M h (.bool b) (.bool b)
  | int (i : Int) (t : Tok) : Rep M h (.int i t) (.int i)
  | str (x : Str) (t : Tok) : Rep M h (.str x t) (.str x)
  | bytes (b : Array UInt8) (t : Tok) : Rep M h (.bytes b t) (.bytes b)
  | list {a : Addr} {vs : List Value} {n : Nat} {ds : List D} : a ∉ M → h.get? a = some (lObj vs n) → RepL M h vs ds → Rep M h (.ref a) (.list ds)
  | tup {a : Addr} {vs : List Value} {n : Nat} {ds : List D} : a ∉ M → h.get? a = some (tObj vs n) → RepL M h vs ds → Rep M h (.ref a) (.tup ds)
  | range {r : Addr} {a b c : Int} {t u v : Tok} : r ∉ M → IsRange h r a b c t u v → Rep M h (.ref r) (.range a b c)
  | ws {x dx : Addr} {w : Ws} {h1 h2 h3 h4 h5 : Int} {t1 t2 t3 t4 t5 u1 u2 u3 : Tok} {vn : Value} {ep : Nat} : x ∉ M → dx ∉ M → h.get? x = some (instObj wsC dx) →
      h.get? dx = some (dictOf [⟨h1, .str "raw" t1, .str w.raw u1⟩, ⟨h2, .str "n" t2, .int w.n u2⟩, ⟨h3, .str "nt" t3, .int w.nt u3⟩, ⟨h4, .str "norm" t4, vn⟩, ⟨h5, .str "is_simple" t5, .bool w.simple⟩] ep) →
      Rep M h vn (normD w) → Rep M h (.ref x) (.ws w)
  | opq (a : Addr) : Rep M h (.ref a) (.opq a)
inductive RepL (M : List Addr) (h : Heap) : List Value → List D → Prop
  | nil : RepL M h [] []
  | cons {v : Value} {vs : List Value} {d : D} {ds : List D} : Rep M h v d → RepL M h vs ds → RepL M h (v :: vs) (d :: ds)
end

section
variable {M M' : List Addr} {h h' : Heap}
theorem not_mem_to (hM : ∀ a ∈ M', a ∈ M ∨ h.get? a = Option.none) {a : Addr} {o : Obj} (ha : a ∉ M) (e : h.get? a = some o) : a ∉ M' := fun q => by
  rcases hM a q with z | z
  · exact ha z
  · rw [z] at e; cases e
theorem Rep.to (hM : ∀ a ∈ M', a ∈ M ∨ h.get? a = Option.none) (k : ∀ b o, b ∉ M → h.get? b = some o → h'.get? b = some o) {v : Value} {d : D} (r : Rep M h v d) : Rep M' h' v d := by
  refine Rep.rec (motive_1 := fun v d _ => Rep M' h' v d) (motive_2 := fun vs ds _ => RepL M' h' vs ds) .none .bool .int .str .bytes ?_ ?_ ?_ ?_ .opq .nil ?_ r
  · intro a vs n ds ha e _ ih; exact .list (not_mem_to hM ha e) (k _ _ ha e) ih
  · intro a vs n ds ha e _ ih; exact .tup (not_mem_to hM ha e) (k _ _ ha e) ih
  · intro r a b c t u v ha e; exact .range (not_mem_to hM ha e) (k _ _ ha e)
  · intro x dx w h1 h2 h3 h4 h5 t1 t2 t3 t4 t5 u1 u2 u3 vn ep hx hd ex ed _ ih; exact .ws (not_mem_to hM hx ex) (not_mem_to hM hd ed) (k _ _ hx ex) (k _ _ hd ed) ih
  · intro v vs d ds _ _ i1 i2; exact .cons i1 i2
theorem RepL.to (hM : ∀ a ∈ M', a ∈ M ∨ h.get? a = Option.none) (k : ∀ b o, b ∉ M → h.get? b = some o → h'.get? b = some o) : ∀ {vs : List Value} {ds : List D}, RepL M h vs ds → RepL M' h' vs ds
  | _, _, .nil => .nil
  | _, _, .cons r rs => .cons (r.to hM k) (RepL.to hM k rs)
theorem Rep.keeps {v : Value} {d : D} (r : Rep M h v d) (k : Ext h h') : Rep M h' v d := r.to (fun _ q => .inl q) fun b o _ e => k b o e
theorem RepL.keeps {vs : List Value} {ds : List D} (r : RepL M h vs ds) (k : Ext h h') : RepL M h' vs ds := r.to (fun _ q => .inl q) fun b o _ e => k b o e
theorem Rep.less {v : Value} {d : D} (r : Rep M h v d) (hM : ∀ a ∈ M', a ∈ M) : Rep M' h v d := r.to (fun a q => .inl (hM a q)) fun b o _ e => e
theorem RepL.less {vs : List Value} {ds : List D} (r : RepL M h vs ds) (hM : ∀ a ∈ M', a ∈ M) : RepL M' h vs ds := r.to (fun a q => .inl (hM a q)) fun b o _ e => e
theorem RepL.length : ∀ {vs : List Value} {ds : List D}, RepL M h vs ds → vs.length = ds.length
  | _, _, .nil => rfl
  | _, _, .cons _ r => by rw [List.length_cons, List.length_cons, RepL.length r]
theorem RepL.append : ∀ {vs ws : List Value} {ds es : List D}, RepL M h vs ds → RepL M h ws es → RepL M h (vs ++ ws) (ds ++ es)
  | _, _, _, _, .nil, k => k
  | _, _, _, _, .cons r rs, k => .cons r (RepL.append rs k)
theorem RepL.get : ∀ {vs : List Value} {ds : List D} {i : Nat} {d : D}, RepL M h vs ds → ds[i]? = some d → ∃ v, vs[i]? = some v ∧ Rep M h v d
  | _, _, i, d, .nil, e => by simp at e
  | _, _, 0, d, .cons r rs, e => by
    simp at e; subst e; exact ⟨_, rfl, r⟩
  | _, _, i + 1, d, .cons r rs, e => by
    simp at e ⊢; exact RepL.get rs e
theorem RepL.getV : ∀ {vs : List Value} {ds : List D} {i : Nat} {v : Value}, RepL M h vs ds → vs[i]? = some v → ∃ d, ds[i]? = some d ∧ Rep M h v d
  | _, _, i, d, .nil, e => by simp at e
  | _, _, 0, d, .cons r rs, e => by
    simp at e; subst e; exact ⟨_, rfl, r⟩
  | _, _, i + 1, d, .cons r rs, e => by
    simp at e ⊢; exact RepL.getV rs e
theorem RepL.take : ∀ {vs : List Value} {ds : List D} (i : Nat), RepL M h vs ds → RepL M h (vs.take i) (ds.take i)
  | _, _, 0, _ => .nil
  | _, _, i + 1, .nil => .nil
  | _, _, i + 1, .cons r rs => .cons r (RepL.take i rs)
theorem RepL.drop : ∀ {vs : List Value} {ds : List D} (i : Nat), RepL M h vs ds → RepL M h (vs.drop i) (ds.drop i)
  | _, _, 0, r => r
  | _, _, i + 1, .nil => .nil
  | _, _, i + 1, .cons r rs => RepL.drop i rs
theorem RepL.ints : ∀ {vs : List Value} {ns : List Int}, RepL M h vs (ns.map .int) → IntsAre vs ns
  | _, [], r => by cases r; exact .nil
  | _, n :: ns, r => by
    cases r with
    | cons r1 r => cases r1; exact .cons _ _ (RepL.ints r)
theorem RepL.of_ints : ∀ {vs : List Value} {ns : List Int}, IntsAre vs ns → RepL M h vs (ns.map .int)
  | _, _, .nil => .nil
  | _, _, .cons _ t r => .cons (.int _ t) (RepL.of_ints r)
end

/-! the fixed parts -/
structure Th where
  prog : Program
  w : World
  K : Frag
  mg : Str → Option Value
  mb : Str → Option Value

structure Cx (T : Th) (M : List Addr) (h : Heap) : Prop where
  m : ∀ a ∈ M, ∃ o, h.get? a = some o
  X : T.K.In h
  g : h.Ns mainGlobals T.mg
  b : h.Ns builtinsNs T.mb
  lim : h.NoLimit
  bi : ∀ x : Str, x ≠ "__name__" → T.mb x = bootBuiltins x
  base : ∃ hb : Heap, Ext hb h ∧ (∀ a ∈ M, hb.get? a = none) ∧ T.K.In hb ∧ hb.Ns mainGlobals T.mg ∧ hb.Ns builtinsNs T.mb ∧ hb.NoLimit
theorem Cx.but {T : Th} {M M' : List Addr} {h h' : Heap} (c : Cx T M h) (hM : ∀ a ∈ M', a ∈ M ∨ h.get? a = none) (k : ∀ b o, b ∉ M → b ∉ M' → h.get? b = some o → h'.get? b = some o) (hm : ∀ a ∈ M', ∃ o, h'.get? a = some o) : Cx T M' h' := by
  obtain ⟨hb, xb, nb, X, g, b, lim⟩ := c.base
  have nb' : ∀ a ∈ M', hb.get? a = none := fun a ha => by
    rcases hM a ha with q | q
    · exact nb a q
    · cases e : hb.get? a with
      | none => rfl
      | some o => rw [xb a o e] at q; cases q
  have x' : Ext hb h' := fun a o e => k a o (fun q => by rw [nb a q] at e; cases e) (fun q => by rw [nb' a q] at e; cases e) (xb a o e)
  exact ⟨hm, X.keeps x', g.keeps x', b.keeps x', lim.keeps x', c.bi, hb, x', nb', X, g, b, lim⟩
theorem Cx.fresh {T : Th} {M : List Addr} {h : Heap} (c : Cx T M h) : h.objs.size ∉ M := fun q => by
  obtain ⟨o, e⟩ := c.m _ q
  exact Nat.lt_irrefl _ (Heap.lt_size e)
theorem Cx.keeps {T : Th} {M : List Addr} {h h' : Heap} (c : Cx T M h) (k : Ext h h') : Cx T M h' := ⟨fun a ha => let ⟨o, e⟩ := c.m a ha; ⟨o, k _ _ e⟩, c.X.keeps k, c.g.keeps k, c.b.keeps k, c.lim.keeps k, c.bi, let ⟨hb, xb, r⟩ := c.base; ⟨hb, xb.trans k, r⟩⟩

structure Room (k : Nat) (A : Around) : Prop where
  handled : A.handled = none
  depth : A.depth + 4 * k ≤ 800
  units : A.units + 20 * k ≤ 9000
theorem Room.in1 {k : Nat} {A : Around} (r : Room (k + 1) A) : Room k A.in1 := ⟨r.handled, by have := r.depth; show A.depth + 4 * k ≤ 800; lia, by have := r.units; show A.units + 1 + 20 * k ≤ 9000; lia⟩
theorem Room.deeper {k : Nat} {A : Around} {env : Env} (r : Room (k + 1) A) : Room k (A.deeper env) := ⟨r.handled, by have := r.depth; show A.depth + 1 + 4 * k ≤ 800; lia, by have := r.units; show A.units + 3 + 20 * k ≤ 9000; lia⟩
theorem Room.less {k k' : Nat} {A : Around} (r : Room k A) (h : k' ≤ k) : Room k' A := ⟨r.handled, by have := r.depth; lia, by have := r.units; lia⟩
theorem Room.room {k : Nat} {A : Around} (r : Room k A) : A.depth < recursionLimit := by have := r.depth; show A.depth < 1000; lia
theorem Room.un {k : Nat} {A : Around} (r : Room k A) : A.units + 64 < cLine := by have := r.units; rw [cLine_is]; lia
theorem Room.un0 {k : Nat} {A : Around} (r : Room k A) : A.units < cLine := by have := r.units; rw [cLine_is]; lia

structure EnvOk (sc : Scope) (env : Env) : Prop where
  scope : env.scope = sc
  kind : sc.kind = .function
  glob : env.globals = mainGlobals
  bi : env.builtins = builtinsNs

def Loc (h : Heap) (env : Env) (x : Str) (v : Value) : Prop :=
  (env.kindOf x = some .local ∧ ∃ m, h.Ns env.locals m ∧ m x = some v) ∨
  ((env.kindOf x = some .cell ∨ env.kindOf x = some .free) ∧ ∃ c, env.cells.lookup x = some c ∧ h.IsCell c (some v))
theorem Loc.keeps {h h' : Heap} {env : Env} {x : Str} {v : Value} (l : Loc h env x v) (k : Ext h h') : Loc h' env x v := by
  rcases l with ⟨a, m, n, e⟩ | ⟨a, c, e, n⟩
  · exact .inl ⟨a, m, n.keeps k, e⟩
  · exact .inr ⟨a, c, e, n.keeps k⟩

abbrev St := List (Str × D)
def Holds (M : List Addr) (h : Heap) (env : Env) (σ : St) : Prop := ∀ x d, σ.lookup x = some d → ∃ v, Loc h env x v ∧ Rep M h v d
theorem Holds.keeps {M : List Addr} {h h' : Heap} {env : Env} {σ : St} (l : Holds M h env σ) (k : Ext h h') : Holds M h' env σ := fun x d e =>
  let ⟨v, a, b⟩ := l x d e; ⟨v, a.keeps k, b.keeps k⟩

abbrev Post (M : List Addr) (s : Shared) (d : D) (Q : Value → Shared → Prop) : Prop := ∀ v h' tk, Ext s.heap h' → Rep M h' v d → Q v { s with heap := h', toks := tk }

abbrev W (T : Th) {α : Type} (A : Around) (t : Sem α) (Q : α → Shared → Prop) (E : Value → Shared → Prop) (s : Shared) : Prop := wpAny (model T.prog T.w) A t Q E s

/-- in every frame of scope sc whose names hold σ, e gives d -/
def Ev (T : Th) (k : Nat) (sc : Scope) (σ : St) (e : Expr) (d : D) : Prop :=
  ∀ (env : Env) (M : List Addr) (A : Around) (s : Shared) (Q : Value → Shared → Prop) (E : Value → Shared → Prop), EnvOk sc env → Room k A → Cx T M s.heap → Holds M s.heap env σ → Post M s d Q → W T A (eval e env) Q E s

def Tr (T : Th) (k : Nat) (sc : Scope) (σ : St) (e : Expr) (b : Bool) : Prop :=
  ∀ (env : Env) (M : List Addr) (A : Around) (s : Shared) (Q : Bool → Shared → Prop) (E : Value → Shared → Prop), EnvOk sc env → Room k A → Cx T M s.heap → Holds M s.heap env σ →
    (∀ h' tk, Ext s.heap h' → Q b { s with heap := h', toks := tk }) → W T A (isTrue e env (eval e env)) Q E s

/-- a call of f on values that stand for ds gives d -/
def Fn (T : Th) (k : Nat) (f : Value) (ds : List D) (d : D) : Prop :=
  ∀ (M : List Addr) (A : Around) (s : Shared) (vs : List Value) (Q : Value → Shared → Prop) (E : Value → Shared → Prop), Room k A → Cx T M s.heap → RepL M s.heap vs ds → Post M s d Q → W T A (call f vs) Q E s

def BinOk (T : Th) (k : Nat) (op : Operator) (a b d : D) : Prop :=
  ∀ (M : List Addr) (A : Around) (s : Shared) (v u : Value) (Q : Value → Shared → Prop) (E : Value → Shared → Prop), Room k A → Cx T M s.heap → Rep M s.heap v a → Rep M s.heap u b → Post M s d Q → W T A (binaryOp op v u) Q E s
def CmpOk (T : Th) (k : Nat) (op : CmpOp) (a b : D) (r : Bool) : Prop :=
  ∀ (M : List Addr) (A : Around) (s : Shared) (v u : Value) (Q : Value → Shared → Prop) (E : Value → Shared → Prop), Room k A → Cx T M s.heap → Rep M s.heap v a → Rep M s.heap u b → Post M s (.bool r) Q → W T A (compareOp op v u) Q E s

section
variable {T : Th} {k : Nat} {sc : Scope} {σ : St}

theorem Ev.name {x : Str} {pos : Pos} {d : D} (hσ : σ.lookup x = some d) (hd : (x == ("__debug__" : Str)) = false := by decide) (hc : (x == ("__classdict__" : Str)) = false := by decide) : Ev T k sc σ (.Name x pos) d := by
  intro env M A s Q E ok r cx hl post
  obtain ⟨v, l, rp⟩ := hl x d hσ
  have hk : env.scope.kind = .function := by rw [ok.scope]; exact ok.kind
  refine wpAny_Name ?_ hd
  rcases l with ⟨a, m, n, e⟩ | ⟨a | a, c, e, n⟩
  · exact wpAny_loadName_local hk a n e (post v s.heap s.toks (Ext.refl _) rp)
  · exact wpAny_loadName_cell hk a e n (post v s.heap s.toks (Ext.refl _) rp)
  · exact wpAny_loadName_free hk a e n (post v s.heap s.toks (Ext.refl _) rp) hc

theorem Ev.int {i : Int} {kk : Nat} {pos : Pos} : Ev T k sc σ (.Constant (.int i) kk pos) (.int i) := fun env M A s Q E ok r cx hl post => wpAny_Constant_int (post _ s.heap _ (Ext.refl _) (.int _ _))
theorem Ev.str {x : Str} {kk : Nat} {pos : Pos} : Ev T k sc σ (.Constant (.str x) kk pos) (.str x) := fun env M A s Q E ok r cx hl post => wpAny_Constant_str (post _ s.heap _ (Ext.refl _) (.str _ _))
theorem Ev.bool {b : Bool} {kk : Nat} {pos : Pos} : Ev T k sc σ (.Constant (.bool b) kk pos) (.bool b) := fun env M A s Q E ok r cx hl post => wpAny_Constant_bool (post _ s.heap s.toks (Ext.refl _) (.bool _))
theorem Ev.bytes {x : List UInt8} {kk : Nat} {pos : Pos} : Ev T k sc σ (.Constant (.bytes x) kk pos) (.bytes x.toArray) := fun env M A s Q E ok r cx hl post => by
  show W T A (mkTextBytes x.toArray) Q E s
  exact wpAny_mkTextBytes (post _ s.heap _ (Ext.refl _) (.bytes _ _))

theorem Ev.bin {a b : Expr} {op : Operator} {pos : Pos} {d₁ d₂ d : D} (ha : Ev T k sc σ a d₁) (hb : Ev T k sc σ b d₂) (ho : BinOk T k op d₁ d₂ d) : Ev T k sc σ (.BinOp a op b pos) d := by
  intro env M A s Q E ok r cx hl post
  refine wpAny_BinOp (ha env M A s _ E ok r cx hl fun v h1 t1 x1 r1 => hb env M A _ _ E ok r (cx.keeps x1) (hl.keeps x1) fun u h2 t2 x2 r2 => ?_)
  exact ho M A _ v u Q E r ((cx.keeps x1).keeps x2) (r1.keeps x2) r2 fun z h3 t3 x3 r3 => post z h3 t3 ((x1.trans x2).trans x3) r3

theorem Ev.cmp {a b : Expr} {op : CmpOp} {pos : Pos} {d₁ d₂ : D} {c : Bool} (ha : Ev T k sc σ a d₁) (hb : Ev T k sc σ b d₂) (ho : CmpOk T k op d₁ d₂ c) (hm : behindInMarks op b = false := by with_unfolding_all rfl) : Ev T k sc σ (.Compare a [op] [b] pos) (.bool c) := by
  intro env M A s Q E ok r cx hl post
  refine wpAny_Compare1 (ha env M A s _ E ok r cx hl fun v h1 t1 x1 r1 => hb env M A _ _ E ok r (cx.keeps x1) (hl.keeps x1) fun u h2 t2 x2 r2 => ?_) hm
  exact ho M A _ v u Q E r ((cx.keeps x1).keeps x2) (r1.keeps x2) r2 fun z h3 t3 x3 r3 => post z h3 t3 ((x1.trans x2).trans x3) r3

theorem Tr.cmp {a b : Expr} {op : CmpOp} {pos : Pos} {d₁ d₂ : D} {c : Bool} (ha : Ev T k sc σ a d₁) (hb : Ev T k sc σ b d₂) (ho : CmpOk T k op d₁ d₂ c) (hm : behindInMarks op b = false := by with_unfolding_all rfl) : Tr T k sc σ (.Compare a [op] [b] pos) c := by
  intro env M A s Q E ok r cx hl post
  refine wpAny_isTrue_Compare1 (ha env M A s _ E ok r cx hl fun v h1 t1 x1 r1 => hb env M A _ _ E ok r (cx.keeps x1) (hl.keeps x1) fun u h2 t2 x2 r2 => ?_) hm
  refine ho M A _ v u _ E r ((cx.keeps x1).keeps x2) (r1.keeps x2) r2 fun z h3 t3 x3 r3 => ?_
  cases r3
  exact wpAny_truthy_bool (post h3 t3 ((x1.trans x2).trans x3))
end
end Mine

-- D1
namespace Mine
open PySem PySem.W PyProof.Rows

section
variable {T : Th} {k : Nat}

theorem BinOk.add_int {a b : Int} : BinOk T k .Add (.int a) (.int b) (.int (a + b)) := by
  intro M A s v u Q E r cx ra rb post; cases ra; cases rb
  exact PyProof.Rows.add_int (post _ s.heap _ (Ext.refl _) (.int _ _))
theorem BinOk.sub_int {a b : Int} : BinOk T k .Sub (.int a) (.int b) (.int (a - b)) := by
  intro M A s v u Q E r cx ra rb post; cases ra; cases rb
  exact PyProof.Rows.sub_int (post _ s.heap _ (Ext.refl _) (.int _ _))
theorem BinOk.mul_int {a b : Int} (hm : IntMulOk a b) : BinOk T k .Mult (.int a) (.int b) (.int (a * b)) := by
  intro M A s v u Q E r cx ra rb post; cases ra; cases rb
  exact PyProof.Rows.mul_int (post _ s.heap _ (Ext.refl _) (.int _ _)) hm
theorem BinOk.fdiv_int {a b : Int} (hb : b ≠ 0) (hp : Builtin.divisionGoesByPylong a b = false) : BinOk T k .FloorDiv (.int a) (.int b) (.int (a.fdiv b)) := by
  intro M A s v u Q E r cx ra rb post; cases ra; cases rb
  exact floordiv_int hb (post _ s.heap _ (Ext.refl _) (.int _ _)) (.inl hp)
theorem BinOk.fmod_int {a b : Int} (hb : b ≠ 0) : BinOk T k .Mod (.int a) (.int b) (.int (a.fmod b)) := by
  intro M A s v u Q E r cx ra rb post; cases ra; cases rb
  exact PyProof.Rows.mod_int hb (post _ s.heap _ (Ext.refl _) (.int _ _))
theorem BinOk.pow_int {a b : Int} (h0 : 0 ≤ b) (h1 : b ≤ 1000000) (h2 : a.natAbs < 2 ^ 64) : BinOk T k .Pow (.int a) (.int b) (.int (a ^ b.toNat)) := by
  intro M A s v u Q E r cx ra rb post; cases ra; cases rb
  exact pow_int_small h0 h1 h2 (post _ s.heap _ (Ext.refl _) (.int _ _))
theorem BinOk.shl_int {a b : Int} (h0 : 0 ≤ b) (h1 : b ≤ 1000000) (h2 : a.natAbs < 2 ^ 64) : BinOk T k .LShift (.int a) (.int b) (.int (a * 2 ^ b.toNat)) := by
  intro M A s v u Q E r cx ra rb post; cases ra; cases rb
  exact lshift_int_small h0 h1 h2 (post _ s.heap _ (Ext.refl _) (.int _ _))
theorem BinOk.and_int {a b : Int} : BinOk T k .BitAnd (.int a) (.int b) (.int (Builtin.bitAnd a b)) := by
  intro M A s v u Q E r cx ra rb post; cases ra; cases rb
  exact PyProof.Rows.and_int (post _ s.heap _ (Ext.refl _) (.int _ _))
theorem BinOk.add_str {x y : Str} (hz : x.length + y.length ≤ sizeLine) : BinOk T k .Add (.str x) (.str y) (.str (x ++ y)) := by
  intro M A s v u Q E r cx ra rb post; cases ra; cases rb
  exact PyProof.Rows.add_str (fun t' tk => post _ s.heap tk (Ext.refl _) (.str _ _)) hz
theorem BinOk.mul_str {x : Str} {n : Int} (ho : MulOk x n) : BinOk T k .Mult (.str x) (.int n) (.str (Txt.mul x n)) := by
  intro M A s v u Q E r cx ra rb post; cases ra; cases rb
  exact SB.mul ho (fun t' tk => post _ s.heap tk (Ext.refl _) (.str _ _))
theorem BinOk.add_bytes {x y : Array UInt8} (hz : x.size + y.size ≤ 16777216) : BinOk T k .Add (.bytes x) (.bytes y) (.bytes (x ++ y)) := by
  intro M A s v u Q E r cx ra rb post; cases ra; cases rb
  exact KBy.add_bytes hz (fun t' tk => post _ s.heap tk (Ext.refl _) (.bytes _ _))
theorem rep_push {M : List Addr} {s : Shared} {vs : List Value} {n : Nat} {ds : List D} (cx : Cx T M s.heap) (r : RepL M s.heap vs ds) : Rep M (s.heap.push (lObj vs n)) (.ref s.heap.objs.size) (.list ds) :=
  .list cx.fresh (Heap.get?_push_size _ rfl) (r.keeps (Ext.push _ _))
theorem rep_pushT {M : List Addr} {s : Shared} {vs : List Value} {n : Nat} {ds : List D} (cx : Cx T M s.heap) (r : RepL M s.heap vs ds) : Rep M (s.heap.push (tObj vs n)) (.ref s.heap.objs.size) (.tup ds) :=
  .tup cx.fresh (Heap.get?_push_size _ rfl) (r.keeps (Ext.push _ _))
theorem BinOk.add_list {ds es : List D} (hz : ds.length + es.length ≤ sizeLine) : BinOk T k .Add (.list ds) (.list es) (.list (ds ++ es)) := by
  intro M A s v u Q E r cx ra rb post
  cases ra with
  | list ha ea la =>
    cases rb with
    | list hb eb lb =>
      rename_i a vs n b us m
      refine P.add_list ea eb ?_ (by rw [List.size_toArray, List.size_toArray, la.length, lb.length]; exact hz)
      have e : vs.toArray ++ us.toArray = (vs ++ us).toArray := by simp
      rw [e]
      exact post _ _ _ (Ext.push _ _) (rep_push cx (la.append lb))

theorem foldl_rep (x : Value) : ∀ (n : Nat) (acc : List Value), List.foldl (fun (a b : Array Value) => a ++ b) acc.toArray (List.replicate n #[x]) = (acc ++ List.replicate n x).toArray
  | 0, acc => by simp
  | n + 1, acc => by
    rw [List.replicate_succ, List.foldl_cons, show acc.toArray ++ #[x] = (acc ++ [x]).toArray by simp, foldl_rep x n, List.replicate_succ]
    simp
theorem RepL.rep {M : List Addr} {h : Heap} {v : Value} {d : D} (r : Rep M h v d) : ∀ n, RepL M h (List.replicate n v) (List.replicate n d)
  | 0 => .nil
  | n + 1 => .cons r (RepL.rep r n)
/-- [x] * n -/
theorem BinOk.mul_list1 {d : D} {n : Int} (h0 : -(2 ^ 63 : Int) ≤ n) (h1 : n ≤ 1000000) : BinOk T k .Mult (.list [d]) (.int n) (.list (List.replicate n.toNat d)) := by
  intro M A s v u Q E r cx ra rb post
  cases ra with
  | list ha ea la =>
    cases rb
    rename_i a vs ep t
    cases la with
    | cons r1 r2 =>
      cases r2
      rename_i v0
      have hsz : ([v0].toArray : Array Value).size * n.toNat ≤ 2 ^ 24 := by simp; lia
      refine wpAny_binaryOp_repeat_ref (T := "list") (U := "int") (by decide) ⟨_, ea, rfl⟩ (fun s' => typeIs_int s' n t) noFill_list_mul F.fills_int_mul F.slot_int_rmul repeat_list F.slot_int_index.lookup
        (call_meets F.slot_int_rmul (typeIs_int s n t) F.entry_int_rmul (F.args_int_rmul_2 _ _) (int___rmul___int_list n t a [v0].toArray ep)
          ⟨ea, rfl, ⟨_, ea, rfl⟩, call_meets F.slot_list_mul ⟨_, ea, rfl⟩ F.entry_list_mul (F.args_list_mul_2 _ _)
            (AutoListH.list___mul___list_int_3 a [v0].toArray ep n t (by simp [Builtin.List.listFitsIndex]; lia) (by lia) (by simp [Builtin.List.listTooLong, sizeLine]; lia))
            ⟨ea, ?_⟩⟩)
      have e : List.foldl (fun (a b : Array Value) => a ++ b) #[] (List.replicate n.toNat #[v0]) = (List.replicate n.toNat v0).toArray := by
        have := foldl_rep v0 n.toNat []
        simpa using this
      show Q (.ref s.heap.objs.size) { s with heap := s.heap.push { cls := .type "list", data := .seq (List.foldl (fun (a b : Array Value) => a ++ b) #[] (List.replicate n.toNat #[v0])) } }
      rw [e]
      exact post _ _ _ (Ext.push _ _) (rep_push cx (RepL.rep r1 _))

/-! comparisons -/
theorem CmpOk.eq_int {a b : Int} : CmpOk T k .Eq (.int a) (.int b) (a == b) := by
  intro M A s v u Q E r cx ra rb post; cases ra; cases rb
  exact PySem.P.eq_int (post _ s.heap _ (Ext.refl _) (.bool _))
theorem CmpOk.ne_int {a b : Int} : CmpOk T k .NotEq (.int a) (.int b) (a != b) := by
  intro M A s v u Q E r cx ra rb post; cases ra; cases rb
  exact PySem.P.ne_int (post _ s.heap _ (Ext.refl _) (.bool _))
theorem CmpOk.lt_int {a b : Int} : CmpOk T k .Lt (.int a) (.int b) (decide (a < b)) := by
  intro M A s v u Q E r cx ra rb post; cases ra; cases rb
  exact PySem.P.lt_int (post _ s.heap _ (Ext.refl _) (.bool _))
theorem CmpOk.le_int {a b : Int} : CmpOk T k .LtE (.int a) (.int b) (decide (a ≤ b)) := by
  intro M A s v u Q E r cx ra rb post; cases ra; cases rb
  exact PySem.P.le_int (post _ s.heap _ (Ext.refl _) (.bool _))
theorem CmpOk.gt_int {a b : Int} : CmpOk T k .Gt (.int a) (.int b) (decide (b < a)) := by
  intro M A s v u Q E r cx ra rb post; cases ra; cases rb
  exact PySem.P.gt_int (post _ s.heap _ (Ext.refl _) (.bool _))
theorem CmpOk.ge_int {a b : Int} : CmpOk T k .GtE (.int a) (.int b) (decide (b ≤ a)) := by
  intro M A s v u Q E r cx ra rb post; cases ra; cases rb
  exact PySem.P.ge_int (post _ s.heap _ (Ext.refl _) (.bool _))
theorem CmpOk.eq_str {x y : Str} : CmpOk T k .Eq (.str x) (.str y) (x == y) := by
  intro M A s v u Q E r cx ra rb post; cases ra; cases rb
  exact PyProof.Rows.eq_str (post _ s.heap _ (Ext.refl _) (.bool _))
theorem CmpOk.eq_bytes {x y : Array UInt8} : CmpOk T k .Eq (.bytes x) (.bytes y) (x.toList == y.toList) := by
  intro M A s v u Q E r cx ra rb post; cases ra; cases rb
  exact PySem.W.eq_bytes (post _ s.heap _ (Ext.refl _) (.bool _))
theorem CmpOk.is_bool {a b : Bool} : CmpOk T k .Is (.bool a) (.bool b) (a == b) := by
  intro M A s v u Q E r cx ra rb post; cases ra; cases rb
  exact PyProof.Rows.is_bool (post _ s.heap _ (Ext.refl _) (.bool _))
theorem CmpOk.eq_iD {a b : List Int} : CmpOk T k .Eq (iD a) (iD b) (decide (a = b)) := by
  intro M A s v u Q E r cx ra rb post
  cases ra with
  | list ha ea la =>
    cases rb with
    | list hb eb lb => exact eq_intsK ⟨_, ea, rfl, _, rfl⟩ la.ints ⟨_, eb, rfl, _, rfl⟩ lb.ints r.un (post _ s.heap s.toks (Ext.refl _) (.bool _))
theorem CmpOk.ne_iD {a b : List Int} : CmpOk T k .NotEq (iD a) (iD b) (!decide (a = b)) := by
  intro M A s v u Q E r cx ra rb post
  cases ra with
  | list ha ea la =>
    cases rb with
    | list hb eb lb => exact ne_intsK ⟨_, ea, rfl, _, rfl⟩ la.ints ⟨_, eb, rfl, _, rfl⟩ lb.ints r.un (post _ s.heap s.toks (Ext.refl _) (.bool _))
theorem RepL.strs {M : List Addr} {h : Heap} : ∀ {vs : List Value} {ns : List Str}, RepL M h vs (ns.map .str) → StrsAre vs ns
  | _, [], r => by cases r; exact .nil
  | _, n :: ns, r => by
    cases r with
    | cons r1 r => cases r1; exact .cons _ _ (RepL.strs r)
theorem RepL.of_strs {M : List Addr} {h : Heap} : ∀ {vs : List Value} {ns : List Str}, StrsAre vs ns → RepL M h vs (ns.map .str)
  | _, _, .nil => .nil
  | _, _, .cons _ t r => .cons (.str _ t) (RepL.of_strs r)
theorem CmpOk.in_strs {x : Str} {ys : List Str} : CmpOk T k .In (.str x) (.list (ys.map .str)) (ys.any (· == x)) := by
  intro M A s v u Q E r cx ra rb post
  cases ra
  cases rb with
  | list hb eb lb => exact in_list_strs ⟨_, eb, rfl, _, rfl⟩ lb.strs (post _ s.heap s.toks (Ext.refl _) (.bool _))
end
end Mine
namespace Mine
open PySem PySem.W PyProof.Rows
theorem CmpOk.ne_bytes {T : Th} {k : Nat} {x y : Array UInt8} : CmpOk T k .NotEq (.bytes x) (.bytes y) (x.toList != y.toList) := by
  intro M A s v u Q E r cx ra rb post; cases ra; cases rb
  exact PySem.W.ne_bytes (post _ s.heap _ (Ext.refl _) (.bool _))
end Mine

-- D2
namespace Mine
open PySem PySem.W PyProof.Rows

/-- a name of the frame's that is the program's or the machine's -/
def Callee (T : Th) (sc : Scope) (x : Str) (f : Value) : Prop :=
  ∀ (env : Env) (M : List Addr) (A : Around) (s : Shared) (Q : Value → Shared → Prop) (E : Value → Shared → Prop) (pos : Pos), EnvOk sc env → Cx T M s.heap → Q f s → W T A (eval (.Name x pos) env) Q E s

def EvL (T : Th) (k : Nat) (sc : Scope) (σ : St) (es : List Expr) (ds : List D) : Prop :=
  ∀ (env : Env) (M : List Addr) (A : Around) (s : Shared) (Q : List Value → Shared → Prop) (E : Value → Shared → Prop) (pos : Pos), EnvOk sc env → Room k A → Cx T M s.heap → Holds M s.heap env σ →
    (∀ vs h' tk, Ext s.heap h' → RepL M h' vs ds → Q vs { s with heap := h', toks := tk }) → W T A (spliced (backTo pos (starEach es env))) Q E s

section
variable {T : Th} {k : Nat} {sc : Scope} {σ : St}

theorem Callee.glob {x : Str} {f : Value} (hk : sc.names.lookup x = some .globalImplicit) (hn : nsIn T.K mainGlobals x = some (some f)) (hd : (x == ("__debug__" : Str)) = false := by decide) : Callee T sc x f := by
  intro env M A s Q E pos ok cx q
  refine Calls.Name_function_global (by rw [ok.scope]; exact ok.kind) (by show env.scope.names.lookup x = _; rw [ok.scope]; exact hk) ?_ hd
  exact Calls.loadGlobal_global (by rw [ok.glob]; exact cx.g) (mg_of cx.X cx.g hn) q
theorem Callee.bi {x : Str} {f : Value} (hk : sc.names.lookup x = some .globalImplicit) (hn : nsIn T.K mainGlobals x = some none) (hb : bootBuiltins x = some f) (hx : x ≠ "__name__") (hd : (x == ("__debug__" : Str)) = false := by decide) : Callee T sc x f := by
  intro env M A s Q E pos ok cx q
  refine Calls.Name_function_global (by rw [ok.scope]; exact ok.kind) (by show env.scope.names.lookup x = _; rw [ok.scope]; exact hk) ?_ hd
  exact Calls.loadGlobal_builtin (by rw [ok.glob]; exact cx.g) (mg_none_of cx.X cx.g hn) (by rw [ok.bi]; exact cx.b) ((cx.bi x hx).trans hb) q

theorem EvL.nil : EvL T k sc σ [] [] := fun env M A s Q E pos ok r cx hl post => wpAny_items_nil (post [] s.heap s.toks (Ext.refl _) .nil)
theorem EvL.cons {e : Expr} {es : List Expr} {d : D} {ds : List D} (he : Ev T k sc σ e d) (hs : EvL T k sc σ es ds) (hst : ∀ env, starEach (e :: es) env = (false, eval e env) :: starEach es env := by intro _; rfl) : EvL T k sc σ (e :: es) (d :: ds) := by
  intro env M A s Q E pos ok r cx hl post
  refine wpAny_items_cons (he env M A s _ E ok r cx hl fun v h1 t1 x1 r1 => hs env M A _ _ E pos ok r (cx.keeps x1) (hl.keeps x1) fun vs h2 t2 x2 r2 => ?_) (hst env)
  exact post (v :: vs) h2 t2 (x1.trans x2) (.cons (r1.keeps x2) r2)

theorem Ev.list {es : List Expr} {pos : Pos} {ds : List D} (hs : EvL T k sc σ es ds) (hz : ds.length ≤ 1000) : Ev T k sc σ (.List es pos) (.list ds) := by
  intro env M A s Q E ok r cx hl post
  refine wpAny_List (hs env M A s _ E pos ok r cx hl fun vs h1 t1 x1 r1 => ⟨by rw [r1.length, sizeLine_eq]; lia, ?_⟩)
  exact post _ _ _ (x1.trans (Ext.push _ _)) (rep_push (T := T) (s := { s with heap := h1, toks := t1 }) (cx.keeps x1) r1)
theorem Ev.tup {es : List Expr} {kk : Nat} {pos : Pos} {ds : List D} (hs : EvL T k sc σ es ds) (hz : ds.length ≤ 1000) : Ev T k sc σ (.Tuple es kk pos) (.tup ds) := by
  intro env M A s Q E ok r cx hl post
  refine wpAny_Tuple (hs env M A s _ E pos ok r cx hl fun vs h1 t1 x1 r1 => ⟨by rw [r1.length, sizeLine_eq]; lia, ?_⟩)
  exact post _ _ _ (x1.trans (Ext.push _ _)) (rep_pushT (T := T) (s := { s with heap := h1, toks := t1 }) (cx.keeps x1) r1)

/-- a call by name -/
theorem Ev.callR {x : Str} {p pos : Pos} {e : Expr} {es : List Expr} {f : Addr} {ds : List D} {d : D} (hf : Callee T sc x (.ref f)) (hk : keepIn T.K (.ref f) = true) (ha : EvL T k sc σ (e :: es) ds) (hc : Fn T k (.ref f) ds d)
    (hst : ∀ env, starEach (e :: es) env = (false, eval e env) :: starEach es env := by intro _; rfl) (hpl : ∀ env, (backTo pos (starEach es env)).any (·.1) = false := by intro _; rfl) : Ev T k sc σ (.Call (.Name x p) (e :: es) [] pos) d := by
  intro env M A s Q E ok r cx hl post
  refine wpAny_Call_NameR (hf env M A s _ E p ok cx ?_)
  refine callWith_K cx.X hk (ha env M A s _ E pos ok r cx hl fun vs h1 t1 x1 r1 => ⟨(cx.keeps x1).X, ?_⟩) (hst env) (hpl env)
  exact hc M A _ vs Q E r (cx.keeps x1) r1 fun v h2 t2 x2 r2 => post v h2 t2 (x1.trans x2) r2
theorem Ev.callB {x : Str} {p pos : Pos} {e : Expr} {es : List Expr} {f : String} {ds : List D} {d : D} (hf : Callee T sc x (.builtin f)) (ha : EvL T k sc σ (e :: es) ds) (hc : Fn T k (.builtin f) ds d)
    (hst : ∀ env, starEach (e :: es) env = (false, eval e env) :: starEach es env := by intro _; rfl) (hpl : ∀ env, (backTo pos (starEach es env)).any (·.1) = false := by intro _; rfl) : Ev T k sc σ (.Call (.Name x p) (e :: es) [] pos) d := by
  intro env M A s Q E ok r cx hl post
  refine wpAny_Call_NameR (hf env M A s _ E p ok cx ?_)
  refine callWith_builtin1 (ha env M A s _ E pos ok r cx hl fun vs h1 t1 x1 r1 => ?_) (hst env) (hpl env)
  exact hc M A _ vs Q E r (cx.keeps x1) r1 fun v h2 t2 x2 r2 => post v h2 t2 (x1.trans x2) r2
theorem Ev.callT {x : Str} {p pos : Pos} {e : Expr} {es : List Expr} {f : String} {ds : List D} {d : D} (hf : Callee T sc x (.type f)) (ha : EvL T k sc σ (e :: es) ds) (hc : Fn T k (.type f) ds d)
    (hst : ∀ env, starEach (e :: es) env = (false, eval e env) :: starEach es env := by intro _; rfl) (hpl : ∀ env, (backTo pos (starEach es env)).any (·.1) = false := by intro _; rfl) : Ev T k sc σ (.Call (.Name x p) (e :: es) [] pos) d := by
  intro env M A s Q E ok r cx hl post
  refine wpAny_Call_NameR (hf env M A s _ E p ok cx ?_)
  refine PyProof.Rows.callWith_type1 (ha env M A s _ E pos ok r cx hl fun vs h1 t1 x1 r1 => ?_) (hst env) (hpl env)
  exact hc M A _ vs Q E r (cx.keeps x1) r1 fun v h2 t2 x2 r2 => post v h2 t2 (x1.trans x2) r2

theorem Ev.neg {e : Expr} {pos : Pos} {i : Int} (he : Ev T k sc σ e (.int i)) : Ev T k sc σ (.UnaryOp .USub e pos) (.int (-i)) := by
  intro env M A s Q E ok r cx hl post
  refine wpAny_UnaryOp (he env M A s _ E ok r cx hl fun v h1 t1 x1 r1 => ?_)
  cases r1
  exact neg_int (post _ _ _ x1 (.int _ _))

/-! truth -/
theorem Tr.not {e : Expr} {pos : Pos} {b : Bool} (he : Tr T k sc σ e b) : Tr T k sc σ (.UnaryOp .Not e pos) (!b) := fun env M A s Q E ok r cx hl post => wpAny_isTrue_Not (he env M A s _ E ok r cx hl post)
theorem Tr.and2 {a b : Expr} {pos : Pos} {p q : Bool} (ha : Tr T k sc σ a p) (hb : p = true → Tr T k sc σ b q) : Tr T k sc σ (.BoolOp .And [a, b] pos) (p && q) := by
  intro env M A s Q E ok r cx hl post
  refine wpAny_isTrue_BoolOp (wpAny_allTrue_And_cons (ha env M A s _ E ok r cx hl fun h1 t1 x1 => ?_))
  cases p
  · exact post h1 t1 x1
  · refine wpAny_allTrue_And_cons (hb rfl env M A _ _ E ok r (cx.keeps x1) (hl.keeps x1) fun h2 t2 x2 => ?_)
    cases q
    · exact post h2 t2 (x1.trans x2)
    · exact wpAny_allTrue_And_nil (post h2 t2 (x1.trans x2))
theorem Tr.or2 {a b : Expr} {pos : Pos} {p q : Bool} (ha : Tr T k sc σ a p) (hb : p = false → Tr T k sc σ b q) : Tr T k sc σ (.BoolOp .Or [a, b] pos) (p || q) := by
  intro env M A s Q E ok r cx hl post
  refine wpAny_isTrue_BoolOp (wpAny_allTrue_Or_cons (ha env M A s _ E ok r cx hl fun h1 t1 x1 => ?_))
  cases p
  · refine wpAny_allTrue_Or_cons (hb rfl env M A _ _ E ok r (cx.keeps x1) (hl.keeps x1) fun h2 t2 x2 => ?_)
    cases q
    · exact wpAny_allTrue_Or_nil (post h2 t2 (x1.trans x2))
    · exact post h2 t2 (x1.trans x2)
  · exact post h1 t1 x1
/-- the truth of an int or a bool -/
theorem Tr.int {e : Expr} {i : Int} (he : Ev T k sc σ e (.int i)) (hp : ∀ env whole, PySem.isTrue e env whole = (do let v ← whole; standAt e.pos; holding [v] (truthy v)) := by intro _ _; rfl) : Tr T k sc σ e (i != 0) := by
  intro env M A s Q E ok r cx hl post
  refine wpAny_isTrue_value (he env M A s _ E ok r cx hl fun v h1 t1 x1 r1 => ?_) (hp env _)
  cases r1
  exact P.truthy_int (post _ _ x1)
theorem Tr.bool {e : Expr} {b : Bool} (he : Ev T k sc σ e (.bool b)) (hp : ∀ env whole, PySem.isTrue e env whole = (do let v ← whole; standAt e.pos; holding [v] (truthy v)) := by intro _ _; rfl) : Tr T k sc σ e b := by
  intro env M A s Q E ok r cx hl post
  refine wpAny_isTrue_value (he env M A s _ E ok r cx hl fun v h1 t1 x1 r1 => ?_) (hp env _)
  cases r1
  exact wpAny_truthy_bool (post _ _ x1)
theorem Ev.ite {t a b : Expr} {pos : Pos} {p : Bool} {d₁ d₂ : D} (ht : Tr T k sc σ t p) (ha : p = true → Ev T k sc σ a d₁) (hb : p = false → Ev T k sc σ b d₂) : Ev T k sc σ (.IfExp t a b pos) (if p then d₁ else d₂) := by
  intro env M A s Q E ok r cx hl post
  refine wpAny_IfExp (ht env M A s _ E ok r cx hl fun h1 t1 x1 => ?_)
  cases p
  · exact hb rfl env M A _ _ E ok r (cx.keeps x1) (hl.keeps x1) fun v h2 t2 x2 r2 => post v h2 t2 (x1.trans x2) r2
  · exact ha rfl env M A _ _ E ok r (cx.keeps x1) (hl.keeps x1) fun v h2 t2 x2 r2 => post v h2 t2 (x1.trans x2) r2
/-- `a and b` of bools, as a value -/
theorem Ev.and2 {a b : Expr} {pos : Pos} {p q : Bool} (ha : Ev T k sc σ a (.bool p)) (hb : p = true → Ev T k sc σ b (.bool q)) : Ev T k sc σ (.BoolOp .And [a, b] pos) (.bool (p && q)) := by
  intro env M A s Q E ok r cx hl post
  refine wpAny_And2 (ha env M A s _ E ok r cx hl fun v h1 t1 x1 r1 => ?_)
  cases r1
  refine wpAny_truthy_bool ?_
  cases p
  · exact post _ h1 t1 x1 (.bool _)
  · exact hb rfl env M A _ _ E ok r (cx.keeps x1) (hl.keeps x1) fun v h2 t2 x2 r2 => post v h2 t2 (x1.trans x2) r2

/-! items and slices -/
abbrev SubOk (slice : Expr) (o i : Value) : Prop := ∃ ops, subscripted slice false o i = operate ops (getItem o i)

theorem Ev.item {e i : Expr} {pos : Pos} {ds : List D} {j : Int} {d : D} (he : Ev T k sc σ e (.list ds)) (hi : Ev T k sc σ i (.int j)) (h0 : 0 ≤ j) (h1 : j < 2 ^ 63) (hd : ds[j.toNat]? = some d)
    (hs : ∀ o v, SubOk i o v := by intro _ _; exact ⟨_, rfl⟩) : Ev T k sc σ (.Subscript e i pos) d := by
  intro env M A s Q E ok r cx hl post
  refine Subscript_ (he env M A s _ E ok r cx hl fun v h1' t1 x1 r1 => hi env M A _ _ E ok r (cx.keeps x1) (hl.keeps x1) fun u h2 t2 x2 r2 => ?_)
  cases r2
  cases r1 with
  | list ha ea la =>
    obtain ⟨v, ev, rv⟩ := la.get hd
    have hL : h2.IsList _ _ := ⟨_, x2 _ _ ea, rfl, _, rfl⟩
    obtain ⟨ops, hops⟩ := hs _ _
    exact tail_any (s := { s with heap := h2, toks := t2 }) hL.typeIs slot_list_getitem.lookup (wpAny_getItem_list hL h0 h1 (by simpa using ev) (post v _ _ (x1.trans x2) (rv.keeps x2))) hops
end
end Mine

-- D3
namespace Mine
open PySem PySem.W PyProof.Rows

/-! iteration -/
structure Iter (T : Th) (M : List Addr) (h : Heap) (ds : List D) (I : Addr) (h₁ : Heap) : Prop where
  ex : ∃ (fp : List Addr) (P : Nat → Value → Prop) (S : Nat → Heap → Prop), (∀ A : Around, A.handled = none → Walks T.prog T.w A I fp [I] ds.length P S) ∧ S 0 h₁ ∧ (∀ i h, S i h → ∃ o, h.get? I = some o) ∧
    (∀ b ∈ fp, b = I ∨ (b ∉ M ∧ ∃ o, h.get? b = some o)) ∧ ∀ i v, P i v → i < ds.length → ∃ d, ds[i]? = some d ∧ Rep M h v d

def Itr (T : Th) (d : D) (ds : List D) : Prop :=
  ∀ (M : List Addr) (A : Around) (s : Shared) (v : Value) (Q : Value → Shared → Prop) (E : Value → Shared → Prop), Rep M s.heap v d →
    (∀ o : Obj, o.isFreed = false → Iter T M s.heap ds s.heap.objs.size (s.heap.push o) → Q (.ref s.heap.objs.size) { s with heap := s.heap.push o }) → W T A (pyIter v) Q E s

section
variable {T : Th}
theorem Itr.list {ds : List D} : Itr T (.list ds) ds := by
  intro M A s v Q E r q
  cases r with
  | list ha ea la =>
    rename_i a vs n
    have hL : s.heap.IsList a vs.toArray := ⟨_, ea, rfl, _, rfl⟩
    have hlt : a < s.heap.objs.size := Heap.lt_size ea
    refine wpAny_pyIter_list hL (q _ rfl ⟨[s.heap.objs.size, a], (fun i v => vs.toArray[i]? = some v), (fun i h => h.IsListIter s.heap.objs.size a i ∧ h.IsList a vs.toArray), fun A hA => ?_, ⟨⟨_, Heap.get?_push_size _ rfl, rfl, rfl⟩, hL.push _⟩, fun i h st => let ⟨o, e, _⟩ := st.1; ⟨o, e⟩, fun b hb => ?_, fun i v hP hi => ?_⟩)
    · have := Walks.list (prog := T.prog) (w := T.w) (A := A) hA s.heap.objs.size a (Nat.ne_of_lt hlt) vs.toArray
      rw [show vs.toArray.size = ds.length by rw [List.size_toArray, la.length]] at this
      exact this
    · rcases List.mem_cons.mp hb with rfl | hb
      · exact .inl rfl
      · rw [List.mem_singleton.mp hb]; exact .inr ⟨ha, _, ea⟩
    · exact la.getV (by simpa using hP)
theorem Itr.range {a b c : Int} {n : Nat} (hs : Builtin.Range.small a b c = true) (hn : Builtin.Range.rangeSize a b c = (n : Int)) : Itr T (.range a b c) ((List.range n).map fun i : Nat => .int (a + (i : Int) * c)) := by
  intro M A s v Q E r q
  cases r with
  | range hr er =>
    have hl : ((List.range n).map fun i : Nat => D.int (a + (i : Int) * c)).length = n := by simp
    refine wpAny_pyIter_range er hs (q _ rfl ⟨[s.heap.objs.size], (fun i v => ∃ t, v = .int (a + i * c) t), (fun i h => IsRangeIter h s.heap.objs.size (a + (i : Nat) * c) ((n : Int) - (i : Nat)) c), fun A hA => ?_, ?_, fun i h st => ⟨_, st⟩, fun b hb => .inl (List.mem_singleton.mp hb), fun i v hP hi => ?_⟩)
    · rw [hl]; exact Walks.range (prog := T.prog) (w := T.w) (A := A) hA s.heap.objs.size a c n
    · rw [hn]; show IsRangeIter _ _ _ _ _; simpa using Heap.get?_push_size _ rfl
    · obtain ⟨t, rfl⟩ := hP
      refine ⟨.int (a + (i : Int) * c), ?_, .int _ _⟩
      rw [hl] at hi
      simp [hi]
theorem Itr.bytes {b : Array UInt8} : Itr T (.bytes b) (b.toList.map fun c => .int (c.toNat : Int)) := by
  intro M A s v Q E r q
  cases r with
  | bytes b t =>
    have hl : (b.toList.map fun c : UInt8 => D.int (c.toNat : Int)).length = b.size := by simp
    refine KBw.pyIter_bytes (q _ rfl ⟨[s.heap.objs.size], (fun i v => ∃ c u, b[i]? = some c ∧ v = .int (c.toNat : Int) u), (fun i h => KBw.IsBytesIter h s.heap.objs.size b t i), fun A hA => ?_, ?_, fun i h st => let ⟨o, e, _⟩ := st; ⟨o, e⟩, fun b hb => .inl (List.mem_singleton.mp hb), fun i v hP hi => ?_⟩)
    · rw [hl]; exact KBw.walks (prog := T.prog) (w := T.w) (A := A) hA s.heap.objs.size b t
    · exact ⟨_, Heap.get?_push_size _ rfl, rfl, rfl⟩
    · obtain ⟨c, u, hc, rfl⟩ := hP
      refine ⟨.int (c.toNat : Int), ?_, .int _ _⟩
      rw [List.getElem?_map, Array.getElem?_toList, hc]
      rfl
theorem Itr.str {x : Str} : Itr T (.str x) (x.cps.toList.map fun c => .str ⟨#[c]⟩) := by
  intro M A s v Q E r q
  cases r with
  | str x t =>
    have hl : (x.cps.toList.map fun c : Nat => D.str ⟨#[c]⟩).length = x.cps.size := by simp
    have item : ∀ i v, SignAt x i v → i < (x.cps.toList.map fun c : Nat => D.str ⟨#[c]⟩).length → ∃ d, (x.cps.toList.map fun c : Nat => D.str ⟨#[c]⟩)[i]? = some d ∧ Rep M s.heap v d := fun i v hP hi => by
      obtain ⟨c, u, hc, rfl⟩ := hP
      refine ⟨.str ⟨#[c]⟩, ?_, .str _ _⟩
      rw [List.getElem?_map, Array.getElem?_toList, hc]
      rfl
    cases ha : x.cps.all (· < 128)
    · exact wpAny_pyIter_wide ha (q _ rfl ⟨[s.heap.objs.size], SignAt x, (fun i h => h.IsStrIter s.heap.objs.size "str_iterator" x t i), fun A hA => by rw [hl]; exact Walks.strWide hA _ x t, ⟨_, Heap.get?_push_size _ rfl, rfl, rfl⟩, fun i h st => let ⟨o, e, _⟩ := st; ⟨o, e⟩, fun b hb => .inl (List.mem_singleton.mp hb), item⟩)
    · exact wpAny_pyIter_ascii ha (q _ rfl ⟨[s.heap.objs.size], SignAt x, (fun i h => h.IsStrIter s.heap.objs.size "str_ascii_iterator" x t i), fun A hA => by rw [hl]; exact Walks.strAscii hA _ x t, ⟨_, Heap.get?_push_size _ rfl, rfl, rfl⟩, fun i h st => let ⟨o, e, _⟩ := st; ⟨o, e⟩, fun b hb => .inl (List.mem_singleton.mp hb), item⟩)
end
end Mine

-- D4
namespace Mine
open PySem PySem.W PyProof.Rows

/-- a name that a loop may store: at home on the addresses N -/
structure Tgt (T : Th) (env : Env) (x : Str) (N : List Addr) (Inv : Heap → Prop) : Prop where
  frame : ∀ H H', Inv H → (∀ b ∈ N, ∀ o, H.get? b = some o → H'.get? b = some o) → Inv H'
  exist : ∀ H, Inv H → ∀ b ∈ N, ∃ o, H.get? b = some o
  asg : ∀ (A : Around) (s : Shared) (Q : Unit → Shared → Prop) (E : Value → Shared → Prop) (v : Value) (px : Pos), Inv s.heap →
    (∀ h' tk, Inv h' → Loc h' env x v → (∀ b o, b ∉ N → s.heap.get? b = some o → h'.get? b = some o) → Q () { s with heap := h', toks := tk }) → W T A (assign (.Name x px) env v) Q E s

theorem Ns.only {h h' : Heap} {a : Addr} {m : Str → Option Value} (n : h.Ns a m) (e : ∀ o, h.get? a = some o → h'.get? a = some o) : h'.Ns a m := n.at' e
theorem Cell.only {h h' : Heap} {a : Addr} {v : Option Value} (n : h.IsCell a v) (e : ∀ o, h.get? a = some o → h'.get? a = some o) : h'.IsCell a v := let ⟨o, ho, hd⟩ := n; ⟨o, e o ho, hd⟩

theorem Tgt.local {T : Th} {env : Env} {x : Str} (hk : env.scope.kind = .function) (hx : env.kindOf x = some .local) : Tgt T env x [env.locals] (fun H => ∃ m, H.Ns env.locals m) where
  frame := fun H H' ⟨m, n⟩ k => ⟨m, Ns.only n (k _ (by simp))⟩
  exist := fun H ⟨m, n⟩ b hb => by rw [List.mem_singleton.mp hb]; obtain ⟨o, _, _, e, _⟩ := n; exact ⟨o, e⟩
  asg := fun A s Q E v px ⟨m, n⟩ q => by
    refine wpAny_assign_Name (wpAny_storeName_local hx n (fun h' hn hs => ?_) (by rw [hk]; rfl))
    exact q h' _ ⟨_, hn⟩ (.inl ⟨hx, _, hn, by simp⟩) fun b o hb e => hs.extBut b o (by simpa using hb) e
theorem Tgt.cell {T : Th} {env : Env} {x : Str} {c : Addr} (hk : env.scope.kind = .function) (hx : env.kindOf x = some .cell) (hc : env.cells.lookup x = some c) (hne : env.locals ≠ c) :
    Tgt T env x [env.locals, c] (fun H => (∃ m, H.Ns env.locals m) ∧ ∃ v, H.IsCell c v) where
  frame := fun H H' ⟨⟨m, n⟩, v, cv⟩ k => ⟨⟨m, Ns.only n (k _ (by simp))⟩, v, Cell.only cv (k _ (by simp))⟩
  exist := fun H ⟨⟨m, n⟩, v, cv⟩ b hb => by
    rcases List.mem_cons.mp hb with rfl | hb
    · obtain ⟨o, _, _, e, _⟩ := n; exact ⟨o, e⟩
    · rw [List.mem_singleton.mp hb]; obtain ⟨o, e, _⟩ := cv; exact ⟨o, e⟩
  asg := fun A s Q E v px ⟨⟨m, n⟩, v0, cv⟩ q => by
    refine wpAny_assign_Name (wpAny_storeName_cell hk hx hc cv fun h' hc' hs => ?_)
    refine q h' s.toks ⟨⟨m, n.sameBut hs hne⟩, _, hc'⟩ (.inr ⟨.inl hx, c, hc, hc'⟩) fun b o hb e => hs.extBut b o (fun z => hb (by simp [z])) e

def Tests (T : Th) (k : Nat) (sc : Scope) (σ : St) : List Expr → Bool → Prop
  | [], b => b = true
  | [c], b => Tr T k sc σ c b
  | _, _ => False

theorem filter_snoc {α : Type} (p : α → Bool) (l : List α) (i : Nat) (v : α) (h : l[i]? = some v) : (l.take (i + 1)).filter p = (l.take i).filter p ++ (if p v then [v] else []) := by
  rw [List.take_add_one, h, List.filter_append]
  cases hp : p v <;> simp [hp]

section
variable {T : Th} {k : Nat}

theorem tests_run {A : Around} {cenv : Env} {sc : Scope} {σ : St} {ifs : List Expr} {b : Bool} {M : List Addr} {s : Shared} {Q : Bool → Shared → Prop} {E : Value → Shared → Prop} (ht : Tests T k sc σ ifs b) (ok : EnvOk sc cenv) (r : Room k A) (cx : Cx T M s.heap) (hl : Holds M s.heap cenv σ)
    (q : ∀ h' tk, Ext s.heap h' → Q b { s with heap := h', toks := tk }) :
    W T A (forIn ifs true fun c r => if r = true then do let ok ← PySem.isTrue c cenv (eval c cenv); pure (ForInStep.yield ok) else pure (ForInStep.yield r)) Q E s := by
  match ifs, ht with
  | [], ht => cases ht; exact wpAny_tests_nil (q s.heap s.toks (Ext.refl _))
  | [c], ht => exact wpAny_tests_one (ht cenv M A s Q E ok r cx hl q)

theorem comp_loop {A : Around} {R : Result → Shared → Prop} {s₀ : Shared} {elt iter : Expr} {x : Str} {px : Pos} {ifs : List Expr} {scope scI : Scope} {pos : Pos} {I Dd : Addr} {cenv : Env} {N M : List Addr} {Inv : Heap → Prop} {hb : Heap}
    {ds : List D} {σf : St} (p : D → Bool) (f : D → D)
    (it : Iter T M hb ds I s₀.heap) (hx : ∀ o, hb.get? I = some o → False) (hbD : hb.get? Dd = none) (hbN : ∀ b ∈ N, hb.get? b = none) (hIN : I ∉ N) (hDN : Dd ∉ N) (hID : I ≠ Dd)
    (tg : Tgt T cenv x N Inv) (ok : EnvOk scI cenv) (r : Room k A) (cx : Cx T M hb) (hz : ds.length ≤ 1000000)
    (ext : Ext hb s₀.heap) (inv : Inv s₀.heap) (acc : s₀.heap.get? Dd = some (lObj [] 0))
    (hold : ∀ H, Ext hb H → Holds (I :: Dd :: (N ++ M)) H cenv σf)
    (htest : ∀ d ∈ ds, Tests T k scI ((x, d) :: σf) ifs (p d)) (helt : ∀ d ∈ ds, p d = true → Ev T k scI ((x, d) :: σf) elt (f d))
    (hR : ∀ H tk vs n, Inv H → Ext hb H → H.get? Dd = some (lObj vs n) → RepL (I :: Dd :: (N ++ M)) H vs ((ds.filter p).map f) → R (.ok .next) { s₀ with heap := H, toks := tk }) :
    codeAny (model T.prog T.w) A (.compLoop (.ListComp elt [⟨.Name x px, iter, ifs, 0⟩] scope pos) 0 (.ref I) (.ref Dd) cenv) R s₀ := by
  obtain ⟨fp, P, S, hW, hS, hSI, hfp, hP⟩ := it.ex
  have W := hW A r.handled
  have hMs : ∀ a ∈ (I :: Dd :: (N ++ M)), a ∈ M ∨ hb.get? a = none := fun a ha => by
    rcases List.mem_cons.mp ha with rfl | ha
    · refine .inr ?_
      cases e : hb.get? a with
      | none => rfl
      | some o => exact (hx o e).elim
    · rcases List.mem_cons.mp ha with rfl | ha
      · exact .inr hbD
      · rcases List.mem_append.mp ha with ha | ha
        · exact .inr (hbN a ha)
        · exact .inl ha
  refine codeAny_compLoop_tests
    (fun m s' => ∃ H tk i vs n, s' = { s₀ with heap := H, toks := tk } ∧ i ≤ ds.length ∧ m = ds.length + 1 - i ∧ S i H ∧ Inv H ∧ Ext hb H ∧ H.get? Dd = some (lObj vs n) ∧ RepL (I :: Dd :: (N ++ M)) H vs (((ds.take i).filter p).map f))
    ?_ (ds.length + 1) ⟨s₀.heap, s₀.toks, 0, [], 0, rfl, Nat.zero_le _, rfl, hS, inv, ext, acc, by simpa using RepL.nil⟩
  rintro m s' ⟨H, tk, i, vs, n, rfl, hi, rfl, hS', inv', ext', acc', rep'⟩
  by_cases hlt : i < ds.length
  · refine W.item i _ _ _ hlt hS' fun v H₁ tk₁ hPv hS₁ hk₁ => ?_
    obtain ⟨d, hd, rv⟩ := hP i v hPv hlt
    have hdm : d ∈ ds := List.mem_of_getElem? hd
    have n1 : ∀ b, b ∉ I :: Dd :: (N ++ M) → b ∉ [I] := fun b hb hq => hb (by rw [List.mem_singleton.mp hq]; simp)
    have inv₁ : Inv H₁ := tg.frame _ _ inv' fun b hb o e => hk₁ b o (fun q => hIN (by rw [← List.mem_singleton.mp q]; exact hb)) e
    have ext₁ : Ext hb H₁ := fun b o e => hk₁ b o (fun q => by rw [List.mem_singleton.mp q] at e; exact hx o e) (ext' b o e)
    have acc₁ : H₁.get? Dd = some (lObj vs n) := hk₁ _ _ (fun q => hID (List.mem_singleton.mp q).symm) acc'
    have rep₁ : RepL (I :: Dd :: (N ++ M)) H₁ vs (((ds.take i).filter p).map f) := rep'.to (fun _ q => .inl q) fun b o hb e => hk₁ b o (n1 b hb) e
    -- the iterator is still an object: S holds, so the walk goes on; its address is kept below the loop by S alone
    refine tg.asg A _ _ _ v px inv₁ fun H₂ tk₂ inv₂ loc₂ hk₂ => ?_
    have n2 : ∀ b, b ∉ I :: Dd :: (N ++ M) → b ∉ N := fun b hb hq => hb (by simp [hq])
    have ext₂ : Ext hb H₂ := fun b o e => hk₂ b o (fun q => by rw [hbN b q] at e; cases e) (ext₁ b o e)
    have acc₂ : H₂.get? Dd = some (lObj vs n) := hk₂ _ _ hDN acc₁
    have rep₂ : RepL (I :: Dd :: (N ++ M)) H₂ vs (((ds.take i).filter p).map f) := rep₁.to (fun _ q => .inl q) fun b o hb e => hk₂ b o (n2 b hb) e
    have hS₂ : S (i + 1) H₂ := W.frame _ _ _ hS₁ fun b hb o e => hk₂ b o (fun q => by
      rcases hfp b hb with rfl | ⟨_, o', e'⟩
      · exact hIN q
      · rw [hbN b q] at e'; cases e') e
    have cx₂ : Cx T (I :: Dd :: (N ++ M)) H₂ := cx.but hMs (fun b o _ _ e => ext₂ b o e) fun a ha => by
      rcases List.mem_cons.mp ha with rfl | ha
      · exact hSI _ _ hS₂
      · rcases List.mem_cons.mp ha with rfl | ha
        · exact ⟨_, acc₂⟩
        · rcases List.mem_append.mp ha with ha | ha
          · exact tg.exist _ inv₂ a ha
          · exact (cx.keeps ext₂).m a ha
    have hold₂ : Holds (I :: Dd :: (N ++ M)) H₂ cenv ((x, d) :: σf) := fun y d' e => by
      rw [List.lookup_cons] at e
      cases hy : y == x with
      | true =>
        rw [hy] at e
        obtain rfl : d = d' := by simpa using e
        rw [beq_iff_eq.mp hy]
        exact ⟨v, loc₂, rv.to hMs fun b o _ e => ext₂ b o e⟩
      | false => rw [hy] at e; exact hold H₂ ext₂ y d' e
    refine tests_run (htest d hdm) ok r cx₂ hold₂ fun H₃ tk₃ x₃ => ?_
    have inv₃ : Inv H₃ := tg.frame _ _ inv₂ fun b _ o e => x₃ b o e
    have hS₃ : S (i + 1) H₃ := W.frame _ _ _ hS₂ fun b _ o e => x₃ b o e
    have ext₃ : Ext hb H₃ := ext₂.trans x₃
    have hs : (ds.take (i + 1)).filter p = (ds.take i).filter p ++ (if p d then [d] else []) := filter_snoc p ds i d hd
    cases hpd : p d with
    | false =>
      simp only [Bool.false_eq_true, if_false]
      refine ⟨ds.length + 1 - (i + 1), by lia, H₃, tk₃, i + 1, vs, n, rfl, hlt, rfl, hS₃, inv₃, ext₃, x₃ _ _ acc₂, ?_⟩
      rw [hs, hpd]
      simpa using rep₂.keeps x₃
    | true =>
      simp only [if_true]
      refine helt d hdm hpd cenv _ A _ _ _ ok r (cx₂.keeps x₃) (hold₂.keeps x₃) fun y H₄ tk₄ x₄ ry => ?_
      have acc₄ : H₄.get? Dd = some (lObj vs n) := x₄ _ _ (x₃ _ _ acc₂)
      have hzv : vs.toArray.size ≤ sizeLine := by
        rw [List.size_toArray, rep₂.length, List.length_map, sizeLine_eq]
        have h1 := List.length_filter_le p (ds.take i)
        have h2 := List.length_take_le i ds
        lia
      refine wpAny_list_append_plain (hsz := hzv) ⟨n, acc₄⟩ fun H₅ hl₅ hs₅ => ?_
      obtain ⟨n', hl₅⟩ := hl₅
      refine ⟨ds.length + 1 - (i + 1), by lia, H₅, tk₄, i + 1, vs ++ [y], n', rfl, hlt, rfl, ?_, ?_, ?_, ?_, ?_⟩
      · refine W.frame _ _ _ (W.frame _ _ _ hS₃ fun b _ o e => x₄ b o e) fun b hb o e => hs₅.extBut b o (fun q => ?_) e
        rcases hfp b hb with rfl | ⟨_, o', e'⟩
        · exact hID q
        · rw [q, hbD] at e'; cases e'
      · exact tg.frame _ _ (tg.frame _ _ inv₃ fun b _ o e => x₄ b o e) fun b hb o e => hs₅.extBut b o (fun q => hDN (q ▸ hb)) e
      · exact fun b o e => hs₅.extBut b o (fun q => by rw [q, hbD] at e; cases e) (x₄ b o (ext₃ b o e))
      · rw [hl₅]; simp
      · rw [hs, hpd]
        simp only [if_true, List.map_append, List.map_cons, List.map_nil]
        have k5 : ∀ b o, b ∉ I :: Dd :: (N ++ M) → H₄.get? b = some o → H₅.get? b = some o := fun b o hb e => hs₅.extBut b o (fun q => hb (by simp [q])) e
        exact ((rep₂.keeps (x₃.trans x₄)).to (fun _ q => .inl q) k5).append (.cons (ry.to (fun _ q => .inl q) k5) .nil)
  · obtain rfl : i = ds.length := Nat.le_antisymm hi (Nat.not_lt.mp hlt)
    refine W.done _ _ _ hS' fun H₁ tk₁ hk₁ => ?_
    rw [List.take_length] at rep'
    refine hR H₁ tk₁ vs n ?_ ?_ ?_ ?_
    · exact tg.frame _ _ inv' fun b hb o e => hk₁ b o (fun q => hIN (by rw [← List.mem_singleton.mp q]; exact hb)) e
    · exact fun b o e => hk₁ b o (fun q => by rw [List.mem_singleton.mp q] at e; exact hx o e) (ext' b o e)
    · exact hk₁ _ _ (fun q => hID (List.mem_singleton.mp q).symm) acc'
    · exact rep'.to (fun _ q => .inl q) fun b o hb e => hk₁ b o (fun q => hb (by rw [List.mem_singleton.mp q]; simp)) e
end
end Mine

-- D5
namespace Mine
open PySem PySem.W PyProof.Rows

/-! the comprehension's own frame -/
def closL (cells : List (Str × Addr)) : List (Str × NameKind) → List (Str × Addr) → List (Str × Addr)
  | [], acc => acc
  | (n, k) :: r, acc => if k == .free then closL cells r ((n, (cells.lookup n).getD 0) :: acc) else closL cells r acc

theorem closL_run {env : Env} (f : Str × NameKind → List (Str × Addr) → Sem (ForInStep (List (Str × Addr))))
    (hf : ∀ n k cs, f (n, k) cs = if k == .free then (do let a ← cellOf env n; pure (.yield ((n, a) :: cs))) else pure (.yield cs)) :
    ∀ (names : List (Str × NameKind)) (acc : List (Str × Addr)), (∀ p ∈ names, p.2 = .free → (env.cells.lookup p.1).isSome = true) → forIn names acc f = pure (closL env.cells names acc)
  | [], acc, _ => by rw [List.forIn_nil]; rfl
  | (n, k) :: r, acc, h => by
    rw [List.forIn_cons, hf]
    have hr := closL_run f hf r
    have hr' : ∀ p ∈ r, p.2 = .free → (env.cells.lookup p.1).isSome = true := fun p hp => h p (List.mem_cons_of_mem _ hp)
    unfold closL
    by_cases hk : (k == NameKind.free) = true
    · rw [if_pos hk, if_pos hk]
      obtain ⟨c, hc⟩ := Option.isSome_iff_exists.mp (h (n, k) List.mem_cons_self (eq_of_beq hk))
      dsimp only at hc
      simp only [cellOf, hc, Option.getD_some, pure_bind]
      exact hr _ hr'
    · rw [if_neg hk, if_neg hk]
      simp only [pure_bind]
      exact hr _ hr'
theorem closure_is {scope : Scope} {env : Env} (h : ∀ p ∈ scope.names, p.2 = .free → (env.cells.lookup p.1).isSome = true) : closureFor scope env = pure (closL env.cells scope.names []) := by
  simp only [closureFor]
  rw [closL_run (env := env) _ (fun n k cs => by cases hk : k == NameKind.free <;> simp [hk]) _ _ h]
  rfl
theorem closL_acc {cells : List (Str × Addr)} {y : Str} : ∀ (names : List (Str × NameKind)) (acc : List (Str × Addr)), acc.lookup y = some ((cells.lookup y).getD 0) → (closL cells names acc).lookup y = some ((cells.lookup y).getD 0)
  | [], acc, h => h
  | (n, k) :: r, acc, h => by
    unfold closL
    split
    · refine closL_acc r _ ?_
      rw [List.lookup_cons]
      cases hy : y == n with
      | true => rw [beq_iff_eq.mp hy]
      | false => exact h
    · exact closL_acc r acc h
theorem closL_lookup {cells : List (Str × Addr)} {y : Str} : ∀ (names : List (Str × NameKind)) (acc : List (Str × Addr)), (y, NameKind.free) ∈ names → (closL cells names acc).lookup y = some ((cells.lookup y).getD 0)
  | (n, k) :: r, acc, h => by
    unfold closL
    rcases List.mem_cons.mp h with e | h
    · cases e
      rw [if_pos (by rfl)]
      exact closL_acc r _ (by rw [List.lookup_cons]; simp)
    · split
      · exact closL_lookup r _ h
      · exact closL_lookup r _ h

theorem cells_none : ∀ (names : List (Str × NameKind)) (n : Nat) (acc : List (Str × Addr)) (h : Heap), (∀ p ∈ names, p.2 ≠ .cell) → cellsFrom n names acc = acc ∧ pushCells h names = h
  | [], _, _, _, _ => ⟨rfl, rfl⟩
  | (m, k) :: r, n, acc, h, hn => by
    have hk : (k == NameKind.cell) = false := by simpa using hn (m, k) List.mem_cons_self
    unfold cellsFrom pushCells
    simp only [hk, Bool.false_eq_true, if_false]
    exact cells_none r n acc h fun p hp => hn p (List.mem_cons_of_mem _ hp)
abbrev cellObj : Obj := { cls := .type "cell", data := .cell none }
theorem cells_one {x : Str} : ∀ (names : List (Str × NameKind)) (n : Nat) (acc : List (Str × Addr)) (h : Heap), names.filter (·.2 == .cell) = [(x, .cell)] → cellsFrom n names acc = (x, n) :: acc ∧ pushCells h names = h.push cellObj
  | [], _, _, _, hn => by cases hn
  | (m, k) :: r, n, acc, h, hn => by
    unfold cellsFrom pushCells
    by_cases hk : (k == NameKind.cell) = true
    · rw [List.filter_cons_of_pos (by simpa using hk)] at hn
      obtain ⟨h1, h2⟩ := List.cons.inj hn
      cases h1
      simp only [hk, if_true]
      have hr : ∀ p ∈ r, p.2 ≠ .cell := fun p hp e => by
        have : p ∈ r.filter (·.2 == .cell) := List.mem_filter.mpr ⟨hp, by rw [e]; rfl⟩
        rw [h2] at this; cases this
      exact cells_none r (n + 1) _ _ hr
    · rw [List.filter_cons_of_neg (by simpa using hk)] at hn
      simp only [hk, Bool.false_eq_true, if_false]
      exact cells_one r n acc h hn

theorem newFunctionEnv_o {M : Model} {A : Around} {E : Value → Shared → Prop} {s : Shared} {scope : Scope} {globals : Addr} {cl : List (Str × Addr)} {qual : Str} {outer : Env} {Q : Env → Shared → Prop}
    (h : Q { scope, locals := s.heap.objs.size, globals, cells := cellsFrom (s.heap.objs.size + 1) scope.names cl, qual, func := none, code := outer.code, frame := outer.frame, builtins := outer.builtins }
      { s with heap := pushCells (s.heap.push { cls := .type "dict", data := .dict #[] }) scope.names }) :
    wpAny M A (newFunctionEnv scope globals cl [] qual none .none (some outer)) Q E s := by
  simp only [newFunctionEnv, Option.isSome_some, if_true]
  refine wpAny_bind (wpAny_alloc ?_)
  refine wpAny_bind (wpAny_layCells _ (fun name kind cells => by cases hkc : kind == NameKind.cell <;> simp [hkc]) _ _ _ _ ?_)
  rw [show ({ s with heap := s.heap.push { cls := .type "dict", data := .dict #[] } } : Shared).heap.objs.size = s.heap.objs.size + 1 from Heap.size_push ..]
  rw [List.forIn_nil]
  exact wpAny_bind (wpAny_pure (wpAny_pure h))

def relabelS (scope sc : Scope) : Scope :=
  { scope with names := scope.names.map fun (n, k) => if (k == .free && sc.kind == .function && sc.names.lookup n == some .cell) then (n, .cell) else (n, k) }
theorem lookup_relabel {sc : Scope} {y : Str} {k : NameKind} : ∀ {names : List (Str × NameKind)}, names.lookup y = some k →
    (names.map fun (n, k) => if (k == NameKind.free && sc.kind == .function && sc.names.lookup n == some .cell) then (n, NameKind.cell) else (n, k)).lookup y = some (if (k == NameKind.free && sc.kind == .function && sc.names.lookup y == some .cell) then NameKind.cell else k)
  | [], h => by cases h
  | (n, k') :: r, h => by
    rw [List.lookup_cons] at h
    rw [List.map_cons]
    cases hy : y == n with
    | true =>
      rw [hy] at h
      obtain rfl : k' = k := by simpa using h
      have e := beq_iff_eq.mp hy
      subst e
      dsimp only
      split <;> simp [List.lookup_cons]
    | false =>
      rw [hy] at h
      have ih := lookup_relabel (sc := sc) h
      dsimp only
      split <;> simp only [List.lookup_cons, hy] <;> exact ih

/-- what a comprehension's frame sees of the frame around it -/
def freeOf (scope : Scope) (σ : St) : St := scope.names.filterMap fun (n, k) => if k == .free then (σ.lookup n).map fun d => (n, d) else none
theorem freeOf_lookup {σ : St} {y : Str} {d : D} : ∀ {names : List (Str × NameKind)}, (names.filterMap fun (n, k) => if k == NameKind.free then (σ.lookup n).map fun d => (n, d) else none).lookup y = some d → σ.lookup y = some d ∧ (y, NameKind.free) ∈ names
  | [], h => by cases h
  | (n, k) :: r, h => by
    rw [List.filterMap_cons] at h
    by_cases hk : (k == NameKind.free) = true
    · cases e : σ.lookup n with
      | none =>
        simp only [hk, if_true, e, Option.map_none] at h
        obtain ⟨a, b⟩ := freeOf_lookup h
        exact ⟨a, List.mem_cons_of_mem _ b⟩
      | some d' =>
        simp only [hk, if_true, e, Option.map_some, List.lookup_cons] at h
        cases hy : y == n with
        | true =>
          rw [hy] at h
          obtain rfl : d' = d := by simpa using h
          have e1 := beq_iff_eq.mp hy
          have e2 : k = .free := eq_of_beq hk
          subst e1 e2
          exact ⟨e, List.mem_cons_self⟩
        | false =>
          rw [hy] at h
          obtain ⟨a, b⟩ := freeOf_lookup h
          exact ⟨a, List.mem_cons_of_mem _ b⟩
    · simp only [hk, Bool.false_eq_true, if_false] at h
      obtain ⟨a, b⟩ := freeOf_lookup h
      exact ⟨a, List.mem_cons_of_mem _ b⟩

/-- the scope of a comprehension over the one name x, within sc -/
def okComp (scope sc : Scope) (x : Str) : Bool :=
  scope.kind == .function &&
  (scope.names.all fun p => p.2 != .local || scope.names.lookup p.1 == some .local) &&
  (scope.names.all fun p => p.2 != .free || (scope.names.lookup p.1 == some .free && (sc.names.lookup p.1 == some .cell || sc.names.lookup p.1 == some .free))) &&
  ((scope.names.lookup x == some .local && scope.names.all fun p => p.2 != .cell) || (scope.names.lookup x == some .cell && scope.names.filter (·.2 == .cell) == [(x, .cell)]))
def hasFree (scope : Scope) (σ : St) : Bool := scope.names.all fun p => p.2 != .free || (σ.lookup p.1).isSome

theorem all_free {scope sc : Scope} (h : (scope.names.all fun p => p.2 != .free || (scope.names.lookup p.1 == some .free && (sc.names.lookup p.1 == some .cell || sc.names.lookup p.1 == some .free))) = true) {y : Str} (hy : (y, NameKind.free) ∈ scope.names) :
    scope.names.lookup y = some .free ∧ (sc.names.lookup y = some .cell ∨ sc.names.lookup y = some .free) := by
  have h1 : (NameKind.free != NameKind.free || (scope.names.lookup y == some .free && (sc.names.lookup y == some .cell || sc.names.lookup y == some .free))) = true := List.all_eq_true.mp h (y, .free) hy
  rw [show (NameKind.free != NameKind.free) = false from rfl, Bool.false_or] at h1
  obtain ⟨a, b⟩ := Bool.and_eq_true_iff.mp h1
  refine ⟨beq_iff_eq.mp a, ?_⟩
  rcases Bool.or_eq_true_iff.mp b with q | q
  · exact .inl (beq_iff_eq.mp q)
  · exact .inr (beq_iff_eq.mp q)

theorem not2 {a b c : Addr} (h1 : a ≠ b) (h2 : a ≠ c) : a ∉ [b, c] := fun q => by
  rcases List.mem_cons.mp q with q | q
  · exact h1 q
  · exact h2 (List.mem_singleton.mp q)

section
variable {T : Th} {k : Nat} {sc : Scope} {σ : St}

theorem comp_core {env : Env} {M : List Addr} {A : Around} {s : Shared} {E : Value → Shared → Prop} {elt iter : Expr} {x : Str} {px : Pos} {ifs : List Expr} {scope : Scope} {pos : Pos} {o : Obj} {ds : List D} {RR : Value → Addr → Result → Shared → Prop}
    (p : D → Bool) (f : D → D) (ok : EnvOk sc env) (r : Room k A) (cx : Cx T M s.heap) (hl : Holds M s.heap env σ) (hsc : okComp scope sc x = true) (hfr : hasFree scope σ = true)
    (ho : o.isFreed = false) (it : Iter T M s.heap ds s.heap.objs.size (s.heap.push o)) (hz : ds.length ≤ 1000000)
    (htest : ∀ d ∈ ds, Tests T k (relabelS scope sc) ((x, d) :: freeOf scope σ) ifs (p d)) (helt : ∀ d ∈ ds, p d = true → Ev T k (relabelS scope sc) ((x, d) :: freeOf scope σ) elt (f d))
    (hRR : ∀ H tk (Dd C : Addr) vs n m, Ext s.heap H → s.heap.get? Dd = none → s.heap.get? C = none → Dd ≠ C → Dd ∉ M → H.Ns C m → H.get? Dd = some (lObj vs n) → RepL (Dd :: C :: M) H vs ((ds.filter p).map f) → RR (.ref Dd) C (.ok .next) { s with heap := H, toks := tk }) :
    W T A (newList []) (fun acc s₃ => W T A (newFunctionEnv scope env.globals (closL env.cells scope.names []) [] env.qual none .none (some env)) (fun cenv s₄ =>
      codeAny (model T.prog T.w) A (.compStart (.ListComp elt [⟨.Name x px, iter, ifs, 0⟩] scope pos) 0 (.ref s.heap.objs.size) acc { cenv with scope := relabel scope env }) (RR acc cenv.locals) s₄) E s₃) E { s with heap := s.heap.push o } := by
  simp only [okComp, Bool.and_eq_true, beq_iff_eq] at hsc
  obtain ⟨⟨⟨hk, hnl⟩, hnf⟩, hxx⟩ := hsc
  refine wpAny_newObj_type (newFunctionEnv_o ?_)
  dsimp only
  have eS : ((s.heap.push o).push (lObj [] 0)).objs.size = s.heap.objs.size + 2 := by rw [Heap.size_push, Heap.size_push]
  have eD : (s.heap.push o).objs.size = s.heap.objs.size + 1 := Heap.size_push ..
  have eC : (((s.heap.push o).push (lObj [] 0)).push { cls := .type "dict", data := .dict #[] }).objs.size = s.heap.objs.size + 3 := by rw [Heap.size_push, eS]
  have fr : ∀ a, s.heap.objs.size ≤ a → s.heap.get? a = none := fun a ha => fresh_none ha
  have up3 : Ext s.heap (((s.heap.push o).push (lObj [] 0)).push { cls := .type "dict", data := .dict #[] }) := ((Ext.push _ _).trans (Ext.push _ _)).trans (Ext.push _ _)
  have accD : (((s.heap.push o).push (lObj [] 0)).push { cls := .type "dict", data := .dict #[] }).get? (s.heap.objs.size + 1) = some (lObj [] 0) := by
    refine Heap.get?_push_of_some _ ?_
    rw [← eD]; exact Heap.get?_push_size _ rfl
  have nsC : (((s.heap.push o).push (lObj [] 0)).push { cls := .type "dict", data := .dict #[] }).Ns (s.heap.objs.size + 2) fun _ => none := by
    rw [← eS]; exact Heap.Ns.new _ _
  have hclos : ∀ y, (y, NameKind.free) ∈ scope.names → ∃ c v, env.cells.lookup y = some c ∧ s.heap.IsCell c (some v) ∧ (closL env.cells scope.names []).lookup y = some c ∧ ∀ d, σ.lookup y = some d → Rep M s.heap v d := fun y hy => by
    have h1 : (NameKind.free != NameKind.free || (σ.lookup y).isSome) = true := List.all_eq_true.mp hfr (y, .free) hy
    rw [show (NameKind.free != NameKind.free) = false from rfl, Bool.false_or] at h1
    obtain ⟨d, hd⟩ := Option.isSome_iff_exists.mp h1
    obtain ⟨v, l, rp⟩ := hl y d hd
    have h2 := all_free hnf hy
    have hkc : env.kindOf y = some .cell ∨ env.kindOf y = some .free := by
      show env.scope.names.lookup y = _ ∨ env.scope.names.lookup y = _
      rw [ok.scope]; exact h2.2
    rcases l with ⟨a, _⟩ | ⟨_, c, e, n⟩
    · rcases hkc with q | q <;> rw [q] at a <;> cases a
    · refine ⟨c, v, e, n, ?_, fun d' hd' => by rw [hd] at hd'; cases hd'; exact rp⟩
      rw [closL_lookup _ _ hy, e]; rfl
  have scI : ∀ env' : Env, env'.scope = relabel scope env → env'.scope = relabelS scope sc := fun env' e => by
    rw [e]; unfold relabel relabelS Env.kindOf; rw [ok.scope]
  have kindI : (relabelS scope sc).kind = .function := hk
  -- the free names hold
  have holdF : ∀ (cenv : Env) (Ms : List Addr) (H : Heap), cenv.scope = relabel scope env → (∀ y, (y, NameKind.free) ∈ scope.names → cenv.cells.lookup y = (closL env.cells scope.names []).lookup y) →
      (∀ a ∈ Ms, a ∈ M ∨ s.heap.get? a = none) → Ext s.heap H → Holds Ms H cenv (freeOf scope σ) := fun cenv Ms H e1 e2 e3 x1 y d hd => by
    obtain ⟨h1, h2⟩ := freeOf_lookup hd
    obtain ⟨c, v, e, n, cl, rp⟩ := hclos y h2
    refine ⟨v, .inr ⟨?_, c, (e2 y h2).trans cl, n.keeps x1⟩, (rp d h1).to e3 fun b o _ e => x1 b o e⟩
    have h3 := all_free hnf h2
    show cenv.scope.names.lookup y = some .cell ∨ cenv.scope.names.lookup y = some .free
    rw [scI cenv e1]
    have := lookup_relabel (sc := sc) h3.1
    unfold relabelS
    rw [this]
    split
    · exact .inl rfl
    · exact .inr rfl
  rcases Bool.or_eq_true_iff.mp hxx with hx1 | hx1
  · obtain ⟨hxl, hnc⟩ := Bool.and_eq_true_iff.mp hx1
    have hxl := beq_iff_eq.mp hxl
    have hnc' : ∀ q ∈ scope.names, q.2 ≠ .cell := fun q hq => by simpa using List.all_eq_true.mp hnc q hq
    obtain ⟨c1, c2⟩ := cells_none scope.names (s.heap.objs.size + 2 + 1) (closL env.cells scope.names []) (((s.heap.push o).push (lObj [] 0)).push { cls := .type "dict", data := .dict #[] }) hnc'
    rw [eS, c1, c2, eD]
    generalize hce : ({ scope := relabel scope env, locals := s.heap.objs.size + 2, globals := env.globals, cells := closL env.cells scope.names [], qual := env.qual, func := none, code := env.code, frame := env.frame, builtins := env.builtins } : Env) = cenv
    have hcs : cenv.scope = relabel scope env := by rw [← hce]
    have hcl : cenv.locals = s.heap.objs.size + 2 := by rw [← hce]
    have hcc : cenv.cells = closL env.cells scope.names [] := by rw [← hce]
    have okI : EnvOk (relabelS scope sc) cenv := ⟨scI cenv hcs, kindI, by rw [← hce]; exact ok.glob, by rw [← hce]; exact ok.bi⟩
    have tg : Tgt T cenv x [cenv.locals] _ := Tgt.local (T := T) (env := cenv) (x := x) (by rw [hcs]; exact hk) (by
      show cenv.scope.names.lookup x = _
      rw [okI.scope]; unfold relabelS; rw [lookup_relabel (sc := sc) hxl]; rfl)
    have loop := comp_loop (T := T) (k := k) (A := A) (R := RR (.ref (s.heap.objs.size + 1)) (s.heap.objs.size + 2)) (s₀ := { s with heap := ((s.heap.push o).push (lObj [] 0)).push { cls := .type "dict", data := .dict #[] } }) (elt := elt) (iter := iter) (x := x) (px := px) (ifs := ifs) (scope := scope) (pos := pos)
      (I := s.heap.objs.size) (Dd := s.heap.objs.size + 1) (cenv := cenv) (N := [cenv.locals]) (M := M) (hb := s.heap) (σf := freeOf scope σ) p f
      (by
        obtain ⟨fp, P, S, hW, hS, hSI, hfp, hP⟩ := it.ex
        refine ⟨fp, P, S, hW, ?_, hSI, hfp, hP⟩
        exact (hW A r.handled).frame _ _ _ hS fun b _ o e => Heap.get?_push_of_some _ (Heap.get?_push_of_some _ e))
      (fun o e => by rw [fr _ (Nat.le_refl _)] at e; cases e) (fr _ (Nat.le_succ _)) (fun b hb => by rw [List.mem_singleton.mp hb, hcl]; exact fr _ (by lia))
      (by rw [hcl]; simp) (by rw [hcl]; simp) (Nat.ne_of_lt (Nat.lt_succ_self _)) tg okI r cx hz up3 ⟨_, by rw [hcl]; exact nsC⟩ accD
      (fun H x1 => holdF cenv _ H hcs (fun y hy => by rw [hcc]) (fun a ha => by
        simp only [List.mem_cons, List.mem_append, List.not_mem_nil, or_false] at ha
        rcases ha with rfl | rfl | rfl | ha
        · exact .inr (fr _ (Nat.le_refl _))
        · exact .inr (fr _ (by lia))
        · exact .inr (by rw [hcl]; exact fr _ (by lia))
        · exact .inl ha) x1) htest helt
      (fun H tk vs n ⟨m, hn⟩ x1 a1 r1 => hRR H tk _ _ vs n m x1 (fr _ (by lia)) (fr _ (by lia)) (Nat.ne_of_lt (by lia)) (fun q => by
          obtain ⟨o', e'⟩ := cx.m _ q
          rw [fr _ (by lia)] at e'; cases e') (hcl ▸ hn) a1 (r1.less fun a ha => by
        rw [hcl]
        simp only [List.mem_cons, List.mem_append, List.not_mem_nil, or_false] at ha ⊢
        rcases ha with rfl | rfl | ha
        · exact .inr (.inl rfl)
        · exact .inr (.inr (.inl rfl))
        · exact .inr (.inr (.inr ha))))
    refine codeAny_compStart_list loop ?_
    obtain ⟨fp, P, S, hW, hS, hSI, hfp, hP⟩ := it.ex
    exact (hW A r.handled).self 0 _ _ _ ((hW A r.handled).frame _ _ _ hS fun b _ o e => Heap.get?_push_of_some _ (Heap.get?_push_of_some _ e)) loop
  · obtain ⟨hxl, hnc⟩ := Bool.and_eq_true_iff.mp hx1
    have hxl := beq_iff_eq.mp hxl
    have hnc := beq_iff_eq.mp hnc
    obtain ⟨c1, c2⟩ := cells_one scope.names (s.heap.objs.size + 2 + 1) (closL env.cells scope.names []) (((s.heap.push o).push (lObj [] 0)).push { cls := .type "dict", data := .dict #[] }) hnc
    rw [eS, c1, c2, eD]
    generalize hce : ({ scope := relabel scope env, locals := s.heap.objs.size + 2, globals := env.globals, cells := (x, s.heap.objs.size + 2 + 1) :: closL env.cells scope.names [], qual := env.qual, func := none, code := env.code, frame := env.frame, builtins := env.builtins } : Env) = cenv
    have hcs : cenv.scope = relabel scope env := by rw [← hce]
    have hcl : cenv.locals = s.heap.objs.size + 2 := by rw [← hce]
    have hcc : cenv.cells = (x, s.heap.objs.size + 2 + 1) :: closL env.cells scope.names [] := by rw [← hce]
    have okI : EnvOk (relabelS scope sc) cenv := ⟨scI cenv hcs, kindI, by rw [← hce]; exact ok.glob, by rw [← hce]; exact ok.bi⟩
    have tg := Tgt.cell (T := T) (env := cenv) (x := x) (c := s.heap.objs.size + 2 + 1) (by rw [hcs]; exact hk) (by
      show cenv.scope.names.lookup x = _
      rw [okI.scope]; unfold relabelS; rw [lookup_relabel (sc := sc) hxl]; rfl) (by rw [hcc, List.lookup_cons]; simp) (by rw [hcl]; exact Nat.ne_of_lt (Nat.lt_succ_self _))
    have hne : ∀ y, (y, NameKind.free) ∈ scope.names → (y == x) = false := fun y hy => by
      have h3 := all_free hnf hy
      cases hq : y == x with
      | false => rfl
      | true => rw [beq_iff_eq.mp hq, hxl] at h3; exact absurd h3.1 (by decide)
    have loop := comp_loop (T := T) (k := k) (A := A) (R := RR (.ref (s.heap.objs.size + 1)) (s.heap.objs.size + 2)) (s₀ := { s with heap := (((s.heap.push o).push (lObj [] 0)).push { cls := .type "dict", data := .dict #[] }).push cellObj }) (elt := elt) (iter := iter) (x := x) (px := px) (ifs := ifs) (scope := scope) (pos := pos)
      (I := s.heap.objs.size) (Dd := s.heap.objs.size + 1) (cenv := cenv) (N := [cenv.locals, s.heap.objs.size + 2 + 1]) (M := M) (hb := s.heap) (σf := freeOf scope σ) p f
      (by
        obtain ⟨fp, P, S, hW, hS, hSI, hfp, hP⟩ := it.ex
        refine ⟨fp, P, S, hW, ?_, hSI, hfp, hP⟩
        exact (hW A r.handled).frame _ _ _ hS fun b _ o e => Heap.get?_push_of_some _ (Heap.get?_push_of_some _ (Heap.get?_push_of_some _ e)))
      (fun o e => by rw [fr _ (Nat.le_refl _)] at e; cases e) (fr _ (Nat.le_succ _)) (fun b hb => by
        simp only [List.mem_cons, List.not_mem_nil, or_false, hcl] at hb
        rcases hb with rfl | rfl <;> exact fr _ (by lia))
      (not2 (by rw [hcl]; exact Nat.ne_of_lt (by lia)) (Nat.ne_of_lt (by lia))) (not2 (by rw [hcl]; exact Nat.ne_of_lt (by lia)) (Nat.ne_of_lt (by lia))) (Nat.ne_of_lt (Nat.lt_succ_self _)) tg okI r cx hz (up3.trans (Ext.push _ _)) ⟨⟨_, by rw [hcl]; exact nsC.push _⟩, _, ⟨_, by rw [show s.heap.objs.size + 2 + 1 = (((s.heap.push o).push (lObj [] 0)).push { cls := .type "dict", data := .dict #[] }).objs.size by rw [eC]]; exact Heap.get?_push_size _ rfl, rfl⟩⟩ (Heap.get?_push_of_some _ accD)
      (fun H x1 => holdF cenv _ H hcs (fun y hy => by rw [hcc, List.lookup_cons, hne y hy]) (fun a ha => by
        simp only [List.mem_cons, List.mem_append, List.not_mem_nil, or_false] at ha
        rcases ha with rfl | rfl | (rfl | rfl) | ha
        · exact .inr (fr _ (Nat.le_refl _))
        · exact .inr (fr _ (by lia))
        · exact .inr (by rw [hcl]; exact fr _ (by lia))
        · exact .inr (fr _ (by lia))
        · exact .inl ha) x1) htest helt
      (fun H tk vs n ⟨⟨m, hn⟩, _⟩ x1 a1 r1 => hRR H tk _ _ vs n m x1 (fr _ (by lia)) (fr _ (by lia)) (Nat.ne_of_lt (by lia)) (fun q => by
          obtain ⟨o', e'⟩ := cx.m _ q
          rw [fr _ (by lia)] at e'; cases e') (hcl ▸ hn) a1 (r1.less fun a ha => by
        rw [hcl]
        simp only [List.mem_cons, List.mem_append, List.not_mem_nil, or_false] at ha ⊢
        rcases ha with rfl | rfl | ha
        · exact .inr (.inl rfl)
        · exact .inr (.inr (.inl (.inl rfl)))
        · exact .inr (.inr (.inr ha))))
    refine codeAny_compStart_list loop ?_
    obtain ⟨fp, P, S, hW, hS, hSI, hfp, hP⟩ := it.ex
    exact (hW A r.handled).self 0 _ _ _ ((hW A r.handled).frame _ _ _ hS fun b _ o e => Heap.get?_push_of_some _ (Heap.get?_push_of_some _ (Heap.get?_push_of_some _ e))) loop
end
end Mine

-- D6
namespace Mine
open PySem PySem.W PyProof.Rows

section
variable {T : Th} {k : Nat} {sc : Scope} {σ : St}

theorem okComp_parts {scope sc : Scope} {x : Str} (h : okComp scope sc x = true) : scope.kind = .function ∧ (∀ y ∈ scope.names, y.2 = .local → scope.names.lookup y.1 = some .local) ∧
    (∀ y, (y, NameKind.free) ∈ scope.names → sc.names.lookup y = some .cell ∨ sc.names.lookup y = some .free) := by
  simp only [okComp, Bool.and_eq_true, beq_iff_eq] at h
  obtain ⟨⟨⟨hk, hnl⟩, hnf⟩, _⟩ := h
  refine ⟨hk, fun y hy e => ?_, fun y hy => (all_free hnf hy).2⟩
  have h1 : (y.2 != NameKind.local || scope.names.lookup y.1 == some .local) = true := List.all_eq_true.mp hnl y hy
  rw [e, show (NameKind.local != NameKind.local) = false from rfl, Bool.false_or] at h1
  exact beq_iff_eq.mp h1

theorem closure_ok {env : Env} {M : List Addr} {h : Heap} {scope : Scope} {x : Str} (ok : EnvOk sc env) (hl : Holds M h env σ) (hsc : okComp scope sc x = true) (hfr : hasFree scope σ = true) : closureFor scope env = pure (closL env.cells scope.names []) := by
  refine closure_is fun p hp e => ?_
  obtain ⟨y, kd⟩ := p
  dsimp only at e
  subst e
  have h1 : (NameKind.free != NameKind.free || (σ.lookup y).isSome) = true := List.all_eq_true.mp hfr (y, .free) hp
  rw [show (NameKind.free != NameKind.free) = false from rfl, Bool.false_or] at h1
  obtain ⟨d, hd⟩ := Option.isSome_iff_exists.mp h1
  obtain ⟨v, l, _⟩ := hl y d hd
  rcases l with ⟨a, _⟩ | ⟨_, c, e, _⟩
  · have h2 := (okComp_parts hsc).2.2 y hp
    have a' : sc.names.lookup y = some .local := by rw [← ok.scope]; exact a
    rw [a'] at h2
    rcases h2 with q | q <;> cases q
  · show (env.cells.lookup y).isSome = true
    rw [e]; rfl

theorem Ev.comp {elt iter : Expr} {x : Str} {px : Pos} {ifs : List Expr} {scope : Scope} {pos : Pos} {di : D} {ds : List D} (p : D → Bool) (f : D → D)
    (hi : Ev T k sc σ iter di) (hit : Itr T di ds) (hz : ds.length ≤ 1000000) (hsc : okComp scope sc x = true) (hfr : hasFree scope σ = true)
    (htest : ∀ d ∈ ds, Tests T k (relabelS scope sc) ((x, d) :: freeOf scope σ) ifs (p d)) (helt : ∀ d ∈ ds, p d = true → Ev T k (relabelS scope sc) ((x, d) :: freeOf scope σ) elt (f d))
    (hs : ∀ env v, foldedSetIterable iter env v = pure v := by intro _ _; rfl) :
    Ev T k sc σ (.ListComp elt [⟨.Name x px, iter, ifs, 0⟩] scope pos) (.list ((ds.filter p).map f)) := by
  intro env M A s Q E ok r cx hl post
  obtain ⟨hk, hnm, _⟩ := okComp_parts hsc
  rw [eval_ListComp]
  refine wpAny_comprehension_free (use := none) rfl (hs env) (closure_ok ok hl hsc hfr) hk hnm (hi env M A s _ E ok r cx hl fun v h1 t1 x1 r1 => hit M A _ v _ E r1 fun o ho it => ?_)
  refine comp_core (RR := fun acc C => compPost (model T.prog T.w) A E none Q acc C) p f ok r (cx.keeps x1) (hl.keeps x1) hsc hfr ho it hz htest helt ?_
  intro H tk Dd C vs n m xH hD hC hDC hDM hn ha hr
  refine ⟨m, hn, fun h'' hs'' => post (.ref Dd) h'' tk ?_ ?_⟩
  · exact fun b o e => hs''.extBut b o (fun q => by rw [q] at e; have := x1 _ _ e; rw [hC] at this; cases this) (xH b o (x1 b o e))
  · exact .list hDM (hs''.extBut _ _ hDC ha) (hr.to (fun a h => .inl (List.mem_cons_of_mem _ (List.mem_cons_of_mem _ h))) fun b o hb e => hs''.extBut b o (fun q => hb (by simp [q])) e)

/-! slices, items of tuples -/
def EvO (T : Th) (k : Nat) (sc : Scope) (σ : St) (e : Option Expr) (i : Option Int) : Prop :=
  ∀ (env : Env) (M : List Addr) (A : Around) (s : Shared) (Q : Value → Shared → Prop) (E : Value → Shared → Prop), EnvOk sc env → Room k A → Cx T M s.heap → Holds M s.heap env σ →
    (∀ v h' tk, Ext s.heap h' → IsPart v i → Q v { s with heap := h', toks := tk }) → W T A (evalPart e env) Q E s
theorem EvO.none : EvO T k sc σ none none := fun env M A s Q E ok r cx hl post => wpAny_pure (post _ s.heap s.toks (Ext.refl _) .none)
theorem EvO.some {e : Expr} {i : Int} (h : Ev T k sc σ e (.int i)) : EvO T k sc σ (some e) (some i) := fun env M A s Q E ok r cx hl post =>
  h env M A s Q E ok r cx hl fun v h' tk x rp => by cases rp; exact post _ h' tk x (.int _ _)

theorem RepL.pick {M : List Addr} {h : Heap} {vs : List Value} {ds : List D} (r : RepL M h vs ds) (a b : Nat) : RepL M h ((vs.drop a).take b) ((ds.drop a).take b) := (r.drop a).take b

theorem Ev.slice {e : Expr} {lo hi : Option Expr} {p pos : Pos} {ds : List D} {a b : Option Int} (he : Ev T k sc σ e (.list ds)) (hlo : EvO T k sc σ lo a) (hhi : EvO T k sc σ hi b) (hz : ds.length ≤ 1000000) :
    Ev T k sc σ (.Subscript e (.Slice lo hi none p) pos) (.list ((ds.drop (a.elim 0 (clipAt ds.length))).take (b.elim ds.length (clipAt ds.length) - a.elim 0 (clipAt ds.length)))) := by
  intro env M A s Q E ok r cx hl post
  refine Subscript_ (he env M A s _ E ok r cx hl fun v h1 t1 x1 r1 => wpAny_Slice (hlo env M A _ _ E ok r (cx.keeps x1) (hl.keeps x1) fun vl h2 t2 x2 pl => hhi env M A _ _ E ok r ((cx.keeps x1).keeps x2) ((hl.keeps x1).keeps x2) fun vu h3 t3 x3 pu => wpAny_pure ?_))
  cases r1 with
  | list ha ea la =>
    rename_i l vs n
    have ea3 : h3.get? l = some (lObj vs n) := x3 _ _ (x2 _ _ ea)
    have hL : (h3.push { cls := .type "slice", data := .fields #[vl, vu, .none] }).IsList l vs.toArray := ⟨_, Heap.get?_push_of_some _ ea3, rfl, _, rfl⟩
    have hsz : vs.toArray.size = ds.length := by rw [List.size_toArray, la.length]
    refine tail_any (s := { s with heap := h3.push { cls := .type "slice", data := .fields #[vl, vu, .none] }, toks := t3 }) hL.typeIs slot_list_getitem.lookup
      (wpAny_getItem_list_slice hL (Heap.IsSliceOf.new _ _ _ _) pl pu .none (by simp) ?_ (by rw [hsz, sizeLine_eq]; lia)) rfl
    rw [slicePick_plain, hsz]
    have cx3 : Cx T M (h3.push { cls := .type "slice", data := .fields #[vl, vu, .none] }) := (((cx.keeps x1).keeps x2).keeps x3).keeps (Ext.push _ _)
    exact post _ _ _ ((((x1.trans x2).trans x3).trans (Ext.push _ _)).trans (Ext.push _ _)) (rep_push (T := T) (s := { s with heap := h3.push { cls := .type "slice", data := .fields #[vl, vu, .none] }, toks := t3 }) cx3 ((((la.keeps x2).keeps x3).keeps (Ext.push _ _)).pick _ _))

theorem Ev.sliceB {e : Expr} {lo hi : Option Expr} {p pos : Pos} {bs : Array UInt8} {a b : Option Int} (he : Ev T k sc σ e (.bytes bs)) (hlo : EvO T k sc σ lo a) (hhi : EvO T k sc σ hi b) (hz : bs.size ≤ 1000000) :
    Ev T k sc σ (.Subscript e (.Slice lo hi none p) pos) (.bytes ((bs.toList.drop (a.elim 0 (clipAt bs.size))).take (b.elim bs.size (clipAt bs.size) - a.elim 0 (clipAt bs.size))).toArray) := by
  intro env M A s Q E ok r cx hl post
  refine Subscript_ (he env M A s _ E ok r cx hl fun v h1 t1 x1 r1 => wpAny_Slice (hlo env M A _ _ E ok r (cx.keeps x1) (hl.keeps x1) fun vl h2 t2 x2 pl => hhi env M A _ _ E ok r ((cx.keeps x1).keeps x2) ((hl.keeps x1).keeps x2) fun vu h3 t3 x3 pu => wpAny_pure ?_))
  cases r1
  rw [← KBc.picked_eq] at post
  refine tail_any (s := { s with heap := h3.push { cls := .type "slice", data := .fields #[vl, vu, .none] }, toks := t3 }) (typeIs_bytes _ _ _) FB.slot_bytes_getitem.lookup
    (getItem_meets (typeIs_bytes _ _ _) (by decide) FB.slot_bytes_getitem FB.entry_bytes_getitem (FB.args_bytes_getitem_2 _ _) (KBc.meets_slice2 _ _ _ pl pu)
      ⟨Heap.IsSliceOf.new _ _ _ _, Nat.le_trans (KBc.size_picked_le _ _ _) (by rw [sizeLine_eq]; lia), fun t' k' => ?_⟩) rfl
  exact post _ _ k' (((x1.trans x2).trans x3).trans (Ext.push _ _)) (.bytes _ _)

theorem Ev.itemT {e i : Expr} {pos : Pos} {ds : List D} {j : Int} {d : D} (he : Ev T k sc σ e (.tup ds)) (hi : Ev T k sc σ i (.int j)) (h0 : 0 ≤ j) (h1 : j < 2 ^ 63) (hd : ds[j.toNat]? = some d)
    (hs : ∀ o v, SubOk i o v := by intro _ _; exact ⟨_, rfl⟩) : Ev T k sc σ (.Subscript e i pos) d := by
  intro env M A s Q E ok r cx hl post
  refine Subscript_ (he env M A s _ E ok r cx hl fun v h1' t1 x1 r1 => hi env M A _ _ E ok r (cx.keeps x1) (hl.keeps x1) fun u h2 t2 x2 r2 => ?_)
  cases r2
  cases r1 with
  | tup ha ea la =>
    rename_i tk l vs n
    obtain ⟨v, ev, rv⟩ := la.get hd
    have hT : IsTup h2 l vs.toArray := ⟨_, x2 _ _ ea, rfl, _, rfl⟩
    obtain ⟨ops, hops⟩ := hs _ _
    have hlt : j.toNat < vs.length := by
      rcases List.getElem?_eq_some_iff.mp ev with ⟨h, _⟩; exact h
    have hix : seqIndex? j vs.toArray.size = some j.toNat := by
      have hn : ¬ j < 0 := by lia
      have hlt' : j < (vs.length : Int) := by lia
      simp [seqIndex?, hn, h0, hlt']
    exact tail_any (s := { s with heap := h2, toks := t2 }) (T := "tuple") ⟨_, x2 _ _ ea, rfl⟩ F.slot_tuple_getitem.lookup
      (PyProof.Rows.getItem_tuple (s := { s with heap := h2, toks := t2 }) hT (by lia) h1 hix (by simpa using ev) (post v _ _ (x1.trans x2) (rv.keeps x2))) hops
end
end Mine

-- D7
namespace Mine
open PySem PySem.W PyProof.Rows

/-! frames and what they own -/
abbrev fr (env : Env) : List Addr := env.locals :: env.cells.filterMap fun p => env.cells.lookup p.1
theorem mem_fr {env : Env} {n : Str} {c : Addr} (hc : env.cells.lookup n = some c) : c ∈ fr env := List.mem_cons_of_mem _ (List.mem_filterMap.mpr ⟨_, mem_of_lookup hc, hc⟩)
abbrev mm (oa : Option Addr) (env : Env) (M₀ : List Addr) : List Addr := oa.toList ++ (fr env ++ M₀)

structure Fo (env : Env) : Prop where
  apart : env.cells.Pairwise fun x y => x.2 ≠ y.2
  above : ∀ n c, (n, c) ∈ env.cells → env.locals < c
  has : ∀ n, env.kindOf n = some .cell → (env.cells.lookup n).isSome = true

inductive OD where
  | list (ds : List D)
  | biter (a : Addr) (b : Array UInt8) (i : Nat)
  | obj (a : Addr) (o : Obj)
abbrev Own := Option (Str × OD)
def OObj (M : List Addr) (h : Heap) (a : Addr) : OD → Prop
  | .list ds => ∃ vs n, h.get? a = some (lObj vs n) ∧ RepL M h vs ds
  | .biter a' b i => a = a' ∧ ∃ t, KBw.IsBytesIter h a b t i
  | .obj a' o => a = a' ∧ h.get? a = some o

def At (env : Env) (m cm : Str → Option Value) (x : Str) (v : Value) : Prop :=
  (env.kindOf x = some .local ∧ m x = some v) ∨ (env.kindOf x = some .cell ∧ cm x = some v)

def OwnOk (env : Env) (m cm : Str → Option Value) (M₀ M : List Addr) (h : Heap) : Own → Option Addr → Prop
  | none, none => True
  | some (x, od), some a => At env m cm x (.ref a) ∧ a ∉ M₀ ∧ a ∉ fr env ∧ OObj M h a od
  | _, _ => False

structure Frm (env : Env) (m cm : Str → Option Value) (h : Heap) : Prop where
  ns : h.Ns env.locals m
  cell : ∀ n c, env.cells.lookup n = some c → h.IsCell c (cm n)

structure SI (T : Th) (env : Env) (M₀ : List Addr) (oa : Option Addr) (σ : St) (own : Own) (h : Heap) : Prop where
  ex : ∃ m cm, Frm env m cm h ∧ Cx T (mm oa env M₀) h ∧ (∀ a ∈ fr env, a ∉ M₀) ∧ OwnOk env m cm M₀ (mm oa env M₀) h own oa ∧
    ∀ x d, σ.lookup x = some d → ∃ v, At env m cm x v ∧ Rep (mm oa env M₀) h v d

inductive Out where
  | next (σ : St) (own : Own)
  | brk (σ : St) (own : Own)
  | ret (d : D) (own : Own)

abbrev Kp (env : Env) (oa : Option Addr) (h h' : Heap) : Prop := ∀ b o, b ∉ fr env → oa ≠ some b → h.get? b = some o → h'.get? b = some o
abbrev OwnRel (env : Env) (oa oa' : Option Addr) (h : Heap) : Prop := ∀ a, oa' = some a → a ∉ fr env ∧ (oa = some a ∨ h.get? a = none)
def RetOwn (M : List Addr) (h : Heap) : Own → Option Addr → Prop
  | none, none => True
  | some (_, od), some a => OObj M h a od
  | _, _ => False

def Post1 (T : Th) (env : Env) (M₀ : List Addr) (oa : Option Addr) (Q : Flow → Shared → Prop) (s : Shared) : Out → Prop
  | .next σ own => ∀ oa' h' tk, SI T env M₀ oa' σ own h' → Kp env oa s.heap h' → OwnRel env oa oa' s.heap → Q .next { s with heap := h', toks := tk }
  | .brk σ own => ∀ oa' h' tk, SI T env M₀ oa' σ own h' → Kp env oa s.heap h' → OwnRel env oa oa' s.heap → Q .brk { s with heap := h', toks := tk }
  | .ret d own => ∀ v oa' h' tk, Rep (oa'.toList ++ M₀) h' v d → Cx T (oa'.toList ++ M₀) h' → RetOwn (oa'.toList ++ M₀) h' own oa' → Kp env oa s.heap h' → OwnRel env oa oa' s.heap → Q (.ret v) { s with heap := h', toks := tk }

def Ex (T : Th) (k : Nat) (sc : Scope) (σ : St) (own : Own) (ss : List Stmt) (P : Out → Prop) : Prop :=
  ∀ (env : Env) (M₀ : List Addr) (oa : Option Addr) (A : Around) (s : Shared) (Q : Flow → Shared → Prop) (E : Value → Shared → Prop), EnvOk sc env → Fo env → Room k A → SI T env M₀ oa σ own s.heap →
    (∀ o, P o → Post1 T env M₀ oa Q s o) → W T A (execs ss env) Q E s
def Ex1 (T : Th) (k : Nat) (sc : Scope) (σ : St) (own : Own) (st : Stmt) (P : Out → Prop) : Prop :=
  ∀ (env : Env) (M₀ : List Addr) (oa : Option Addr) (A : Around) (s : Shared) (Q : Flow → Shared → Prop) (E : Value → Shared → Prop), EnvOk sc env → Fo env → Room k A → SI T env M₀ oa σ own s.heap →
    (∀ o, P o → Post1 T env M₀ oa Q s o) → W T A (exec st env) Q E s

section
variable {T : Th} {k : Nat} {sc : Scope} {σ : St} {own : Own} {env : Env} {M₀ : List Addr} {oa : Option Addr} {h h' : Heap} {m cm : Str → Option Value}

theorem OObj.to {M M' : List Addr} {a : Addr} {od : OD} (hM : ∀ a ∈ M', a ∈ M ∨ h.get? a = none) (k : ∀ b o, b ∉ M → h.get? b = some o → h'.get? b = some o) (ka : ∀ o, h.get? a = some o → h'.get? a = some o) (o : OObj M h a od) : OObj M' h' a od := by
  cases od with
  | list ds => obtain ⟨vs, n, e, r⟩ := o; exact ⟨vs, n, ka _ e, r.to hM k⟩
  | biter a' b i => obtain ⟨z, t, o, e, r⟩ := o; exact ⟨z, t, o, ka _ e, r⟩
  | obj a' o' => exact ⟨o.1, ka _ o.2⟩
theorem OObj.there {M : List Addr} {a : Addr} {od : OD} (o : OObj M h a od) : ∃ o, h.get? a = some o := by
  cases od with
  | list ds => obtain ⟨vs, n, e, r⟩ := o; exact ⟨_, e⟩
  | biter a' b i => obtain ⟨z, t, o, e, r⟩ := o; exact ⟨_, e⟩
  | obj a' o' => exact ⟨_, o.2⟩
theorem Frm.only (f : Frm env m cm h) (e : ∀ b ∈ fr env, ∀ o, h.get? b = some o → h'.get? b = some o) : Frm env m cm h' :=
  ⟨Ns.only f.ns (e _ List.mem_cons_self), fun n c hc => Cell.only (f.cell n c hc) (e _ (mem_fr hc))⟩

theorem SI.cx (si : SI T env M₀ oa σ own h) : Cx T (mm oa env M₀) h := let ⟨_, _, _, cx, _⟩ := si.ex; cx
theorem SI.holds (si : SI T env M₀ oa σ own h) (fo : Fo env) : Holds (mm oa env M₀) h env σ := fun x d e => by
  obtain ⟨m, cm, fm, cx, dj, ow, hl⟩ := si.ex
  obtain ⟨v, at', rv⟩ := hl x d e
  refine ⟨v, ?_, rv⟩
  rcases at' with ⟨a, b⟩ | ⟨a, b⟩
  · exact .inl ⟨a, m, fm.ns, b⟩
  · obtain ⟨c, hc⟩ := Option.isSome_iff_exists.mp (fo.has x a)
    exact .inr ⟨.inl a, c, hc, b ▸ fm.cell x c hc⟩

/-- heaps that agree on the frame, on the owned, and off the mutable ones -/
theorem SI.to {M₁ : List Addr} (si : SI T env M₀ oa σ own h) (hM : ∀ a ∈ M₁, a ∈ M₀ ∨ h.get? a = none) (k : ∀ b o, b ∉ M₀ → h.get? b = some o → h'.get? b = some o) (hm : ∀ a ∈ M₁, ∃ o, h'.get? a = some o) : SI T env M₁ oa σ own h' := by
  obtain ⟨m, cm, fm, cx, dj, ow, hl⟩ := si.ex
  have ka : ∀ b ∈ fr env, ∀ o, h.get? b = some o → h'.get? b = some o := fun b hb o e => k b o (dj b hb) e
  have hMM : ∀ a ∈ mm oa env M₁, a ∈ mm oa env M₀ ∨ h.get? a = none := fun a ha => by
    rcases List.mem_append.mp ha with ha | ha
    · exact .inl (List.mem_append.mpr (.inl ha))
    · rcases List.mem_append.mp ha with ha | ha
      · exact .inl (List.mem_append.mpr (.inr (List.mem_append.mpr (.inl ha))))
      · rcases hM a ha with q | q
        · exact .inl (List.mem_append.mpr (.inr (List.mem_append.mpr (.inr q))))
        · exact .inr q
  have kk : ∀ b o, b ∉ mm oa env M₀ → h.get? b = some o → h'.get? b = some o := fun b o hb e => k b o (fun q => hb (List.mem_append.mpr (.inr (List.mem_append.mpr (.inr q))))) e
  have hoa : ∀ a, oa = some a → (∀ o, h.get? a = some o → h'.get? a = some o) ∧ a ∉ M₁ := by
    intro a ha
    subst ha
    cases own with
    | none => exact ow.elim
    | some p =>
      obtain ⟨x, od⟩ := p
      obtain ⟨o1, o3, o4, o5⟩ := ow
      obtain ⟨o', e'⟩ := o5.there
      refine ⟨fun o e => k a o o3 e, fun q => ?_⟩
      rcases hM a q with z | z
      · exact o3 z
      · rw [z] at e'; cases e'
  have hfr : ∀ a ∈ fr env, a ∉ M₁ := fun a ha q => by
    rcases hM a q with z | z
    · exact dj a ha z
    · obtain ⟨o', e'⟩ := cx.m a (List.mem_append.mpr (.inr (List.mem_append.mpr (.inl ha))))
      rw [z] at e'; cases e'
  have hmm : ∀ a ∈ mm oa env M₁, ∃ o, h'.get? a = some o := fun a ha => by
    rcases List.mem_append.mp ha with ha | ha
    · obtain ⟨o', e'⟩ := cx.m a (List.mem_append.mpr (.inl ha))
      exact ⟨_, (hoa a (by simpa using ha)).1 _ e'⟩
    · rcases List.mem_append.mp ha with ha | ha
      · obtain ⟨o', e'⟩ := cx.m a (List.mem_append.mpr (.inr (List.mem_append.mpr (.inl ha))))
        exact ⟨_, ka a ha _ e'⟩
      · exact hm a ha
  refine ⟨m, cm, fm.only ka, cx.but hMM (fun b o hb _ e => kk b o hb e) hmm, hfr, ?_, fun x d e => let ⟨v, a, r⟩ := hl x d e; ⟨v, a, r.to hMM kk⟩⟩
  · cases own with
    | none => cases oa with
      | none => trivial
      | some a => exact ow
    | some p => cases oa with
      | none => exact ow
      | some a =>
        obtain ⟨x, od⟩ := p
        obtain ⟨o1, o3, o4, o5⟩ := ow
        exact ⟨o1, (hoa a rfl).2, o4, o5.to hMM kk (hoa a rfl).1⟩

theorem SI.keeps (si : SI T env M₀ oa σ own h) (x : Ext h h') : SI T env M₀ oa σ own h' :=
  si.to (fun _ q => .inl q) (fun b o _ e => x b o e) fun a ha => by
    obtain ⟨o, e⟩ := si.cx.m a (List.mem_append.mpr (.inr (List.mem_append.mpr (.inr ha))))
    exact ⟨o, x _ _ e⟩

theorem Cx.less {M M' : List Addr} (c : Cx T M h) (hM : ∀ a ∈ M', a ∈ M) : Cx T M' h := c.but (fun a q => .inl (hM a q)) (fun b o _ _ e => e) fun a q => c.m a (hM a q)

theorem SI.less {M₁ : List Addr} (si : SI T env M₀ oa σ own h) (hM : ∀ a ∈ M₁, a ∈ M₀) : SI T env M₁ oa σ own h := by
  obtain ⟨m, cm, fm, cx, dj, ow, hl⟩ := si.ex
  have hMM : ∀ a ∈ mm oa env M₁, a ∈ mm oa env M₀ := fun a ha => by
    simp only [List.mem_append] at ha ⊢
    rcases ha with q | q | q
    · exact .inl q
    · exact .inr (.inl q)
    · exact .inr (.inr (hM a q))
  refine ⟨m, cm, fm, cx.less hMM, fun a ha q => dj a ha (hM a q), ?_, fun x d e => let ⟨v, a, r⟩ := hl x d e; ⟨v, a, r.less hMM⟩⟩
  cases own with
  | none => cases oa with
    | none => trivial
    | some a => exact ow
  | some p => cases oa with
    | none => exact ow
    | some a =>
      obtain ⟨x, od⟩ := p
      obtain ⟨o1, o3, o4, o5⟩ := ow
      exact ⟨o1, fun q => o3 (hM a q), o4, o5.to (fun a q => .inl (hMM a q)) (fun b o _ e => e) fun o e => e⟩

def Sub (σ σ' : St) : Prop := ∀ x d, σ'.lookup x = some d → σ.lookup x = some d
theorem Sub.refl : Sub σ σ := fun _ _ e => e
theorem Sub.nil : Sub σ [] := fun _ _ e => by simp at e
theorem Sub.cons {σ' : St} {x : Str} {d : D} (h : σ.lookup x = some d) (r : Sub σ σ') : Sub σ ((x, d) :: σ') := fun y d' e => by
  rw [List.lookup_cons] at e
  cases hy : y == x with
  | true => rw [hy] at e; rw [beq_iff_eq.mp hy, h]; simpa using e
  | false => rw [hy] at e; exact r y d' e
theorem SI.sub {σ' : St} (si : SI T env M₀ oa σ own h) (hs : Sub σ σ') : SI T env M₀ oa σ' own h :=
  let ⟨m, cm, fm, cx, dj, ow, hl⟩ := si.ex
  ⟨m, cm, fm, cx, dj, ow, fun x d e => hl x d (hs x d e)⟩

/-! stores -/
def Stor (sc : Scope) (x : Str) : Bool := sc.names.lookup x == some .local || sc.names.lookup x == some .cell
def ownNe : Own → Str → Bool
  | none, _ => true
  | some (y, _), x => !(y == x)

theorem Frm.store {A : Around} {s : Shared} {x : Str} {v : Value} {Q : Unit → Shared → Prop} {E : Value → Shared → Prop} (f : Frm env m cm s.heap) (fo : Fo env) (ok : EnvOk sc env) (hst : Stor sc x = true)
    (q : ∀ m' cm' h' tk, Frm env m' cm' h' → At env m' cm' x v → (∀ y v', y ≠ x → At env m cm y v' → At env m' cm' y v') → (∀ y, y ≠ x → m' y = m y) → (env.kindOf x = some .local → m' x = some v) →
      (∀ b o, b ∉ fr env → s.heap.get? b = some o → h'.get? b = some o) → (∀ b ∈ fr env, (∃ o, s.heap.get? b = some o) → ∃ o, h'.get? b = some o) → Q () { s with heap := h', toks := tk }) : W T A (storeName env x v) Q E s := by
  have hk : env.scope.kind = .function := by rw [ok.scope]; exact ok.kind
  have hst' : env.kindOf x = some .local ∨ env.kindOf x = some .cell := by
    simp only [Stor, Bool.or_eq_true, beq_iff_eq] at hst
    show env.scope.names.lookup x = _ ∨ env.scope.names.lookup x = _
    rw [ok.scope]; exact hst
  rcases hst' with hl | hl
  · refine wpAny_storeName_local hl f.ns (fun h' hn hs => ?_) (by rw [hk]; rfl)
    refine q _ cm h' _ ⟨hn, fun n c hc => ?_⟩ (.inl ⟨hl, if_pos rfl⟩) (fun y v' hy a => ?_) (fun y hy => if_neg hy) (fun _ => if_pos rfl) (fun b o hb e => hs.extBut b o (fun z => hb (by simp [z])) e) fun b hb ⟨o, e⟩ => ?_
    · exact (f.cell n c hc).sameBut hs (Nat.ne_of_gt (fo.above n c (mem_of_lookup hc)))
    · rcases a with ⟨a1, a2⟩ | a
      · exact .inl ⟨a1, (if_neg hy).trans a2⟩
      · exact .inr a
    · by_cases hbl : b = env.locals
      · subst hbl; obtain ⟨o', _, _, e', _⟩ := hn; exact ⟨o', e'⟩
      · exact ⟨o, hs.extBut b o hbl e⟩
  · obtain ⟨c, hc⟩ := Option.isSome_iff_exists.mp (fo.has x hl)
    have hLc := fo.above x c (mem_of_lookup hc)
    refine wpAny_storeName_cell hk hl hc (f.cell x c hc) fun h' hcell hs => ?_
    have hnl : ¬ env.kindOf x = some .local := by rw [hl]; decide
    refine q m (fun y => if y = x then some v else cm y) h' s.toks ⟨f.ns.sameBut hs (Nat.ne_of_lt hLc), fun n c' hc' => ?_⟩ (.inr ⟨hl, if_pos rfl⟩) (fun y v' hy a => ?_) (fun y hy => rfl) (fun z => (hnl z).elim) (fun b o hb e => hs.extBut b o (fun z => hb ?_) e) fun b hb ⟨o, e⟩ => ?_
    · by_cases hn : n = x
      · subst hn
        rw [hc] at hc'; cases hc'
        simpa using hcell
      · rw [if_neg hn]
        exact (f.cell n c' hc').sameBut hs fun e => hn (name_of_addr fo.apart (mem_of_lookup hc') (e ▸ mem_of_lookup hc))
    · rcases a with a | ⟨a1, a2⟩
      · exact .inl a
      · exact .inr ⟨a1, (if_neg hy).trans a2⟩
    · exact z ▸ mem_fr hc
    · by_cases hbl : b = c
      · subst hbl; obtain ⟨o', e', _⟩ := hcell; exact ⟨o', e'⟩
      · exact ⟨o, hs.extBut b o hbl e⟩

theorem SI.store {A : Around} {s : Shared} {x : Str} {v : Value} {d : D} {Q : Unit → Shared → Prop} {E : Value → Shared → Prop} (si : SI T env M₀ oa σ own s.heap) (fo : Fo env) (ok : EnvOk sc env) (hst : Stor sc x = true) (hne : ownNe own x = true)
    (rv : Rep (mm oa env M₀) s.heap v d)
    (q : ∀ h' tk, SI T env M₀ oa ((x, d) :: σ) own h' → (∀ b o, b ∉ fr env → s.heap.get? b = some o → h'.get? b = some o) → Q () { s with heap := h', toks := tk }) : W T A (storeName env x v) Q E s := by
  obtain ⟨m, cm, fm, cx, dj, ow, hl⟩ := si.ex
  refine fm.store fo ok hst fun m' cm' h' tk fm' at' keep hm' _ kp ex => q h' tk ?_ kp
  have kk : ∀ b o, b ∉ mm oa env M₀ → s.heap.get? b = some o → h'.get? b = some o := fun b o hb e => kp b o (fun z => hb (by simp only [List.mem_append]; exact .inr (.inl z))) e
  refine ⟨m', cm', fm', cx.but (fun _ q => .inl q) (fun b o hb _ e => kk b o hb e) fun a ha => ?_, dj, ?_, fun y d' e => ?_⟩
  · obtain ⟨o, e⟩ := cx.m a ha
    by_cases hf : a ∈ fr env
    · exact ex a hf ⟨o, e⟩
    · exact ⟨o, kp a o hf e⟩
  · cases own with
    | none => cases oa with
      | none => trivial
      | some a => exact ow
    | some p => cases oa with
      | none => exact ow
      | some a =>
        obtain ⟨y, od⟩ := p
        obtain ⟨o1, o3, o4, o5⟩ := ow
        have hyx : y ≠ x := by simpa [ownNe] using hne
        exact ⟨keep y _ hyx o1, o3, o4, o5.to (fun _ q => .inl q) kk fun o e => kp a o o4 e⟩
  · rw [List.lookup_cons] at e
    cases hy : y == x with
    | true =>
      rw [hy] at e
      obtain rfl : d = d' := by simpa using e
      rw [beq_iff_eq.mp hy]
      exact ⟨v, at', rv.to (fun _ q => .inl q) kk⟩
    | false =>
      rw [hy] at e
      obtain ⟨v', a, r⟩ := hl y d' e
      exact ⟨v', keep y v' (fun z => by rw [z] at hy; simp at hy) a, r.to (fun _ q => .inl q) kk⟩
end
end Mine

-- D8
namespace Mine
open PySem PySem.W PyProof.Rows

section
variable {T : Th} {k : Nat} {sc : Scope} {σ : St} {own : Own} {env : Env} {M₀ : List Addr} {oa oa' oa'' : Option Addr} {h h' h'' : Heap} {P : Out → Prop}

theorem SI.off {a : Addr} (si : SI T env M₀ oa σ own h) (e : oa = some a) : a ∉ M₀ ∧ a ∉ fr env ∧ ∃ o, h.get? a = some o := by
  obtain ⟨m, cm, fm, cx, dj, ow, hl⟩ := si.ex
  subst e
  cases own with
  | none => exact ow.elim
  | some p =>
    obtain ⟨x, od⟩ := p
    obtain ⟨o1, o3, o4, o5⟩ := ow
    exact ⟨o3, o4, o5.there⟩
theorem SI.rel (si : SI T env M₀ oa σ own h) (h₀ : Heap) : OwnRel env oa oa h₀ := fun a e => ⟨(si.off e).2.1, .inl e⟩
theorem Kp.ext (x : Ext h h') : Kp env oa h h' := fun b o _ _ e => x b o e
theorem Kp.trans (a : Kp env oa h h') (b : Kp env oa' h' h'') (r : OwnRel env oa oa' h) : Kp env oa h h'' := fun c o h1 h2 e =>
  b c o h1 (fun z => by
    rcases (r c z).2 with q | q
    · exact h2 q
    · rw [q] at e; cases e) (a c o h1 h2 e)
theorem OwnRel.trans (a : OwnRel env oa oa' h) (b : OwnRel env oa' oa'' h') (kp : Kp env oa h h') : OwnRel env oa oa'' h := fun c e => by
  obtain ⟨h1, h2⟩ := b c e
  refine ⟨h1, ?_⟩
  rcases h2 with q | q
  · exact (a c q).2
  · by_cases z : oa = some c
    · exact .inl z
    · refine .inr ?_
      cases e' : h.get? c with
      | none => rfl
      | some o => rw [kp c o h1 z e'] at q; cases q

theorem Post1.step {Q : Flow → Shared → Prop} {s : Shared} {o : Out} {h₁ : Heap} {t₁ : Nat} (p : Post1 T env M₀ oa Q s o) (kp : Kp env oa s.heap h₁) (r : OwnRel env oa oa' s.heap) : Post1 T env M₀ oa' Q { s with heap := h₁, toks := t₁ } o := by
  cases o with
  | next σ own => exact fun oa₂ h₂ tk si k₂ r₂ => p oa₂ h₂ tk si (kp.trans k₂ r) (OwnRel.trans r r₂ kp)
  | brk σ own => exact fun oa₂ h₂ tk si k₂ r₂ => p oa₂ h₂ tk si (kp.trans k₂ r) (OwnRel.trans r r₂ kp)
  | ret d own => exact fun v oa₂ h₂ tk rv cx ro k₂ r₂ => p v oa₂ h₂ tk rv cx ro (kp.trans k₂ r) (OwnRel.trans r r₂ kp)

theorem Ex.nil (h : P (.next σ own)) : Ex T k sc σ own [] P := fun env M₀ oa A s Q E ok fo r si post => wpAny_execs_nil (post _ h oa s.heap s.toks si (Kp.ext (Ext.refl _)) (si.rel _))
def seqP (T : Th) (k : Nat) (sc : Scope) (rest : List Stmt) (P : Out → Prop) : Out → Prop
  | .next σ own => Ex T k sc σ own rest P
  | o => P o
theorem Ex.cons {st : Stmt} {rest : List Stmt} (h : Ex1 T k sc σ own st (seqP T k sc rest P)) : Ex T k sc σ own (st :: rest) P := by
  intro env M₀ oa A s Q E ok fo r si post
  refine wpAny_execs_cons (h env M₀ oa A s _ E ok fo r si fun o ho => ?_)
  cases o with
  | next σ' own' => exact fun oa₁ h₁ t₁ si₁ k₁ r₁ => ho env M₀ oa₁ A _ Q E ok fo r si₁ fun o hp => (post o hp).step k₁ r₁
  | brk σ' own' => exact post _ ho
  | ret d own' => exact post _ ho
theorem Ex.sub {σ' : St} {ss : List Stmt} (hs : Sub σ σ') (h : Ex T k sc σ' own ss P) : Ex T k sc σ own ss P := fun env M₀ oa A s Q E ok fo r si post => h env M₀ oa A s Q E ok fo r (si.sub hs) post
theorem Ex.mono {P' : Out → Prop} {ss : List Stmt} (h : Ex T k sc σ own ss P') (hp : ∀ o, P' o → P o) : Ex T k sc σ own ss P := fun env M₀ oa A s Q E ok fo r si post => h env M₀ oa A s Q E ok fo r si fun o ho => post o (hp o ho)

theorem SI.freeze {x : Str} {ds : List D} (si : SI T env M₀ oa σ (some (x, .list ds)) h) : SI T env M₀ none ((x, .list ds) :: σ) none h := by
  obtain ⟨m, cm, fm, cx, dj, ow, hl⟩ := si.ex
  cases oa with
  | none => exact ow.elim
  | some a =>
    obtain ⟨o1, o3, o4, vs, n, e5, r5⟩ := ow
    have hMM : ∀ b ∈ mm none env M₀, b ∈ mm (some a) env M₀ := fun b hb => List.mem_append.mpr (.inr (by simpa using hb))
    refine ⟨m, cm, fm, cx.less hMM, dj, trivial, fun y d e => ?_⟩
    rw [List.lookup_cons] at e
    cases hy : y == x with
    | true =>
      rw [hy] at e
      obtain rfl : D.list ds = d := by simpa using e
      rw [beq_iff_eq.mp hy]
      exact ⟨.ref a, o1, .list (fun q => by
        rw [show mm none env M₀ = fr env ++ M₀ from rfl] at q
        rcases List.mem_append.mp q with q | q
        · exact o4 q
        · exact o3 q) e5 (r5.less hMM)⟩
    | false => rw [hy] at e; obtain ⟨v, b, c⟩ := hl y d e; exact ⟨v, b, c.less hMM⟩
theorem Ex.freeze {x : Str} {ds : List D} {ss : List Stmt} (h : Ex T k sc ((x, .list ds) :: σ) none ss P) : Ex T k sc σ (some (x, .list ds)) ss P := fun env M₀ oa A s Q E ok fo r si post =>
  h env M₀ none A s Q E ok fo r si.freeze fun o ho => (post o ho).step (Kp.ext (Ext.refl _)) (fun a e => by cases e)

/-! expressions beside an owned list -/
def Scal : D → Prop
  | .none | .bool _ | .int _ | .str _ | .bytes _ => True
  | _ => False
theorem Scal.rep {M M' : List Addr} {v : Value} {d : D} (hd : Scal d) (r : Rep M h v d) : Rep M' h v d := by
  cases r with
  | none => exact .none
  | bool => exact .bool _
  | int => exact .int _ _
  | str => exact .str _ _
  | bytes => exact .bytes _ _
  | _ => exact hd.elim
def Evo (T : Th) (k : Nat) (sc : Scope) (σ : St) (own : Own) (e : Expr) (d : D) : Prop := Ev T k sc σ e d ∨ (Scal d ∧ ∃ x ds, own = some (x, .list ds) ∧ Ev T k sc ((x, .list ds) :: σ) e d)
def Tro (T : Th) (k : Nat) (sc : Scope) (σ : St) (own : Own) (e : Expr) (b : Bool) : Prop := Tr T k sc σ e b ∨ (∃ x ds, own = some (x, .list ds) ∧ Tr T k sc ((x, .list ds) :: σ) e b)

theorem SI.evo {A : Around} {s : Shared} {e : Expr} {d : D} {Q : Value → Shared → Prop} {E : Value → Shared → Prop} (si : SI T env M₀ oa σ own s.heap) (ok : EnvOk sc env) (fo : Fo env) (r : Room k A) (he : Evo T k sc σ own e d)
    (q : ∀ v h' tk, Ext s.heap h' → Rep (mm oa env M₀) h' v d → SI T env M₀ oa σ own h' → Q v { s with heap := h', toks := tk }) : W T A (eval e env) Q E s := by
  rcases he with he | ⟨hs, x, ds, rfl, he⟩
  · exact he env _ A s Q E ok r si.cx (si.holds fo) fun v h' tk x rv => q v h' tk x rv (si.keeps x)
  · exact he env _ A s Q E ok r si.freeze.cx (si.freeze.holds fo) fun v h' tk x rv => q v h' tk x (hs.rep rv) (si.keeps x)
theorem SI.tro {A : Around} {s : Shared} {e : Expr} {b : Bool} {Q : Bool → Shared → Prop} {E : Value → Shared → Prop} (si : SI T env M₀ oa σ own s.heap) (ok : EnvOk sc env) (fo : Fo env) (r : Room k A) (he : Tro T k sc σ own e b)
    (q : ∀ h' tk, Ext s.heap h' → SI T env M₀ oa σ own h' → Q b { s with heap := h', toks := tk }) : W T A (isTrue e env (eval e env)) Q E s := by
  rcases he with he | ⟨x, ds, rfl, he⟩
  · exact he env _ A s Q E ok r si.cx (si.holds fo) fun h' tk x => q h' tk x (si.keeps x)
  · exact he env _ A s Q E ok r si.freeze.cx (si.freeze.holds fo) fun h' tk x => q h' tk x (si.keeps x)

/-! statements -/
theorem Kp.fr (hk : ∀ b o, b ∉ fr env → h.get? b = some o → h'.get? b = some o) : Kp env oa h h' := fun b o hb _ e => hk b o hb e

theorem Ex1.assign {x : Str} {px pos : Pos} {e : Expr} {d : D} (he : Evo T k sc σ own e d) (h : P (.next ((x, d) :: σ) own)) (hx : Stor sc x = true := by rfl) (hne : ownNe own x = true := by rfl)
    (hs : ∀ env, EnvOk sc env → swapsWith e (some (.Name x px)) pos.line env = pure false := by intro _ _; rfl) : Ex1 T k sc σ own (.Assign [.Name x px] e pos) P := by
  intro env M₀ oa A s Q E ok fo r si post
  refine wpAny_Assign_Name (si.evo ok fo r he fun v h1 t1 x1 r1 si1 => ?_) (hs env ok)
  refine SI.store (s := { s with heap := h1, toks := t1 }) si1 fo ok hx hne r1 fun h2 t2 si2 k2 => ?_
  exact post _ h oa h2 t2 si2 ((Kp.ext x1).trans (Kp.fr k2) (si.rel _)) (si.rel _)

theorem Ex1.ret {pos : Pos} {e : Expr} {d : D} (he : Evo T k sc σ own e d) (h : P (.ret d own)) : Ex1 T k sc σ own (.Return (some e) pos) P := by
  intro env M₀ oa A s Q E ok fo r si post
  refine wpAny_Return_some (si.evo ok fo r he fun v h1 t1 x1 r1 si1 => ?_)
  have hMM : ∀ b ∈ oa.toList ++ M₀, b ∈ mm oa env M₀ := fun b hb => by
    simp only [List.mem_append] at hb ⊢
    rcases hb with q | q
    · exact .inl q
    · exact .inr (.inr q)
  refine post _ h v oa h1 t1 (r1.less hMM) (si1.cx.less hMM) ?_ (Kp.ext x1) (si.rel _)
  obtain ⟨m, cm, fm, cx, dj, ow, hl⟩ := si1.ex
  cases own with
  | none => cases oa with
    | none => trivial
    | some a => exact ow
  | some p => cases oa with
    | none => exact ow
    | some a =>
      obtain ⟨y, od⟩ := p
      exact ow.2.2.2.to (fun a q => .inl (hMM a q)) (fun b o _ e => e) fun o e => e
theorem Ex1.brk {pos : Pos} (h : P (.brk σ own)) : Ex1 T k sc σ own (.Break pos) P := fun env M₀ oa A s Q E ok fo r si post => wpAny_Break (post _ h oa s.heap s.toks si (Kp.ext (Ext.refl _)) (si.rel _))

theorem Ex1.if_ {test : Expr} {body orelse : List Stmt} {pos : Pos} {b : Bool} (ht : Tro T k sc σ own test b) (h1 : b = true → Ex T k sc σ own body P) (h2 : b = false → Ex T k sc σ own orelse P) : Ex1 T k sc σ own (.If test body orelse pos) P := by
  intro env M₀ oa A s Q E ok fo r si post
  refine wpAny_If (si.tro ok fo r ht fun h1' t1 x1 si1 => ?_)
  cases b
  · exact h2 rfl env M₀ oa A _ Q E ok fo r si1 fun o ho => (post o ho).step (Kp.ext x1) (si.rel _)
  · exact h1 rfl env M₀ oa A _ Q E ok fo r si1 fun o ho => (post o ho).step (Kp.ext x1) (si.rel _)

def LoopP (N : St → Own → Prop) (P : Out → Prop) : Out → Prop
  | .next σ own => N σ own
  | .brk σ own => P (.next σ own)
  | .ret d own => P (.ret d own)

theorem W.for_ {S : Type} {A : Around} {s : Shared} {Q : Flow → Shared → Prop} {E : Value → Shared → Prop} {x : Str} {px pos : Pos} {iter : Expr} {body orelse : List Stmt} {di : D} {ds : List D} (J : Nat → S → Prop) (σf : S → St) (ownf : S → Own) {a₀ : S} (ok : EnvOk sc env) (fo : Fo env) (r : Room k A) (si : SI T env M₀ oa σ own s.heap)
    (hev : ∀ (Q : Value → Shared → Prop) (E : Value → Shared → Prop), (∀ v h1 t1, Ext s.heap h1 → Rep (mm oa env M₀) h1 v di → Q v { s with heap := h1, toks := t1 }) → W T A (eval iter env) Q E s) (hit : Itr T di ds)
    (hJ : J 0 a₀) (hs₀ : Sub σ (σf a₀)) (ho₀ : own = ownf a₀)
    (hb : ∀ i a d, ds[i]? = some d → J i a → Ex T k sc ((x, d) :: σf a) (ownf a) body (LoopP (fun σ' own' => ∃ a', J (i + 1) a' ∧ Sub σ' (σf a') ∧ own' = ownf a') P))
    (he : ∀ a, J ds.length a → Ex T k sc (σf a) (ownf a) orelse P)
    (hx : Stor sc x = true) (hne : ∀ a, ownNe (ownf a) x = true) (hs : ∀ env v, foldedSetIterable iter env v = pure v) (post : ∀ o, P o → Post1 T env M₀ oa Q s o) : W T A (exec (.For (.Name x px) iter body orelse pos) env) Q E s := by
  refine wpAny_For (hev _ _ fun v h1 t1 x1 r1 => hit _ A _ v _ E r1 fun o ho it => ?_) (hs env)
  have si1 := si.keeps x1
  obtain ⟨fp, P', S', hW, hS, hSI, hfp, hP⟩ := it.ex
  have WK := hW A r.handled
  dsimp only at WK hS hfp hP ⊢
  have hI : h1.get? h1.objs.size = none := fresh_none (Nat.le_refl _)
  have si2 : SI T env (h1.objs.size :: M₀) oa σ own (h1.push o) := si1.to (fun a q => by
      rcases List.mem_cons.mp q with rfl | q
      · exact .inr hI
      · exact .inl q) (fun b o _ e => Heap.get?_push_of_some _ e) fun a q => by
      rcases List.mem_cons.mp q with rfl | q
      · exact hSI _ _ hS
      · obtain ⟨o', e'⟩ := si1.cx.m a (List.mem_append.mpr (.inr (List.mem_append.mpr (.inr q))))
        exact ⟨o', Heap.get?_push_of_some _ e'⟩
  refine codeAny_forLoop (fun m s' => ∃ H tk i a oa', s' = { s with heap := H, toks := tk } ∧ i ≤ ds.length ∧ m = ds.length + 1 - i ∧ S' i H ∧ SI T env (h1.objs.size :: M₀) oa' (σf a) (ownf a) H ∧ J i a ∧ Kp env oa h1 H ∧ OwnRel env oa oa' h1)
    ?_ (ds.length + 1) ⟨h1.push o, t1, 0, a₀, oa, rfl, Nat.zero_le _, rfl, hS, by rw [← ho₀]; exact si2.sub hs₀, hJ, Kp.ext (Ext.push _ _), si.rel _⟩
  rintro m s' ⟨H, tk, i, a, oa', rfl, hi', rfl, hS', si', hJ', kp', rel'⟩
  have there : ∀ {H H₁ : Heap} {oa' : Option Addr} {σ' : St} {own' : Own} {j : Nat}, SI T env (h1.objs.size :: M₀) oa' σ' own' H → S' j H₁ → (∀ b o, b ∉ [h1.objs.size] → H.get? b = some o → H₁.get? b = some o) → SI T env (h1.objs.size :: M₀) oa' σ' own' H₁ := fun si' hS₁ hk₁ => by
    refine si'.to (fun _ q => .inl q) (fun b o hb e => hk₁ b o (fun q => hb (by rw [List.mem_singleton.mp q]; simp)) e) fun b hb => ?_
    by_cases hbI : b = h1.objs.size
    · subst hbI; exact hSI _ _ hS₁
    · obtain ⟨o', e'⟩ := si'.cx.m b (List.mem_append.mpr (.inr (List.mem_append.mpr (.inr hb))))
      exact ⟨o', hk₁ b o' (by simpa using hbI) e'⟩
  have kpI : ∀ {H H₁ : Heap}, Kp env oa h1 H → (∀ b o, b ∉ [h1.objs.size] → H.get? b = some o → H₁.get? b = some o) → Kp env oa h1 H₁ := fun kp hk b o q1 q2 e => hk b o (fun q => by
    rw [List.mem_singleton.mp q, hI] at e; cases e) (kp b o q1 q2 e)
  have hMM : ∀ {oa' : Option Addr}, OwnRel env oa oa' h1 → ∀ b ∈ mm oa' env (h1.objs.size :: M₀), b ∈ mm oa env M₀ ∨ h1.get? b = none := fun rel b hb => by
    simp only [List.mem_append, List.mem_cons, Option.mem_toList] at hb ⊢
    rcases hb with q | (q | q) | q | q
    · rcases (rel b q).2 with z | z
      · exact .inl (.inl z)
      · exact .inr z
    · exact .inl (.inr (.inl (.inl q)))
    · exact .inl (.inr (.inl (.inr q)))
    · exact .inr (q ▸ hI)
    · exact .inl (.inr (.inr q))
  by_cases hlt : i < ds.length
  · refine WK.item i _ _ _ hlt hS' fun v H₁ tk₁ hPv hS₁ hk₁ => ?_
    obtain ⟨d, hd, rv⟩ := hP i v hPv hlt
    have si₁ := there si' hS₁ hk₁
    have kp₁ : Kp env oa h1 H₁ := kpI kp' hk₁
    have rv₁ : Rep (mm oa' env (h1.objs.size :: M₀)) H₁ v d := rv.to (hMM rel') fun b o hb e => kp₁ b o (fun q => hb (by simp only [List.mem_append]; exact .inr (.inl q))) (fun q => hb (by simp [q])) e
    refine wpAny_assign_Name (SI.store (s := { s with heap := H₁, toks := tk₁ }) si₁ fo ok hx (hne a) rv₁ fun H₂ tk₂ si₂ k₂ => ?_)
    have fpo : ∀ b ∈ fp, b ∉ fr env ∧ oa' ≠ some b := fun b hb => by
      rcases hfp b hb with rfl | ⟨q1, o', e'⟩
      · refine ⟨fun q => ?_, fun q => (si₁.off q).1 List.mem_cons_self⟩
        obtain ⟨_, _, _, _, dj, _⟩ := si₁.ex
        exact dj _ q List.mem_cons_self
      · refine ⟨fun q => q1 (by simp only [List.mem_append]; exact .inr (.inl q)), fun q => ?_⟩
        rcases (rel' b q).2 with z | z
        · exact q1 (by simp [z])
        · rw [z] at e'; cases e'
    have hS₂ : S' (i + 1) H₂ := WK.frame _ _ _ hS₁ fun b hb o e => k₂ b o (fpo b hb).1 e
    refine hb i a d hd hJ' env _ oa' A { s with heap := H₂, toks := tk₂ } _ _ ok fo r si₂ fun out hout => ?_
    have kp₂ : Kp env oa h1 H₂ := kp₁.trans (Kp.fr k₂) rel'
    have lessM : ∀ b ∈ M₀, b ∈ h1.objs.size :: M₀ := fun b q => List.mem_cons_of_mem _ q
    cases out with
    | next σ' own' =>
      obtain ⟨a', hJa, hsub, rfl⟩ := hout
      intro oa₃ H₃ tk₃ si₃ kp₃ rel₃
      refine ⟨ds.length + 1 - (i + 1), by lia, H₃, tk₃, i + 1, a', oa₃, rfl, hlt, rfl, ?_, si₃.sub hsub, hJa, kp₂.trans kp₃ rel', rel'.trans rel₃ kp₂⟩
      exact WK.frame _ _ _ hS₂ fun b hb o e => kp₃ b o (fpo b hb).1 (fpo b hb).2 e
    | brk σ' own' =>
      intro oa₃ H₃ tk₃ si₃ kp₃ rel₃
      exact post _ hout oa₃ H₃ tk₃ (si₃.less lessM) ((Kp.ext x1).trans (kp₂.trans kp₃ rel') (si.rel _)) (OwnRel.trans (si.rel _) (rel'.trans rel₃ kp₂) (Kp.ext x1))
    | ret d' own' =>
      intro u oa₃ H₃ tk₃ ru cu ro kp₃ rel₃
      have lessM' : ∀ b ∈ oa₃.toList ++ M₀, b ∈ oa₃.toList ++ (h1.objs.size :: M₀) := fun b q => by
        simp only [List.mem_append, List.mem_cons] at q ⊢
        rcases q with q | q
        · exact .inl q
        · exact .inr (.inr q)
      refine post _ hout u oa₃ H₃ tk₃ (ru.less lessM') (cu.less lessM') ?_ ((Kp.ext x1).trans (kp₂.trans kp₃ rel') (si.rel _)) (OwnRel.trans (si.rel _) (rel'.trans rel₃ kp₂) (Kp.ext x1))
      cases own' with
      | none => cases oa₃ with
        | none => trivial
        | some a => exact ro
      | some p => cases oa₃ with
        | none => exact ro
        | some a => exact OObj.to (fun a q => .inl (lessM' a q)) (fun b o _ e => e) (fun o e => e) ro
  · obtain rfl : i = ds.length := Nat.le_antisymm hi' (Nat.not_lt.mp hlt)
    refine WK.done _ _ _ hS' fun H₁ tk₁ hk₁ => ?_
    have si₁ : SI T env M₀ oa' (σf a) (ownf a) H₁ := by
      refine si'.to (fun b q => .inl (List.mem_cons_of_mem _ q)) (fun b o hb e => hk₁ b o (fun q => hb (by rw [List.mem_singleton.mp q]; simp)) e) fun b hb => ?_
      obtain ⟨o', e'⟩ := si1.cx.m b (List.mem_append.mpr (.inr (List.mem_append.mpr (.inr hb))))
      obtain ⟨o₂, e₂⟩ := si'.cx.m b (List.mem_append.mpr (.inr (List.mem_append.mpr (.inr (List.mem_cons_of_mem _ hb)))))
      exact ⟨o₂, hk₁ b o₂ (fun q => by rw [List.mem_singleton.mp q, hI] at e'; cases e') e₂⟩
    refine he a hJ' env M₀ oa' A { s with heap := H₁, toks := tk₁ } _ _ ok fo r si₁ fun o ho => ?_
    exact (post o ho).step ((Kp.ext x1).trans (kpI kp' hk₁) (si.rel _)) (OwnRel.trans (si.rel _) rel' (Kp.ext x1))

theorem Ex1.for_ {S : Type} {x : Str} {px pos : Pos} {iter : Expr} {body orelse : List Stmt} {di : D} {ds : List D} (J : Nat → S → Prop) (σf : S → St) (ownf : S → Own) {a₀ : S} (hi : Evo T k sc σ own iter di) (hit : Itr T di ds)
    (hJ : J 0 a₀) (hs₀ : Sub σ (σf a₀)) (ho₀ : own = ownf a₀)
    (hb : ∀ i a d, ds[i]? = some d → J i a → Ex T k sc ((x, d) :: σf a) (ownf a) body (LoopP (fun σ' own' => ∃ a', J (i + 1) a' ∧ Sub σ' (σf a') ∧ own' = ownf a') P))
    (he : ∀ a, J ds.length a → Ex T k sc (σf a) (ownf a) orelse P)
    (hx : Stor sc x = true := by rfl) (hne : ∀ a, ownNe (ownf a) x = true := by intro _; rfl) (hs : ∀ env v, foldedSetIterable iter env v = pure v := by intro _ _; rfl) : Ex1 T k sc σ own (.For (.Name x px) iter body orelse pos) P := by
  intro env M₀ oa A s Q E ok fo r si post
  exact W.for_ J σf ownf ok fo r si (fun Q E q => si.evo ok fo r hi fun v h1 t1 x1 r1 _ => q v h1 t1 x1 r1) hit hJ hs₀ ho₀ hb he hx hne hs post
end
end Mine

-- D9
namespace Mine
open PySem PySem.W PyProof.Rows

section
variable {T : Th} {k : Nat} {sc : Scope} {σ : St} {own : Own} {env : Env} {M₀ : List Addr} {oa oa' oa'' : Option Addr} {h h' h'' : Heap} {P : Out → Prop}

theorem Ex1.while_ {S : Type} {test : Expr} {body orelse : List Stmt} {pos : Pos} (J : S → Prop) (μ : S → Nat) (σf : S → St) (ownf : S → Own) {a₀ : S} (hJ : J a₀) (hs₀ : Sub σ (σf a₀)) (ho₀ : own = ownf a₀)
    (hb : ∀ a, J a → ∃ b, Tro T k sc (σf a) (ownf a) test b ∧ (b = true → Ex T k sc (σf a) (ownf a) body (LoopP (fun σ' own' => ∃ a', J a' ∧ μ a' < μ a ∧ Sub σ' (σf a') ∧ own' = ownf a') P)) ∧ (b = false → Ex T k sc (σf a) (ownf a) orelse P)) :
    Ex1 T k sc σ own (.While test body orelse pos) P := by
  intro env M₀ oa A s Q E ok fo r si post
  refine wpAny_While (codeAny_whileLoop (fun m s' => ∃ H tk a oa', s' = { s with heap := H, toks := tk } ∧ m = μ a ∧ SI T env M₀ oa' (σf a) (ownf a) H ∧ J a ∧ Kp env oa s.heap H ∧ OwnRel env oa oa' s.heap) ?_ (μ a₀)
    ⟨s.heap, s.toks, a₀, oa, rfl, rfl, by rw [← ho₀]; exact si.sub hs₀, hJ, Kp.ext (Ext.refl _), si.rel _⟩)
  rintro m s' ⟨H, tk, a, oa', rfl, rfl, si', hJ', kp', rel'⟩
  obtain ⟨b, ht, h1, h2⟩ := hb a hJ'
  refine si'.tro (s := { s with heap := H, toks := tk }) ok fo r ht fun H₁ t₁ x₁ si₁ => ?_
  have kp₁ : Kp env oa s.heap H₁ := kp'.trans (Kp.ext x₁) rel'
  cases b
  · simp only [Bool.false_eq_true, if_false]
    exact h2 rfl env M₀ oa' A { s with heap := H₁, toks := t₁ } _ _ ok fo r si₁ fun o ho => (post o ho).step kp₁ rel'
  · simp only [if_true]
    refine h1 rfl env M₀ oa' A { s with heap := H₁, toks := t₁ } _ _ ok fo r si₁ fun o ho => ?_
    cases o with
    | next σ' own' =>
      obtain ⟨a', hJa, hμ, hsub, rfl⟩ := ho
      exact fun oa₃ H₃ tk₃ si₃ kp₃ rel₃ => ⟨μ a', hμ, H₃, tk₃, a', oa₃, rfl, rfl, si₃.sub hsub, hJa, kp₁.trans kp₃ rel', rel'.trans rel₃ kp₁⟩
    | brk σ' own' => exact fun oa₃ H₃ tk₃ si₃ kp₃ rel₃ => post _ ho oa₃ H₃ tk₃ si₃ (kp₁.trans kp₃ rel') (rel'.trans rel₃ kp₁)
    | ret d' own' => exact fun u oa₃ H₃ tk₃ ru cu ro kp₃ rel₃ => post _ ho u oa₃ H₃ tk₃ ru cu ro (kp₁.trans kp₃ rel') (rel'.trans rel₃ kp₁)

/-- a new list that the frame owns -/
theorem Ex1.newOwn {x : Str} {px p pos : Pos} {es : List Expr} {ds : List D} (he : EvL T k sc σ es ds) (hz : ds.length ≤ 1000) (h : P (.next σ (some (x, .list ds)))) (hx : Stor sc x = true := by rfl) (hσ : σ.lookup x = none := by rfl) : Ex1 T k sc σ none (.Assign [.Name x px] (.List es p) pos) P := by
  intro env M₀ oa A s Q E ok fo r si post
  refine wpAny_Assign_Name ?_ rfl
  refine wpAny_List (he env _ A s _ E p ok r si.cx (si.holds fo) fun vs h1 t1 x1 r1 => ⟨by rw [r1.length, sizeLine_eq]; lia, ?_⟩)
  have si1 := si.keeps x1
  obtain ⟨m, cm, fm, cx, dj, ow, hl⟩ := si1.ex
  cases oa with
  | some a => exact ow.elim
  | none =>
  have hfr : h1.get? h1.objs.size = none := fresh_none (Nat.le_refl _)
  have fm2 : Frm env m cm (h1.push (lObj vs 0)) := fm.only fun b hb o e => Heap.get?_push_of_some _ e
  refine fm2.store (s := { s with heap := h1.push (lObj vs 0), toks := t1 }) fo ok hx fun m' cm' h' tk fm' at' keep hm' hmx kp ex => ?_
  have new : ∀ a ∈ mm none env M₀, a ≠ h1.objs.size := fun a ha q => by
    obtain ⟨o, e⟩ := cx.m a ha
    rw [q, hfr] at e; cases e
  have nf : h1.objs.size ∉ fr env := fun q => new _ (by simp only [List.mem_append]; exact .inr (.inl q)) rfl
  have nm : h1.objs.size ∉ M₀ := fun q => new _ (by simp only [List.mem_append]; exact .inr (.inr q)) rfl
  have eL : h'.get? h1.objs.size = some (lObj vs 0) := kp _ _ nf (Heap.get?_push_size _ rfl)
  have hMM : ∀ a ∈ mm (some h1.objs.size) env M₀, a ∈ mm none env M₀ ∨ h1.get? a = none := fun a ha => by
    simp only [List.mem_append, Option.toList_some, List.mem_singleton] at ha
    rcases ha with rfl | ha
    · exact .inr hfr
    · exact .inl (by simp only [List.mem_append]; exact .inr ha)
  have kk : ∀ b o, b ∉ mm none env M₀ → h1.get? b = some o → h'.get? b = some o := fun b o hb e => kp b o (fun z => hb (by simp only [List.mem_append]; exact .inr (.inl z))) (Heap.get?_push_of_some _ e)
  refine post _ h (some h1.objs.size) h' tk ⟨m', cm', fm', cx.but hMM (fun b o hb _ e => kk b o hb e) fun a ha => ?_, dj, ⟨at', nm, nf, vs, 0, eL, r1.to hMM kk⟩, fun y d' e => ?_⟩
    (fun b o hb _ e => kp b o hb (Heap.get?_push_of_some _ (x1 b o e))) fun a ea => ?_
  · simp only [List.mem_append, Option.toList_some, List.mem_singleton] at ha
    rcases ha with rfl | ha
    · exact ⟨_, eL⟩
    · obtain ⟨o, e⟩ := cx.m a (by simp only [List.mem_append]; exact .inr ha)
      by_cases hf : a ∈ fr env
      · exact ex a hf ⟨o, Heap.get?_push_of_some _ e⟩
      · exact ⟨o, kp a o hf (Heap.get?_push_of_some _ e)⟩
  · obtain ⟨v', a, rv⟩ := hl y d' e
    exact ⟨v', keep y v' (fun z => by rw [z, hσ] at e; cases e) a, rv.to hMM kk⟩
  · cases ea
    refine ⟨nf, .inr ?_⟩
    cases e : s.heap.get? h1.objs.size with
    | none => rfl
    | some o => rw [x1 _ _ e] at hfr; cases hfr

theorem At.load {m cm : Str → Option Value} {x : Str} {v : Value} {A : Around} {s : Shared} {Q : Value → Shared → Prop} {E : Value → Shared → Prop} (a : At env m cm x v) (fm : Frm env m cm s.heap) (fo : Fo env) (ok : EnvOk sc env) (q : Q v s) : W T A (loadName env x) Q E s := by
  have hk : env.scope.kind = .function := by rw [ok.scope]; exact ok.kind
  rcases a with ⟨a, b⟩ | ⟨a, b⟩
  · exact wpAny_loadName_local hk a fm.ns b q
  · obtain ⟨c, hc⟩ := Option.isSome_iff_exists.mp (fo.has x a)
    exact wpAny_loadName_cell hk a hc (b ▸ fm.cell x c hc) q

/-- the owned list changes in place -/
theorem SI.owned {x : Str} {ds ds' : List D} {vs' : List Value} {n' : Nat} {a : Addr} (si : SI T env M₀ (some a) σ (some (x, .list ds)) h) (sb : Heap.SameBut a h h') (e : h'.get? a = some (lObj vs' n')) (r : RepL (mm (some a) env M₀) h vs' ds') :
    SI T env M₀ (some a) σ (some (x, .list ds')) h' := by
  obtain ⟨m, cm, fm, cx, dj, ow, hl⟩ := si.ex
  obtain ⟨o1, o3, o4, vs, n, e5, r5⟩ := ow
  have kk : ∀ b o, b ∉ mm (some a) env M₀ → h.get? b = some o → h'.get? b = some o := fun b o hb e => sb.extBut b o (fun q => hb (by simp [q])) e
  refine ⟨m, cm, fm.only fun b hb o e => sb.extBut b o (fun q => o4 (q ▸ hb)) e, cx.but (fun _ q => .inl q) (fun b o hb _ e => kk b o hb e) fun b hb => ?_, dj, ⟨o1, o3, o4, vs', n', e, r.to (fun _ q => .inl q) kk⟩, fun y d q => ?_⟩
  · by_cases hba : b = a
    · exact ⟨_, hba ▸ e⟩
    · obtain ⟨o, e'⟩ := cx.m b hb
      exact ⟨o, sb.extBut b o hba e'⟩
  · obtain ⟨v, b, c⟩ := hl y d q
    exact ⟨v, b, c.to (fun _ q => .inl q) kk⟩

theorem no_interactive (ok : EnvOk sc env) : interactive env = false := by
  unfold interactive
  rw [ok.scope, ok.kind]; rfl

theorem Ex1.append {x : Str} {p apos pos pos' : Pos} {e : Expr} {ds : List D} {d : D} (he : Ev T k sc σ e d) (hz : ds.length ≤ 1000000) (h : P (.next σ (some (x, .list (ds ++ [d]))))) (hline : (apos.endLine == pos.line) = true := by rfl)
    (hst : ∀ env, backTo pos (starEach [e] env) = [(false, eval e env)] := by intro _; rfl) (hd : (x == ("__debug__" : Str)) = false := by decide) :
    Ex1 T k sc σ (some (x, .list ds)) (.Expr (.Call (.Attribute (.Name x p) "append" apos) [e] [] pos) pos') P := by
  intro env M₀ oa A s Q E ok fo r si post
  refine wpAny_Expr_any ?_ (no_interactive ok) rfl
  cases oa with
  | none => obtain ⟨_, _, _, _, _, ow, _⟩ := si.ex; exact ow.elim
  | some a =>
  refine wpAny_Call_append rfl (by rw [hst]; rfl) hline (hst env) ?_
  obtain ⟨m, cm, fm, cx, dj, ow, hl⟩ := si.ex
  obtain ⟨o1, o3, o4, vs, n, e5, r5⟩ := ow
  refine wpAny_Name (o1.load fm fo ok ⟨a, vs.toArray, rfl, ⟨_, n, e5, rfl, rfl, rfl⟩, ?_⟩) hd
  refine he env _ A s _ E ok r si.cx (si.holds fo) fun v h1 t1 x1 r1 => ?_
  have si1 := si.keeps x1
  have e1 := x1 _ _ e5
  refine wpAny_list_append_plain (s := { s with heap := h1, toks := t1 }) (hsz := by rw [List.size_toArray, r5.length, sizeLine_eq]; lia) ⟨n, e1⟩ fun h2 hl2 sb2 => ?_
  obtain ⟨n2, e2⟩ := hl2
  have e2' : h2.get? a = some (lObj (vs ++ [v]) n2) := by rw [e2]; simp
  have rr : RepL (mm (some a) env M₀) h1 (vs ++ [v]) (ds ++ [d]) := (r5.keeps x1).append (.cons r1 .nil)
  refine post _ h (some a) h2 t1 (si1.owned sb2 e2' rr) (fun b o hb hb' e => sb2.extBut b o (fun q => hb' (by rw [q])) (x1 b o e)) (fun c ec => ⟨?_, .inl ec⟩)
  cases ec; exact o4

theorem Ex1.assignComp {y : Str} {py : Pos} {elt iter : Expr} {x : Str} {px : Pos} {ifs : List Expr} {scope : Scope} {cpos pos : Pos} {di : D} {ds : List D} (p : D → Bool) (f : D → D)
    (hi : Ev T k sc σ iter di) (hit : Itr T di ds) (hz : ds.length ≤ 1000000) (hsc : okComp scope sc x = true) (hfr : hasFree scope σ = true)
    (htest : ∀ d ∈ ds, Tests T k (relabelS scope sc) ((x, d) :: freeOf scope σ) ifs (p d)) (helt : ∀ d ∈ ds, p d = true → Ev T k (relabelS scope sc) ((x, d) :: freeOf scope σ) elt (f d))
    (h : P (.next ((y, .list ((ds.filter p).map f)) :: σ) own)) (hy : sc.names.lookup y = some .local := by rfl) (hne : ownNe own y = true := by rfl)
    (hln : (py.line == cpos.line && !(scope.names.any fun (n, k) => n == y && (k == .local || k == .cell))) = true := by rfl)
    (hs : ∀ env v, foldedSetIterable iter env v = pure v := by intro _ _; rfl) :
    Ex1 T k sc σ own (.Assign [.Name y py] (.ListComp elt [⟨.Name x px, iter, ifs, 0⟩] scope cpos) pos) P := by
  intro env M₀ oa A s Q E ok fo r si post
  obtain ⟨hk, hnm, _⟩ := okComp_parts hsc
  have hkd : env.kindOf y = some .local := by show env.scope.names.lookup y = _; rw [ok.scope]; exact hy
  rw [exec_Assign_Name_used]
  rotate_left
  · simp only [Bool.and_eq_true] at hln
    show (pure (env.blockKind == .function && env.kindOf y == some .local && py.line == cpos.line && !(scope.names.any fun (n, k) => n == y && (k == .local || k == .cell))) : Sem Bool) = _
    rw [hkd, hln.1, hln.2]
    have : env.blockKind = .function := by
      unfold Env.blockKind; rw [ok.scope, ok.kind]; rfl
    rw [this]; rfl
  refine wpAny_bind (wpAny_standAt (wpAny_bind ?_))
  show W T A (evalThenUse _ _ _) _ E s
  unfold evalThenUse
  refine wpAny_bind ?_
  refine wpAny_comprehension_free (use := some _) rfl (hs env) (closure_ok ok (si.holds fo) hsc hfr) hk hnm (hi env _ A s _ E ok r si.cx (si.holds fo) fun v h1 t1 x1 r1 => hit _ A _ v _ E r1 fun o ho it => ?_)
  have si1 := si.keeps x1
  refine comp_core (s := { s with heap := h1, toks := t1 }) (RR := fun acc C => compPost (model T.prog T.w) A E (some (PySem.assign (.Name y py) env)) _ acc C) p f ok r si1.cx (si1.holds fo) hsc hfr ho it hz htest helt ?_
  intro H tk Dd C vs n m xH hD hC hDC hDM hn ha hr
  have siC : SI T env (C :: M₀) oa σ own H := si1.to (fun a q => by
      rcases List.mem_cons.mp q with rfl | q
      · exact .inr hC
      · exact .inl q) (fun b o _ e => xH b o e) fun a q => by
      rcases List.mem_cons.mp q with rfl | q
      · obtain ⟨o', _, _, e', _⟩ := hn; exact ⟨o', e'⟩
      · obtain ⟨o', e'⟩ := si1.cx.m a (List.mem_append.mpr (.inr (List.mem_append.mpr (.inr q))))
        exact ⟨o', xH _ _ e'⟩
  have hCf : C ∉ fr env := fun q => by
    obtain ⟨_, _, _, _, dj, _⟩ := siC.ex
    exact dj _ q List.mem_cons_self
  have rv : Rep (mm oa env (C :: M₀)) H (.ref Dd) (.list ((ds.filter p).map f)) := .list (fun q => by
      simp only [List.mem_append, List.mem_cons] at q
      refine hDM ?_
      simp only [List.mem_append, List.mem_cons]
      rcases q with q | q | q | q
      · exact .inl q
      · exact .inr (.inl q)
      · exact (hDC q).elim
      · exact .inr (.inr q)) ha (hr.less fun a q => by
      simp only [List.mem_append, List.mem_cons] at q ⊢
      rcases q with q | q | q | q
      · exact .inr (.inr (.inl q))
      · exact .inr (.inr (.inr (.inl q)))
      · exact .inr (.inl q)
      · exact .inr (.inr (.inr (.inr q))))
  refine wpAny_assign_Name (SI.store (s := { s with heap := H, toks := tk }) siC fo ok (by simp only [Stor, hy]; rfl) hne rv fun h2 t2 si2 k2 => ?_)
  refine ⟨m, Ns.only hn fun o e => k2 C o hCf e, fun h3 sb3 => ?_⟩
  refine wpAny_pure (wpAny_pure ?_)
  refine post _ h oa h3 t2 (si2.to (fun b q => .inl (List.mem_cons_of_mem _ q)) (fun b o hb e => sb3.extBut b o (fun q => hb (by rw [q]; simp)) e) fun b hb => ?_) (fun b o hb _ e => ?_) (si.rel _)
  · obtain ⟨o₂, e₂⟩ := si2.cx.m b (List.mem_append.mpr (.inr (List.mem_append.mpr (.inr (List.mem_cons_of_mem _ hb)))))
    obtain ⟨o', e'⟩ := si1.cx.m b (List.mem_append.mpr (.inr (List.mem_append.mpr (.inr hb))))
    exact ⟨o₂, sb3.extBut b o₂ (fun q => by rw [q] at e'; have e'' : h1.get? C = none := hC; rw [e''] at e'; cases e') e₂⟩
  · have e1 := x1 b o e
    exact sb3.extBut b o (fun q => by rw [q] at e1; have e'' : h1.get? C = none := hC; rw [e''] at e1; cases e1) (k2 b o hb (xH b o e1))
end
end Mine

-- D10
namespace Mine
open PySem PySem.W PyProof.Rows

theorem len1 {α : Type} {l : List α} (h : l.length = 1) : ∃ a, l = [a] := List.length_eq_one_iff.mp h
theorem len_cons {α : Type} {l : List α} {n : Nat} (h : l.length = n + 1) : ∃ a r, l = a :: r ∧ r.length = n := by
  cases l with
  | nil => cases h
  | cons a r => exact ⟨a, r, rfl, Nat.succ.inj h⟩
theorem len2 {α : Type} {l : List α} (h : l.length = 2) : ∃ a b, l = [a, b] := by
  obtain ⟨a, r, rfl, h'⟩ := len_cons h
  obtain ⟨b, rfl⟩ := len1 h'
  exact ⟨a, b, rfl⟩
theorem len3 {α : Type} {l : List α} (h : l.length = 3) : ∃ a b c, l = [a, b, c] := by
  obtain ⟨a, r, rfl, h'⟩ := len_cons h
  obtain ⟨b, c, rfl⟩ := len2 h'
  exact ⟨a, b, c, rfl⟩
theorem len4 {α : Type} {l : List α} (h : l.length = 4) : ∃ a b c d, l = [a, b, c, d] := by
  obtain ⟨a, r, rfl, h'⟩ := len_cons h
  obtain ⟨b, c, d, rfl⟩ := len3 h'
  exact ⟨a, b, c, d, rfl⟩

def InOk (T : Th) (k : Nat) (op : Operator) (a b d : D) : Prop :=
  ∀ (M : List Addr) (A : Around) (s : Shared) (v u : Value) (Q : Value → Shared → Prop) (E : Value → Shared → Prop), Room k A → Cx T M s.heap → Rep M s.heap v a → Rep M s.heap u b → Post M s d Q → W T A (inplaceOp op v u) Q E s

section
variable {T : Th} {k : Nat} {sc : Scope} {σ : St} {own : Own} {env : Env} {M₀ : List Addr} {oa oa' oa'' : Option Addr} {h h' h'' : Heap} {P : Out → Prop}

theorem InOk.xor_int {a b : Int} : InOk T k .BitXor (.int a) (.int b) (.int (Builtin.bitXor a b)) := fun M A s v u Q E r cx ra rb post => by
  cases ra; cases rb; exact ixor_int (post _ _ _ (Ext.refl _) (.int _ _))
theorem InOk.or_int {a b : Int} : InOk T k .BitOr (.int a) (.int b) (.int (Builtin.bitOr a b)) := fun M A s v u Q E r cx ra rb post => by
  cases ra; cases rb; exact ior_int (post _ _ _ (Ext.refl _) (.int _ _))
theorem InOk.shl_int {a b : Int} (hb : 0 ≤ b) (hz : (Builtin.Int.intBits a : Int) + b ≤ 2 ^ 27) : InOk T k .LShift (.int a) (.int b) (.int (a * 2 ^ b.toNat)) := fun M A s v u Q E r cx ra rb post => by
  cases ra; cases rb; exact ilshift_int hb hz (post _ _ _ (Ext.refl _) (.int _ _))

theorem Loc.load {x : Str} {v : Value} {A : Around} {s : Shared} {Q : Value → Shared → Prop} {E : Value → Shared → Prop} (l : Loc s.heap env x v) (ok : EnvOk sc env) (q : Q v s) (hc : (x == ("__classdict__" : Str)) = false) : W T A (loadName env x) Q E s := by
  have hk : env.scope.kind = .function := by rw [ok.scope]; exact ok.kind
  rcases l with ⟨a, m, n, e⟩ | ⟨a | a, c, e, n⟩
  · exact wpAny_loadName_local hk a n e q
  · exact wpAny_loadName_cell hk a e n q
  · exact wpAny_loadName_free hk a e n q hc

theorem Ex1.aug {x : Str} {px pos : Pos} {op : Operator} {e : Expr} {d₁ d₂ d : D} (hσ : σ.lookup x = some d₁) (he : Ev T k sc σ e d₂) (hop : InOk T k op d₁ d₂ d) (h : P (.next ((x, d) :: σ) own)) (hx : Stor sc x = true := by rfl) (hne : ownNe own x = true := by rfl)
    (hc : (x == ("__classdict__" : Str)) = false := by decide) : Ex1 T k sc σ own (.AugAssign (.Name x px) op e pos) P := by
  intro env M₀ oa A s Q E ok fo r si post
  obtain ⟨v, l, rv⟩ := si.holds fo x d₁ hσ
  refine wpAny_AugAssign_Name (l.load ok ?_ hc)
  refine he env _ A s _ E ok r si.cx (si.holds fo) fun u h1 t1 x1 r1 => ?_
  refine hop _ A _ v u _ E r (si.cx.keeps x1) (rv.keeps x1) r1 fun z h2 t2 x2 r2 => ?_
  refine SI.store (s := { s with heap := h2, toks := t2 }) ((si.keeps x1).keeps x2) fo ok hx hne r2 fun h3 t3 si3 k3 => ?_
  exact post _ h oa h3 t3 si3 ((Kp.ext (x1.trans x2)).trans (Kp.fr k3) (si.rel _)) (si.rel _)

/-- `a, b = e` of a tuple -/
theorem Ex1.unpack2 {a b : Str} {pa pb tp pos : Pos} {x1 : Nat} {e : Expr} {da db : D} (he : Ev T k sc σ e (.tup [da, db])) (h : P (.next ((b, db) :: (a, da) :: σ) own)) (ha : Stor sc a = true := by rfl) (hb : Stor sc b = true := by rfl) (hna : ownNe own a = true := by rfl) (hnb : ownNe own b = true := by rfl)
    (hs : ∀ env, EnvOk sc env → swapsWithSole [.Tuple [.Name a pa, .Name b pb] x1 tp] e pos.line env = pure false := by intro _ _; rfl) (hw : ∀ env, EnvOk sc env → swappedStores [.Tuple [.Name a pa, .Name b pb] x1 tp] e env = pure none := by intro _ _; rfl) :
    Ex1 T k sc σ own (.Assign [.Tuple [.Name a pa, .Name b pb] x1 tp] e pos) P := by
  intro env M₀ oa A s Q E ok fo r si post
  refine wpAny_Assign_stores (he env _ A s _ E ok r si.cx (si.holds fo) fun v h1 t1 x1' r1 => ?_) (hs env ok) (hw env ok)
  cases r1 with
  | tup hm et rl =>
    rename_i t vs n
    cases rl with
    | cons r1 rl => cases rl with
      | cons r2 rl => cases rl with
        | nil =>
          rename_i v1 v2
          show W T A (PySem.assign _ env _) _ E _
          refine wpAny_assign_Tuple (s := { s with heap := h1, toks := t1 }) r.handled ⟨_, et, rfl, n, rfl⟩ rfl rfl fun h2 sb2 => ?_
          have x2 : Ext h1 h2 := fun b o e => sb2 b o (Nat.ne_of_lt (Heap.lt_size e)) e
          show W T A (assignInOrder [PySem.assign (.Name a pa) env, PySem.assign (.Name b pb) env] [v1, v2]) _ E _
          unfold assignInOrder
          have si2 := (si.keeps x1').keeps x2
          refine wpAny_bind (wpAny_holding (wpAny_assign_Name (SI.store (s := { s with heap := h2, toks := t1 }) si2 fo ok ha hna (r1.keeps x2) fun h3 t3 si3 k3 => ?_)))
          unfold assignInOrder
          have rv2 : Rep (mm oa env M₀) h3 v2 db := (r2.keeps x2).to (fun _ q => .inl q) fun b o hb e => k3 b o (fun q => hb (by simp only [List.mem_append]; exact .inr (.inl q))) e
          refine wpAny_bind (wpAny_holding (wpAny_assign_Name (SI.store (s := { s with heap := h3, toks := t3 }) si3 fo ok hb hnb rv2 fun h4 t4 si4 k4 => ?_)))
          unfold assignInOrder
          exact wpAny_pure (post _ h oa h4 t4 si4 ((Kp.ext (x1'.trans x2)).trans ((Kp.fr k3 : Kp env oa h2 h3).trans (Kp.fr k4) (si.rel _)) (si.rel _)) (si.rel _))

/-! a def's contract -/
theorem cells_has {x : Str} : ∀ (names : List (Str × NameKind)) (n : Nat) (acc : List (Str × Addr)), (acc.lookup x).isSome = true ∨ (x, NameKind.cell) ∈ names → ((cellsFrom n names acc).lookup x).isSome = true
  | [], n, acc, h => by
    rcases h with h | h
    · exact h
    · cases h
  | (m, kd) :: r, n, acc, h => by
    unfold cellsFrom
    split
    · refine cells_has r _ _ ?_
      rcases h with h | h
      · refine .inl ?_
        rw [List.lookup_cons]
        split
        · rfl
        · exact h
      · rcases List.mem_cons.mp h with e | h
        · cases e; refine .inl ?_; rw [List.lookup_cons]; simp
        · exact .inr h
    · rename_i hk
      refine cells_has r _ _ ?_
      rcases h with h | h
      · exact .inl h
      · rcases List.mem_cons.mp h with e | h
        · cases e; exact (hk rfl).elim
        · exact .inr h

theorem bindL_off {K : Str → Option NameKind} {x : Str} : ∀ (b : List (Str × Value)) (m : Str → Option Value), (∀ p ∈ b, p.1 ≠ x) → bindL K b m x = m x
  | [], m, _ => rfl
  | (n, v) :: r, m, h => by
    unfold bindL
    rw [bindL_off r _ fun p hp => h p (List.mem_cons_of_mem _ hp)]
    split
    · exact if_neg (fun e => h (n, v) List.mem_cons_self e.symm)
    · rfl
theorem bindC_off {K : Str → Option NameKind} {x : Str} : ∀ (b : List (Str × Value)) (m : Str → Option Value), (∀ p ∈ b, p.1 ≠ x) → bindC K b m x = m x
  | [], m, _ => rfl
  | (n, v) :: r, m, h => by
    unfold bindC
    rw [bindC_off r _ fun p hp => h p (List.mem_cons_of_mem _ hp)]
    split
    · rfl
    · exact if_neg (fun e => h (n, v) List.mem_cons_self e.symm)
theorem bind_at {env : Env} : ∀ (xs : List Str) (vs : List Value) (ds : List D) (m cm : Str → Option Value) {M : List Addr} {h : Heap}, RepL M h vs ds → xs.length = ds.length → xs.Nodup → (∀ x ∈ xs, env.kindOf x = some .local ∨ env.kindOf x = some .cell) →
    ∀ x d, (xs.zip ds).lookup x = some d → ∃ v, At env (bindL env.kindOf (xs.zip vs) m) (bindC env.kindOf (xs.zip vs) cm) x v ∧ Rep M h v d
  | [], vs, ds, m, cm, M, h, r, hl, hn, hk, x, d, e => by simp at e
  | y :: ys, _, [], m, cm, M, h, r, hl, hn, hk, x, d, e => by simp at e
  | y :: ys, _, d0 :: ds, m, cm, M, h, .cons (v := v) (vs := vs) rv rl, hl, hn, hk, x, d, e => by
    obtain ⟨hy, hn⟩ := List.nodup_cons.mp hn
    rw [List.zip_cons_cons] at e ⊢
    rw [List.lookup_cons] at e
    cases hq : x == y with
    | true =>
      rw [hq] at e
      obtain rfl : d0 = d := by simpa using e
      obtain rfl := beq_iff_eq.mp hq
      have off : ∀ p ∈ ys.zip vs, p.1 ≠ x := fun p hp q => hy (q ▸ (List.of_mem_zip hp).1)
      refine ⟨v, ?_, rv⟩
      unfold bindL bindC
      rcases hk x List.mem_cons_self with hl | hl
      · refine .inl ⟨hl, ?_⟩
        rw [bindL_off _ _ off, if_pos hl]
        exact if_pos rfl
      · refine .inr ⟨hl, ?_⟩
        rw [bindC_off _ _ off, if_neg (by rw [hl]; decide)]
        exact if_pos rfl
    | false =>
      rw [hq] at e
      have := bind_at (env := env) ys vs ds (if env.kindOf y = some .local then fun z => if z = y then some v else m z else m) (if env.kindOf y = some .local then cm else fun z => if z = y then some v else cm z) rl (by simpa using hl) hn (fun z hz => hk z (List.mem_cons_of_mem _ hz)) x d e
      unfold bindL bindC
      exact this

def FnP (d : D) : Out → Prop
  | .ret d' _ => d' = d
  | .next _ _ => d = .none
  | .brk _ _ => False

/-- what runs when a def is called -/
structure Def (T : Th) (f : Addr) (xs : List Str) (sc : Scope) (body : List Stmt) : Prop where
  ex : ∃ o fd, T.K.lookup f = some o ∧ o.data = .func fd ∧ fd.body = .stmts body ∧ fd.scope = sc ∧ codeIn T.K fd.code fd.qualname = true ∧ fd.closure = [] ∧ fd.globals = mainGlobals ∧ fd.builtins = builtinsNs ∧
    (∀ vals : List Value, vals.length = xs.length → bindArgs fd ⟨vals, []⟩ = pure (xs.zip vals))
  st : ∀ x ∈ xs, Stor sc x = true
  nd : xs.Nodup
  co : sc.isCoroutine = false
  ge : sc.isGenerator = false
  ki : sc.kind = .function

theorem call_frameC {f : Addr} {xs : List Str} {body : List Stmt} (df : Def T f xs sc body) {A : Around} {s : Shared} {M : List Addr} {vs : List Value} {ds : List D} {R : Result → Shared → Prop}
    (r : Room (k + 1) A) (cx : Cx T M s.heap) (rl : RepL M s.heap vs ds) (hlen : xs.length = ds.length)
    (hb : ∀ env h₁ tk, EnvOk sc env → Fo env → Room k (A.deeper env) → (∀ a ∈ fr env, s.heap.get? a = none) → Ext s.heap h₁ → SI T env M none (xs.zip ds) none h₁ → (∀ o fd, T.K.lookup f = some o → o.data = .func fd → env.code = fd.code) → ∀ E', W T (A.deeper env) (execs body env) (fun fl s' => R (.ok (.ret (match fl with | .ret v => v | _ => .none))) s') E' { s with heap := h₁, toks := tk }) : codeAny (model T.prog T.w) A (.call (.ref f) ⟨vs, []⟩) R s := by
  obtain ⟨o, fd, ho, hd, hbd, hsc, hc, hclo, hg, hbi, hbind⟩ := df.ex
  have hvl : vs.length = xs.length := by rw [rl.length, hlen]
  have hkind : ∀ x ∈ xs.zip vs, fd.scope.names.lookup x.1 = some .local ∨ (fd.scope.names.lookup x.1 = some .cell ∧ ((cellsFrom (s.heap.objs.size + 1) fd.scope.names []).lookup x.1).isSome = true) := fun x hx => by
    have h1 := df.st x.1 (List.of_mem_zip hx).1
    simp only [Stor, Bool.or_eq_true, beq_iff_eq] at h1
    rw [hsc]
    rcases h1 with q | q
    · exact .inl q
    · exact .inr ⟨q, cells_has _ _ _ (.inr (mem_of_lookup q))⟩
  refine codeAny_call_cells r.room (cx.X f o ho) hd cx.lim (codeRec_of cx.X hc) hbd (hbind vs hvl) hclo hkind (fun s₁ x => ?_) (by rw [hsc]; exact df.co) (by rw [hsc]; exact df.ge) (by rw [hsc]; exact df.ki)
  have henv : callEnvC fd s.heap.objs.size f = newEnv fd.scope s.heap.objs.size fd.globals (cellsFrom (s.heap.objs.size + 1) fd.scope.names []) (fd.qualname ++ ".<locals>.") (some f) fd.code none fd.builtins := rfl
  generalize callEnvC fd s.heap.objs.size f = env at x henv ⊢
  have e1 : env.scope = sc := by rw [henv, ← hsc]; rfl
  have e2 : env.cells = cellsFrom (s.heap.objs.size + 1) fd.scope.names [] := by rw [henv]; rfl
  have e3 : env.locals = s.heap.objs.size := by rw [henv]; rfl
  have ok : EnvOk sc env := ⟨e1, df.ki, by rw [henv]; exact hg, by rw [henv]; exact hbi⟩
  have fo : Fo env := ⟨x.apart, x.above, fun n hn => by
    rw [e2, hsc]
    have : sc.names.lookup n = some .cell := by rw [← e1]; exact hn
    exact cells_has _ _ _ (.inr (mem_of_lookup this))⟩
  obtain ⟨h₁, tk, hs₁, keep⟩ := x.done
  have frn : ∀ a ∈ fr env, s.heap.get? a = none := fun a ha => by
    rcases List.mem_cons.mp ha with rfl | ha
    · rw [e3]; exact fresh_none (Nat.le_refl _)
    · obtain ⟨p, hp, hq⟩ := List.mem_filterMap.mp ha
      have := x.above _ _ (mem_of_lookup hq)
      rw [e3] at this
      exact fresh_none (Nat.le_of_lt this)
  subst hs₁
  have si : SI T env M none (xs.zip ds) none h₁ := by
    refine ⟨_, _, ⟨x.toInCall.ns, x.cell⟩, cx.but (fun a ha => ?_) (fun b o _ _ e => keep b o e) fun a ha => ?_, fun a ha q => ?_, trivial, fun y d e => ?_⟩
    · rcases List.mem_append.mp ha with q | q
      · cases q
      · rcases List.mem_append.mp q with q | q
        · exact .inr (frn a q)
        · exact .inl q
    · rcases List.mem_append.mp ha with q | q
      · cases q
      · rcases List.mem_append.mp q with q | q
        · rcases List.mem_cons.mp q with rfl | q
          · obtain ⟨o', _, _, e', _⟩ := x.toInCall.ns; exact ⟨o', e'⟩
          · obtain ⟨p, hp, hq⟩ := List.mem_filterMap.mp q
            obtain ⟨o', e', _⟩ := x.cell _ _ hq
            exact ⟨o', e'⟩
        · obtain ⟨o', e'⟩ := cx.m a q; exact ⟨o', keep _ _ e'⟩
    · obtain ⟨o', e'⟩ := cx.m a q
      rw [frn a ha] at e'; cases e'
    · have hM : ∀ a ∈ mm none env M, a ∈ M ∨ s.heap.get? a = none := fun a ha => by
        rcases List.mem_append.mp ha with q | q
        · cases q
        · rcases List.mem_append.mp q with q | q
          · exact .inr (frn a q)
          · exact .inl q
      refine bind_at xs vs ds _ _ (rl.to hM fun b o _ e => keep b o e) hlen df.nd (fun z hz => ?_) y d e
      have h1 := df.st z hz
      simp only [Stor, Bool.or_eq_true, beq_iff_eq] at h1
      show env.scope.names.lookup z = _ ∨ env.scope.names.lookup z = _
      rw [e1]; exact h1
  refine wpAny_mono (hb env h₁ tk ok fo r.deeper frn keep si (fun o' fd' e1' e2' => ?_) _) (fun fl s' q => ?_) fun _ _ z => z
  · rw [ho] at e1'; cases e1'; rw [hd] at e2'; cases e2'; rw [henv]; rfl
  exact q

theorem call_frame {f : Addr} {xs : List Str} {body : List Stmt} (df : Def T f xs sc body) {A : Around} {s : Shared} {M : List Addr} {vs : List Value} {ds : List D} {Q : Value → Shared → Prop} {E : Value → Shared → Prop}
    (r : Room (k + 1) A) (cx : Cx T M s.heap) (rl : RepL M s.heap vs ds) (hlen : xs.length = ds.length)
    (hb : ∀ env h₁ tk, EnvOk sc env → Fo env → Room k (A.deeper env) → (∀ a ∈ fr env, s.heap.get? a = none) → Ext s.heap h₁ → SI T env M none (xs.zip ds) none h₁ → (∀ o fd, T.K.lookup f = some o → o.data = .func fd → env.code = fd.code) → ∀ E', W T (A.deeper env) (execs body env) (fun fl s' => Q (match fl with | .ret v => v | _ => .none) s') E' { s with heap := h₁, toks := tk }) : W T A (call (.ref f) vs) Q E s := wpAny_call (call_frameC df r cx rl hlen fun env h₁ tk ok fo r' frn keep si hc E' => hb env h₁ tk ok fo r' frn keep si hc E')

theorem Fn.def {f : Addr} {xs : List Str} {body : List Stmt} {ds : List D} {d : D} (df : Def T f xs sc body) (hlen : xs.length = ds.length) (hex : Ex T k sc (xs.zip ds) none body (FnP d)) : Fn T (k + 1) (.ref f) ds d := by
  intro M A s vs Q E r cx rl post
  refine call_frame df r cx rl hlen fun env h₁ tk ok fo r' frn keep si _ E' => ?_
  refine hex env M none (A.deeper env) { s with heap := h₁, toks := tk } _ E' ok fo r' si fun o ho => ?_
  have hx : ∀ {h' : Heap}, Kp env none h₁ h' → Ext s.heap h' := fun kp b o e => kp b o (fun q => by rw [frn b q] at e; cases e) (by simp) (keep b o e)
  cases o with
  | next σ' own' =>
    obtain rfl : d = .none := ho
    exact fun oa' h' tk' si' kp rel => post .none h' tk' (hx kp) .none
  | brk σ' own' => exact ho.elim
  | ret d' own' =>
    obtain rfl : d' = d := ho
    exact fun v oa' h' tk' rv cx' ro kp rel => post v h' tk' (hx kp) (rv.less fun a q => List.mem_append.mpr (.inr q))
end
end Mine

-- D11
namespace Mine
open PySem PySem.W PyProof.Rows

section
variable {T : Th} {k : Nat}

theorem rep_list_ints {M : List Addr} {h : Heap} {v : Value} {ns : List Int} (r : Rep M h v (iD ns)) : ∃ l xs n, v = .ref l ∧ h.get? l = some (lObj (intItems xs).toList n) ∧ h.IsList l (intItems xs) ∧ ns = xs.toList.map (·.1) := by
  cases r with
  | list ha e rl =>
    rename_i l vs n
    have hi := rl.ints
    obtain ⟨xs, ex⟩ := hi.allInts.items
    have hv : vs = (intItems xs).toList := by rw [← ex]
    subst hv
    refine ⟨l, xs, n, rfl, e, ⟨_, e, rfl, n, by simp⟩, ?_⟩
    rw [← hi.numsOf, ← nums_intItems]

theorem Fn.len_list {ds : List D} (hz : ds.length ≤ 1000000000) : Fn T k (.builtin "len") [.list ds] (.int ds.length) := by
  intro M A s vs Q E r cx rl post
  cases rl with
  | cons r1 rl => cases rl; cases r1 with
    | list ha e rl =>
      rename_i l vs n
      refine Calls.call_len_list ⟨_, e, rfl, n, rfl⟩ (by rw [List.size_toArray, rl.length]; lia) ?_
      rw [List.size_toArray, rl.length]
      exact post _ s.heap _ (Ext.refl _) (.int _ _)

theorem Fn.range1 {n : Int} : Fn T k (.type "range") [.int n] (.range 0 n 1) := by
  intro M A s vs Q E r cx rl post
  cases rl with
  | cons r1 rl => cases rl; cases r1 with
    | int i t =>
      refine call_range_1 (post _ _ _ (Ext.push _ _) (.range (t := s.toks) (u := t) (v := s.toks + 1) cx.fresh ?_))
      exact Heap.get?_push_size _ rfl
theorem Fn.range2 {a b : Int} : Fn T k (.type "range") [.int a, .int b] (.range a b 1) := by
  intro M A s vs Q E r cx rl post
  cases rl with
  | cons r1 rl => cases rl with
    | cons r2 rl => cases rl; cases r1; cases r2; rename_i t u; exact call_range_2 (post _ _ _ (Ext.push _ _) (.range (t := t) (u := u) (v := s.toks) cx.fresh (Heap.get?_push_size _ rfl)))
theorem Fn.range3 {a b c : Int} (hc : c ≠ 0) (hp : Builtin.divisionGoesByPylong (b - a) c = false) : Fn T k (.type "range") [.int a, .int b, .int c] (.range a b c) := by
  intro M A s vs Q E r cx rl post
  cases rl with
  | cons r1 rl => cases rl with
    | cons r2 rl => cases rl with
      | cons r3 rl => cases rl; cases r1; cases r2; cases r3; rename_i t u v; exact call_range_3 hc (post _ _ _ (Ext.push _ _) (.range (t := t) (u := u) (v := v) cx.fresh (Heap.get?_push_size _ rfl))) (.inl hp)

theorem numAt_getD (xs : Array (Int × Tok)) (i : Nat) : numAt xs i = (xs.toList.map (·.1)).getD i 0 := numAt_eq ..

theorem preSum_take (xs : Array (Int × Tok)) : preSum (numAt xs) xs.size = (xs.toList.map (·.1)).sum := by
  rw [preSum_eq, List.take_of_length_le (by simp)]

theorem Fn.sum {ns : List Int} : Fn T k (.builtin "sum") [iD ns] (.int ns.sum) := by
  intro M A s vs Q E r cx rl post
  cases rl with
  | cons r1 rl =>
    cases rl
    obtain ⟨l, xs, n, rfl, e, hl, rfl⟩ := rep_list_ints r1
    refine call_sum_walkG (iter_intList hl fun s₂ e st hfp hlI => ?_)
    subst e
    refine ⟨_, _, _, _, _, _, numAt xs, rfl, Walks.list (A := A.in1) r.handled _ l hlI (intItems xs), st, hfp, (fun _ _ => intItems_at), fun h' tk t' hk => ?_⟩
    have := post (.int (xs.toList.map (·.1)).sum t') h' tk (old_kept hk) (.int _ _)
    rw [← preSum_take] at this
    simpa [intItems] using this

def lMax (ns : List Int) : Int := ns.foldl max (ns.headD 0)
def lMin (ns : List Int) : Int := ns.foldl min (ns.headD 0)

theorem Fn.max_list {ns : List Int} {m : Int} (hm : m ∈ ns) (hge : ∀ a ∈ ns, a ≤ m) : Fn T k (.builtin "max") [iD ns] (.int m) := by
  intro M A s vs Q E r cx rl post
  cases rl with
  | cons r1 rl =>
    cases rl
    obtain ⟨l, xs, n, rfl, e, hl, rfl⟩ := rep_list_ints r1
    have hsz : 0 < xs.size := by
      have := List.length_pos_of_mem hm
      simpa using this
    refine max_intList r.handled hl hsz fun v h' tk hv hk => ?_
    obtain ⟨t, rfl⟩ := intItems_at hv
    obtain ⟨h1, h2⟩ := argBest_gt (numAt xs) (xs.size - 1)
    have h3 : numAt xs (argBest (fun i j => decide (numAt xs i > numAt xs j)) (xs.size - 1)) ∈ xs.toList.map (·.1) := by
      rw [numAt_eq]; exact getD_mem (by rw [List.length_map, Array.length_toList]; lia)
    have h4 : m ≤ numAt xs (argBest (fun i j => decide (numAt xs i > numAt xs j)) (xs.size - 1)) := by
      obtain ⟨j, hj, e⟩ := mem_getD hm
      rw [List.length_map, Array.length_toList] at hj
      rw [← e, ← numAt_eq]; exact h2 j (by lia)
    have h5 := Int.le_antisymm h4 (hge _ h3)
    rw [h5] at post
    exact post _ h' tk hk (.int _ _)
theorem Fn.min_list {ns : List Int} {m : Int} (hm : m ∈ ns) (hge : ∀ a ∈ ns, m ≤ a) : Fn T k (.builtin "min") [iD ns] (.int m) := by
  intro M A s vs Q E r cx rl post
  cases rl with
  | cons r1 rl =>
    cases rl
    obtain ⟨l, xs, n, rfl, e, hl, rfl⟩ := rep_list_ints r1
    have hsz : 0 < xs.size := by
      have := List.length_pos_of_mem hm
      simpa using this
    refine min_intList r.handled hl hsz fun v h' tk hv hk => ?_
    obtain ⟨t, rfl⟩ := intItems_at hv
    obtain ⟨h1, h2⟩ := argBest_lt (numAt xs) (xs.size - 1)
    have h3 : numAt xs (argBest (fun i j => decide (numAt xs i < numAt xs j)) (xs.size - 1)) ∈ xs.toList.map (·.1) := by
      rw [numAt_eq]; exact getD_mem (by rw [List.length_map, Array.length_toList]; lia)
    have h4 : numAt xs (argBest (fun i j => decide (numAt xs i < numAt xs j)) (xs.size - 1)) ≤ m := by
      obtain ⟨j, hj, e⟩ := mem_getD hm
      rw [List.length_map, Array.length_toList] at hj
      rw [← e, ← numAt_eq]; exact h2 j (by lia)
    have h5 := Int.le_antisymm (hge _ h3) h4
    rw [h5] at post
    exact post _ h' tk hk (.int _ _)
theorem Fn.max2 {a b : Int} : Fn T k (.builtin "max") [.int a, .int b] (.int (max a b)) := by
  intro M A s vs Q E r cx rl post
  cases rl with
  | cons r1 rl => cases rl with
    | cons r2 rl =>
      cases rl; cases r1; cases r2
      refine max_two_ints r.handled fun h' tk hk => ?_
      split
      · exact post _ h' tk hk (by rw [show max a b = b by lia]; exact .int _ _)
      · exact post _ h' tk hk (by rw [show max a b = a by lia]; exact .int _ _)

theorem Fn.hex {i : Int} (hz : (baseText "0x" 16 i).length ≤ 1000) : Fn T k (.builtin "hex") [.int i] (.str (baseText "0x" 16 i)) := by
  intro M A s vs Q E r cx rl post
  cases rl with
  | cons r1 rl => cases rl; cases r1; exact P.hex_of_int (post _ _ _ (Ext.refl _) (.str _ _)) (by rw [sizeLine_eq]; lia)
theorem Fn.str {i : Int} (hz : i.natAbs.log2 < 1920) : Fn T k (.type "str") [.int i] (.str (Str.ofString (toString i))) := by
  intro M A s vs Q E r cx rl post
  cases rl with
  | cons r1 rl => cases rl; cases r1; exact P.str_of_int hz (post _ _ _ (Ext.refl _) (.str _ _))
theorem Fn.abs {i : Int} : Fn T k (.builtin "abs") [.int i] (.int (if i < 0 then -i else i)) := by
  intro M A s vs Q E r cx rl post
  cases rl with
  | cons r1 rl => cases rl; cases r1; exact call_abs_int fun u tk => post _ s.heap tk (Ext.refl _) (.int _ _)
theorem Fn.intInt {i : Int} : Fn T k (.type "int") [.int i] (.int i) := by
  intro M A s vs Q E r cx rl post
  cases rl with
  | cons r1 rl => cases rl; cases r1; exact call_int_int (post _ s.heap s.toks (Ext.refl _) (.int _ _))
theorem Fn.divmod {a b : Int} (hb : b ≠ 0) (hp : Builtin.divisionGoesByPylong a b = false) : Fn T k (.builtin "divmod") [.int a, .int b] (.tup [.int (a.fdiv b), .int (a.fmod b)]) := by
  intro M A s vs Q E r cx rl post
  cases rl with
  | cons r1 rl => cases rl with
    | cons r2 rl =>
      cases rl; cases r1; cases r2
      refine divmod_int hb (post _ _ _ (Ext.push _ _) ?_) (.inl hp)
      exact rep_pushT (T := T) (vs := [_, _]) (s := s) cx (.cons (.int _ _) (.cons (.int _ _) .nil))
theorem Fn.tuple {ds : List D} (hz : ds.length ≤ 1000000) : Fn T k (.type "tuple") [.list ds] (.tup ds) := by
  intro M A s vs Q E r cx rl post
  cases rl with
  | cons r1 rl => cases rl; cases r1 with
    | list ha e rl =>
      rename_i l vs n
      refine call_tuple_list ⟨_, e, rfl, n, rfl⟩ (fun h' hk => ?_) (by rw [List.size_toArray, rl.length, sizeLine_eq]; lia)
      exact post _ _ _ (Ext.trans hk (Ext.push _ _)) (rep_pushT (T := T) (s := { s with heap := h' }) (cx.keeps hk) (rl.keeps hk))
theorem Fn.bytes {ns : List Int} (hr : ∀ n ∈ ns, 0 ≤ n ∧ n < 256) (hz : ns.length ≤ 1000000) : Fn T k (.type "bytes") [iD ns] (.bytes (byteArr ns)) := by
  intro M A s vs Q E r cx rl post
  cases rl with
  | cons r1 rl => cases rl; cases r1 with
    | list ha e rl =>
      rename_i l vs n
      exact call_bytes_ints ⟨_, e, rfl, n, rfl⟩ rl.ints hr (by rw [rl.length, List.length_map, sizeLine_eq]; lia) r.handled fun h' t tk hk => post _ h' tk hk (.bytes _ _)
end
end Mine

-- D12
namespace Mine
open PySem PySem.W PyProof.Rows

section
variable {T : Th} {k : Nat} {sc : Scope} {σ : St} {own : Own} {P : Out → Prop}

/-- a loop that folds -/
theorem Ex1.forFold {S : Type} {x : Str} {px pos : Pos} {iter : Expr} {body orelse : List Stmt} {di : D} {ds : List D} (step : S → D → S) (I : S → Prop) (σf : S → St) (ownf : S → Own) (a₀ : S) (hi : Evo T k sc σ own iter di) (hit : Itr T di ds)
    (hI : I a₀) (hs₀ : Sub σ (σf a₀)) (ho₀ : own = ownf a₀)
    (hb : ∀ a d, d ∈ ds → I a → Ex T k sc ((x, d) :: σf a) (ownf a) body (LoopP (fun σ' own' => I (step a d) ∧ Sub σ' (σf (step a d)) ∧ own' = ownf (step a d)) P))
    (he : I (ds.foldl step a₀) → Ex T k sc (σf (ds.foldl step a₀)) (ownf (ds.foldl step a₀)) orelse P)
    (hx : Stor sc x = true := by rfl) (hne : ∀ a, ownNe (ownf a) x = true := by intro _; rfl) (hs : ∀ env v, foldedSetIterable iter env v = pure v := by intro _ _; rfl) : Ex1 T k sc σ own (.For (.Name x px) iter body orelse pos) P := by
  refine Ex1.for_ (fun i a => a = (ds.take i).foldl step a₀ ∧ I a) σf ownf (a₀ := a₀) hi hit ⟨by simp, hI⟩ hs₀ ho₀ (fun i a d hd hJ => ?_) (fun a hJ => ?_) hx hne hs
  · obtain ⟨ha, hIa⟩ := hJ
    refine (hb a d (List.mem_of_getElem? hd) hIa).mono fun o ho => ?_
    cases o with
    | next σ' own' =>
      obtain ⟨h1, h2, h3⟩ := ho
      refine ⟨step a d, ⟨?_, h1⟩, h2, h3⟩
      rw [List.take_add_one, hd, List.foldl_append, ← ha]
      rfl
    | brk σ' own' => exact ho
    | ret d own' => exact ho
  · obtain ⟨ha, hIa⟩ := hJ
    rw [List.take_length] at ha
    subst ha
    exact he hIa

/-- a loop that may leave by return -/
theorem Ex1.forFind {x : Str} {px pos : Pos} {iter : Expr} {body orelse : List Stmt} {di : D} {ds : List D} (c : D → Bool) (hi : Evo T k sc σ own iter di) (hit : Itr T di ds)
    (hb : ∀ d, d ∈ ds → (c d = true → ds.find? c = some d) → Ex T k sc ((x, d) :: σ) own body (LoopP (fun σ' own' => c d = false ∧ Sub σ' σ ∧ own' = own) P))
    (he : ds.find? c = none → Ex T k sc σ own orelse P)
    (hx : Stor sc x = true := by rfl) (hne : ownNe own x = true := by rfl) (hs : ∀ env v, foldedSetIterable iter env v = pure v := by intro _ _; rfl) : Ex1 T k sc σ own (.For (.Name x px) iter body orelse pos) P := by
  refine Ex1.for_ (S := Unit) (fun i _ => ∀ d ∈ ds.take i, c d = false) (fun _ => σ) (fun _ => own) (a₀ := ()) hi hit (fun d hd => by simp at hd) Sub.refl rfl (fun i a d hd hJ => ?_) (fun a hJ => ?_) hx (fun _ => hne) hs
  · refine (hb d (List.mem_of_getElem? hd) (fun hc => ?_)).mono fun o ho => ?_
    · have hlt : i < ds.length := (List.getElem?_eq_some_iff.mp hd).1
      have hdd : ds = ds.take i ++ d :: ds.drop (i + 1) := by
        have h1 : ds[i] = d := (List.getElem?_eq_some_iff.mp hd).2
        rw [← h1]; simp
      rw [hdd, List.find?_append]
      have : (ds.take i).find? c = none := by
        rw [List.find?_eq_none]
        intro y hy; rw [hJ y hy]; decide
      rw [this]
      simp [hc]
    · cases o with
      | next σ' own' =>
        obtain ⟨h1, h2, h3⟩ := ho
        refine ⟨(), fun y hy => ?_, h2, h3⟩
        rw [List.take_add_one, hd] at hy
        rcases List.mem_append.mp hy with q | q
        · exact hJ y q
        · simp at q; exact q ▸ h1
      | brk σ' own' => exact ho
      | ret d own' => exact ho
  · refine he ?_
    rw [List.find?_eq_none]
    rw [List.take_length] at hJ
    intro y hy; rw [hJ y hy]; decide

/-! names of the program and of the machine -/
theorem Ev.gR {x : Str} {p pos : Pos} {e : Expr} {es : List Expr} {f : Addr} {ds : List D} {d : D} (hn : nsIn T.K mainGlobals x = some (some (.ref f))) (ha : EvL T k sc σ (e :: es) ds) (hc : Fn T k (.ref f) ds d) (hg : sc.names.lookup x = some .globalImplicit := by rfl) (hk : keepIn T.K (.ref f) = true := by rfl)
    (hd : (x == ("__debug__" : Str)) = false := by decide)
    (hst : ∀ env, starEach (e :: es) env = (false, eval e env) :: starEach es env := by intro _; rfl) (hpl : ∀ env, (backTo pos (starEach es env)).any (·.1) = false := by intro _; rfl) : Ev T k sc σ (.Call (.Name x p) (e :: es) [] pos) d := Ev.callR (.glob hg hn hd) hk ha hc hst hpl
theorem Ev.gB {x : Str} {p pos : Pos} {e : Expr} {es : List Expr} {f : String} {ds : List D} {d : D} (hn : nsIn T.K mainGlobals x = some none) (ha : EvL T k sc σ (e :: es) ds) (hc : Fn T k (.builtin f) ds d) (hg : sc.names.lookup x = some .globalImplicit := by rfl) (hb : bootBuiltins x = some (.builtin f) := by rfl) (hx : x ≠ "__name__" := by decide)
    (hd : (x == ("__debug__" : Str)) = false := by decide)
    (hst : ∀ env, starEach (e :: es) env = (false, eval e env) :: starEach es env := by intro _; rfl) (hpl : ∀ env, (backTo pos (starEach es env)).any (·.1) = false := by intro _; rfl) : Ev T k sc σ (.Call (.Name x p) (e :: es) [] pos) d := Ev.callB (.bi hg hn hb hx hd) ha hc hst hpl
theorem Ev.gT {x : Str} {p pos : Pos} {e : Expr} {es : List Expr} {f : String} {ds : List D} {d : D} (hn : nsIn T.K mainGlobals x = some none) (ha : EvL T k sc σ (e :: es) ds) (hc : Fn T k (.type f) ds d) (hg : sc.names.lookup x = some .globalImplicit := by rfl) (hb : bootBuiltins x = some (.type f) := by rfl) (hx : x ≠ "__name__" := by decide)
    (hd : (x == ("__debug__" : Str)) = false := by decide)
    (hst : ∀ env, starEach (e :: es) env = (false, eval e env) :: starEach es env := by intro _; rfl) (hpl : ∀ env, (backTo pos (starEach es env)).any (·.1) = false := by intro _; rfl) : Ev T k sc σ (.Call (.Name x p) (e :: es) [] pos) d := Ev.callT (.bi hg hn hb hx hd) ha hc hst hpl

theorem EvL.one {e : Expr} {d : D} (he : Ev T k sc σ e d) (hst : ∀ env, starEach [e] env = (false, eval e env) :: starEach [] env := by intro _; rfl) : EvL T k sc σ [e] [d] := .cons he .nil hst
theorem EvL.two {e e' : Expr} {d d' : D} (he : Ev T k sc σ e d) (he' : Ev T k sc σ e' d') (hst : ∀ env, starEach [e, e'] env = (false, eval e env) :: starEach [e'] env := by intro _; rfl) (hst' : ∀ env, starEach [e'] env = (false, eval e' env) :: starEach [] env := by intro _; rfl) : EvL T k sc σ [e, e'] [d, d'] := .cons he (.one he' hst') hst
theorem EvL.three {e e' e'' : Expr} {d d' d'' : D} (he : Ev T k sc σ e d) (he' : Ev T k sc σ e' d') (he'' : Ev T k sc σ e'' d'') (hst : ∀ env, starEach [e, e', e''] env = (false, eval e env) :: starEach [e', e''] env := by intro _; rfl) (hst' : ∀ env, starEach [e', e''] env = (false, eval e' env) :: starEach [e''] env := by intro _; rfl)
    (hst'' : ∀ env, starEach [e''] env = (false, eval e'' env) :: starEach [] env := by intro _; rfl) : EvL T k sc σ [e, e', e''] [d, d', d''] := .cons he (.two he' he'' hst' hst'') hst
theorem Ev.to {e : Expr} {d d' : D} (he : Ev T k sc σ e d) (h : d = d') : Ev T k sc σ e d' := h ▸ he
theorem Tr.to {e : Expr} {d d' : Bool} (he : Tr T k sc σ e d) (h : d = d') : Tr T k sc σ e d' := h ▸ he
end
end Mine

-- D13
namespace Mine
open PySem PySem.W PyProof.Rows

section
variable {T : Th} {k : Nat} {sc : Scope} {σ : St} {own : Own} {P : Out → Prop}

/-- a loop that folds, over a list that stands for data -/
theorem Ex1.forFoldM {α S : Type} {x : Str} {px pos : Pos} {iter : Expr} {body orelse : List Stmt} {di : D} (L : List α) (g : α → D) (step : S → α → S) (I : S → Prop) (σf : S → St) (ownf : S → Own) (a₀ : S) (hi : Evo T k sc σ own iter di) (hit : Itr T di (L.map g))
    (hI : I a₀) (hs₀ : Sub σ (σf a₀)) (ho₀ : own = ownf a₀)
    (hb : ∀ s a, a ∈ L → I s → Ex T k sc ((x, g a) :: σf s) (ownf s) body (LoopP (fun σ' own' => I (step s a) ∧ Sub σ' (σf (step s a)) ∧ own' = ownf (step s a)) P))
    (he : I (L.foldl step a₀) → Ex T k sc (σf (L.foldl step a₀)) (ownf (L.foldl step a₀)) orelse P)
    (hx : Stor sc x = true := by rfl) (hne : ∀ a, ownNe (ownf a) x = true := by intro _; rfl) (hs : ∀ env v, foldedSetIterable iter env v = pure v := by intro _ _; rfl) : Ex1 T k sc σ own (.For (.Name x px) iter body orelse pos) P := by
  refine Ex1.for_ (fun i s => s = (L.take i).foldl step a₀ ∧ I s) σf ownf (a₀ := a₀) hi hit ⟨by simp, hI⟩ hs₀ ho₀ (fun i s d hd hJ => ?_) (fun s hJ => ?_) hx hne hs
  · obtain ⟨ha, hIa⟩ := hJ
    rw [List.getElem?_map] at hd
    obtain ⟨a, hd', rfl⟩ := Option.map_eq_some_iff.mp hd
    refine (hb s a (List.mem_of_getElem? hd') hIa).mono fun o ho => ?_
    cases o with
    | next σ' own' =>
      obtain ⟨h1, h2, h3⟩ := ho
      refine ⟨step s a, ⟨?_, h1⟩, h2, h3⟩
      rw [List.take_add_one, hd', List.foldl_append, ← ha]
      rfl
    | brk σ' own' => exact ho
    | ret d own' => exact ho
  · obtain ⟨ha, hIa⟩ := hJ
    rw [List.length_map, List.take_length] at ha
    subst ha
    exact he hIa

def SomeP (r : Option D) (σ : St) (own : Own) : Out → Prop
  | .next σ' own' => r = none ∧ Sub σ' σ ∧ own' = own
  | .ret v own' => r = some v ∧ own' = own
  | .brk _ _ => False

theorem findSome_at {α β : Type} {r : α → Option β} {L : List α} {i : Nat} {a : α} {v : β} (h : L[i]? = some a) (hn : ∀ y ∈ L.take i, r y = none) (hv : r a = some v) : L.findSome? r = some v := by
  have hlt : i < L.length := (List.getElem?_eq_some_iff.mp h).1
  have hdd : L = L.take i ++ a :: L.drop (i + 1) := by
    have h1 : L[i] = a := (List.getElem?_eq_some_iff.mp h).2
    rw [← h1]; simp
  rw [hdd, List.findSome?_append]
  have : (L.take i).findSome? r = none := List.findSome?_eq_none_iff.mpr hn
  rw [this]
  simp [hv]

/-- a loop that may leave by return, and changes nothing -/
theorem Ex1.forSomeM {α : Type} {x : Str} {px pos : Pos} {iter : Expr} {body orelse : List Stmt} {di : D} (L : List α) (g : α → D) (r : α → Option D) (hi : Evo T k sc σ own iter di) (hit : Itr T di (L.map g))
    (hb : ∀ a, a ∈ L → Ex T k sc ((x, g a) :: σ) own body (SomeP (r a) σ own))
    (hr : ∀ v, L.findSome? r = some v → P (.ret v own))
    (he : L.findSome? r = none → Ex T k sc σ own orelse P)
    (hx : Stor sc x = true := by rfl) (hne : ownNe own x = true := by rfl) (hs : ∀ env v, foldedSetIterable iter env v = pure v := by intro _ _; rfl) : Ex1 T k sc σ own (.For (.Name x px) iter body orelse pos) P := by
  refine Ex1.for_ (S := Unit) (fun i _ => ∀ a ∈ L.take i, r a = none) (fun _ => σ) (fun _ => own) (a₀ := ()) hi hit (fun a ha => by simp at ha) Sub.refl rfl (fun i s d hd hJ => ?_) (fun s hJ => ?_) hx (fun _ => hne) hs
  · rw [List.getElem?_map] at hd
    obtain ⟨a, hd', rfl⟩ := Option.map_eq_some_iff.mp hd
    refine (hb a (List.mem_of_getElem? hd')).mono fun o ho => ?_
    cases o with
    | next σ' own' =>
      obtain ⟨h1, h2, h3⟩ := ho
      refine ⟨(), fun y hy => ?_, h2, h3⟩
      rw [List.take_add_one, hd'] at hy
      rcases List.mem_append.mp hy with q | q
      · exact hJ y q
      · simp at q; exact q ▸ h1
    | brk σ' own' => exact ho.elim
    | ret v own' =>
      obtain ⟨h1, rfl⟩ := ho
      exact hr v (findSome_at hd' hJ h1)
  · refine he ?_
    rw [List.length_map, List.take_length] at hJ
    exact List.findSome?_eq_none_iff.mpr hJ

open Classical in
theorem comp_conv {α : Type} {g : α → D} (hg : ∀ a b, g a = g b → a = b) (L : List α) (p : α → Bool) (f : α → D) :
    ∃ (p' : D → Bool) (f' : D → D), (∀ a, p' (g a) = p a) ∧ (∀ a, f' (g a) = f a) ∧ ((L.map g).filter p').map f' = (L.filter p).map f := by
  have hc : ∀ a, ∃ h : ∃ b, g b = g a, choose h = a := fun a => ⟨⟨a, rfl⟩, hg _ _ (choose_spec (⟨a, rfl⟩ : ∃ b, g b = g a))⟩
  refine ⟨fun d => if h : ∃ b, g b = d then p (choose h) else false, fun d => if h : ∃ b, g b = d then f (choose h) else d, fun a => ?_, fun a => ?_, ?_⟩
  · obtain ⟨h, e⟩ := hc a
    simp only [dif_pos h, e]
  · obtain ⟨h, e⟩ := hc a
    simp only [dif_pos h, e]
  · induction L with
    | nil => rfl
    | cons a L ih =>
      obtain ⟨h, e⟩ := hc a
      rw [List.map_cons, List.filter_cons, List.filter_cons]
      simp only [dif_pos h, e]
      split
      · rw [List.map_cons, List.map_cons, ih]
        simp only [dif_pos h, e]
      · exact ih

theorem Ev.compM {α : Type} {elt iter : Expr} {x : Str} {px : Pos} {ifs : List Expr} {scope : Scope} {pos : Pos} {di : D} (L : List α) (g : α → D) (p : α → Bool) (f : α → D)
    (hi : Ev T k sc σ iter di) (hit : Itr T di (L.map g)) (hz : L.length ≤ 1000000)
    (htest : ∀ a ∈ L, Tests T k (relabelS scope sc) ((x, g a) :: freeOf scope σ) ifs (p a)) (helt : ∀ a ∈ L, p a = true → Ev T k (relabelS scope sc) ((x, g a) :: freeOf scope σ) elt (f a)) (hg : ∀ a b, g a = g b → a = b)
    (hsc : okComp scope sc x = true := by rfl) (hfr : hasFree scope σ = true := by rfl) (hs : ∀ env v, foldedSetIterable iter env v = pure v := by intro _ _; rfl) :
    Ev T k sc σ (.ListComp elt [⟨.Name x px, iter, ifs, 0⟩] scope pos) (.list ((L.filter p).map f)) := by
  obtain ⟨p', f', h1, h2, h3⟩ := comp_conv hg L p f
  rw [← h3]
  refine Ev.comp p' f' hi hit (by simpa using hz) hsc hfr (fun d hd => ?_) (fun d hd hp => ?_) hs
  · obtain ⟨a, ha, rfl⟩ := List.mem_map.mp hd
    rw [h1]; exact htest a ha
  · obtain ⟨a, ha, rfl⟩ := List.mem_map.mp hd
    rw [h2]; exact helt a ha (by rw [← h1]; exact hp)

theorem Ex1.assignCompM {α : Type} {y : Str} {py : Pos} {elt iter : Expr} {x : Str} {px : Pos} {ifs : List Expr} {scope : Scope} {cpos pos : Pos} {di : D} (L : List α) (g : α → D) (p : α → Bool) (f : α → D)
    (hi : Ev T k sc σ iter di) (hit : Itr T di (L.map g)) (hz : L.length ≤ 1000000)
    (htest : ∀ a ∈ L, Tests T k (relabelS scope sc) ((x, g a) :: freeOf scope σ) ifs (p a)) (helt : ∀ a ∈ L, p a = true → Ev T k (relabelS scope sc) ((x, g a) :: freeOf scope σ) elt (f a)) (hg : ∀ a b, g a = g b → a = b)
    (h : P (.next ((y, .list ((L.filter p).map f)) :: σ) own)) (hsc : okComp scope sc x = true := by rfl) (hfr : hasFree scope σ = true := by rfl) (hy : sc.names.lookup y = some .local := by rfl) (hne : ownNe own y = true := by rfl)
    (hln : (py.line == cpos.line && !(scope.names.any fun (n, k) => n == y && (k == .local || k == .cell))) = true := by rfl)
    (hs : ∀ env v, foldedSetIterable iter env v = pure v := by intro _ _; rfl) :
    Ex1 T k sc σ own (.Assign [.Name y py] (.ListComp elt [⟨.Name x px, iter, ifs, 0⟩] scope cpos) pos) P := by
  obtain ⟨p', f', h1, h2, h3⟩ := comp_conv hg L p f
  rw [← h3] at h
  refine Ex1.assignComp p' f' hi hit (by simpa using hz) hsc hfr (fun d hd => ?_) (fun d hd hp => ?_) h hy hne hln hs
  · obtain ⟨a, ha, rfl⟩ := List.mem_map.mp hd
    rw [h1]; exact htest a ha
  · obtain ⟨a, ha, rfl⟩ := List.mem_map.mp hd
    rw [h2]; exact helt a ha (by rw [← h1]; exact hp)

/-! ranges -/
theorem fitsLong_of {a : Int} (h : -(2 ^ 62) < a ∧ a < 2 ^ 62) : Builtin.Range.rangeFitsLong a = true := by
  unfold Builtin.Range.rangeFitsLong
  simp only [Bool.and_eq_true, decide_eq_true_eq]
  lia
theorem small_up {a b : Int} (ha : -(2 ^ 40) < a ∧ a < 2 ^ 40) (hb : -(2 ^ 40) < b ∧ b < 2 ^ 40) : Builtin.Range.small a b 1 = true ∧ Builtin.Range.rangeSize a b 1 = ((b - a).toNat : Int) := by
  have hs : Builtin.Range.rangeSize a b 1 = ((b - a).toNat : Int) := by
    unfold Builtin.Range.rangeSize
    simp only [show (1 : Int) > 0 by decide, if_true, Int.ediv_one]
    split <;> lia
  refine ⟨?_, hs⟩
  unfold Builtin.Range.small
  rw [hs, fitsLong_of (by lia), fitsLong_of (by lia), fitsLong_of (by lia), fitsLong_of (by lia)]
  simp only [show (1 : Int) > 0 by decide, if_true, Bool.true_and, Bool.or_eq_true]
  exact .inr (fitsLong_of (by lia))
theorem small_down {a b : Int} (ha : -(2 ^ 40) < a ∧ a < 2 ^ 40) (hb : -(2 ^ 40) < b ∧ b < 2 ^ 40) : Builtin.Range.small a b (-1) = true ∧ Builtin.Range.rangeSize a b (-1) = ((a - b).toNat : Int) := by
  have hs : Builtin.Range.rangeSize a b (-1) = ((a - b).toNat : Int) := by
    unfold Builtin.Range.rangeSize
    simp only [show ¬ ((-1 : Int) > 0) by decide, if_false, Int.neg_neg, Int.ediv_one]
    split <;> lia
  refine ⟨?_, hs⟩
  unfold Builtin.Range.small
  rw [hs, fitsLong_of (by lia), fitsLong_of (by lia), fitsLong_of (by lia), fitsLong_of (by lia)]
  simp only [show ¬ ((-1 : Int) > 0) by decide, if_false, Bool.true_and, Bool.or_eq_true]
  exact .inr (fitsLong_of (by lia))

abbrev gN : Nat → D := fun i => .int (i : Int)
theorem gN_inj (a b : Nat) (h : gN a = gN b) : a = b := by
  injection h with h; lia
theorem Itr.up1 {n : Nat} (hn : n < 2 ^ 40) : Itr T (.range 0 n 1) ((List.range n).map gN) := by
  obtain ⟨h1, h2⟩ := small_up (a := 0) (b := n) (by lia) (by lia)
  have := Itr.range (T := T) (n := n) h1 (by rw [h2]; lia)
  have e : (fun i : Nat => D.int (0 + (i : Int) * 1)) = gN := by funext i; simp
  rw [e] at this; exact this
theorem Itr.up2 {a b : Int} (ha : -(2 ^ 40) < a ∧ a < 2 ^ 40) (hb : -(2 ^ 40) < b ∧ b < 2 ^ 40) : Itr T (.range a b 1) ((List.range (b - a).toNat).map fun i : Nat => .int (a + (i : Int))) := by
  obtain ⟨h1, h2⟩ := small_up ha hb
  have := Itr.range (T := T) (n := (b - a).toNat) h1 h2
  have e : (fun i : Nat => D.int (a + (i : Int) * 1)) = fun i : Nat => D.int (a + (i : Int)) := by funext i; simp
  rw [e] at this; exact this
theorem Itr.down {n : Nat} (hn : n < 2 ^ 40) : Itr T (.range ((n : Int) - 1) (-1) (-1)) ((List.range n).map fun i : Nat => .int ((n : Int) - 1 - (i : Int))) := by
  obtain ⟨h1, h2⟩ := small_down (a := (n : Int) - 1) (b := -1) (by lia) (by lia)
  have := Itr.range (T := T) (n := n) h1 (by rw [h2]; lia)
  have e : (fun i : Nat => D.int ((n : Int) - 1 + (i : Int) * -1)) = fun i : Nat => D.int ((n : Int) - 1 - (i : Int)) := by funext i; congr 1; lia
  rw [e] at this; exact this
theorem Itr.ints {ns : List Int} : Itr T (iD ns) (ns.map .int) := Itr.list
theorem int_inj (a b : Int) (h : D.int a = D.int b) : a = b := by injection h

theorem Ev.itemI {e i : Expr} {pos : Pos} {ns : List Int} {j : Nat} (he : Ev T k sc σ e (iD ns)) (hi : Ev T k sc σ i (.int j)) (h : j < ns.length) (hz : ns.length < 2 ^ 40) (hs : ∀ o v, SubOk i o v := by intro _ _; exact ⟨_, rfl⟩) : Ev T k sc σ (.Subscript e i pos) (.int (ns.getD j 0)) := by
  refine Ev.item he hi (by lia) (by lia) ?_ hs
  simp [h]

theorem Tests.nil : Tests T k sc σ [] true := rfl
theorem Tests.one {c : Expr} {b : Bool} (h : Tr T k sc σ c b) : Tests T k sc σ [c] b := h
end
end Mine

-- H0
namespace Mine
open PySem PySem.W PyProof.Rows

noncomputable abbrev pw : Program := PySem.Challenge.rw_ty0028_01.row.prog
noncomputable def st (i : Nat) : Stmt := match pw.main.body.drop i with | s :: _ => s | [] => .Pass ⟨0, 0, 0, 0⟩
noncomputable def mt (i : Nat) : Stmt := match st 8 with | .ClassDef _ _ _ body _ _ _ _ _ _ _ => (match body.drop i with | s :: _ => s | [] => .Pass ⟨0, 0, 0, 0⟩) | _ => .Pass ⟨0, 0, 0, 0⟩
noncomputable def fobj (s : Stmt) (q : Str) (m : Value) (c : Addr) : Obj := match s with
  | .FunctionDef name args body _ _ _ scope _ _ _ => { cls := .type "function", data := .func { name := name, qualname := q, params := args, body := .stmts body, scope := scope, globals := 3, closure := [], defaults := .none, kwdefaults := .none, pyModule := m, code := .ref c } }
  | _ => { cls := .none, data := .plain }
/-- what the walk reads of the heap that the top leaves -/
noncomputable def K0 (P : Params) : Frag := [(2, { cls := Value.none, data := Data.dict #[] }),
  (3, { cls := Value.type "dict", data := Data.dict #[{ hash := PyData.keyHash P "__name__", key := Value.str "__name__" 165, val := Value.str "law_ty0028_01" 372 }, { hash := PyData.keyHash P "__doc__", key := Value.str "__doc__" 166, val := Value.none }, { hash := PyData.keyHash P "__package__", key := Value.str "__package__" 167, val := Value.none }, { hash := PyData.keyHash P "__loader__", key := Value.str "__loader__" 168, val := Value.builtin "__main__.__loader__#opaque" }, { hash := PyData.keyHash P "__spec__", key := Value.str "__spec__" 169, val := Value.none }, { hash := PyData.keyHash P "__annotations__", key := Value.str "__annotations__" 170, val := Value.ref 6 }, { hash := PyData.keyHash P "__builtins__", key := Value.str "__builtins__" 171, val := Value.ref 4 }, { hash := PyData.keyHash P "__file__", key := Value.str "__file__" 173, val := Value.str "/claim/cut.py" 172 }, { hash := PyData.keyHash P "__cached__", key := Value.str "__cached__" 174, val := Value.none }, { hash := PyData.keyHash P "_wall", key := Value.str "_wall" 193, val := Value.ref 21 }, { hash := PyData.keyHash P "Int2AP", key := Value.str "Int2AP" 205, val := Value.ref 28 }, { hash := PyData.keyHash P "COMPILER_FLAG_NAMES", key := Value.str "COMPILER_FLAG_NAMES" 238, val := Value.ref 29 }, { hash := PyData.keyHash P "pretty_flags", key := Value.str "pretty_flags" 248, val := Value.ref 36 }, { hash := PyData.keyHash P "_parse_varint", key := Value.str "_parse_varint" 257, val := Value.ref 43 }, { hash := PyData.keyHash P "Whitespace", key := Value.str "Whitespace" 362, val := Value.ref 105 }, { hash := PyData.keyHash P "format_witnesses", key := Value.str "format_witnesses" 371, val := Value.ref 116 }, { hash := PyData.keyHash P "_law_number", key := Value.str "_law_number" 382, val := Value.ref 123 }, { hash := PyData.keyHash P "_law_by_words", key := Value.str "_law_by_words" 388, val := Value.ref 128 }, { hash := PyData.keyHash P "_law_lead", key := Value.str "_law_lead" 394, val := Value.ref 133 }, { hash := PyData.keyHash P "_law_taken", key := Value.str "_law_taken" 400, val := Value.ref 138 }, { hash := PyData.keyHash P "_law_left", key := Value.str "_law_left" 406, val := Value.ref 143 }, { hash := PyData.keyHash P "_law_hooks", key := Value.str "_law_hooks" 412, val := Value.ref 148 }, { hash := PyData.keyHash P "_law_fallen", key := Value.str "_law_fallen" 418, val := Value.ref 153 }, { hash := PyData.keyHash P "_law_word", key := Value.str "_law_word" 424, val := Value.ref 158 }, { hash := PyData.keyHash P "_law_digits", key := Value.str "_law_digits" 430, val := Value.ref 163 }, { hash := PyData.keyHash P "_law_octets", key := Value.str "_law_octets" 436, val := Value.ref 168 }, { hash := PyData.keyHash P "_law_column", key := Value.str "_law_column" 442, val := Value.ref 173 }, { hash := PyData.keyHash P "_law_agree", key := Value.str "_law_agree" 453, val := Value.ref 180 }, { hash := PyData.keyHash P "_law_due", key := Value.str "_law_due" 465, val := Value.ref 187 }, { hash := PyData.keyHash P "_law_named", key := Value.str "_law_named" 471, val := Value.ref 192 }, { hash := PyData.keyHash P "law", key := Value.str "law" 477, val := Value.ref 197 }] 31 }),
  (27, { cls := Value.type "code", data := Data.fields #[Value.str "Int2AP" 196, Value.str "Int2AP" 197, Value.str "/claim/cut.py" 198, Value.int 5 0, Value.int 1 0, Value.int 0 0, Value.int 0 0, Value.int 3 0, Value.ref 22, Value.bool true, Value.int 181 0, Value.ref 23, Value.none, Value.ref 24, Value.ref 25, Value.ref 26, Value.int 203 0, Value.int 5 0, Value.str "/claim/cut.py" 204] }),
  (28, fobj (st 2) "Int2AP" (Value.str (Str.ofString "cpy313.imaplib") 194) 27),
  (29, { cls := Value.type "dict", data := Data.dict #[{ hash := 1, key := Value.int 1 208, val := Value.str "OPTIMIZED" 209 }, { hash := 2, key := Value.int 2 210, val := Value.str "NEWLOCALS" 211 }, { hash := 4, key := Value.int 4 212, val := Value.str "VARARGS" 213 }, { hash := 8, key := Value.int 8 214, val := Value.str "VARKEYWORDS" 215 }, { hash := 16, key := Value.int 16 216, val := Value.str "NESTED" 217 }, { hash := 32, key := Value.int 32 218, val := Value.str "GENERATOR" 219 }, { hash := 64, key := Value.int 64 220, val := Value.str "NOFREE" 221 }, { hash := 128, key := Value.int 128 222, val := Value.str "COROUTINE" 223 }, { hash := 256, key := Value.int 256 224, val := Value.str "ITERABLE_COROUTINE" 225 }, { hash := 512, key := Value.int 512 226, val := Value.str "ASYNC_GENERATOR" 227 }] 10 }),
  (35, { cls := Value.type "code", data := Data.fields #[Value.str "pretty_flags" 239, Value.str "pretty_flags" 240, Value.str "/claim/cut.py" 241, Value.int 15 0, Value.int 1 0, Value.int 0 0, Value.int 0 0, Value.int 3 0, Value.ref 30, Value.bool true, Value.int 181 0, Value.ref 31, Value.none, Value.ref 32, Value.ref 33, Value.ref 34, Value.int 246 0, Value.int 15 0, Value.str "/claim/cut.py" 247] }),
  (36, fobj (st 5) "pretty_flags" (Value.str (Str.ofString "cpy313.dis") 206) 35),
  (42, { cls := Value.type "code", data := Data.fields #[Value.str "_parse_varint" 249, Value.str "_parse_varint" 250, Value.str "/claim/cut.py" 251, Value.int 27 0, Value.int 1 0, Value.int 0 0, Value.int 0 0, Value.int 3 0, Value.ref 37, Value.bool true, Value.int 181 0, Value.ref 38, Value.none, Value.ref 39, Value.ref 40, Value.ref 41, Value.int 255 0, Value.int 27 0, Value.str "/claim/cut.py" 256] }),
  (43, fobj (st 6) "_parse_varint" (Value.str (Str.ofString "cpy313.dis") 206) 42),
  (59, { cls := Value.type "code", data := Data.fields #[Value.str "__init__" 277, Value.str "Whitespace.__init__" 278, Value.str "/claim/cut.py" 279, Value.int 39 0, Value.int 2 0, Value.int 0 0, Value.int 0 0, Value.int 3 0, Value.ref 54, Value.bool true, Value.int 181 0, Value.ref 55, Value.none, Value.ref 56, Value.ref 57, Value.ref 58, Value.int 289 0, Value.int 39 0, Value.str "/claim/cut.py" 290] }),
  (60, fobj (mt 1) "Whitespace.__init__" (Value.str (Str.ofString "cpy313.tabnanny") 258) 59),
  (66, { cls := Value.type "code", data := Data.fields #[Value.str "longest_run_of_spaces" 292, Value.str "Whitespace.longest_run_of_spaces" 293, Value.str "/claim/cut.py" 294, Value.int 62 0, Value.int 1 0, Value.int 0 0, Value.int 0 0, Value.int 3 0, Value.ref 61, Value.bool true, Value.int 181 0, Value.ref 62, Value.none, Value.ref 63, Value.ref 64, Value.ref 65, Value.int 298 0, Value.int 62 0, Value.str "/claim/cut.py" 299] }),
  (67, fobj (mt 2) "Whitespace.longest_run_of_spaces" (Value.str (Str.ofString "cpy313.tabnanny") 258) 66),
  (73, { cls := Value.type "code", data := Data.fields #[Value.str "indent_level" 301, Value.str "Whitespace.indent_level" 302, Value.str "/claim/cut.py" 303, Value.int 66 0, Value.int 2 0, Value.int 0 0, Value.int 0 0, Value.int 3 0, Value.ref 68, Value.bool true, Value.int 181 0, Value.ref 69, Value.none, Value.ref 70, Value.ref 71, Value.ref 72, Value.int 310 0, Value.int 66 0, Value.str "/claim/cut.py" 311] }),
  (74, fobj (mt 3) "Whitespace.indent_level" (Value.str (Str.ofString "cpy313.tabnanny") 258) 73),
  (80, { cls := Value.type "code", data := Data.fields #[Value.str "equal" 313, Value.str "Whitespace.equal" 314, Value.str "/claim/cut.py" 315, Value.int 73 0, Value.int 2 0, Value.int 0 0, Value.int 0 0, Value.int 3 0, Value.ref 75, Value.bool true, Value.int 181 0, Value.ref 76, Value.none, Value.ref 77, Value.ref 78, Value.ref 79, Value.int 318 0, Value.int 73 0, Value.str "/claim/cut.py" 319] }),
  (81, fobj (mt 4) "Whitespace.equal" (Value.str (Str.ofString "cpy313.tabnanny") 258) 80),
  (87, { cls := Value.type "code", data := Data.fields #[Value.str "not_equal_witness" 321, Value.str "Whitespace.not_equal_witness" 322, Value.str "/claim/cut.py" 323, Value.int 76 0, Value.int 2 0, Value.int 0 0, Value.int 0 0, Value.int 3 0, Value.ref 82, Value.bool true, Value.int 181 0, Value.ref 83, Value.none, Value.ref 84, Value.ref 85, Value.ref 86, Value.int 326 0, Value.int 76 0, Value.str "/claim/cut.py" 327] }),
  (88, fobj (mt 5) "Whitespace.not_equal_witness" (Value.str (Str.ofString "cpy313.tabnanny") 258) 87),
  (94, { cls := Value.type "code", data := Data.fields #[Value.str "less" 329, Value.str "Whitespace.less" 330, Value.str "/claim/cut.py" 331, Value.int 79 0, Value.int 2 0, Value.int 0 0, Value.int 0 0, Value.int 3 0, Value.ref 89, Value.bool true, Value.int 181 0, Value.ref 90, Value.none, Value.ref 91, Value.ref 92, Value.ref 93, Value.int 336 0, Value.int 79 0, Value.str "/claim/cut.py" 337] }),
  (95, fobj (mt 6) "Whitespace.less" (Value.str (Str.ofString "cpy313.tabnanny") 258) 94),
  (101, { cls := Value.type "code", data := Data.fields #[Value.str "not_less_witness" 339, Value.str "Whitespace.not_less_witness" 340, Value.str "/claim/cut.py" 341, Value.int 90 0, Value.int 2 0, Value.int 0 0, Value.int 0 0, Value.int 3 0, Value.ref 96, Value.bool true, Value.int 181 0, Value.ref 97, Value.none, Value.ref 98, Value.ref 99, Value.ref 100, Value.int 347 0, Value.int 90 0, Value.str "/claim/cut.py" 348] }),
  (102, fobj (mt 7) "Whitespace.not_less_witness" (Value.str (Str.ofString "cpy313.tabnanny") 258) 101),
  (103, { cls := Value.type "tuple", data := Data.seq #[Value.str "is_simple" 350, Value.str "n" 351, Value.str "norm" 352, Value.str "nt" 353, Value.str "raw" 354] }),
  (104, { cls := Value.type "dict", data := Data.dict #[{ hash := PyData.keyHash P "__module__", key := Value.str "__module__" 267, val := Value.str "cpy313.tabnanny" 258 }, { hash := PyData.keyHash P "__firstlineno__", key := Value.str "__firstlineno__" 271, val := Value.int 36 270 }, { hash := PyData.keyHash P "S", key := Value.str "S" 275, val := Value.str " " 273 }, { hash := PyData.keyHash P "T", key := Value.str "T" 276, val := Value.str "\t" 274 }, { hash := PyData.keyHash P "__init__", key := Value.str "__init__" 291, val := Value.ref 60 }, { hash := PyData.keyHash P "longest_run_of_spaces", key := Value.str "longest_run_of_spaces" 300, val := Value.ref 67 }, { hash := PyData.keyHash P "indent_level", key := Value.str "indent_level" 312, val := Value.ref 74 }, { hash := PyData.keyHash P "equal", key := Value.str "equal" 320, val := Value.ref 81 }, { hash := PyData.keyHash P "not_equal_witness", key := Value.str "not_equal_witness" 328, val := Value.ref 88 }, { hash := PyData.keyHash P "less", key := Value.str "less" 338, val := Value.ref 95 }, { hash := PyData.keyHash P "not_less_witness", key := Value.str "not_less_witness" 349, val := Value.ref 102 }, { hash := PyData.keyHash P "__static_attributes__", key := Value.str "__static_attributes__" 355, val := Value.ref 103 }, { hash := PyData.keyHash P "__dict__", key := Value.str "__dict__" 357, val := Value.ref 106 }, { hash := PyData.keyHash P "__weakref__", key := Value.str "__weakref__" 359, val := Value.ref 107 }, { hash := PyData.keyHash P "__doc__", key := Value.str "__doc__" 360, val := Value.none }] 4 }),
  (105, { cls := Value.type "type", data := Data.cls { name := "Whitespace", bases := [Value.type "object"], mro := [Value.ref 105, Value.type "object"], ns := 104, qualname := "Whitespace" }, slots := #[none, none, some (Value.str "Whitespace" 260), some (Value.str "Whitespace" 268), some (Value.builtin "object.__new__"), some (Value.bool true)] }),
  (106, { cls := Value.type "getset_descriptor", data := Data.fields #[Value.str "__dict__" 356, Value.ref 105, Value.builtin "function.__dict__", Value.builtin "function.__dict__#set"] }),
  (107, { cls := Value.type "getset_descriptor", data := Data.fields #[Value.str "__weakref__" 358, Value.ref 105, Value.builtin "ExceptionGroup.__weakref__", Value.none] }),
  (115, { cls := Value.type "code", data := Data.fields #[Value.str "format_witnesses" 363, Value.str "format_witnesses" 364, Value.str "/claim/cut.py" 365, Value.int 97 0, Value.int 1 0, Value.int 0 0, Value.int 0 0, Value.int 3 0, Value.ref 110, Value.bool true, Value.int 181 0, Value.ref 111, Value.none, Value.ref 112, Value.ref 113, Value.ref 114, Value.int 369 0, Value.int 97 0, Value.str "/claim/cut.py" 370] }),
  (116, fobj (st 9) "format_witnesses" (Value.str (Str.ofString "cpy313.tabnanny") 258) 115),
  (122, { cls := Value.type "code", data := Data.fields #[Value.str "_law_number" 374, Value.str "_law_number" 375, Value.str "/claim/cut.py" 376, Value.int 104 0, Value.int 1 0, Value.int 0 0, Value.int 0 0, Value.int 3 0, Value.ref 117, Value.bool true, Value.int 181 0, Value.ref 118, Value.none, Value.ref 119, Value.ref 120, Value.ref 121, Value.int 380 0, Value.int 104 0, Value.str "/claim/cut.py" 381] }),
  (123, fobj (st 11) "_law_number" (Value.str (Str.ofString "law_ty0028_01") 372) 122),
  (127, { cls := Value.type "code", data := Data.fields #[Value.str "_law_by_words" 383, Value.str "_law_by_words" 384, Value.str "/claim/cut.py" 385, Value.int 109 0, Value.int 1 0, Value.int 0 0, Value.int 0 0, Value.int 3 0, Value.ref 124, Value.bool true, Value.int 181 0, Value.ref 125, Value.none, Value.none, Value.none, Value.ref 126, Value.int 386 0, Value.int 109 0, Value.str "/claim/cut.py" 387] }),
  (128, fobj (st 12) "_law_by_words" (Value.str (Str.ofString "law_ty0028_01") 372) 127),
  (132, { cls := Value.type "code", data := Data.fields #[Value.str "_law_lead" 389, Value.str "_law_lead" 390, Value.str "/claim/cut.py" 391, Value.int 116 0, Value.int 2 0, Value.int 0 0, Value.int 0 0, Value.int 3 0, Value.ref 129, Value.bool true, Value.int 181 0, Value.ref 130, Value.none, Value.none, Value.none, Value.ref 131, Value.int 392 0, Value.int 116 0, Value.str "/claim/cut.py" 393] }),
  (133, fobj (st 13) "_law_lead" (Value.str (Str.ofString "law_ty0028_01") 372) 132),
  (137, { cls := Value.type "code", data := Data.fields #[Value.str "_law_taken" 395, Value.str "_law_taken" 396, Value.str "/claim/cut.py" 397, Value.int 118 0, Value.int 2 0, Value.int 0 0, Value.int 0 0, Value.int 3 0, Value.ref 134, Value.bool true, Value.int 181 0, Value.ref 135, Value.none, Value.none, Value.none, Value.ref 136, Value.int 398 0, Value.int 118 0, Value.str "/claim/cut.py" 399] }),
  (138, fobj (st 14) "_law_taken" (Value.str (Str.ofString "law_ty0028_01") 372) 137),
  (142, { cls := Value.type "code", data := Data.fields #[Value.str "_law_left" 401, Value.str "_law_left" 402, Value.str "/claim/cut.py" 403, Value.int 126 0, Value.int 2 0, Value.int 0 0, Value.int 0 0, Value.int 3 0, Value.ref 139, Value.bool true, Value.int 181 0, Value.ref 140, Value.none, Value.none, Value.none, Value.ref 141, Value.int 404 0, Value.int 126 0, Value.str "/claim/cut.py" 405] }),
  (143, fobj (st 15) "_law_left" (Value.str (Str.ofString "law_ty0028_01") 372) 142),
  (147, { cls := Value.type "code", data := Data.fields #[Value.str "_law_hooks" 407, Value.str "_law_hooks" 408, Value.str "/claim/cut.py" 409, Value.int 133 0, Value.int 1 0, Value.int 0 0, Value.int 0 0, Value.int 3 0, Value.ref 144, Value.bool true, Value.int 181 0, Value.ref 145, Value.none, Value.none, Value.none, Value.ref 146, Value.int 410 0, Value.int 133 0, Value.str "/claim/cut.py" 411] }),
  (148, fobj (st 16) "_law_hooks" (Value.str (Str.ofString "law_ty0028_01") 372) 147),
  (152, { cls := Value.type "code", data := Data.fields #[Value.str "_law_fallen" 413, Value.str "_law_fallen" 414, Value.str "/claim/cut.py" 415, Value.int 139 0, Value.int 2 0, Value.int 0 0, Value.int 0 0, Value.int 3 0, Value.ref 149, Value.bool true, Value.int 181 0, Value.ref 150, Value.none, Value.none, Value.none, Value.ref 151, Value.int 416 0, Value.int 139 0, Value.str "/claim/cut.py" 417] }),
  (153, fobj (st 17) "_law_fallen" (Value.str (Str.ofString "law_ty0028_01") 372) 152),
  (157, { cls := Value.type "code", data := Data.fields #[Value.str "_law_word" 419, Value.str "_law_word" 420, Value.str "/claim/cut.py" 421, Value.int 143 0, Value.int 1 0, Value.int 0 0, Value.int 0 0, Value.int 3 0, Value.ref 154, Value.bool true, Value.int 181 0, Value.ref 155, Value.none, Value.none, Value.none, Value.ref 156, Value.int 422 0, Value.int 143 0, Value.str "/claim/cut.py" 423] }),
  (158, fobj (st 18) "_law_word" (Value.str (Str.ofString "law_ty0028_01") 372) 157),
  (162, { cls := Value.type "code", data := Data.fields #[Value.str "_law_digits" 425, Value.str "_law_digits" 426, Value.str "/claim/cut.py" 427, Value.int 146 0, Value.int 3 0, Value.int 0 0, Value.int 0 0, Value.int 3 0, Value.ref 159, Value.bool true, Value.int 181 0, Value.ref 160, Value.none, Value.none, Value.none, Value.ref 161, Value.int 428 0, Value.int 146 0, Value.str "/claim/cut.py" 429] }),
  (163, fobj (st 19) "_law_digits" (Value.str (Str.ofString "law_ty0028_01") 372) 162),
  (167, { cls := Value.type "code", data := Data.fields #[Value.str "_law_octets" 431, Value.str "_law_octets" 432, Value.str "/claim/cut.py" 433, Value.int 149 0, Value.int 1 0, Value.int 0 0, Value.int 0 0, Value.int 3 0, Value.ref 164, Value.bool true, Value.int 181 0, Value.ref 165, Value.none, Value.none, Value.none, Value.ref 166, Value.int 434 0, Value.int 149 0, Value.str "/claim/cut.py" 435] }),
  (168, fobj (st 20) "_law_octets" (Value.str (Str.ofString "law_ty0028_01") 372) 167),
  (172, { cls := Value.type "code", data := Data.fields #[Value.str "_law_column" 437, Value.str "_law_column" 438, Value.str "/claim/cut.py" 439, Value.int 151 0, Value.int 2 0, Value.int 0 0, Value.int 0 0, Value.int 3 0, Value.ref 169, Value.bool true, Value.int 181 0, Value.ref 170, Value.none, Value.none, Value.none, Value.ref 171, Value.int 440 0, Value.int 151 0, Value.str "/claim/cut.py" 441] }),
  (173, fobj (st 21) "_law_column" (Value.str (Str.ofString "law_ty0028_01") 372) 172),
  (179, { cls := Value.type "code", data := Data.fields #[Value.str "_law_agree" 443, Value.str "_law_agree" 444, Value.str "/claim/cut.py" 445, Value.int 153 0, Value.int 4 0, Value.int 0 0, Value.int 0 0, Value.int 3 0, Value.ref 174, Value.bool true, Value.int 181 0, Value.ref 175, Value.none, Value.ref 176, Value.ref 177, Value.ref 178, Value.int 451 0, Value.int 153 0, Value.str "/claim/cut.py" 452] }),
  (180, fobj (st 22) "_law_agree" (Value.str (Str.ofString "law_ty0028_01") 372) 179),
  (186, { cls := Value.type "code", data := Data.fields #[Value.str "_law_due" 454, Value.str "_law_due" 455, Value.str "/claim/cut.py" 456, Value.int 158 0, Value.int 2 0, Value.int 0 0, Value.int 0 0, Value.int 3 0, Value.ref 181, Value.bool true, Value.int 181 0, Value.ref 182, Value.none, Value.ref 183, Value.ref 184, Value.ref 185, Value.int 463 0, Value.int 158 0, Value.str "/claim/cut.py" 464] }),
  (187, fobj (st 23) "_law_due" (Value.str (Str.ofString "law_ty0028_01") 372) 186),
  (191, { cls := Value.type "code", data := Data.fields #[Value.str "_law_named" 466, Value.str "_law_named" 467, Value.str "/claim/cut.py" 468, Value.int 166 0, Value.int 3 0, Value.int 0 0, Value.int 0 0, Value.int 3 0, Value.ref 188, Value.bool true, Value.int 181 0, Value.ref 189, Value.none, Value.none, Value.none, Value.ref 190, Value.int 469 0, Value.int 166 0, Value.str "/claim/cut.py" 470] }),
  (192, fobj (st 24) "_law_named" (Value.str (Str.ofString "law_ty0028_01") 372) 191),
  (196, { cls := Value.type "code", data := Data.fields #[Value.str "law" 472, Value.str "law" 473, Value.str "/claim/cut.py" 474, Value.int 170 0, Value.int 1 0, Value.int 0 0, Value.int 0 0, Value.int 3 0, Value.ref 193, Value.bool true, Value.int 181 0, Value.ref 194, Value.none, Value.none, Value.none, Value.ref 195, Value.int 475 0, Value.int 170 0, Value.str "/claim/cut.py" 476] }),
  (197, fobj (st 25) "law" (Value.str (Str.ofString "law_ty0028_01") 372) 196)]
noncomputable def view : Program := { pw with main := { pw.main with body := pw.main.body.take 1 ++ (pw.main.body.drop 2).take 1 ++ (pw.main.body.drop 4).take 3 ++ (pw.main.body.drop 8).take 2 ++ pw.main.body.drop 11 } }
abbrev loose : List Str := ["COMPILER_FLAG_NAMES", "Whitespace"]
noncomputable abbrev Q : Hook := kHook K0 [2, 3, 27, 28, 29, 35, 36, 42, 43, 59, 60, 66, 67, 73, 74, 80, 81, 87, 88, 94, 95, 101, 102, 103, 104, 105, 106, 107, 115, 116, 122, 123, 127, 128, 132, 133, 137, 138, 142, 143, 147, 148, 152, 153, 157, 158, 162, 163, 167, 168, 172, 173, 179, 180, 186, 187, 191, 192, 196, 197] (fun P => by kernel_rfl)

end Mine

-- E1
namespace Mine
open PySem PySem.W PyProof.Rows

noncomputable abbrev T0 (prog : Program) (w : World) (mg mb : Str → Option Value) : Th := ⟨prog, w, K0 w.params, mg, mb⟩

section
variable {prog : Program} {w : World} {mg mb : Str → Option Value} {P : Params} {k : Nat}

theorem Fn.def' {T : Th} {f : Addr} {o : Obj} {fd : FuncData} {body : List Stmt} {ds : List D} {d : D} (xs : List Str) (ho : T.K.lookup f = some o) (hd : o.data = .func fd) (hb : fd.body = .stmts body) (hc : codeIn T.K fd.code fd.qualname = true) (h1 : fd.closure = []) (h2 : fd.globals = mainGlobals) (h3 : fd.builtins = builtinsNs)
    (hbind : ∀ vals : List Value, vals.length = xs.length → bindArgs fd ⟨vals, []⟩ = pure (xs.zip vals)) (st : xs.all (Stor fd.scope ·) = true) (nd : decide xs.Nodup = true) (co : fd.scope.isCoroutine = false) (ge : fd.scope.isGenerator = false) (ki : fd.scope.kind = .function)
    (hlen : xs.length = ds.length) (hex : Ex T k fd.scope (xs.zip ds) none body (FnP d)) : Fn T (k + 1) (.ref f) ds d :=
  Fn.def (xs := xs) ⟨⟨o, fd, ho, hd, hb, rfl, hc, h1, h2, h3, hbind⟩, fun x hx => List.all_eq_true.mp st x hx, of_decide_eq_true nd, co, ge, ki⟩ hlen hex

theorem clipAt_nat (n j : Nat) : clipAt n (j : Int) = min j n := by
  unfold clipAt
  rw [if_neg (by lia)]
  lia
section
variable {T : Th} {sc : Scope} {σ : St}
theorem Ev.takeI {e i : Expr} {p pos : Pos} {ns : List Int} {j : Int} (he : Ev T k sc σ e (iD ns)) (hi : Ev T k sc σ i (.int j)) (hj : 0 ≤ j) (hz : ns.length ≤ 1000000) : Ev T k sc σ (.Subscript e (.Slice none (some i) none p) pos) (iD (ns.take j.toNat)) := by
  refine (Ev.slice he .none (.some hi) (by simpa using hz)).to ?_
  obtain ⟨j, rfl⟩ := Int.eq_ofNat_of_zero_le hj
  simp only [Option.elim_none, Option.elim_some, clipAt_nat, List.drop_zero, Nat.sub_zero, List.length_map, Int.toNat_natCast]
  rw [← List.map_take]
  congr 2
  rw [Nat.min_comm]
  by_cases h : j ≤ ns.length
  · rw [Nat.min_eq_right h]
  · rw [Nat.min_eq_left (by lia), List.take_of_length_le (Nat.le_refl _), List.take_of_length_le (by lia)]
theorem Ev.dropI {e i : Expr} {p pos : Pos} {ns : List Int} {j : Int} (he : Ev T k sc σ e (iD ns)) (hi : Ev T k sc σ i (.int j)) (hj : 0 ≤ j) (hz : ns.length ≤ 1000000) : Ev T k sc σ (.Subscript e (.Slice (some i) none none p) pos) (iD (ns.drop j.toNat)) := by
  refine (Ev.slice he (.some hi) .none (by simpa using hz)).to ?_
  obtain ⟨j, rfl⟩ := Int.eq_ofNat_of_zero_le hj
  simp only [Option.elim_none, Option.elim_some, clipAt_nat, List.length_map, Int.toNat_natCast]
  rw [← List.map_drop, ← List.map_take]
  congr 2
  by_cases h : j ≤ ns.length
  · rw [Nat.min_eq_left h, List.take_of_length_le (by simp)]
  · rw [Nat.min_eq_right (by lia), List.drop_of_length_le (Nat.le_refl _), List.drop_of_length_le (by lia)]; simp
theorem Ev.midI {e i i' : Expr} {p pos : Pos} {ns : List Int} {j j' : Int} (he : Ev T k sc σ e (iD ns)) (hi : Ev T k sc σ i (.int j)) (hi' : Ev T k sc σ i' (.int j')) (hj : 0 ≤ j) (hj' : 0 ≤ j') (hz : ns.length ≤ 1000000) : Ev T k sc σ (.Subscript e (.Slice (some i) (some i') none p) pos) (iD ((ns.drop j.toNat).take (j'.toNat - j.toNat))) := by
  refine (Ev.slice he (.some hi) (.some hi') (by simpa using hz)).to ?_
  obtain ⟨j, rfl⟩ := Int.eq_ofNat_of_zero_le hj
  obtain ⟨j', rfl⟩ := Int.eq_ofNat_of_zero_le hj'
  simp only [Option.elim_some, clipAt_nat, List.length_map, Int.toNat_natCast]
  rw [← List.map_drop, ← List.map_take]
  congr 2
  by_cases h : j ≤ ns.length
  · rw [Nat.min_eq_left h]
    by_cases h' : j' ≤ ns.length
    · rw [Nat.min_eq_left h']
    · rw [Nat.min_eq_right (by lia), List.take_of_length_le (by simp), List.take_of_length_le (by simp; lia)]
  · rw [show min j ns.length = ns.length by lia, List.drop_of_length_le (Nat.le_refl _), List.drop_of_length_le (show ns.length ≤ j by lia)]; simp
end

def numF (ns : List Int) : Int := (ns.take 16).foldl (fun t x => (9 * t + x.fmod 16384).fmod 16384) 9810

theorem fn_number {ns : List Int} (hz : ns.length ≤ 1000) : Fn (T0 prog w mg mb) (k + 1) (.ref 123) [iD ns] (.int (numF ns)) := by
  refine Fn.def' ["script"] rfl rfl rfl rfl rfl rfl rfl (fun vals hv => by obtain ⟨a, rfl⟩ := len1 hv; rfl) rfl rfl rfl rfl rfl rfl ?_
  refine Ex.cons (Ex1.assign (.inl .int) ?_)
  refine Ex.cons (Ex1.forFoldM (ns.take 16) D.int (fun t x => (9 * t + x.fmod 16384).fmod 16384) (fun _ => True) (fun t => [("script", iD ns), ("total", .int t)]) (fun _ => none) 9810
    (.inl (.takeI (.name rfl) .int (by decide) (by lia))) .ints trivial ?_ rfl (fun t x hx _ => ?_) fun _ => ?_)
  · exact .cons rfl (.cons rfl .nil)
  · refine Ex.cons (Ex1.assign (.inl (.bin (.bin (.bin .int (.name rfl) (.mul_int (by mul_fits))) (.bin (.name rfl) .int (.fmod_int (by decide))) .add_int) .int (.fmod_int (by decide)))) ?_)
    exact Ex.nil ⟨trivial, .cons rfl (.cons rfl .nil), rfl⟩
  · refine Ex.nil ?_
    exact Ex.cons (Ex1.ret (.inl (.name rfl)) rfl)
end
end Mine

-- E2
namespace Mine
open PySem PySem.W PyProof.Rows

section
variable {T : Th} {sc : Scope} {σ : St} {k : Nat}
theorem BinOk.add_iD {a b : List Int} (hz : a.length + b.length ≤ 1000000) : BinOk T k .Add (iD a) (iD b) (iD (a ++ b)) := by
  have := BinOk.add_list (T := T) (k := k) (ds := a.map D.int) (es := b.map D.int) (by rw [sizeLine_eq]; simp; lia)
  rw [← List.map_append] at this
  exact this
theorem filter_true {α : Type} (L : List α) : L.filter (fun _ => true) = L := List.filter_eq_self.mpr fun _ _ => rfl
theorem Ev.mapM {α : Type} {elt iter : Expr} {x : Str} {px : Pos} {scope : Scope} {pos : Pos} {di : D} (L : List α) (g : α → D) (f : α → D)
    (hi : Ev T k sc σ iter di) (hit : Itr T di (L.map g)) (hz : L.length ≤ 1000000) (hg : ∀ a b, g a = g b → a = b)
    (helt : ∀ a ∈ L, Ev T k (relabelS scope sc) ((x, g a) :: freeOf scope σ) elt (f a))
    (hsc : okComp scope sc x = true := by rfl) (hfr : hasFree scope σ = true := by rfl) (hs : ∀ env v, foldedSetIterable iter env v = pure v := by intro _ _; rfl) :
    Ev T k sc σ (.ListComp elt [⟨.Name x px, iter, [], 0⟩] scope pos) (.list (L.map f)) := by
  have := Ev.compM (ifs := []) (px := px) (pos := pos) L g (fun _ => true) f hi hit hz (fun a ha => Tests.nil) (fun a ha _ => helt a ha) hg hsc hfr hs
  rwa [filter_true] at this
theorem Ev.mapI {α : Type} {elt iter : Expr} {x : Str} {px : Pos} {scope : Scope} {pos : Pos} {di : D} (L : List α) (g : α → D) (f : α → Int)
    (hi : Ev T k sc σ iter di) (hit : Itr T di (L.map g)) (hz : L.length ≤ 1000000) (hg : ∀ a b, g a = g b → a = b)
    (helt : ∀ a ∈ L, Ev T k (relabelS scope sc) ((x, g a) :: freeOf scope σ) elt (.int (f a)))
    (hsc : okComp scope sc x = true := by rfl) (hfr : hasFree scope σ = true := by rfl) (hs : ∀ env v, foldedSetIterable iter env v = pure v := by intro _ _; rfl) :
    Ev T k sc σ (.ListComp elt [⟨.Name x px, iter, [], 0⟩] scope pos) (iD (L.map f)) := by
  have := Ev.mapM (px := px) (pos := pos) L g (fun a => .int (f a)) hi hit hz hg helt hsc hfr hs
  rw [show L.map (fun a => D.int (f a)) = (L.map f).map .int by simp] at this
  exact this
theorem Ev.filtI {α : Type} {elt iter c : Expr} {x : Str} {px : Pos} {scope : Scope} {pos : Pos} {di : D} (L : List α) (g : α → D) (p : α → Bool) (f : α → Int)
    (hi : Ev T k sc σ iter di) (hit : Itr T di (L.map g)) (hz : L.length ≤ 1000000) (hg : ∀ a b, g a = g b → a = b)
    (htest : ∀ a ∈ L, Tr T k (relabelS scope sc) ((x, g a) :: freeOf scope σ) c (p a))
    (helt : ∀ a ∈ L, p a = true → Ev T k (relabelS scope sc) ((x, g a) :: freeOf scope σ) elt (.int (f a)))
    (hsc : okComp scope sc x = true := by rfl) (hfr : hasFree scope σ = true := by rfl) (hs : ∀ env v, foldedSetIterable iter env v = pure v := by intro _ _; rfl) :
    Ev T k sc σ (.ListComp elt [⟨.Name x px, iter, [c], 0⟩] scope pos) (iD ((L.filter p).map f)) := by
  have := Ev.compM (ifs := [c]) (px := px) (pos := pos) L g p (fun a => .int (f a)) hi hit hz (fun a ha => Tests.one (htest a ha)) helt hg hsc hfr hs
  rw [show (L.filter p).map (fun a => D.int (f a)) = ((L.filter p).map f).map .int by simp] at this
  exact this
theorem Ev.at {e i : Expr} {pos : Pos} {ns : List Int} {j : Int} (n : Nat) (he : Ev T k sc σ e (iD ns)) (hi : Ev T k sc σ i (.int j)) (hj : j = (n : Int)) (h : n < ns.length) (hz : ns.length < 2 ^ 40) (hs : ∀ o v, SubOk i o v := by intro _ _; exact ⟨_, rfl⟩) : Ev T k sc σ (.Subscript e i pos) (.int (ns.getD n 0)) :=
  Ev.itemI he (hi.to (by rw [hj])) h hz hs
theorem Itr.up2N {a b : Nat} (ha : a < 2 ^ 40) (hb : b < 2 ^ 40) : Itr T (.range a b 1) ((List.range (b - a)).map fun i : Nat => gN (a + i)) := by
  have := Itr.up2 (T := T) (a := a) (b := b) (by lia) (by lia)
  rw [show ((b : Int) - a).toNat = b - a by lia] at this
  have e : (fun i : Nat => D.int ((a : Int) + (i : Int))) = fun i : Nat => gN (a + i) := by funext i; simp [gN]
  rw [e] at this; exact this
theorem Fn.len_iD {ns : List Int} (hz : ns.length ≤ 1000000000) : Fn T k (.builtin "len") [iD ns] (.int (ns.length : Int)) := by
  have := Fn.len_list (T := T) (k := k) (ds := ns.map D.int) (by simpa using hz)
  simpa using this
end

section
variable {prog : Program} {w : World} {mg mb : Str → Option Value} {P : Params} {k : Nat}

def tEnd (rows : List Int) (size : Int) (top low : Nat) : Int := rows.getD top 0 - size + (low : Int) - (top : Int)
def tRes (rows : List Int) (size : Int) (top low : Nat) : List Int := rows.take top ++ ((rows.drop (top + 1)).take (low + 1 - (top + 1))).map (· - 1) ++ [tEnd rows size top low] ++ rows.drop (low + 1)
def tCond (rows : List Int) (size : Int) (top low : Nat) : Bool := decide (tEnd rows size top low < rows.getD low 0) && decide ((rows ++ [0]).getD (low + 1) 0 ≤ tEnd rows size top low)
def tAt (rows : List Int) (size : Int) (top : Nat) : Option (List Int) := (List.range (rows.length - top)).findSome? fun i => if tCond rows size top (top + i) then some (tRes rows size top (top + i)) else none
def taken (rows : List Int) (size : Int) : List Int := ((List.range rows.length).findSome? (tAt rows size)).getD rows

theorem findSome_map {α β γ : Type} (f : α → Option β) (g : β → γ) (L : List α) : (L.findSome? fun a => (f a).map g) = (L.findSome? f).map g := by
  induction L with
  | nil => rfl
  | cons a L ih =>
    rw [List.findSome?_cons, List.findSome?_cons]
    cases f a with
    | none => exact ih
    | some b => rfl

theorem fn_taken {rows : List Int} {size : Int} (hz : rows.length ≤ 1000) : Fn (T0 prog w mg mb) (k + 1) (.ref 138) [iD rows, .int size] (iD (taken rows size)) := by
  refine Fn.def' ["rows", "size"] rfl rfl rfl rfl rfl rfl rfl (fun vals hv => by obtain ⟨a, b, rfl⟩ := len2 hv; rfl) rfl rfl rfl rfl rfl rfl ?_
  refine Ex.cons (Ex1.assign (.inl (.bin (.name rfl) (.list (.one .int) (by simp)) (.add_iD (b := [0]) (by simp; lia)))) ?_)
  refine Ex.cons (Ex1.forSomeM (List.range rows.length) gN (fun top => (tAt rows size top).map iD) (.inl (.gT rfl (.one (.gB rfl (.one (.name rfl)) (Fn.len_iD (by lia)))) .range1)) (.up1 (by lia)) (fun top htop => ?_) (fun v hv => ?_) fun hn => ?_)
  · have htop := List.mem_range.mp htop
    refine Ex.cons (Ex1.forSomeM (List.range (rows.length - top)) (fun i => gN (top + i)) (fun i => (if tCond rows size top (top + i) then some (tRes rows size top (top + i)) else none).map iD)
      (.inl (.gT rfl (.two (.name rfl) (.gB rfl (.one (.name rfl)) (Fn.len_iD (by lia)))) .range2)) (.up2N (by lia) (by lia)) (fun i hi => ?_) (fun v hv => ?_) fun hn => ?_)
    · have hi := List.mem_range.mp hi
      generalize hlow : top + i = low
      refine Ex.cons (Ex1.assign (d := .int (tEnd rows size top low)) (.inl (.bin (.bin (.bin (.at top (.name rfl) (.name rfl) rfl (by lia) (by lia)) (.name rfl) .sub_int) (.name rfl) .add_int) (.name rfl) .sub_int)) ?_)
      refine Ex.cons (Ex1.if_ (b := tCond rows size top low) (.inl (.and2 (.cmp (.name rfl) (.at low (.name rfl) (.name rfl) rfl (by lia) (by lia)) .lt_int) fun _ => .cmp (.name rfl) (.at (low + 1) (.name rfl) (.bin (.name rfl) .int .add_int) (by lia) (by simp; lia) (by simp; lia)) .ge_int)) (fun hb => ?_) fun hb => ?_)
      · refine Ex.cons (Ex1.ret (d := iD (tRes rows size top low)) (.inl ?_) ⟨by simp [hb], rfl⟩)
        exact .bin (.bin (.bin (.takeI (j := (top : Int)) (.name rfl) (.name rfl) (by lia) (by lia)) (.mapI ((rows.drop (top + 1)).take (low + 1 - (top + 1))) D.int (· - 1) (.midI (j := (top : Int) + 1) (j' := (low : Int) + 1) (.name rfl) (.bin (.name rfl) .int .add_int) (.bin (.name rfl) .int .add_int) (by lia) (by lia) (by lia)) .ints (by simp; lia) int_inj fun a ha => .bin (.name rfl) .int .sub_int) (.add_iD (by simp; lia)))
            (.list (.one (.name rfl)) (by simp)) (.add_iD (b := [tEnd rows size top low]) (by simp; lia))) (.dropI (j := (low : Int) + 1) (.name rfl) (.bin (.name rfl) .int .add_int) (by lia) (by lia)) (.add_iD (by simp; lia))
      · exact Ex.nil (Ex.nil ⟨by simp [hb], .cons rfl (.cons rfl (.cons rfl (.cons rfl .nil))), rfl⟩)
    · refine ⟨?_, rfl⟩
      rw [findSome_map] at hv
      exact hv
    · refine Ex.nil (Ex.nil ⟨?_, .cons rfl (.cons rfl (.cons rfl .nil)), rfl⟩)
      rw [findSome_map] at hn
      exact hn
  · rw [findSome_map] at hv
    obtain ⟨r, hr, rfl⟩ := Option.map_eq_some_iff.mp hv
    show iD r = iD (taken rows size)
    rw [taken, hr]; rfl
  · rw [findSome_map, Option.map_eq_none_iff] at hn
    refine Ex.nil (Ex.cons (Ex1.ret (.inl (.name rfl)) ?_))
    show iD rows = iD (taken rows size)
    rw [taken, hn]; rfl
end
end Mine

-- D14
namespace Mine
open PySem PySem.W PyProof.Rows

section
variable {T : Th} {k : Nat} {sc : Scope} {σ : St} {own : Own} {P : Out → Prop}

theorem split_at {α : Type} {L : List α} {i : Nat} {a : α} (h : L[i]? = some a) : L = L.take i ++ a :: L.drop (i + 1) := by
  have h1 : L[i]'(List.getElem?_eq_some_iff.mp h).1 = a := (List.getElem?_eq_some_iff.mp h).2
  rw [← h1]; simp

/-- a loop that folds; the body knows what went before -/
theorem Ex1.forFoldP {α S : Type} {x : Str} {px pos : Pos} {iter : Expr} {body orelse : List Stmt} {di : D} (L : List α) (g : α → D) (step : S → α → S) (σf : S → St) (ownf : S → Own) (a₀ : S) (hi : Evo T k sc σ own iter di) (hit : Itr T di (L.map g))
    (hs₀ : Sub σ (σf a₀)) (ho₀ : own = ownf a₀)
    (hb : ∀ pre a post, L = pre ++ a :: post → Ex T k sc ((x, g a) :: σf (pre.foldl step a₀)) (ownf (pre.foldl step a₀)) body (LoopP (fun σ' own' => Sub σ' (σf (step (pre.foldl step a₀) a)) ∧ own' = ownf (step (pre.foldl step a₀) a)) P))
    (he : Ex T k sc (σf (L.foldl step a₀)) (ownf (L.foldl step a₀)) orelse P)
    (hx : Stor sc x = true := by rfl) (hne : ∀ a, ownNe (ownf a) x = true := by intro _; rfl) (hs : ∀ env v, foldedSetIterable iter env v = pure v := by intro _ _; rfl) : Ex1 T k sc σ own (.For (.Name x px) iter body orelse pos) P := by
  refine Ex1.for_ (fun i s => s = (L.take i).foldl step a₀) σf ownf (a₀ := a₀) hi hit (by simp) hs₀ ho₀ (fun i s d hd hJ => ?_) (fun s hJ => ?_) hx hne hs
  · subst hJ
    rw [List.getElem?_map] at hd
    obtain ⟨a, hd', rfl⟩ := Option.map_eq_some_iff.mp hd
    refine (hb (L.take i) a (L.drop (i + 1)) (split_at hd')).mono fun o ho => ?_
    cases o with
    | next σ' own' =>
      obtain ⟨h2, h3⟩ := ho
      refine ⟨_, ?_, h2, h3⟩
      rw [List.take_add_one, hd', List.foldl_append]
      rfl
    | brk σ' own' => exact ho
    | ret d own' => exact ho
  · rw [List.length_map, List.take_length] at hJ
    subst hJ
    exact he

theorem swap_cell {env : Env} {elt : Expr} {gens : List Comprehension} {scope : Scope} {pos p : Pos} {t : Str} {line : Nat} (ok : EnvOk sc env) (hx : sc.names.lookup t = some .cell) : swapsWith (.ListComp elt gens scope pos) (some (.Name t p)) line env = pure false := by
  show (pure (env.blockKind == .function && env.scope.names.lookup t == some .local && p.line == pos.line && !(scope.names.any fun (n, k) => n == t && (k == .local || k == .cell))) : Sem Bool) = _
  rw [ok.scope, hx]
  rw [show ((some NameKind.cell : Option NameKind) == some .local) = false from rfl, Bool.and_false, Bool.false_and, Bool.false_and]
/-- `x = [..]` where x is a cell -/
theorem Ex1.assignC {x : Str} {px pos cpos : Pos} {elt : Expr} {gens : List Comprehension} {scope : Scope} {d : D} (he : Ev T k sc σ (.ListComp elt gens scope cpos) d) (h : P (.next ((x, d) :: σ) own)) (hx : sc.names.lookup x = some .cell := by rfl) (hne : ownNe own x = true := by rfl) : Ex1 T k sc σ own (.Assign [.Name x px] (.ListComp elt gens scope cpos) pos) P :=
  Ex1.assign (.inl he) h (by simp only [Stor, hx]; rfl) hne fun env ok => swap_cell ok hx
theorem Ev.negOne {p pos : Pos} {kk : Nat} : Ev T k sc σ (.UnaryOp .USub (.Constant (.int 1) kk p) pos) (.int (-1)) := .neg .int
theorem Itr.upI {b : Int} (hb : -(2 ^ 40) < b ∧ b < 2 ^ 40) : Itr T (.range 0 b 1) ((List.range b.toNat).map gN) := by
  have := Itr.up2 (T := T) (a := 0) (b := b) (by lia) hb
  rw [show (b - 0).toNat = b.toNat by lia] at this
  have e : (fun i : Nat => D.int ((0 : Int) + (i : Int))) = gN := by funext i; simp [gN]
  rw [e] at this; exact this
theorem down_inj (n : Nat) (a b : Nat) (h : D.int ((n : Int) - 1 - (a : Int)) = D.int ((n : Int) - 1 - (b : Int))) : a = b := by
  injection h with h; lia
theorem pow_nat (a : Int) (n : Nat) : a ^ (n : Int).toNat = a ^ n := by rw [Int.toNat_natCast]
end
end Mine

-- E3
namespace Mine
open PySem PySem.W PyProof.Rows

section
variable {prog : Program} {w : World} {mg mb : Str → Option Value} {P : Params} {k : Nat}

theorem tRes_length {rows : List Int} {size : Int} {top low : Nat} (h1 : top ≤ low) (h2 : low < rows.length) : (tRes rows size top low).length = rows.length := by
  simp [tRes]; lia
theorem taken_length (rows : List Int) (size : Int) : (taken rows size).length = rows.length := by
  unfold taken
  cases h : (List.range rows.length).findSome? (tAt rows size) with
  | none => rfl
  | some r =>
    obtain ⟨top, ht, h1⟩ := List.exists_of_findSome?_eq_some h
    obtain ⟨i, hi, h2⟩ := List.exists_of_findSome?_eq_some h1
    have ht := List.mem_range.mp ht
    have hi := List.mem_range.mp hi
    split at h2
    · cases h2
      exact tRes_length (by lia) (by lia)
    · cases h2

def tIt (rows : List Int) (size : Int) : Nat → List Int
  | 0 => rows
  | n + 1 => taken (tIt rows size n) size
theorem tIt_length (rows : List Int) (size : Int) : ∀ n, (tIt rows size n).length = rows.length
  | 0 => rfl
  | n + 1 => (taken_length _ _).trans (tIt_length rows size n)
theorem tIt_stable {rows : List Int} {size : Int} {i : Nat} (h : taken (tIt rows size i) size = tIt rows size i) : ∀ j, tIt rows size (i + j) = tIt rows size i
  | 0 => rfl
  | j + 1 => by
    show taken (tIt rows size (i + j)) size = _
    rw [tIt_stable h j, h]
def beadsOf (rows : List Int) : List Int := (List.range rows.length).map fun k => rows.getD (rows.length - 1 - k) 0 + (k : Int)

theorem fn_left {rows : List Int} {size : Int} (N : Nat) (hN : taken (tIt rows size N) size = tIt rows size N) (hz : rows.length ≤ 1000) : Fn (T0 prog w mg mb) (k + 2) (.ref 143) [iD rows, .int size] (iD (beadsOf (tIt rows size N))) := by
  refine Fn.def' ["rows", "size"] rfl rfl rfl rfl rfl rfl rfl (fun vals hv => by obtain ⟨a, b, rfl⟩ := len2 hv; rfl) rfl rfl rfl rfl rfl rfl ?_
  refine Ex.cons (Ex1.assign (.inl (.name rfl)) ?_)
  refine Ex.cons (Ex1.assign (.inl (.gR rfl (.two (.name rfl) (.name rfl)) (fn_taken hz))) ?_)
  refine Ex.cons (Ex1.while_ (S := Nat) (fun i => i ≤ N) (fun i => N - i) (fun i => [("fewer", iD (tIt rows size (i + 1))), ("left", iD (tIt rows size i)), ("rows", iD rows), ("size", .int size)]) (fun _ => none) (a₀ := 0) (Nat.zero_le _) ?_ rfl fun i hi => ?_)
  · exact .cons rfl (.cons rfl (.cons rfl (.cons rfl .nil)))
  · refine ⟨_, .inl (.cmp (.name rfl) (.name rfl) .ne_iD), fun hb => ?_, fun hb => ?_⟩
    · have hne : tIt rows size (i + 1) ≠ tIt rows size i := by simpa using hb
      have hi' : i < N := by
        rcases Nat.lt_or_ge i N with q | q
        · exact q
        · obtain rfl : i = N := by lia
          exact (hne hN).elim
      refine Ex.cons (Ex1.assign (.inl (.name rfl)) ?_)
      refine Ex.cons (Ex1.assign (.inl (.gR rfl (.two (.name rfl) (.name rfl)) (fn_taken (by rw [tIt_length]; exact hz)))) ?_)
      exact Ex.nil ⟨i + 1, hi', by lia, .cons rfl (.cons rfl (.cons rfl (.cons rfl .nil))), rfl⟩
    · have heq : tIt rows size (i + 1) = tIt rows size i := by simpa using hb
      have hl : (tIt rows size i).length ≤ 1000 := by rw [tIt_length]; exact hz
      have hs := tIt_stable heq (N - i)
      rw [show i + (N - i) = N by lia] at hs
      refine Ex.nil (Ex.cons (Ex1.ret (d := iD (beadsOf (tIt rows size i))) (.inl ?_) (by rw [hs]; rfl)))
      refine .mapI (List.range (tIt rows size i).length) gN _ (.gT rfl (.one (.gB rfl (.one (.name rfl)) (Fn.len_iD (by lia)))) .range1) (.up1 (by lia)) (by simp; lia) gN_inj fun j hj => ?_
      have hj := List.mem_range.mp hj
      exact .bin (.at ((tIt rows size i).length - 1 - j) (.name rfl) (.bin (.bin (.gB rfl (.one (.name rfl)) (Fn.len_iD (by lia))) .int .sub_int) (.name rfl) .sub_int) (by lia) (by lia) (by lia)) (.name rfl) .add_int

def hookAt (rows : List Int) (top cell : Nat) : Int := rows.getD top 0 - (cell : Int) + (((rows.drop (top + 1)).filter fun r => decide ((cell : Int) < r)).length : Int)
def hooksT (rows : List Int) (top : Nat) : List Int := (List.range (rows.getD top 0).toNat).map (hookAt rows top)
def hooks (rows : List Int) : List Int := (List.range rows.length).flatMap (hooksT rows)

theorem foldl_app {α β : Type} (f : α → List β) : ∀ (L : List α) (acc : List β), L.foldl (fun acc a => acc ++ f a) acc = acc ++ L.flatMap f
  | [], acc => by simp
  | a :: L, acc => by rw [List.foldl_cons, foldl_app f L]; simp
theorem foldl_app1 {α β : Type} (f : α → β) : ∀ (L : List α) (acc : List β), L.foldl (fun acc a => acc ++ [f a]) acc = acc ++ L.map f
  | [], acc => by simp
  | a :: L, acc => by rw [List.foldl_cons, foldl_app1 f L]; simp

theorem fn_hooks {rows : List Int} (hz : rows.length ≤ 1000) (hr : ∀ r ∈ rows, -1000 < r ∧ r < 1000) (hh : (hooks rows).length ≤ 100000) : Fn (T0 prog w mg mb) (k + 1) (.ref 148) [iD rows] (iD (hooks rows)) := by
  refine Fn.def' ["rows"] rfl rfl rfl rfl rfl rfl rfl (fun vals hv => by obtain ⟨a, rfl⟩ := len1 hv; rfl) rfl rfl rfl rfl rfl rfl ?_
  refine Ex.cons (Ex1.newOwn .nil (by simp) ?_)
  refine Ex.cons (Ex1.forFoldP (List.range rows.length) gN (fun acc top => acc ++ hooksT rows top) (fun _ => [("rows", iD rows)]) (fun acc => some ("hooks", .list (acc.map .int))) [] (.inl (.gT rfl (.one (.gB rfl (.one (.name rfl)) (Fn.len_iD (by lia)))) .range1)) (.up1 (by lia)) (.cons rfl .nil) rfl (fun pre top post hL => ?_) ?_)
  · have htop : top < rows.length := List.mem_range.mp (by rw [hL]; simp)
    rw [foldl_app, List.nil_append]
    have hrt : -1000 < rows.getD top 0 ∧ rows.getD top 0 < 1000 := by
      refine hr _ ?_
      rw [List.getD_eq_getElem?_getD, List.getElem?_eq_getElem htop]
      exact List.getElem_mem _
    have hlen : ((List.flatMap (hooksT rows) pre).length + (hooksT rows top).length) ≤ 100000 := by
      have : (hooks rows).length = (List.flatMap (hooksT rows) pre).length + ((hooksT rows top).length + (List.flatMap (hooksT rows) post).length) := by
        rw [hooks, hL]; simp
      lia
    refine Ex.cons (Ex1.forFoldP (List.range (rows.getD top 0).toNat) gN (fun acc cell => acc ++ [hookAt rows top cell]) (fun _ => [("top", gN top), ("rows", iD rows)]) (fun acc => some ("hooks", .list (acc.map .int))) (List.flatMap (hooksT rows) pre)
      (.inl (.gT rfl (.one (.at top (.name rfl) (.name rfl) rfl htop (by lia))) .range1)) (.upI (by lia)) (.cons rfl (.cons rfl .nil)) rfl (fun pre' cell post' hL' => ?_) ?_)
    · rw [foldl_app1]
      have hlen' : (hooksT rows top).length = pre'.length + (1 + post'.length) := by
        rw [hooksT, hL']; simp; lia
      have hd : (rows.drop (top + 1)).length ≤ 1000 := by simp; lia
      have hfl := List.length_filter_le (fun r => decide ((cell : Int) < r)) (rows.drop (top + 1))
      refine Ex.cons (Ex1.append (d := .int (hookAt rows top cell)) (Ev.bin (.bin (.at top (.name rfl) (.name rfl) rfl htop (by lia)) (.name rfl) .sub_int) (.gB rfl (.one (.filtI (rows.drop (top + 1)) D.int (fun r => decide ((cell : Int) < r)) id
        (.dropI (j := (top : Int) + 1) (.name rfl) (.bin (.name rfl) .int .add_int) (by lia) (by lia)) .ints (by lia) int_inj (fun a ha => .cmp (.name rfl) (.name rfl) .gt_int) fun a ha _ => .name rfl)) (Fn.len_iD (by rw [List.length_map]; lia))) .add_int |>.to (by rw [List.length_map]; rfl)) (by rw [List.length_map, List.length_append, List.length_map]; lia) ?_)
      refine Ex.nil ⟨.cons rfl (.cons rfl .nil), ?_⟩
      simp
    · rw [foldl_app1]
      refine Ex.nil (Ex.nil ⟨.cons rfl .nil, ?_⟩)
      simp [hooksT]
  · rw [foldl_app, List.nil_append]
    exact Ex.nil (Ex.freeze (Ex.cons (Ex1.ret (.inl (.name rfl)) rfl)))
end
end Mine

-- E4
namespace Mine
open PySem PySem.W PyProof.Rows

section
variable {T : Th} {k : Nat} {sc : Scope} {σ : St}
theorem clipAt_neg1 (n : Nat) : clipAt n (-1) = n - 1 := by
  unfold clipAt
  rw [if_pos (by decide)]
  lia
theorem Ev.takeNeg {e i : Expr} {p pos : Pos} {ns : List Int} (he : Ev T k sc σ e (iD ns)) (hi : Ev T k sc σ i (.int (-1))) (hz : ns.length ≤ 1000000) : Ev T k sc σ (.Subscript e (.Slice none (some i) none p) pos) (iD (ns.take (ns.length - 1))) := by
  refine (Ev.slice he .none (.some hi) (by simpa using hz)).to ?_
  simp only [Option.elim_none, Option.elim_some, clipAt_neg1, List.drop_zero, Nat.sub_zero, List.length_map]
  rw [← List.map_take]
theorem Ev.dropNeg {e i : Expr} {p pos : Pos} {ns : List Int} (he : Ev T k sc σ e (iD ns)) (hi : Ev T k sc σ i (.int (-1))) (hz : ns.length ≤ 1000000) : Ev T k sc σ (.Subscript e (.Slice (some i) none none p) pos) (iD (ns.drop (ns.length - 1))) := by
  refine (Ev.slice he (.some hi) .none (by simpa using hz)).to ?_
  simp only [Option.elim_none, Option.elim_some, clipAt_neg1, List.length_map]
  rw [← List.map_drop, ← List.map_take, List.take_of_length_le (by simp)]
end

section
variable {prog : Program} {w : World} {mg mb : Str → Option Value} {P : Params} {k : Nat}

def bitOf (one : Int) (bit : Nat) : Bool := (one.fdiv (2 ^ bit)).fmod 2 == 1
def countsOf (figs : List Int) (width : Nat) : List Int := (List.range width).map fun bit => ((figs.filter fun one => bitOf one bit).length : Int)
def fallenAt (counts : List Int) (width : Nat) (h : Int) : Int := (((List.range width).filter fun bit => decide (h < counts.getD bit 0)).map fun bit => (2 : Int) ^ bit).sum
def fallen (figs : List Int) (width : Nat) : List Int := (List.range figs.length).map fun i : Nat => fallenAt (countsOf figs width) width ((figs.length : Int) - 1 - (i : Int))

theorem pow2_lt (b : Nat) (hb : b ≤ 20) : ((2 : Int) ^ b).natAbs < 1073741824 := by
  rw [Int.natAbs_pow]
  exact Nat.lt_of_le_of_lt (Nat.pow_le_pow_right (by decide) hb) (by decide)

theorem fn_fallen {figs : List Int} {width : Nat} (hz : figs.length ≤ 1000) (hw : width ≤ 20) : Fn (T0 prog w mg mb) (k + 1) (.ref 153) [iD figs, .int width] (iD (fallen figs width)) := by
  refine Fn.def' ["figures", "width"] rfl rfl rfl rfl rfl rfl rfl (fun vals hv => by obtain ⟨a, b, rfl⟩ := len2 hv; rfl) rfl rfl rfl rfl rfl rfl ?_
  refine Ex.cons (Ex1.assignC (d := iD (countsOf figs width)) (.mapI (List.range width) gN _ (.gT rfl (.one (.name rfl)) .range1) (.up1 (by lia)) (by simp; lia) gN_inj fun bit hb => ?_) ?_)
  · have hb := List.mem_range.mp hb
    have hfl := List.length_filter_le (fun one => bitOf one bit) figs
    refine (Ev.gB rfl (.one (.filtI figs D.int (fun one => bitOf one bit) id (.name rfl) .ints (by lia) int_inj (fun one ho => ?_) fun one ho _ => .name rfl)) (Fn.len_iD (by rw [List.length_map]; lia))).to (by rw [List.length_map])
    exact .cmp (.bin (.bin (.name rfl) (.bin .int (.name rfl) (.pow_int (by lia) (by lia) (by decide))) (.fdiv_int (by rw [pow_nat]; exact Int.ne_of_gt (Int.pow_pos (by decide))) (PyProof.noPylong_small (by rw [pow_nat]; exact pow2_lt bit (by lia))))) .int (.fmod_int (by decide))) .int .eq_int
  · refine Ex.cons (Ex1.assign (.inl (.gT rfl (.three (.bin (.gB rfl (.one (.name rfl)) (Fn.len_iD (by lia))) .int .sub_int) .negOne .negOne) (.range3 (by decide) (PyProof.noPylong_small (by decide))))) ?_)
    refine Ex.cons (Ex1.ret (d := iD (fallen figs width)) (.inl ?_) rfl)
    refine .mapI (List.range figs.length) (fun i : Nat => .int ((figs.length : Int) - 1 - (i : Int))) _ (.name rfl) (.down (by lia)) (by simp; lia) (down_inj _) fun i hi => ?_
    refine .gB rfl (.one (.filtI (List.range width) gN (fun bit => decide (((figs.length : Int) - 1 - (i : Int)) < (countsOf figs width).getD bit 0)) (fun bit => (2 : Int) ^ bit) (.gT rfl (.one (.name rfl)) .range1) (.up1 (by lia)) (by simp; lia) gN_inj (fun bit hb => ?_) fun bit hb _ => ?_)) Fn.sum
    · have hb := List.mem_range.mp hb
      exact .cmp (.at bit (.name rfl) (.name rfl) rfl (by simp [countsOf]; lia) (by simp [countsOf]; lia)) (.name rfl) .gt_int
    · have hb := List.mem_range.mp hb
      exact (Ev.bin .int (.name rfl) (.pow_int (by lia) (by lia) (by decide))).to (by rw [pow_nat])

def word (figs : List Int) : List Int := (figs.dropWhile (· == 0)).map (65 + ·)
theorem tw_zero : ∀ (figs : List Int) (k : Nat), k < (figs.takeWhile (· == 0)).length → figs.getD k 0 = 0
  | [], k, h => by simp at h
  | a :: r, k, h => by
    rw [List.takeWhile_cons] at h
    split at h
    · rename_i ha
      cases k with
      | zero => simpa using ha
      | succ k => simpa using tw_zero r k (by simpa using h)
    · simp at h
theorem tw_next : ∀ (figs : List Int), (figs.takeWhile (· == 0)).length < figs.length → figs.getD (figs.takeWhile (· == 0)).length 0 ≠ 0
  | [], h => by simp at h
  | a :: r, h => by
    rw [List.takeWhile_cons] at h ⊢
    split
    · rename_i ha
      rw [if_pos ha] at h
      simpa using tw_next r (by simpa using h)
    · rename_i ha
      simpa using ha
theorem tw_le (figs : List Int) : (figs.takeWhile (· == 0)).length ≤ figs.length := by
  have := congrArg List.length (List.takeWhile_append_dropWhile (p := (· == 0)) (l := figs))
  rw [List.length_append] at this; lia
theorem tw_drop (figs : List Int) : figs.drop (figs.takeWhile (· == 0)).length = figs.dropWhile (· == 0) := by
  have := List.takeWhile_append_dropWhile (p := (· == 0)) (l := figs)
  exact (congrArg (List.drop _) this.symm).trans List.drop_left
theorem start_ne (figs : List Int) : ((figs.takeWhile (· == 0)).length : Int) ∈ ([(figs.length : Int)] ++ ((List.range figs.length).filter fun k => figs.getD k 0 != 0).map fun k => ((k : Nat) : Int)) ∧ ∀ a ∈ ([(figs.length : Int)] ++ ((List.range figs.length).filter fun k => figs.getD k 0 != 0).map fun k => ((k : Nat) : Int)), ((figs.takeWhile (· == 0)).length : Int) ≤ a := by
  have hle := tw_le figs
  refine ⟨?_, fun a ha => ?_⟩
  · by_cases h : (figs.takeWhile (· == 0)).length < figs.length
    · refine List.mem_append.mpr (.inr (List.mem_map.mpr ⟨_, List.mem_filter.mpr ⟨List.mem_range.mpr h, ?_⟩, rfl⟩))
      simpa using tw_next figs h
    · refine List.mem_append.mpr (.inl ?_)
      rw [List.mem_singleton]; lia
  · rcases List.mem_append.mp ha with q | q
    · rw [List.mem_singleton] at q; lia
    · obtain ⟨j, hj, rfl⟩ := List.mem_map.mp q
      obtain ⟨h1, h2⟩ := List.mem_filter.mp hj
      by_cases h : j < (figs.takeWhile (· == 0)).length
      · have := tw_zero figs j h
        rw [this] at h2; simp at h2
      · lia

theorem fn_word {figs : List Int} (hz : figs.length ≤ 1000) (hr : ∀ f ∈ figs, 0 ≤ f ∧ f < 64) : Fn (T0 prog w mg mb) (k + 1) (.ref 158) [iD figs] (.bytes (byteArr (word figs))) := by
  refine Fn.def' ["figures"] rfl rfl rfl rfl rfl rfl rfl (fun vals hv => by obtain ⟨a, rfl⟩ := len1 hv; rfl) rfl rfl rfl rfl rfl rfl ?_
  obtain ⟨h1, h2⟩ := start_ne figs
  refine Ex.cons (Ex1.assign (d := .int ((figs.takeWhile (· == 0)).length : Int)) (.inl (.gB rfl (.one (.bin (.list (.one (.gB rfl (.one (.name rfl)) (Fn.len_iD (by lia)))) (by simp)) (.filtI (List.range figs.length) gN (fun k => figs.getD k 0 != 0) (fun k => (k : Int)) (.gT rfl (.one (.gB rfl (.one (.name rfl)) (Fn.len_iD (by lia)))) .range1) (.up1 (by lia)) (by simp; lia) gN_inj (fun j hj => ?_) fun j hj _ => .name rfl) (.add_iD (a := [(figs.length : Int)]) ?_))) (.min_list h1 h2))) ?_)
  · have hj := List.mem_range.mp hj
    exact .cmp (.at j (.name rfl) (.name rfl) rfl hj (by lia)) .int .ne_int
  · have := List.length_filter_le (fun k => figs.getD k 0 != 0) (List.range figs.length)
    rw [List.length_range] at this
    rw [List.length_map, List.length_singleton]; lia
  · have hdl : (figs.dropWhile (· == 0)).length ≤ figs.length := by rw [← tw_drop]; simp
    refine Ex.cons (Ex1.ret (d := .bytes (byteArr (word figs))) (.inl (.gT rfl (.one (.mapI (figs.dropWhile (· == 0)) D.int (65 + ·) ((Ev.dropI (ns := figs) (.name rfl) (.name rfl) (by lia) (by lia)).to (by rw [Int.toNat_natCast, tw_drop])) .ints (by lia) int_inj fun a ha => .bin .int (.name rfl) .add_int)) (.bytes (fun n hn => ?_) (by rw [List.length_map]; lia)))) rfl)
    obtain ⟨f, hf, rfl⟩ := List.mem_map.mp hn
    have := hr f ((List.dropWhile_sublist _).subset hf)
    lia

def digitsOf (places : List Int) (width : Int) (most : Nat) : List Int := (List.range most).map fun i : Nat => ((places.filter fun p => p.fdiv width == (most : Int) - 1 - (i : Int)).map fun p => (2 : Int) ^ (p.fmod width).toNat).sum
theorem fn_digits {places : List Int} {width : Int} {most : Nat} (hz : places.length ≤ 1000) (hw : 0 < width ∧ width ≤ 20) (hm : most ≤ 20) : Fn (T0 prog w mg mb) (k + 1) (.ref 163) [iD places, .int width, .int most] (iD (digitsOf places width most)) := by
  refine Fn.def' ["places", "width", "most"] rfl rfl rfl rfl rfl rfl rfl (fun vals hv => by obtain ⟨a, b, c, rfl⟩ := len3 hv; rfl) rfl rfl rfl rfl rfl rfl ?_
  refine Ex.cons (Ex1.assign (.inl (.gT rfl (.three (.bin (.name rfl) .int .sub_int) .negOne .negOne) (.range3 (by decide) (PyProof.noPylong_small (by decide))))) ?_)
  refine Ex.cons (Ex1.ret (d := iD (digitsOf places width most)) (.inl ?_) rfl)
  refine .mapI (List.range most) (fun i : Nat => .int ((most : Int) - 1 - (i : Int))) _ (.name rfl) (.down (by lia)) (by simp; lia) (down_inj _) fun i hi => ?_
  refine .gB rfl (.one (.filtI places D.int (fun p => p.fdiv width == (most : Int) - 1 - (i : Int)) (fun p => (2 : Int) ^ (p.fmod width).toNat) (.name rfl) .ints (by lia) int_inj (fun p hp => ?_) fun p hp _ => ?_)) Fn.sum
  · exact .cmp (.bin (.name rfl) (.name rfl) (.fdiv_int (by lia) (PyProof.noPylong_small (by lia)))) (.name rfl) .eq_int
  · have h1 := Int.fmod_nonneg_of_pos p hw.1
    have h2 := Int.fmod_lt_of_pos p hw.1
    exact .bin .int (.bin (.name rfl) (.name rfl) (.fmod_int (by lia))) (.pow_int (by lia) (by lia) (by decide))

def octetsOf (digits : List Int) : List Int := (digits.take (digits.length - 1)).map (64 + ·) ++ digits.drop (digits.length - 1)
theorem fn_octets {digits : List Int} (hz : digits.length ≤ 1000) (hr : ∀ f ∈ digits, 0 ≤ f ∧ f < 64) : Fn (T0 prog w mg mb) (k + 1) (.ref 168) [iD digits] (.bytes (byteArr (octetsOf digits))) := by
  refine Fn.def' ["digits"] rfl rfl rfl rfl rfl rfl rfl (fun vals hv => by obtain ⟨a, rfl⟩ := len1 hv; rfl) rfl rfl rfl rfl rfl rfl ?_
  refine Ex.cons (Ex1.ret (d := .bytes (byteArr (octetsOf digits))) (.inl (.gT rfl (.one (.bin (.mapI (digits.take (digits.length - 1)) D.int (64 + ·) (.takeNeg (.name rfl) .negOne (by lia)) .ints (by simp; lia) int_inj fun a ha => .bin .int (.name rfl) .add_int) (.dropNeg (.name rfl) .negOne (by lia)) (.add_iD (by simp; lia)))) (.bytes (fun n hn => ?_) (by simp [octetsOf]; lia)))) rfl)
  rcases List.mem_append.mp hn with q | q
  · obtain ⟨f, hf, rfl⟩ := List.mem_map.mp q
    have := hr f (List.mem_of_mem_take hf)
    lia
  · have := hr n (List.mem_of_mem_drop q)
    lia

def colAt (size p : Int) : Int := size * (p.fdiv size + 1)
def column (places : List Int) (size : Int) : Int := (places.map (colAt size)).sum
theorem fn_column {places : List Int} {size : Int} (hz : places.length ≤ 1000) (hs : 0 < size ∧ size < 1000) : Fn (T0 prog w mg mb) (k + 1) (.ref 173) [iD places, .int size] (.int (column places size)) := by
  refine Fn.def' ["places", "size"] rfl rfl rfl rfl rfl rfl rfl (fun vals hv => by obtain ⟨a, b, rfl⟩ := len2 hv; rfl) rfl rfl rfl rfl rfl rfl ?_
  refine Ex.cons (Ex1.ret (.inl (.gB rfl (.one (.mapI places D.int (colAt size) (.name rfl) .ints (by lia) int_inj fun p hp => ?_)) Fn.sum)) rfl)
  exact .bin (.name rfl) (.bin (.bin (.name rfl) (.name rfl) (.fdiv_int (by lia) (PyProof.noPylong_small (by lia)))) .int .add_int) (.mul_int (.of_left (intBits_le_64 (by lia) (by lia))))
end
end Mine

-- E5
namespace Mine
open PySem PySem.W PyProof.Rows

section
variable {prog : Program} {w : World} {mg mb : Str → Option Value} {P : Params} {k : Nat}

def mx (ns : List Int) : Int := ns.foldl max 0
theorem foldl_max_ge : ∀ (ns : List Int) (a : Int), a ≤ ns.foldl max a ∧ (∀ n ∈ ns, n ≤ ns.foldl max a) ∧ (ns.foldl max a = a ∨ ns.foldl max a ∈ ns)
  | [], a => by simp
  | n :: r, a => by
    obtain ⟨h1, h2, h3⟩ := foldl_max_ge r (max a n)
    rw [List.foldl_cons]
    refine ⟨by lia, fun x hx => ?_, ?_⟩
    · rcases List.mem_cons.mp hx with rfl | hx
      · lia
      · exact h2 x hx
    · rcases h3 with h3 | h3
      · rw [h3]
        by_cases h : a ≤ n
        · right; rw [Int.max_eq_right h]; exact List.mem_cons_self
        · left; lia
      · exact .inr (List.mem_cons_of_mem _ h3)

abbrev Due := List (Int × Int × Int)
abbrev gT : Int × Int × Int → D := fun r => .tup [.int r.1, .int r.2.1, .int r.2.2]
abbrev dueD (ds : Due) : D := .list (ds.map gT)
def dueStep (left right : List Int) (acc : Due) (i : Nat) : Due :=
  if column right (1 + (i : Int)) ≤ column left (1 + (i : Int)) then acc ++ [(1 + (i : Int), column left (1 + (i : Int)), column right (1 + (i : Int)))] else acc
def due (left right : List Int) : Due := (List.range (mx (left ++ right) + 1).toNat).foldl (dueStep left right) []

theorem dueStep_len (left right : List Int) : ∀ (L : List Nat) (acc : Due), (L.foldl (dueStep left right) acc).length ≤ acc.length + L.length
  | [], acc => by simp
  | i :: L, acc => by
    have := dueStep_len left right L (dueStep left right acc i)
    have h2 : (dueStep left right acc i).length ≤ acc.length + 1 := by unfold dueStep; split <;> simp
    rw [List.foldl_cons, List.length_cons]; lia

theorem fn_due {left right : List Int} (hz : left.length ≤ 1000) (hz' : right.length ≤ 1000) (hl : ∀ a ∈ left, 0 ≤ a ∧ a < 900) (hr : ∀ a ∈ right, 0 ≤ a ∧ a < 900) : Fn (T0 prog w mg mb) (k + 2) (.ref 187) [iD left, iD right] (dueD (due left right)) := by
  refine Fn.def' ["left", "right"] rfl rfl rfl rfl rfl rfl rfl (fun vals hv => by obtain ⟨a, b, rfl⟩ := len2 hv; rfl) rfl rfl rfl rfl rfl rfl ?_
  obtain ⟨m1, m2, m3⟩ := foldl_max_ge (left ++ right) 0
  have hm : mx (left ++ right) < 900 := by
    unfold mx
    rcases m3 with q | q
    · rw [q]; decide
    · rcases List.mem_append.mp q with q | q
      · exact (hl _ q).2
      · exact (hr _ q).2
  have hm0 : 0 ≤ mx (left ++ right) := m1
  refine Ex.cons (Ex1.newOwn .nil (by simp) ?_)
  refine Ex.cons (Ex1.forFoldP (List.range (mx (left ++ right) + 1).toNat) (fun i : Nat => .int (1 + (i : Int))) (dueStep left right) (fun _ => [("left", iD left), ("right", iD right)]) (fun acc => some ("due", .list (acc.map gT))) []
    (.inl (.gT rfl (.two .int (.bin (.gB rfl (.one (.bin (.bin (.list (.one .int) (by simp)) (.name rfl) (.add_iD (a := [0]) (by simp; lia))) (.name rfl) (.add_iD (by simp; lia)))) (.max_list (m := mx (left ++ right)) ?_ ?_)) .int .add_int)) .range2)) ?_ (.cons rfl (.cons rfl .nil)) rfl (fun pre i post hL => ?_) ?_)
  · unfold mx
    rcases m3 with q | q
    · rw [q]; simp
    · simp only [List.mem_append] at q ⊢
      rcases q with q | q
      · exact .inl (.inr q)
      · exact .inr q
  · intro a ha
    simp only [List.mem_append, List.mem_singleton] at ha
    unfold mx
    rcases ha with (q | q) | q
    · lia
    · exact m2 a (List.mem_append.mpr (.inl q))
    · exact m2 a (List.mem_append.mpr (.inr q))
  · have := Itr.up2 (T := T0 prog w mg mb) (a := 1) (b := mx (left ++ right) + 2) (by lia) (by lia)
    rw [show (mx (left ++ right) + 2 - 1).toNat = (mx (left ++ right) + 1).toNat by lia] at this
    exact this
  · have hi : i < (mx (left ++ right) + 1).toNat := List.mem_range.mp (by rw [hL]; simp)
    have hlen := dueStep_len left right pre []
    have hpre : pre.length ≤ 1000 := by
      have := congrArg List.length hL
      rw [List.length_range, List.length_append] at this; lia
    generalize hacc : List.foldl (dueStep left right) [] pre = acc at hlen ⊢
    have hlen' : acc.length ≤ 1000 := by simpa using Nat.le_trans hlen (by simpa using hpre)
    refine Ex.cons (Ex1.assign (.inl (.gR rfl (.two (.name rfl) (.name rfl)) (fn_column hz (by lia)))) ?_)
    refine Ex.cons (Ex1.assign (.inl (.gR rfl (.two (.name rfl) (.name rfl)) (fn_column hz' (by lia)))) ?_)
    refine Ex.cons (Ex1.if_ (.inl (.cmp (.name rfl) (.name rfl) .ge_int)) (fun hb => ?_) fun hb => ?_)
    · have hb := of_decide_eq_true hb
      refine Ex.cons (Ex1.append (.tup (.three (.name rfl) (.name rfl) (.name rfl)) (by simp)) (by rw [List.length_map]; lia) ?_)
      refine Ex.nil (Ex.nil ⟨.cons rfl (.cons rfl .nil), ?_⟩)
      rw [dueStep, if_pos hb]; simp
    · have hb := of_decide_eq_false hb
      refine Ex.nil (Ex.nil ⟨.cons rfl (.cons rfl .nil), ?_⟩)
      rw [dueStep, if_neg hb]
  · exact Ex.nil (Ex.freeze (Ex.cons (Ex1.ret (.inl (.name rfl)) rfl)))

/-! Int2AP -/
def apAcc (n : Nat) (acc : List Int) : List Int := if h : n = 0 then acc else apAcc (n / 16) (((65 + n % 16 : Nat) : Int) :: acc)
termination_by n
decreasing_by lia

theorem byteArr_cons (a : Int) (l : List Int) : byteArr (a :: l) = byteArr [a] ++ byteArr l := by
  simp [byteArr]

theorem fn_int2ap {i : Int} (hi : i.natAbs < 2 ^ 20) : Fn (T0 prog w mg mb) (k + 1) (.ref 28) [.int i] (.bytes (byteArr (apAcc i.natAbs []))) := by
  refine Fn.def' ["num"] rfl rfl rfl rfl rfl rfl rfl (fun vals hv => by obtain ⟨a, rfl⟩ := len1 hv; rfl) rfl rfl rfl rfl rfl rfl ?_
  refine Ex.cons (Ex1.assign (.inl .bytes) ?_)
  refine Ex.cons (Ex1.assign (.inl .bytes) ?_)
  refine Ex.cons (Ex1.assign (d := .int (i.natAbs : Int)) (.inl ((Ev.gT rfl (.one (.gB rfl (.one (.name rfl)) .abs)) .intInt).to (by congr 1; split <;> lia))) ?_)
  refine Ex.cons (Ex1.while_ (S := Nat × List Int) (fun s => apAcc s.1 s.2 = apAcc i.natAbs [] ∧ s.2.length + s.1 ≤ i.natAbs) (fun s => s.1) (fun s => [("num", .int (s.1 : Int)), ("val", .bytes (byteArr s.2)), ("AP", .bytes (List.toArray [65, 66, 67, 68, 69, 70, 71, 72, 73, 74, 75, 76, 77, 78, 79, 80]))]) (fun _ => none) (a₀ := (i.natAbs, [])) ⟨rfl, by simp⟩ ?_ rfl fun s hs => ?_)
  · exact .cons rfl (.cons rfl (.cons rfl .nil))
  · obtain ⟨n, acc⟩ := s
    obtain ⟨h1, h2⟩ := hs
    dsimp only at h1 h2 ⊢
    refine ⟨_, .inl (.int (.name rfl)), fun hb => ?_, fun hb => ?_⟩
    · have hn : n ≠ 0 := by
        intro e; subst e; simp at hb
      have e1 : (n : Int).fdiv 16 = ((n / 16 : Nat) : Int) := by
        rw [Int.fdiv_eq_ediv_of_nonneg _ (by decide)]; rfl
      have e2 : (n : Int).fmod 16 = ((n % 16 : Nat) : Int) := by
        rw [Int.fmod_eq_emod_of_nonneg _ (by decide)]; rfl
      refine Ex.cons (Ex1.unpack2 (.gB rfl (.two (.name rfl) .int) (.divmod (by decide) (PyProof.noPylong_small (by decide)))) ?_)
      rw [e1, e2]
      have hm : n % 16 < 16 := Nat.mod_lt _ (by decide)
      refine Ex.cons (Ex1.assign (d := .bytes (byteArr (((65 + n % 16 : Nat) : Int) :: acc))) (.inl ?_) ?_)
      · refine (Ev.bin (.sliceB (.name rfl) (.some (.name rfl)) (.some (.bin (.name rfl) .int .add_int)) (by decide)) (.name rfl) (.add_bytes ?_)).to ?_
        · simp [byteArr]; lia
        · rw [byteArr_cons]
          generalize n % 16 = r at hm ⊢
          congr 2
          rcases (by lia : r = 0 ∨ r = 1 ∨ r = 2 ∨ r = 3 ∨ r = 4 ∨ r = 5 ∨ r = 6 ∨ r = 7 ∨ r = 8 ∨ r = 9 ∨ r = 10 ∨ r = 11 ∨ r = 12 ∨ r = 13 ∨ r = 14 ∨ r = 15) with rfl | rfl | rfl | rfl | rfl | rfl | rfl | rfl | rfl | rfl | rfl | rfl | rfl | rfl | rfl | rfl <;> rfl
      · refine Ex.nil ⟨(n / 16, ((65 + n % 16 : Nat) : Int) :: acc), ⟨?_, ?_⟩, by dsimp only; lia, .cons rfl (.cons rfl (.cons rfl .nil)), rfl⟩
        · dsimp only
          rw [← h1]
          conv => rhs; rw [apAcc, dif_neg hn]
        · dsimp only
          rw [List.length_cons]; lia
    · have hn : n = 0 := by
        have : ((n : Int) != 0) = false := hb
        simpa using this
      subst hn
      rw [apAcc, dif_pos rfl] at h1
      refine Ex.nil (Ex.cons (Ex1.ret (.inl (.name rfl)) ?_))
      show D.bytes _ = _
      rw [h1]
end
end Mine

-- S1
namespace Mine
open PySem PySem.W PyProof.Rows PySem.StrLaws PySem.Builtin PySem.Builtin.Str

theorem at_iff {x y : Str} (hy : y.cps.toList = [44, 32]) {k : Nat} : StrLaws.At x y x.length k → x.cps.toList[k]? = some 44 := fun h => by
  have h2 := h.2
  rw [subAt_eq, hy] at h2
  have hl : y.length = 2 := by
    have := congrArg List.length hy
    simpa [Str.length] using this
  rw [hl] at h2
  have h3 : (x.cps.toList.drop k).take 2 = [44, 32] := eq_of_beq h2
  have h4 : ((x.cps.toList.drop k).take 2)[0]? = some 44 := by rw [h3]; rfl
  simpa using h4

theorem cut_of {x y : Str} (hy : y.cps.toList = [44, 32]) : ∀ (ps : List Str) (p : Str) (a f : Nat) (cuts : List Nat), (∀ w ∈ p :: ps, 44 ∉ w.cps.toList) → a ≤ x.length → ChainG x y x.length a cuts f → (∀ k, f ≤ k → ¬ StrLaws.At x y x.length k) →
    x.cps.toList.drop a = (Str.join y (p :: ps)).cps.toList → partsFrom x y.length a cuts = p :: ps
  | [], p, a, f, cuts, hw, ha, hG, hn, e => by
    have hl : x.cps.toList.length = x.length := by simp [Str.length]
    have e' : x.cps.toList.drop a = p.cps.toList := e
    have none : ∀ k, a ≤ k → ¬ StrLaws.At x y x.length k := fun k hk hA => by
      have h1 := at_iff hy hA
      have h2 : (x.cps.toList.drop a)[k - a]? = some 44 := by rw [List.getElem?_drop, show a + (k - a) = k by lia]; exact h1
      rw [e'] at h2
      exact hw p List.mem_cons_self (List.mem_of_getElem? h2)
    cases cuts with
    | cons c r => exact (none c hG.1 hG.2.1).elim
    | nil =>
      show [strSub x a x.length] = [p]
      congr 1
      apply Str.ext'
      apply Array.toList_inj.mp
      rw [strSub_toList, e', List.take_of_length_le]
      rw [← e', List.length_drop, hl]
      exact Nat.le_refl _
  | q :: qs, p, a, f, cuts, hw, ha, hG, hn, e => by
    have hl : x.cps.toList.length = x.length := by simp [Str.length]
    have hyl : y.length = 2 := by
      have := congrArg List.length hy
      simpa [Str.length] using this
    have e' : x.cps.toList.drop a = p.cps.toList ++ ([44, 32] ++ (Str.join y (q :: qs)).cps.toList) := by
      rw [e, ← hy]
      show (p ++ y ++ Str.join y (q :: qs)).cps.toList = _
      simp only [Str.cps_append, Array.toList_append, List.append_assoc]
    have hlen := congrArg List.length e'
    simp only [List.length_drop, List.length_append, List.length_cons, List.length_nil, hl] at hlen
    generalize hn0 : p.cps.toList.length = n at hlen
    have hAt : StrLaws.At x y x.length (a + n) := by
      refine ⟨by rw [hyl]; lia, ?_⟩
      rw [subAt_eq, hy, hyl, ← List.drop_drop, e', ← hn0, List.drop_left]
      rfl
    have before : ∀ k, a ≤ k → k < a + n → ¬ StrLaws.At x y x.length k := fun k h1 h2 hA => by
      have h3 := at_iff hy hA
      have h4 : (x.cps.toList.drop a)[k - a]? = some 44 := by rw [List.getElem?_drop, show a + (k - a) = k by lia]; exact h3
      rw [e', List.getElem?_append_left (by lia)] at h4
      exact hw p List.mem_cons_self (List.mem_of_getElem? h4)
    cases cuts with
    | nil =>
      have ef : f = a := hG
      exact (hn (a + n) (by lia) hAt).elim
    | cons c r =>
      obtain ⟨h1, h2, h3, h4⟩ := hG
      have hc : c = a + n := by
        rcases Nat.lt_trichotomy c (a + n) with q | q | q
        · exact (before c h1 q h2).elim
        · exact q
        · exact (h3 (a + n) (by lia) q hAt).elim
      subst hc
      have ed : x.cps.toList.drop (a + n + y.length) = (Str.join y (q :: qs)).cps.toList := by
        rw [hyl, show a + n + 2 = a + (n + 2) by lia, ← List.drop_drop, e']
        rw [← List.append_assoc, List.drop_left' (by simp [hn0])]
      have := cut_of hy qs q (a + n + y.length) f r (fun w hw' => hw w (List.mem_cons_of_mem _ hw')) (by rw [hyl]; lia) h4 hn ed
      show strSub x a (a + n) :: partsFrom x y.length (a + n + y.length) r = _
      rw [this]
      congr 1
      apply Str.ext'
      apply Array.toList_inj.mp
      rw [strSub_toList, e', show a + n - a = n by lia, ← hn0, List.take_left]

theorem split_join {y : Str} (hy : y.cps.toList = [44, 32]) {p : Str} {ps : List Str} (hw : ∀ w ∈ p :: ps, 44 ∉ w.cps.toList) : Txt.split (Txt.join y (p :: ps)) y = p :: ps := by
  have hyl : y.length = 2 := by
    have := congrArg List.length hy
    simpa [Str.length] using this
  show Txt.split (glued y (p :: ps)) y = _
  rw [glued_eq_join]
  generalize hx : Str.join y (p :: ps) = x
  obtain ⟨f, hG, hn⟩ := occ_tight x y (by lia)
  have key := cut_of hy ps p 0 f _ hw (Nat.zero_le _) hG hn (by rw [List.drop_zero, hx])
  have hk : Str.strKind y = 1 := by
    have : y = ⟨#[44, 32]⟩ := Str.ext' (Array.toList_inj.mp hy)
    rw [this]; simp [Str.strKind]
  have hk1 : 1 ≤ Str.strKind x := by
    unfold Str.strKind
    split
    · exact Nat.le_refl _
    · split <;> decide
  unfold Txt.split
  rw [hk]
  by_cases hlt : x.length < y.length
  · rw [if_pos (by simp [hlt])]
    cases ps with
    | nil => rw [← hx]; rfl
    | cons q qs =>
      exfalso
      have := congrArg (fun s : Str => s.cps.toList.length) hx
      have e2 : (Str.join y (p :: q :: qs)).cps.toList = p.cps.toList ++ y.cps.toList ++ (Str.join y (q :: qs)).cps.toList := by
        show (p ++ y ++ Str.join y (q :: qs)).cps.toList = _
        simp only [Str.cps_append, Array.toList_append]
      simp only [e2, hy, List.length_append, List.length_cons, List.length_nil] at this
      have hl : x.cps.toList.length = x.length := by simp [Str.length]
      lia
  · rw [if_neg (by simp only [Bool.or_eq_true, decide_eq_true_eq]; lia)]
    split
    · rename_i he
      have e0 : occurrences x y 0 x.length (x.length + 1) = [] := List.isEmpty_iff.mp he
      rw [e0] at key
      rw [← key]
      show [x] = [strSub x 0 x.length]
      rw [sub_whole]
    · rw [partsBetween_eq]; exact key
end Mine

-- D15
namespace Mine
open PySem PySem.W PyProof.Rows PySem.Builtin.Str

section
variable {T : Th} {k : Nat} {sc : Scope} {σ : St} {own : Own}

theorem Ev.join {o e : Expr} {apos pos : Pos} {x : Str} {ys : List Str} (ho : Ev T k sc σ o (.str x)) (he : Ev T k sc σ e (.list (ys.map .str))) (hok : (ys.map (·.length)).sum + ys.length * x.length ≤ 1000000)
    (hb : ∀ env, attributeBase o "join" env (eval o env) = eval o env := by intro _; rfl) (hst : ∀ env, starEach [e] env = [(false, eval e env)] := by intro _; rfl) (hln : (apos.endLine == pos.line) = true := by rfl) :
    Ev T k sc σ (.Call (.Attribute o "join" apos) [e] [] pos) (.str (Txt.join x ys)) := by
  intro env M A s Q E ok r cx hl post
  refine Call_method1 (hb env) (hst env) hln (ho env M A s _ E ok r cx hl fun v h1 t1 x1 r1 => ?_)
  cases r1
  refine SB.join (he env M A _ _ E ok r (cx.keeps x1) (hl.keeps x1) fun u h2 t2 x2 r2 => ?_)
  cases r2 with
  | list ha ea la =>
    obtain ⟨l, hv, ht⟩ := strsAre_values la.strs
    refine ⟨_, l, rfl, ⟨_, ea, rfl, _, by rw [hv]⟩, ys, ht, joinOk_of (by lia), fun t' tk => ?_⟩
    exact post _ _ _ (x1.trans x2) (.str _ _)

theorem repl_strs {M : List Addr} {h : Heap} : ∀ (l : List (Str × Tok)) {ys : List Str}, l.map (·.1) = ys → RepL M h (strValues l) (ys.map .str)
  | [], _, e => by cases e; exact .nil
  | (x, t) :: r, _, e => by cases e; exact .cons (.str _ _) (repl_strs r rfl)

theorem Ev.split {o e : Expr} {apos pos : Pos} {x y : Str} (ho : Ev T k sc σ o (.str x)) (he : Ev T k sc σ e (.str y)) (hy : (y.length == 0) = false) (hx : x.length ≤ 1000000)
    (hb : ∀ env, attributeBase o "split" env (eval o env) = eval o env := by intro _; rfl) (hst : ∀ env, starEach [e] env = [(false, eval e env)] := by intro _; rfl) (hln : (apos.endLine == pos.line) = true := by rfl) :
    Ev T k sc σ (.Call (.Attribute o "split" apos) [e] [] pos) (.list ((Txt.split x y).map .str)) := by
  intro env M A s Q E ok r cx hl post
  refine Call_method1 (hb env) (hst env) hln (ho env M A s _ E ok r cx hl fun v h1 t1 x1 r1 => ?_)
  cases r1
  rename_i t
  refine ⟨"str", _, F.plainAttrs_str, F.slot_str_split, F.type_str_split, typeIs_str _ _ _, (fun _ e => nomatch e),
    method1_meets F.slot_str_split F.entry_str_split (he env M A _ _ E ok r (cx.keeps x1) (hl.keeps x1) fun u h2 t2 x2 r2 => ?_)⟩
  cases r2
  rename_i u
  have hsz : x.length ≤ sizeLine := by rw [sizeLine_eq]; lia
  have hn : (partsBetween x (occurrences x y 0 x.length (x.length + 1)) y.length).length ≤ sizeLine := by
    have := StrLaws.occ_length_le x y 0 x.length (x.length + 1)
    rw [len_partsBetween, sizeLine_eq]; lia
  have fin : ∀ (l : List (Str × Tok)) (tk : Nat), l.map (·.1) = Txt.split x y → Q (.ref h2.objs.size) { s with heap := h2.push (lObj (strValues l) 0), toks := tk } := fun l tk e => by
    exact post _ _ _ ((x1.trans x2).trans (Ext.push _ _)) (rep_push (T := T) (s := { s with heap := h2 }) ((cx.keeps x1).keeps x2) (repl_strs l e))
  refine ⟨typeIs_str _ _ _, F.args_str_split_2 _ _, ?_⟩
  cases h1 : (decide (x.length < y.length) || decide (Builtin.Str.strKind x < Builtin.Str.strKind y))
  · cases hf : (occurrences x y 0 x.length (x.length + 1)).isEmpty
    · refine ⟨_, meets_str_split_sep x y t u h1 hy hf hsz hn, ?_⟩
      show wants Q E _ { s with toks := _, heap := h2.push { cls := .type "list", data := .seq (strsFrom t2 (partsBetween x (occurrences x y 0 x.length (x.length + 1)) y.length)).toArray } }
      rw [strsFrom_eq]
      exact fin (numbered t2 _) _ ((numbered_texts _ _).trans ((if_neg (ne_true_of_eq_false h1)).trans (if_neg (ne_true_of_eq_false hf))).symm)
    · exact ⟨_, meets_str_split_not_found x y t u h1 hy hf, fin [(x, t)] _ ((if_neg (ne_true_of_eq_false h1)).trans (if_pos hf)).symm⟩
  · exact ⟨_, meets_str_split_cannot_occur x y t u h1, fin [(x, t)] _ (if_pos h1).symm⟩

theorem Ev.index {o e : Expr} {apos pos : Pos} {x : Str} {ys : List Str} {j : Nat} (ho : Ev T k sc σ o (.list (ys.map .str))) (he : Ev T k sc σ e (.str x)) (hj : ys[j]? = some x) (hno : ∀ m, m < j → ys[m]? ≠ some x) (hz : ys.length ≤ 1000000)
    (hb : ∀ env, attributeBase o "index" env (eval o env) = eval o env := by intro _; rfl) (hst : ∀ env, starEach [e] env = [(false, eval e env)] := by intro _; rfl) (hln : (apos.endLine == pos.line) = true := by rfl) :
    Ev T k sc σ (.Call (.Attribute o "index" apos) [e] [] pos) (.int j) := by
  intro env M A s Q E ok r cx hl post
  refine Call_method1 (hb env) (hst env) hln (ho env M A s _ E ok r cx hl fun v h1 t1 x1 r1 => ?_)
  cases r1 with
  | list ha ea la =>
    rename_i l vs n
    refine ⟨"list", _, F.plainAttrs_list, F.slot_list_index, F.type_list_index, ⟨_, ea, rfl⟩, (fun _ e => by cases e; exact ⟨_, ea, rfl⟩), ?_⟩
    refine P.index_list (he env M A _ _ E ok r (cx.keeps x1) (hl.keeps x1) fun u h2 t2 x2 r2 => ?_)
    cases r2
    rename_i tu
    have hlen := la.length
    rw [List.length_map] at hlen
    have hjl : j < ys.length := (List.getElem?_eq_some_iff.mp hj).1
    obtain ⟨l', hv, ht⟩ := strsAre_values la.strs
    have hvs : ∀ m (hm : m < vs.length), ∃ t, vs[m] = .str (ys[m]'(by lia)) t := fun m hm => by
      obtain ⟨d, hd, rd⟩ := la.getV (List.getElem?_eq_getElem hm)
      rw [List.getElem?_map, List.getElem?_eq_getElem (show m < ys.length by lia)] at hd
      obtain rfl : D.str (ys[m]'(by lia)) = d := by simpa using hd
      cases hq : vs[m] with
      | str z t => rw [hq] at rd; cases rd; exact ⟨t, rfl⟩
      | _ => rw [hq] at rd; cases rd
    refine ⟨vs.toArray, n, (fun y => match y with | .str z _ => z.cps.toList == x.cps.toList | _ => false), j, by simpa using (by lia : j < vs.length), x2 _ _ ea, fun y hy => ?_, by lia, ?_, fun m hm hmj => ?_, post _ _ _ (x1.trans x2) (.int _ _)⟩
    · obtain ⟨m, hm, e⟩ := List.getElem_of_mem (by simpa using hy : y ∈ vs)
      obtain ⟨t, e2⟩ := hvs m hm
      rw [← e, e2]
      exact SeqRoads2.EqGives.str _ _ _ _
    · obtain ⟨t, e2⟩ := hvs j (by lia)
      have : ys[j] = x := by
        have := (List.getElem?_eq_some_iff.mp hj).2; exact this
      simp only [List.getElem_toArray, e2, this, beq_self_eq_true]
    · have hm' : m < vs.length := by simpa using hm
      obtain ⟨t, e2⟩ := hvs m hm'
      have h3 := hno m hmj
      rw [List.getElem?_eq_getElem (show m < ys.length by lia)] at h3
      simp only [List.getElem_toArray, e2]
      have h4 : ys[m] ≠ x := by simpa using h3
      exact beq_eq_false_iff_ne.mpr fun q => h4 (Str.ext' (Array.toList_inj.mp q))
end
end Mine

-- E6
namespace Mine
open PySem PySem.W PyProof.Rows PySem.Builtin.Str

def wordsL : List Str := ["OPTIMIZED", "NEWLOCALS", "VARARGS", "VARKEYWORDS", "NESTED", "GENERATOR", "NOFREE", "COROUTINE", "ITERABLE_COROUTINE", "ASYNC_GENERATOR", "0x400", "0x800", "0x1000", "0x2000"]
def word' (i : Nat) : Str := wordsL.getD i ""
def bitN (F i : Nat) : Bool := F / 2 ^ i % 2 == 1
def bitsBelow (F i : Nat) : List Nat := (List.range i).filter (bitN F)

section
variable {prog : Program} {w : World} {mg mb : Str → Option Value} {P : Params} {k : Nat} {sc : Scope} {σ : St}

theorem hexw {i : Nat} (h : 10 ≤ i) (h' : i < 14) : baseText "0x" 16 ((2 ^ i : Nat) : Int) = word' i := by
  rcases (by lia : i = 10 ∨ i = 11 ∨ i = 12 ∨ i = 13) with rfl | rfl | rfl | rfl <;> decide

noncomputable def flagF (P : Params) : Int → Option Value := fun n => match (K0 P).lookup 29 with
  | some ⟨_, _, .dict es _, _⟩ => findBy Value.isInt es n
  | _ => none

theorem flag_map (h : Heap) (X : (K0 w.params).In h) : h.MapOf (intKind prog w) 29 (flagF w.params) := by
  refine ⟨_, _, _, X 29 _ rfl, ⟨rfl, rfl, rfl⟩, rfl, ?_, fun _ => rfl⟩
  intro e he
  simp only [List.mem_toArray, List.mem_cons, List.not_mem_nil, or_false] at he
  rcases he with rfl | rfl | rfl | rfl | rfl | rfl | rfl | rfl | rfl | rfl <;> exact ⟨_, intKind_is _ _ _ _, rfl⟩

theorem Ev.flag {i : Nat} {e1 e2 : Expr} {p apos pos : Pos} (hi : i < 14) (h1 : Ev (T0 prog w mg mb) k sc σ e1 (.int ((2 ^ i : Nat) : Int))) (h2 : Ev (T0 prog w mg mb) k sc σ e2 (.str (baseText "0x" 16 ((2 ^ i : Nat) : Int))))
    (hg : sc.names.lookup ("COMPILER_FLAG_NAMES" : Str) = some .globalImplicit := by rfl) (hst : ∀ env, starEach [e1, e2] env = [(false, eval e1 env), (false, eval e2 env)] := by intro _; rfl) (hln : (apos.endLine == pos.line) = true := by rfl) :
    Ev (T0 prog w mg mb) k sc σ (.Call (.Attribute (.Name "COMPILER_FLAG_NAMES" p) "get" apos) [e1, e2] [] pos) (.str (word' i)) := by
  intro env M A s Q E ok r cx hl post
  have hc : Callee (T0 prog w mg mb) sc "COMPILER_FLAG_NAMES" (.ref 29) := .glob hg rfl
  refine wpAny_Call_method2_late rfl hln (by rw [hst]; rfl) (hc env M A s _ E p ok cx ?_)
  have hm := flag_map (prog := prog) (w := w) s.heap cx.X
  refine ⟨"dict", "dict.get", F.plainAttrs_dict, F.slot_dict_get, F.type_dict_get, hm.typeIs, hm.noDict, ?_⟩
  refine wpAny_dict_get2 (knd := intKind prog w) rfl (h1 env M A s _ E ok r cx hl fun v h1' t1 x1 r1 => h2 env M A _ _ E ok r (cx.keeps x1) (hl.keeps x1) fun u h2' t2 x2 r2 => ?_)
  cases r1; cases r2
  rename_i t1' t2'
  refine ⟨((2 ^ i : Nat) : Int), flagF w.params, intKind_is _ _ _ _, flag_map _ ((cx.keeps x1).keeps x2).X, ?_⟩
  refine post _ _ _ (x1.trans x2) ?_
  by_cases h10 : i < 10
  · rcases (by lia : i = 0 ∨ i = 1 ∨ i = 2 ∨ i = 3 ∨ i = 4 ∨ i = 5 ∨ i = 6 ∨ i = 7 ∨ i = 8 ∨ i = 9) with rfl | rfl | rfl | rfl | rfl | rfl | rfl | rfl | rfl | rfl <;> exact .str _ _
  · rw [hexw (by lia) hi]
    rcases (by lia : i = 10 ∨ i = 11 ∨ i = 12 ∨ i = 13) with rfl | rfl | rfl | rfl <;> exact .str _ _

theorem fn_rem0 (F : Nat) : F / 2 ^ 0 * 2 ^ 0 = F := by simp
theorem fn_rem {F i : Nat} : Builtin.bitAnd ((F / 2 ^ i * 2 ^ i : Nat) : Int) ((2 ^ i : Nat) : Int) = ((F / 2 ^ i % 2 * 2 ^ i : Nat) : Int) := by
  have h := kbt_bit ((F / 2 ^ i * 2 ^ i : Nat) : Int) i
  rw [← kbt_cast] at h
  rw [h]
  have : ((F / 2 ^ i * 2 ^ i : Nat) : Int) / ((2 ^ i : Nat) : Int) = ((F / 2 ^ i : Nat) : Int) := by
    rw [← Int.natCast_ediv, Nat.mul_div_cancel _ (Nat.two_pow_pos i)]
  rw [this]; push_cast; rfl
theorem fn_step (F i : Nat) : F / 2 ^ (i + 1) * 2 ^ (i + 1) + F / 2 ^ i % 2 * 2 ^ i = F / 2 ^ i * 2 ^ i := by
  have h1 : F / 2 ^ (i + 1) = F / 2 ^ i / 2 := by rw [Nat.pow_succ, Nat.div_div_eq_div_mul]
  rw [h1, Nat.pow_succ, ← Nat.mul_assoc, Nat.mul_right_comm, ← Nat.add_mul]
  congr 1
  lia
theorem fn_xor {F i : Nat} (h : bitN F i = true) : Builtin.bitXor ((F / 2 ^ i * 2 ^ i : Nat) : Int) ((2 ^ i : Nat) : Int) = ((F / 2 ^ (i + 1) * 2 ^ (i + 1) : Nat) : Int) := by
  have hb : F / 2 ^ i % 2 = 1 := by simpa [bitN] using h
  have h1 := fn_step F i
  rw [hb, Nat.one_mul] at h1
  unfold Builtin.bitXor
  rw [bitOr_and, fn_rem, hb, Nat.one_mul]
  generalize F / 2 ^ i * 2 ^ i = x at *
  generalize F / 2 ^ (i + 1) * 2 ^ (i + 1) = y at *
  generalize 2 ^ i = z at *
  lia

theorem bitsBelow_succ (F i : Nat) : bitsBelow F (i + 1) = bitsBelow F i ++ (if bitN F i then [i] else []) := by
  unfold bitsBelow
  rw [List.range_succ, List.filter_append]
  cases h : bitN F i <;> simp [h]

def prettyW (F : Nat) : List Str := if F = 0 then ["0x0"] else (bitsBelow F 14).map word'
theorem word_len (i : Nat) : (word' i).length ≤ 20 := by
  by_cases h : i < 14
  · have : ∀ i : Fin 14, (word' i).length ≤ 20 := by decide
    exact this ⟨i, h⟩
  · unfold word'
    rw [List.getD_eq_getElem?_getD, List.getElem?_eq_none (by show 14 ≤ i; lia)]
    decide

theorem words_sum : ∀ L : List Nat, ((L.map word').map (·.length)).sum ≤ 20 * L.length
  | [] => by simp
  | i :: L => by
    have h1 := words_sum L
    have h2 := word_len i
    simp only [List.map_cons, List.sum_cons, List.length_cons]
    lia

theorem fn_pretty {F : Nat} (hF : F < 2 ^ 14) : Fn (T0 prog w mg mb) (k + 1) (.ref 36) [.int F] (.str (Txt.join ", " (prettyW F))) := by
  refine Fn.def' ["flags"] rfl rfl rfl rfl rfl rfl rfl (fun vals hv => by obtain ⟨a, rfl⟩ := len1 hv; rfl) rfl rfl rfl rfl rfl rfl ?_
  refine Ex.cons (Ex1.newOwn .nil (by simp) ?_)
  refine Ex.cons (Ex1.for_ (S := Nat) (ds := (List.range 32).map gN) (fun i s => s = i ∧ (F = 0 ∨ 2 ^ i ≤ F)) (fun s => [("flags", .int ((F / 2 ^ s * 2 ^ s : Nat) : Int))]) (fun s => some ("names", .list (((bitsBelow F s).map word').map .str))) (a₀ := 0)
    (.inl (.gT rfl (.one .int) .range1)) (.up1 (by decide)) ⟨rfl, by lia⟩ ?_ rfl (fun i s d hd hJ => ?_) fun s hJ => ?_)
  · exact .cons (by rw [fn_rem0]; rfl) .nil
  · rw [List.getElem?_map] at hd
    obtain ⟨j, hj, rfl⟩ := Option.map_eq_some_iff.mp hd
    obtain ⟨rfl, hJ⟩ := hJ
    have hi : s < 32 ∧ j = s := by
      have h1 := (List.getElem?_eq_some_iff.mp hj)
      obtain ⟨h2, h3⟩ := h1
      rw [List.length_range] at h2
      rw [List.getElem_range] at h3
      exact ⟨h2, h3.symm⟩
    obtain ⟨hs, rfl⟩ := hi
    have hlen : (((bitsBelow F j).map word').map D.str).length ≤ 1000 := by
      rw [List.length_map, List.length_map]
      have := List.length_filter_le (bitN F) (List.range j)
      rw [List.length_range] at this
      exact Nat.le_trans this (by lia)
    refine Ex.cons (Ex1.assign (d := .int ((2 ^ j : Nat) : Int)) (.inl ((Ev.bin .int (.name rfl) (.shl_int (by lia) (by lia) (by decide))).to (by rw [Int.toNat_natCast, Int.one_mul, kbt_cast]))) ?_)
    refine Ex.cons (Ex1.if_ (b := bitN F j) (.inl ((Tr.int (.bin (.name rfl) (.name rfl) .and_int)).to ?_)) (fun hb => ?_) fun hb => ?_)
    · rw [fn_rem]
      unfold bitN
      have h2 := Nat.two_pow_pos j
      rcases Nat.mod_two_eq_zero_or_one (F / 2 ^ j) with q | q
      · rw [q]; simp
      · rw [q]; simp
        first | exact Nat.ne_of_gt h2 | exact Int.ne_of_gt (Int.pow_pos (by decide))
    · have hj14 : j < 14 := by
        rcases Nat.lt_or_ge j 14 with q | q
        · exact q
        · have h2 : F / 2 ^ j = 0 := Nat.div_eq_of_lt (Nat.lt_of_lt_of_le hF (Nat.pow_le_pow_right (by decide) q))
          rw [bitN, h2] at hb; simp at hb
      refine Ex.cons (Ex1.append (.flag hj14 (.name rfl) (.gB rfl (.one (.name rfl)) (.hex ?_))) (by lia) ?_)
      · have : ∀ j : Fin 14, (baseText "0x" 16 ((2 ^ j.val : Nat) : Int)).length ≤ 1000 := by decide
        exact this ⟨j, hj14⟩
      · refine Ex.cons (Ex1.aug rfl (.name rfl) .xor_int ?_)
        rw [fn_xor hb]
        have hown : (some (("names" : Str), OD.list (((bitsBelow F j).map word').map D.str ++ [D.str (word' j)])) : Own) = some (("names" : Str), OD.list (((bitsBelow F (j + 1)).map word').map D.str)) := by
          rw [bitsBelow_succ, hb]; simp
        refine Ex.cons (Ex1.if_ (.inl (.not (.int (.name rfl)))) (fun hz => ?_) fun hz => ?_)
        · have hz0 : F / 2 ^ (j + 1) = 0 := by
            have h3 : ((F / 2 ^ (j + 1) * 2 ^ (j + 1) : Nat) : Int) = 0 := by simpa using hz
            have h4 : F / 2 ^ (j + 1) * 2 ^ (j + 1) = 0 := by lia
            rcases Nat.mul_eq_zero.mp h4 with q | q
            · exact q
            · have := Nat.two_pow_pos (j + 1); lia
          have hFne : F ≠ 0 := by
            intro e; rw [e, bitN] at hb; simp at hb
          have hall : bitsBelow F 14 = bitsBelow F (j + 1) := by
            have : ∀ n, bitsBelow F (j + 1 + n) = bitsBelow F (j + 1) := fun n => by
              induction n with
              | zero => rfl
              | succ n ih =>
                have h5 : bitN F (j + 1 + n) = false := by
                  have : F / 2 ^ (j + 1 + n) = 0 := by rw [Nat.pow_add, ← Nat.div_div_eq_div_mul, hz0, Nat.zero_div]
                  rw [bitN, this]; rfl
                rw [← Nat.add_assoc, bitsBelow_succ, h5, ih]; simp
            have h6 := this (13 - j)
            rw [show j + 1 + (13 - j) = 14 by lia] at h6
            exact h6
          refine Ex.cons (Ex1.brk ?_)
          show Ex _ _ _ _ _ _ _
          rw [hown]
          refine Ex.freeze (Ex.cons (Ex1.ret (.inl (.join .str (.name rfl) ?_)) ?_))
          · have h7 := words_sum (bitsBelow F (j + 1))
            have h8 := List.length_filter_le (bitN F) (List.range (j + 1))
            rw [List.length_range] at h8
            have h9 : (bitsBelow F (j + 1)).length ≤ j + 1 := h8
            rw [List.length_map]
            show _ + _ * 2 ≤ _
            lia
          · show D.str _ = _
            rw [prettyW, if_neg hFne, hall]
        · refine Ex.nil (Ex.nil (Ex.nil ⟨j + 1, ⟨rfl, ?_⟩, .cons rfl .nil, hown⟩))
          right
          have h3 : ((F / 2 ^ (j + 1) * 2 ^ (j + 1) : Nat) : Int) ≠ 0 := by simpa using hz
          have h4 : F / 2 ^ (j + 1) ≠ 0 := fun q => h3 (by rw [q]; simp)
          rcases Nat.lt_or_ge F (2 ^ (j + 1)) with q | q
          · exact (h4 (Nat.div_eq_of_lt q)).elim
          · exact q
    · refine Ex.nil (Ex.nil ⟨j + 1, ⟨rfl, ?_⟩, .cons ?_ .nil, ?_⟩)
      · rcases hJ with q | q
        · exact .inl q
        · right
          have hb2 : F / 2 ^ j % 2 = 0 := by
            rcases Nat.mod_two_eq_zero_or_one (F / 2 ^ j) with z | z
            · exact z
            · rw [bitN, z] at hb; simp at hb
          have h5 : 1 ≤ F / 2 ^ j := (Nat.le_div_iff_mul_le (Nat.two_pow_pos j)).mpr (by lia)
          have h6 : 2 ≤ F / 2 ^ j := by lia
          have := (Nat.le_div_iff_mul_le (Nat.two_pow_pos j)).mp h6
          rw [Nat.pow_succ]; lia
      · have hb2 : F / 2 ^ j % 2 = 0 := by
          rcases Nat.mod_two_eq_zero_or_one (F / 2 ^ j) with z | z
          · exact z
          · rw [bitN, z] at hb; simp at hb
        have h1 := fn_step F j
        rw [hb2, Nat.zero_mul, Nat.add_zero] at h1
        rw [h1]; rfl
      · rw [bitsBelow_succ, hb]; simp
  · obtain ⟨rfl, hJ⟩ := hJ
    rw [List.length_map, List.length_range] at hJ ⊢
    have hF0 : F = 0 := by
      rcases hJ with q | q
      · exact q
      · have : (2 : Nat) ^ 14 ≤ 2 ^ 32 := by decide
        lia
    subst hF0
    refine Ex.cons (Ex1.append (d := .str "0x0") ((Ev.gB rfl (.one (.name rfl)) (.hex (by decide))).to (by congr 1)) (by decide) ?_)
    refine Ex.nil (Ex.freeze (Ex.cons (Ex1.ret (.inl (.join (ys := ["0x0"]) .str (.name rfl) (by decide))) ?_)))
    rfl
end
end Mine

-- D16
namespace Mine
open PySem PySem.W PyProof.Rows PySem.Builtin.Str

section
variable {T : Th} {k : Nat} {sc : Scope} {σ : St} {Φ : Out → Prop}

theorem Ex1.extend {x : Str} {p apos pos pos' : Pos} {e : Expr} {ds ds' : List D} (he : Ev T k sc σ e (.list ds')) (hz : ds.length + ds'.length ≤ 1000000) (h : Φ (.next σ (some (x, .list (ds ++ ds'))))) (hline : (apos.endLine == pos.line) = true := by rfl)
    (hst : ∀ env, starEach [e] env = [(false, eval e env)] := by intro _; rfl) (hd : (x == ("__debug__" : Str)) = false := by decide) :
    Ex1 T k sc σ (some (x, .list ds)) (.Expr (.Call (.Attribute (.Name x p) "extend" apos) [e] [] pos) pos') Φ := by
  intro env M₀ oa A s Q E ok fo r si post
  refine wpAny_Expr_any ?_ (no_interactive ok) rfl
  cases oa with
  | none => obtain ⟨_, _, _, _, _, ow, _⟩ := si.ex; exact ow.elim
  | some a =>
  obtain ⟨m, cm, fm, cx, dj, ow, hl⟩ := si.ex
  obtain ⟨o1, o3, o4, vs, n, e5, r5⟩ := ow
  refine Call_method1 rfl (hst env) hline (wpAny_Name (o1.load fm fo ok ?_) hd)
  refine ⟨"list", _, F.plainAttrs_list, F.slot_list_extend, F.type_list_extend, ⟨_, e5, rfl⟩, (fun _ e => by cases e; exact ⟨_, e5, rfl⟩), ?_⟩
  refine P.extend_list (he env _ A s _ E ok r si.cx (si.holds fo) fun v h1 t1 x1 r1 => ?_)
  cases r1 with
  | list hb eb lb =>
    rename_i b vs2 n2
    have si1 := si.keeps x1
    have e1 := x1 _ _ e5
    have l1 := r5.length
    have l2 := lb.length
    refine ⟨b, vs.toArray, vs2.toArray, n, n2, by rw [List.size_toArray, sizeLine_eq]; lia, by rw [List.size_toArray, List.size_toArray, sizeLine_eq]; lia, ?_, rfl, e1, eb, ?_⟩
    · have : Builtin.List.listTooLong (vs.toArray.size + vs2.toArray.size) = false := by
        unfold Builtin.List.listTooLong
        rw [List.size_toArray, List.size_toArray]
        simp only [decide_eq_false_iff_not]
        rw [sizeLine_eq]; lia
      rw [this]; simp
    · have e2 : (h1.update a (Obj.mapSeq fun xs => xs ++ vs2.toArray)).get? a = some (Obj.mapSeq (fun xs => xs ++ vs2.toArray) (lObj vs n)) := Heap.get?_update_self _ e1 rfl
      have e3 := mapSeq_app vs.toArray vs2.toArray n none #[]
      have sb : Heap.SameBut a h1 (h1.update a (Obj.mapSeq fun xs => xs ++ vs2.toArray)) := Heap.SameBut.update ..
      rw [List.append_toArray] at e3
      have rr : RepL (mm (some a) env M₀) h1 (vs ++ vs2) (ds ++ ds') := (r5.keeps x1).append lb
      refine post _ h (some a) _ t1 (si1.owned sb (e2.trans (congrArg some e3)) rr) (fun b o hb hb' e => sb.extBut b o (fun q => hb' (by rw [q])) (x1 b o e)) (fun c ec => ⟨?_, .inl ec⟩)
      cases ec; exact o4
end
end Mine

-- E7
namespace Mine
open PySem PySem.W PyProof.Rows PySem.Builtin.Str

section
variable {prog : Program} {w : World} {mg mb : Str → Option Value} {P : Params} {k : Nat}

def plN (F : Nat) : List Int := (bitsBelow F 14).map fun i => ((i : Nat) : Int)

theorem words_no_comma : ∀ i : Fin 14, (44 : Nat) ∉ (word' i).cps.toList := by decide
theorem words_ne : ∀ i : Fin 14, word' i ≠ "0x0" := by decide
theorem words_at : ∀ i : Fin 14, wordsL[i.val]? = some (word' i) := by decide
theorem words_first : ∀ i : Fin 14, ∀ m : Fin 14, m.val < i.val → wordsL[m.val]? ≠ some (word' i) := by decide
theorem words_idx : ∀ i : Fin 14, wordsL.idxOf (word' i) = i.val := by decide
theorem words_any : ∀ i : Fin 14, wordsL.any (· == word' i) = true := by decide

theorem bits_lt {F i : Nat} (h : i ∈ bitsBelow F 14) : i < 14 := List.mem_range.mp (List.mem_filter.mp h).1
theorem bits_nil {F : Nat} (hF : F < 2 ^ 14) (h : bitsBelow F 14 = []) : F = 0 := by
  apply Nat.eq_of_testBit_eq
  intro i
  rw [Nat.zero_testBit]
  by_cases hi : i < 14
  · cases hb : F.testBit i with
    | false => rfl
    | true =>
      have : i ∈ bitsBelow F 14 := List.mem_filter.mpr ⟨List.mem_range.mpr hi, by
        unfold bitN
        rw [Nat.testBit_eq_decide_div_mod_eq] at hb
        simpa using hb⟩
      rw [h] at this; cases this
  · exact Nat.testBit_lt_two_pow (Nat.lt_of_lt_of_le hF (Nat.pow_le_pow_right (by decide) (by lia)))

theorem split_pretty {F : Nat} (hF : F < 2 ^ 14) (h0 : F ≠ 0) : Txt.split (Txt.join ", " (prettyW F)) ", " = (bitsBelow F 14).map word' := by
  rw [prettyW, if_neg h0]
  cases hL : bitsBelow F 14 with
  | nil => exact (h0 (bits_nil hF hL)).elim
  | cons i r =>
    rw [List.map_cons]
    refine split_join rfl fun x hx => ?_
    have hx' : x ∈ (bitsBelow F 14).map word' := by rw [hL]; exact hx
    obtain ⟨j, hj, rfl⟩ := List.mem_map.mp hx'
    exact words_no_comma ⟨j, bits_lt hj⟩

theorem pretty_ne {F : Nat} (hF : F < 2 ^ 14) (h0 : F ≠ 0) : Txt.join ", " (prettyW F) ≠ "0x0" := by
  intro e
  have h1 := split_pretty hF h0
  rw [e] at h1
  have h2 : Txt.split ("0x0" : Str) ", " = [("0x0" : Str)] := split_join (y := ", ") (p := "0x0") (ps := []) rfl (by decide)
  rw [h2] at h1
  have h3 : ("0x0" : Str) ∈ (bitsBelow F 14).map word' := by rw [← h1]; exact List.mem_cons_self
  obtain ⟨j, hj, h4⟩ := List.mem_map.mp h3
  exact words_ne ⟨j, bits_lt hj⟩ h4

theorem pretty_len {F : Nat} (hF : F < 2 ^ 14) (h0 : F ≠ 0) : (Txt.join ", " (prettyW F)).length ≤ 1000 := by
  have h1 := StrLaws.join_length_le ", " (prettyW F)
  have e : Txt.join ", " (prettyW F) = Str.join ", " (prettyW F) := StrLaws.glued_eq_join ..
  rw [e]
  rw [prettyW, if_neg h0] at h1 ⊢
  have h2 := words_sum (bitsBelow F 14)
  have h8 := List.length_filter_le (bitN F) (List.range 14)
  rw [List.length_range] at h8
  have h9 : (bitsBelow F 14).length ≤ 14 := h8
  rw [List.length_map] at h1
  have h3 : (", " : Str).length = 2 := rfl
  rw [h3] at h1
  lia

set_option maxHeartbeats 4000000 in
theorem fn_words {F : Nat} (hF : F < 2 ^ 14) : Fn (T0 prog w mg mb) (k + 2) (.ref 128) [.int F] (iD (plN F)) := by
  refine Fn.def' ["number"] rfl rfl rfl rfl rfl rfl rfl (fun vals hv => by obtain ⟨a, rfl⟩ := len1 hv; rfl) rfl rfl rfl rfl rfl rfl ?_
  refine Ex.cons (Ex1.newOwn (.cons .str (.cons .str (.cons .str (.cons .str (.cons .str (.cons .str (.cons .str (.cons .str .nil)))))))) (by simp) ?_)
  refine Ex.cons (Ex1.extend (.list (.cons .str (.cons .str (.cons .str (.cons .str (.cons .str (.cons .str .nil)))))) (by simp)) (by simp) ?_)
  refine Ex.freeze ?_
  refine Ex.cons (Ex1.assign (.inl (.gR rfl (.one (.name rfl)) (fn_pretty hF))) ?_)
  refine Ex.cons (Ex1.if_ (.inl (.cmp (.name rfl) .str .eq_str)) (fun hb => ?_) fun hb => ?_)
  · have h0 : F = 0 := by
      by_cases h0 : F = 0
      · exact h0
      · exact (pretty_ne hF h0 (by simpa using hb)).elim
    subst h0
    exact Ex.cons (Ex1.ret (.inl (.list .nil (by simp))) rfl)
  · have h0 : F ≠ 0 := by
      intro e; subst e
      exact absurd hb (by decide)
    have hs := split_pretty hF h0
    have hlen : ((bitsBelow F 14).map word').length ≤ 14 := by
      rw [List.length_map]
      have h8 := List.length_filter_le (bitN F) (List.range 14)
      rw [List.length_range] at h8
      exact h8
    refine Ex.nil (Ex.cons (Ex1.ret (d := iD (plN F)) (.inl ((Ev.mapI ((bitsBelow F 14).map word') D.str (fun x => (wordsL.idxOf x : Int)) (.split (.name rfl) .str rfl (by have := pretty_len hF h0; lia)) ?_ (by lia) (fun a b h => by injection h) fun x hx => ?_).to ?_)) rfl))
    · rw [hs]; exact .list
    · obtain ⟨i, hi, rfl⟩ := List.mem_map.mp hx
      have hi := bits_lt hi
      refine (Ev.ite (.cmp (.name rfl) (.name rfl) (.in_strs (ys := wordsL))) (fun _ => .index (ys := wordsL) (j := i) (.name rfl) (.name rfl) (words_at ⟨i, hi⟩) (fun m hm => words_first ⟨i, hi⟩ ⟨m, by lia⟩ hm) (by decide)) fun _ => .int).to ?_
      rw [words_any ⟨i, hi⟩, words_idx ⟨i, hi⟩]; rfl
    · have e : ((bitsBelow F 14).map word').map (fun x => (wordsL.idxOf x : Int)) = plN F := by
        rw [List.map_map]
        refine List.map_congr_left fun i hi => ?_
        show (wordsL.idxOf (word' i) : Int) = _
        rw [words_idx ⟨i, bits_lt hi⟩]
      rw [e]
end
end Mine

-- E8
namespace Mine
open PySem PySem.W PyProof.Rows PySem.Builtin.Str

section
variable {prog : Program} {w : World} {mg mb : Str → Option Value} {P : Params} {k : Nat}

def sp (n : Nat) : Str := ⟨(List.replicate n 32).toArray⟩
def segS (p : Nat) : List Nat := List.replicate p 32 ++ [9]
def leadL (ps : List Nat) (behind : Nat) : List Nat := ps.flatMap segS ++ List.replicate behind 32
def leadS (ps : List Nat) (behind : Nat) : Str := ⟨(leadL ps behind).toArray⟩

theorem mul_sp_aux (n : Nat) : ∀ acc : List Nat, ((List.replicate n (#[32] : Array Nat)).foldl (· ++ ·) acc.toArray) = (acc ++ List.replicate n 32).toArray := by
  induction n with
  | zero => intro acc; simp
  | succ n ih =>
    intro acc
    rw [List.replicate_succ, List.foldl_cons]
    have : acc.toArray ++ (#[32] : Array Nat) = (acc ++ [32]).toArray := by simp
    rw [this, ih, List.replicate_succ]
    simp
theorem mul_sp (n : Nat) : Txt.mul " " (n : Int) = sp n := by
  unfold Txt.mul
  by_cases h0 : n = 0
  · subst h0; rfl
  · rw [if_neg (by lia)]
    by_cases h1 : n = 1
    · subst h1; rfl
    · rw [if_neg (by
        simp only [Bool.or_eq_true, beq_iff_eq]
        intro q
        rcases q with q | q
        · lia
        · exact absurd q (by decide))]
      have := mul_sp_aux n []
      simp only [List.nil_append] at this
      unfold sp
      rw [← this]; rfl
theorem mulOk_sp {n : Nat} (hn : n ≤ 1000) : MulOk " " (n : Int) := by
  refine ⟨by simp; lia, fun h _ => ?_, fun h _ => ?_⟩
  · have h1 : ((" " : Str).length : Int) = 1 := rfl
    rw [h1]
    have : (1 : Int) ≤ (2 ^ 63 - 1) / (n : Int) := (Int.le_ediv_iff_mul_le (by lia)).mpr (by lia)
    lia
  · have h1 : (" " : Str).length = 1 := rfl
    rw [h1]
    unfold tooLong
    simp only [decide_eq_false_iff_not]
    rw [sizeLine_eq]; lia

theorem join_empty : ∀ ys : List Str, (Str.join "" ys).cps.toList = ys.flatMap fun y => y.cps.toList
  | [] => rfl
  | [x] => by simp [Str.join]
  | x :: y :: r => by
    show (x ++ "" ++ Str.join "" (y :: r)).cps.toList = _
    have h := join_empty (y :: r)
    simp only [Str.cps_append, Array.toList_append, h]
    simp only [List.flatMap_cons, show ("" : Str).cps.toList = [] from rfl, List.append_nil]

theorem sum_const {α : Type} (f : α → Nat) (c : Nat) : ∀ L : List α, (∀ a ∈ L, f a ≤ c) → (L.map f).sum ≤ c * L.length
  | [], _ => by simp
  | a :: L, h => by
    have h1 := sum_const f c L fun b hb => h b (List.mem_cons_of_mem _ hb)
    have h2 := h a List.mem_cons_self
    simp only [List.map_cons, List.sum_cons, List.length_cons, Nat.mul_add, Nat.mul_one]
    lia
theorem leadL_len (ps : List Nat) (hps : ∀ p ∈ ps, p ≤ 100) (b : Nat) : (leadL ps b).length ≤ 101 * ps.length + b := by
  have := sum_const (fun p => (segS p).length) 101 ps (fun p hp => by have := hps p hp; simp [segS]; lia)
  simp only [leadL, List.length_append, List.length_flatMap, List.length_replicate]
  exact Nat.add_le_add_right this b

theorem join_segs (ps : List Nat) : (Txt.join "" (ps.map fun p => (⟨(segS p).toArray⟩ : Str))).cps.toList = ps.flatMap segS := by
  have e : Txt.join "" (ps.map fun p => (⟨(segS p).toArray⟩ : Str)) = Str.join "" (ps.map fun p => (⟨(segS p).toArray⟩ : Str)) := StrLaws.glued_eq_join ..
  rw [e, join_empty, List.flatMap_map]

theorem fn_lead {ps : List Nat} {behind : Nat} (hz : ps.length ≤ 100) (hps : ∀ p ∈ ps, p ≤ 100) (hb : behind ≤ 100) : Fn (T0 prog w mg mb) (k + 1) (.ref 133) [iD (ps.map fun p => ((p : Nat) : Int)), .int behind] (.str (leadS ps behind)) := by
  refine Fn.def' ["places", "behind"] rfl rfl rfl rfl rfl rfl rfl (fun vals hv => by obtain ⟨a, b, rfl⟩ := len2 hv; rfl) rfl rfl rfl rfl rfl rfl ?_
  have hseg : ∀ p : Nat, ((⟨(segS p).toArray⟩ : Str)) = sp p ++ "\t" := fun p => Str.ext' (Array.toList_inj.mp (by simp [segS, sp, Str.cps_append]; rfl))
  have hlen : ∀ p : Nat, (sp p).length = p := fun p => by simp [sp, Str.length]
  refine Ex.cons (Ex1.ret (d := .str (leadS ps behind)) (.inl ((Ev.bin (.join (ys := ps.map fun p => ⟨(segS p).toArray⟩) .str ((Ev.mapM ps gN (fun p => .str ⟨(segS p).toArray⟩) (.name rfl) ?_ (by lia) gN_inj fun p hp => ?_).to (by rw [List.map_map]; rfl)) ?_) (.bin .str (.name rfl) (.mul_str (mulOk_sp (by lia)))) (.add_str ?_)).to ?_)) rfl)
  · have := Itr.ints (T := T0 prog w mg mb) (ns := ps.map fun p => ((p : Nat) : Int))
    rw [List.map_map] at this
    exact this
  · have := hps p hp
    refine (Ev.bin (.bin .str (.name rfl) (.mul_str (mulOk_sp (by lia)))) .str (.add_str ?_)).to ?_
    · rw [mul_sp, hlen, sizeLine_eq]; show p + 1 ≤ _; lia
    · rw [mul_sp, hseg]
  · rw [List.map_map]
    have := sum_const (fun p => (⟨(segS p).toArray⟩ : Str).length) 101 ps (fun p hp => by have := hps p hp; simp [segS, Str.length]; lia)
    have e : ((fun x : Str => x.length) ∘ fun p => (⟨(segS p).toArray⟩ : Str)) = fun p => (⟨(segS p).toArray⟩ : Str).length := rfl
    rw [e, List.length_map, show ("" : Str).length = 0 from rfl]
    lia
  · rw [mul_sp, hlen]
    have h1 : (Txt.join "" (ps.map fun p => (⟨(segS p).toArray⟩ : Str))).length = (ps.flatMap segS).length := by
      have := congrArg List.length (join_segs ps)
      simpa [Str.length] using this
    have h2 := leadL_len ps hps 0
    simp only [leadL, List.length_append, List.length_replicate] at h2
    rw [h1, sizeLine_eq]; lia
  · rw [mul_sp]
    congr 1
    apply Str.ext'
    apply Array.toList_inj.mp
    rw [Str.cps_append, Array.toList_append, join_segs]
    rfl
end
end Mine

-- W1
namespace Mine
open PySem PySem.W PyProof.Rows

section
variable {prog : Program} {w : World} {mg mb : Str → Option Value} {P : Params} {k : Nat} {sc : Scope} {σ : St} {own : Own} {Φ : Out → Prop}

theorem inst_at {h : Heap} {a dx : Addr} {es : List DictEntry} {ep : Nat} (e1 : h.get? a = some (instObj wsC dx)) (e2 : h.get? dx = some (dictOf es ep)) : InstAt h a (instObj wsC dx) wsC (some (dictOf es ep)) := ⟨e1, rfl, rfl, e2⟩

theorem Ev.raw {x : Str} {p pos : Pos} {d : Ws} (he : Ev (T0 prog w mg mb) k sc σ (.Name x p) (.ws d)) : Ev (T0 prog w mg mb) k sc σ (.Attribute (.Name x p) "raw" pos) (.str d.raw) := by
  intro env M A s Q E ok r cx hl post
  refine Attribute_Name_ (he env M A s _ E ok r cx hl fun v h1 t1 x1 r1 => ?_)
  cases r1 with
  | ws hx hdx ex edx rn => exact get_value (cx.keeps x1).X (inst_at ex edx) rfl rfl rfl (post _ _ _ x1 (.str _ _))
theorem Ev.n {x : Str} {p pos : Pos} {d : Ws} (he : Ev (T0 prog w mg mb) k sc σ (.Name x p) (.ws d)) : Ev (T0 prog w mg mb) k sc σ (.Attribute (.Name x p) "n" pos) (.int d.n) := by
  intro env M A s Q E ok r cx hl post
  refine Attribute_Name_ (he env M A s _ E ok r cx hl fun v h1 t1 x1 r1 => ?_)
  cases r1 with
  | ws hx hdx ex edx rn => exact get_value (cx.keeps x1).X (inst_at ex edx) rfl rfl rfl (post _ _ _ x1 (.int _ _))
theorem Ev.nt {x : Str} {p pos : Pos} {d : Ws} (he : Ev (T0 prog w mg mb) k sc σ (.Name x p) (.ws d)) : Ev (T0 prog w mg mb) k sc σ (.Attribute (.Name x p) "nt" pos) (.int d.nt) := by
  intro env M A s Q E ok r cx hl post
  refine Attribute_Name_ (he env M A s _ E ok r cx hl fun v h1 t1 x1 r1 => ?_)
  cases r1 with
  | ws hx hdx ex edx rn => exact get_value (cx.keeps x1).X (inst_at ex edx) rfl rfl rfl (post _ _ _ x1 (.int _ _))
theorem Ev.simple {x : Str} {p pos : Pos} {d : Ws} (he : Ev (T0 prog w mg mb) k sc σ (.Name x p) (.ws d)) : Ev (T0 prog w mg mb) k sc σ (.Attribute (.Name x p) "is_simple" pos) (.bool d.simple) := by
  intro env M A s Q E ok r cx hl post
  refine Attribute_Name_ (he env M A s _ E ok r cx hl fun v h1 t1 x1 r1 => ?_)
  cases r1 with
  | ws hx hdx ex edx rn => exact get_value (cx.keeps x1).X (inst_at ex edx) rfl rfl rfl (post _ _ _ x1 (.bool _))
theorem Ev.norm {x : Str} {p pos : Pos} {d : Ws} (he : Ev (T0 prog w mg mb) k sc σ (.Name x p) (.ws d)) : Ev (T0 prog w mg mb) k sc σ (.Attribute (.Name x p) "norm" pos) (normD d) := by
  intro env M A s Q E ok r cx hl post
  refine Attribute_Name_ (he env M A s _ E ok r cx hl fun v h1 t1 x1 r1 => ?_)
  cases r1 with
  | ws hx hdx ex edx rn =>
    rename_i vn ep
    have hh : handedIn vn = true := by cases rn; rfl
    exact get_value (cx.keeps x1).X (inst_at ex edx) rfl rfl hh (post _ _ _ x1 rn)

/-- a method call on an object -/
def Method (w : World) (name : Str) (f : Addr) : Prop :=
  findIn (K0 w.params) (.ref wsC) name = some (some (.ref f)) ∧
  (∀ h1 h2 h3 h4 h5 t1 t2 t3 t4 t5 v1 v2 v3 v4 v5 ep, shadowIn (some (dictOf [⟨h1, .str "raw" t1, v1⟩, ⟨h2, .str "n" t2, v2⟩, ⟨h3, .str "nt" t3, v3⟩, ⟨h4, .str "norm" t4, v4⟩, ⟨h5, .str "is_simple" t5, v5⟩] ep)) name = some false) ∧
  typeIn (K0 w.params) (.ref f) = some (.type "function") ∧ keepIn (K0 w.params) (.ref f) = true
theorem meth_core {x name : Str} {p apos pos : Pos} {d : Ws} {f : Addr} {es : List Expr} {env : Env} {M : List Addr} {A : Around} {s : Shared} {Q : Value → Shared → Prop} {E : Value → Shared → Prop} (he : Ev (T0 prog w mg mb) k sc σ (.Name x p) (.ws d)) (hm : Method w name f)
    (ok : EnvOk sc env) (rm : Room k A) (cx : Cx (T0 prog w mg mb) M s.heap) (hl : Holds M s.heap env σ) (hln : (apos.endLine == pos.line) = true)
    (hfew : methodCallForm (es.length + ([] : List Keyword).length) (backTo pos (starEach es env)) (backToKw pos (keywordEach [] env)) = true)
    (h : ∀ v h1 t1, Ext s.heap h1 → Rep M h1 v (.ws d) → W (T0 prog w mg mb) A (callWith pos (.ref f) [v] (backTo pos (starEach es env)) []) Q E { s with heap := h1, toks := t1 }) :
    W (T0 prog w mg mb) A (eval (.Call (.Attribute (.Name x p) name apos) es [] pos) env) Q E s := by
  obtain ⟨hf, hsh, ht, hk⟩ := hm
  rw [arm_eval_Call]
  refine wpAny_bind (he env M A s _ E ok rm cx hl fun v h1 t1 x1 r1 => ?_)
  have r1' := r1
  cases r1 with
  | ws hx hdx ex edx rn =>
    have cx1 := cx.keeps x1
    refine wpAny_bind (wpAny_standAt ?_)
    have hpos : methodCallPos true (.Name x p) env apos pos = pure pos := by unfold methodCallPos; simp [hln]
    unfold methodCall
    rw [hfew]
    refine wpAny_bind (wpAny_holding (method_fn cx1.X (inst_at ex edx) rfl rfl hf ht (hsh ..) ?_))
    exact wpAny_bind (wpAny_of_eq hpos (h _ h1 t1 x1 r1'))
theorem Ev.meth0 {x name : Str} {p apos pos : Pos} {d : Ws} {f : Addr} {r : D} (he : Ev (T0 prog w mg mb) k sc σ (.Name x p) (.ws d)) (hc : Fn (T0 prog w mg mb) k (.ref f) [.ws d] r) (hm : Method w name f) (hln : (apos.endLine == pos.line) = true := by rfl) :
    Ev (T0 prog w mg mb) k sc σ (.Call (.Attribute (.Name x p) name apos) [] [] pos) r := by
  intro env M A s Q E ok rm cx hl post
  refine meth_core he hm ok rm cx hl hln rfl fun v h1 t1 x1 r1 => ?_
  refine callWith_K0 (cx.keeps x1).X hm.2.2.2 (hc M A _ _ Q E rm (cx.keeps x1) (.cons r1 .nil) fun z h3 t3 x3 r3 => post z h3 t3 (x1.trans x3) r3)
theorem Ev.meth1 {x name : Str} {p apos pos : Pos} {d : Ws} {f : Addr} {e : Expr} {d' r : D} (he : Ev (T0 prog w mg mb) k sc σ (.Name x p) (.ws d)) (ha : Ev (T0 prog w mg mb) k sc σ e d') (hc : Fn (T0 prog w mg mb) k (.ref f) [.ws d, d'] r) (hm : Method w name f) (hln : (apos.endLine == pos.line) = true := by rfl)
    (hfew : ∀ env, methodCallForm ([e].length + ([] : List Keyword).length) (backTo pos (starEach [e] env)) (backToKw pos (keywordEach [] env)) = true := by intro _; rfl)
    (hst : ∀ env, starEach [e] env = (false, eval e env) :: starEach [] env := by intro _; rfl) (hpl : ∀ env, (backTo pos (starEach [] env)).any (·.1) = false := by intro _; rfl) :
    Ev (T0 prog w mg mb) k sc σ (.Call (.Attribute (.Name x p) name apos) [e] [] pos) r := by
  intro env M A s Q E ok rm cx hl post
  refine meth_core he hm ok rm cx hl hln (hfew env) fun v h1 t1 x1 r1 => ?_
  refine callWith_K (cx.keeps x1).X hm.2.2.2 (EvL.one ha hst env M A _ _ E pos ok rm (cx.keeps x1) (hl.keeps x1) fun vs h2 t2 x2 r2 => ⟨((cx.keeps x1).keeps x2).X, ?_⟩) (hst env) (hpl env)
  exact hc M A _ _ Q E rm ((cx.keeps x1).keeps x2) (.cons (r1.keeps x2) r2) fun z h3 t3 x3 r3 => post z h3 t3 ((x1.trans x2).trans x3) r3
end
end Mine

-- D17
namespace Mine
open PySem PySem.W PyProof.Rows
open Classical

/-! equality of nested data -/
structure EqD (n : Nat) (a b : D) : Prop where
  uniq : ∀ M h v, Rep M h v a → Rep M h v b → a = b
  eq : ∀ (M : List Addr) (A : Around) (s : Shared) (v u : Value), A.units + n < cLine → Rep M s.heap v a → Rep M s.heap u b → SeqAt.EqAt A s v u (decide (a = b))

theorem dec_iff {p q : Prop} {i : Decidable p} {j : Decidable q} (h : p ↔ q) : @decide p i = @decide q j := by
  by_cases hp : p
  · rw [decide_eq_true hp, decide_eq_true (h.mp hp)]
  · rw [decide_eq_false hp, decide_eq_false fun hq => hp (h.mpr hq)]

theorem EqD.int {a b : Int} : EqD 0 (.int a) (.int b) where
  uniq := fun M h v ra rb => by cases ra; cases rb; rfl
  eq := fun M A s v u hu ra rb => by
    cases ra; cases rb
    rename_i t t'
    have := SeqAt.EqAt.int_int (A := A) (s := s) a t b t'
    have e : (a == b) = decide (D.int a = D.int b) := by
      rw [show (a == b) = decide (a = b) from rfl]
      exact dec_iff ⟨fun h => by rw [h], fun h => by injection h⟩
    rw [e] at this; exact this

theorem all_dec {ds es : List D} (h : ds.length = es.length) : ((List.range ds.length).all fun j => decide (ds[j]? = es[j]?)) = decide (ds = es) := by
  by_cases e : ds = es
  · subst e
    rw [decide_eq_true rfl, List.all_eq_true]
    intro j hj; exact decide_eq_true rfl
  · rw [decide_eq_false e]
    rw [← Bool.not_eq_true, List.all_eq_true]
    intro q
    refine e (List.ext_getElem? fun j => ?_)
    by_cases hj : j < ds.length
    · exact of_decide_eq_true (q j (List.mem_range.mpr hj))
    · rw [List.getElem?_eq_none (by lia), List.getElem?_eq_none (by lia)]

theorem repl_uniq {M : List Addr} {h : Heap} {vs : List Value} {ds es : List D} (ra : RepL M h vs ds) (rb : RepL M h vs es) (hj : ∀ (j : Nat) (x y : D), ds[j]? = some x → es[j]? = some y → ∀ v, Rep M h v x → Rep M h v y → x = y) : ds = es := by
  have l1 := ra.length
  have l2 := rb.length
  refine List.ext_getElem? fun j => ?_
  by_cases hlt : j < vs.length
  · obtain ⟨x, hx, rx⟩ := ra.getV (List.getElem?_eq_getElem hlt)
    obtain ⟨y, hy, ry⟩ := rb.getV (List.getElem?_eq_getElem hlt)
    rw [hx, hy, hj j x y hx hy _ rx ry]
  · rw [List.getElem?_eq_none (by lia), List.getElem?_eq_none (by lia)]

section
variable {n : Nat} {ds es : List D}
theorem rc_tup (hj : ∀ (j : Nat) (x y : D), ds[j]? = some x → es[j]? = some y → EqD n x y) {M : List Addr} {A : Around} {s : Shared} {l b : Addr} {vs us : List Value} {k k' : Nat} (hu : A.units + (n + 1) < cLine) (ea : s.heap.get? l = some (tObj vs k)) (eb : s.heap.get? b = some (tObj us k')) (ra : RepL M s.heap vs ds) (rb : RepL M s.heap us es) :
    SeqAt.RcAt A s (.ref l) (.ref b) (decide (D.tup ds = D.tup es)) := by
  have l1 := ra.length
  have l2 := rb.length
  have := SeqAt.RcAt.tuples (A := A) (s := s) (l := l) (b := b) (items := vs.toArray) (items2 := us.toArray) (e := fun j => decide (ds[j]? = es[j]?)) ⟨_, ea, rfl, k, rfl⟩ ⟨_, eb, rfl, k', rfl⟩ (by lia) fun j h1 h2 => by
    have h1' : j < vs.length := by simpa using h1
    have h2' : j < us.length := by simpa using h2
    obtain ⟨x, hx, rx⟩ := ra.getV (List.getElem?_eq_getElem h1')
    obtain ⟨y, hy, ry⟩ := rb.getV (List.getElem?_eq_getElem h2')
    have := (hj j x y hx hy).eq M A.in1 s _ _ (by show A.units + 1 + n < _; lia) rx ry
    simp only [List.getElem_toArray]
    rw [dec_iff (q := ds[j]? = es[j]?) (j := inferInstance) (by rw [hx, hy, Option.some.injEq])] at this
    exact this
  have e : ((List.range (min vs.toArray.size us.toArray.size)).all (fun j => decide (ds[j]? = es[j]?)) && vs.toArray.size == us.toArray.size) = decide (D.tup ds = D.tup es) := by
    rw [List.size_toArray, List.size_toArray, l1, l2]
    by_cases hl : ds.length = es.length
    · rw [hl, Nat.min_self, ← hl, all_dec hl, beq_self_eq_true, Bool.and_true]
      exact dec_iff ⟨fun h => by rw [h], fun h => by injection h⟩
    · rw [beq_eq_false_iff_ne.mpr hl, Bool.and_false, decide_eq_false]
      intro h; injection h with h; exact hl (by rw [h])
  rw [e] at this; exact this
theorem rc_list (hj : ∀ (j : Nat) (x y : D), ds[j]? = some x → es[j]? = some y → EqD n x y) {M : List Addr} {A : Around} {s : Shared} {l b : Addr} {vs us : List Value} {k k' : Nat} (hu : A.units + (n + 1) < cLine) (ea : s.heap.get? l = some (lObj vs k)) (eb : s.heap.get? b = some (lObj us k')) (ra : RepL M s.heap vs ds) (rb : RepL M s.heap us es) :
    SeqAt.RcAt A s (.ref l) (.ref b) (decide (D.list ds = D.list es)) := by
  have l1 := ra.length
  have l2 := rb.length
  by_cases hl : ds.length = es.length
  · have := SeqAt.RcAt.lists (A := A) (s := s) (l := l) (b := b) (items := vs.toArray) (items2 := us.toArray) (e := fun j => decide (ds[j]? = es[j]?)) ⟨_, ea, rfl, k, rfl⟩ ⟨_, eb, rfl, k', rfl⟩ (by rw [List.size_toArray, List.size_toArray]; lia) (by lia) fun j h1 h2 => by
      have h1' : j < vs.length := by simpa using h1
      have h2' : j < us.length := by simpa using h2
      obtain ⟨x, hx, rx⟩ := ra.getV (List.getElem?_eq_getElem h1')
      obtain ⟨y, hy, ry⟩ := rb.getV (List.getElem?_eq_getElem h2')
      have := (hj j x y hx hy).eq M A.in1 s _ _ (by show A.units + 1 + n < _; lia) rx ry
      simp only [List.getElem_toArray]
      rw [dec_iff (q := ds[j]? = es[j]?) (j := inferInstance) (by rw [hx, hy, Option.some.injEq])] at this
      exact this
    have e : ((List.range vs.toArray.size).all (fun j => decide (ds[j]? = es[j]?))) = decide (D.list ds = D.list es) := by
      rw [List.size_toArray, l1, all_dec hl]
      exact dec_iff ⟨fun h => by rw [h], fun h => by injection h⟩
    rw [e] at this; exact this
  · rw [decide_eq_false (by intro h; injection h with h; exact hl (by rw [h]))]
    exact SeqAt.RcAt.lists_lengths ⟨_, ea, rfl, k, rfl⟩ ⟨_, eb, rfl, k', rfl⟩ (by
      rw [List.size_toArray, List.size_toArray, l1, l2]
      simpa using hl) (by lia)

theorem EqD.tup (hj : ∀ (j : Nat) (x y : D), ds[j]? = some x → es[j]? = some y → EqD n x y) : EqD (n + 1) (.tup ds) (.tup es) where
  uniq := fun M h v ra rb => by
    cases ra with
    | tup ha ea la => cases rb with
      | tup hb eb lb =>
        rw [ea] at eb
        injection eb with eb
        injection eb with _ _ eb _
        injection eb with eb _
        have := congrArg Array.toList eb
        simp only at this
        subst this
        rw [repl_uniq la lb fun j x y hx hy v r1 r2 => (hj j x y hx hy).uniq M h v r1 r2]
  eq := fun M A s v u hu ra rb => by
    have hun : ∀ v, Rep M s.heap v (.tup ds) → Rep M s.heap v (.tup es) → D.tup ds = D.tup es := fun v ra rb => by
      cases ra with
      | tup ha ea la => cases rb with
        | tup hb eb lb =>
          rw [ea] at eb
          injection eb with eb
          injection eb with _ _ eb _
          injection eb with eb _
          have := congrArg Array.toList eb
          simp only at this
          subst this
          rw [repl_uniq la lb fun j x y hx hy v r1 r2 => (hj j x y hx hy).uniq M s.heap v r1 r2]
    have ra' := ra
    have rb' := rb
    cases ra with
    | tup ha ea la => cases rb with
      | tup hb eb lb =>
        rename_i l vs k b us k'
        by_cases hlb : l = b
        · subst hlb
          rw [decide_eq_true (hun _ ra' rb')]
          exact SeqAt.EqAt.same _
        · exact SeqAt.EqAt.of_refs hlb (rc_tup hj hu ea eb la lb)

theorem CmpOk.eq_tup {T : Th} {k : Nat} (hj : ∀ (j : Nat) (x y : D), ds[j]? = some x → es[j]? = some y → EqD n x y) (hn : n ≤ 50) : CmpOk T k .Eq (.tup ds) (.tup es) (decide (D.tup ds = D.tup es)) := by
  intro M A s v u Q E r cx ra rb post
  have hu := r.un
  cases ra with
  | tup ha ea la => cases rb with
    | tup hb eb lb => exact rc_tup hj (by lia) ea eb la lb T.prog T.w E Q (post _ s.heap s.toks (Ext.refl _) (.bool _))
theorem CmpOk.eq_list {T : Th} {k : Nat} (hj : ∀ (j : Nat) (x y : D), ds[j]? = some x → es[j]? = some y → EqD n x y) (hn : n ≤ 50) : CmpOk T k .Eq (.list ds) (.list es) (decide (D.list ds = D.list es)) := by
  intro M A s v u Q E r cx ra rb post
  have hu := r.un
  cases ra with
  | list ha ea la => cases rb with
    | list hb eb lb => exact rc_list hj (by lia) ea eb la lb T.prog T.w E Q (post _ s.heap s.toks (Ext.refl _) (.bool _))
end
end Mine

-- W2
namespace Mine
open PySem PySem.W PyProof.Rows

section
variable {T : Th} {k : Nat} {sc : Scope} {σ : St}
theorem EqD.mono {n m : Nat} {a b : D} (h : EqD n a b) (hm : n ≤ m) : EqD m a b := ⟨h.uniq, fun M A s v u hu ra rb => h.eq M A s v u (by lia) ra rb⟩
theorem EqD.ints (as bs : List Int) : ∀ (j : Nat) (x y : D), (as.map D.int)[j]? = some x → (bs.map D.int)[j]? = some y → EqD 0 x y := fun j x y hx hy => by
  rw [List.getElem?_map] at hx hy
  obtain ⟨a, _, rfl⟩ := Option.map_eq_some_iff.mp hx
  obtain ⟨b, _, rfl⟩ := Option.map_eq_some_iff.mp hy
  exact .int
theorem map_int_inj {a b : List Int} (h : a.map D.int = b.map D.int) : a = b := List.map_inj_right (fun _ _ q => by injection q) |>.mp h
def normEq (a b : Ws) : Bool := a.cnt == b.cnt && a.tr == b.tr
theorem CmpOk.eq_norm {a b : Ws} : CmpOk T k .Eq (normD a) (normD b) (normEq a b) := by
  have := CmpOk.eq_tup (T := T) (k := k) (n := 1) (ds := [.tup (a.cnt.map .int), .int a.tr]) (es := [.tup (b.cnt.map .int), .int b.tr]) (fun j x y hx hy => by
    match j with
    | 0 => cases hx; cases hy; exact .tup (EqD.ints _ _)
    | 1 => cases hx; cases hy; exact EqD.int.mono (by lia)
    | j + 2 => cases hx) (by lia)
  rw [show (normEq a b) = decide (a.cnt = b.cnt ∧ a.tr = b.tr) by rw [normEq, Bool.decide_and, Bool.eq_iff_iff]; simp]
  rw [dec_iff (q := a.cnt = b.cnt ∧ a.tr = b.tr) (j := inferInstance)] at this
  · exact this
  · constructor
    · intro h
      injection h with h
      injection h with h1 h2
      injection h1 with h1
      injection h2 with h2
      injection h2 with h2
      exact ⟨map_int_inj h1, h2⟩
    · rintro ⟨h1, h2⟩; rw [h1, h2]
theorem Fn.len_tuple {ds : List D} (hz : ds.length ≤ 1000000000) : Fn T k (.builtin "len") [.tup ds] (.int ds.length) := by
  intro M A s vs Q E r cx rl post
  cases rl with
  | cons r1 rl => cases rl; cases r1 with
    | tup ha e rl =>
      rename_i l vs n
      refine PyProof.Rows.len_tuple ⟨_, e, rfl, n, rfl⟩ (by rw [List.size_toArray, rl.length]; lia) ?_
      rw [List.size_toArray, rl.length]
      exact post _ s.heap _ (Ext.refl _) (.int _ _)
end

section
variable {prog : Program} {w : World} {mg mb : Str → Option Value} {P : Params} {k : Nat} {sc : Scope} {σ : St}

def longest (d : Ws) : Int := max ((d.cnt.length : Int) - 1) d.tr
theorem fn_longest {d : Ws} (hz : d.cnt.length ≤ 1000) : Fn (T0 prog w mg mb) (k + 1) (.ref 67) [.ws d] (.int (longest d)) := by
  refine Fn.def' ["self"] rfl rfl rfl rfl rfl rfl rfl (fun vals hv => by obtain ⟨a, rfl⟩ := len1 hv; rfl) rfl rfl rfl rfl rfl rfl ?_
  refine Ex.cons (Ex1.unpack2 (.norm (.name rfl)) ?_)
  exact Ex.cons (Ex1.ret (.inl (.gB rfl (.two (.bin (.gB rfl (.one (.name rfl)) ((Fn.len_tuple (by simp; lia)))) .int .sub_int) (.name rfl)) .max2)) (by rw [List.length_map]; rfl))

def ilStep (d : Ws) (ts : Nat) (il : Int) (i : Nat) : Int := il + ((ts + i : Nat) : Int).fdiv ts * d.cnt.getD (ts + i) 0
def indent (d : Ws) (ts : Nat) : Int := d.tr + ts * ((List.range (d.cnt.length - ts)).foldl (ilStep d ts) 0 + d.nt)
theorem fn_indent {d : Ws} {ts : Nat} (hz : d.cnt.length ≤ 1000) (ht : 0 < ts ∧ ts ≤ 1000) : Fn (T0 prog w mg mb) (k + 1) (.ref 74) [.ws d, .int ts] (.int (indent d ts)) := by
  refine Fn.def' ["self", "tabsize"] rfl rfl rfl rfl rfl rfl rfl (fun vals hv => by obtain ⟨a, b, rfl⟩ := len2 hv; rfl) rfl rfl rfl rfl rfl rfl ?_
  refine Ex.cons (Ex1.unpack2 (.norm (.name rfl)) ?_)
  refine Ex.cons (Ex1.assign (.inl .int) ?_)
  refine Ex.cons (Ex1.forFoldP (List.range (d.cnt.length - ts)) (fun i => gN (ts + i)) (ilStep d ts) (fun il => [("il", .int il), ("trailing", .int d.tr), ("count", .tup (d.cnt.map .int)), ("self", .ws d), ("tabsize", .int ts)]) (fun _ => none) 0
    (.inl (.gT rfl (.two (.name rfl) (.gB rfl (.one (.name rfl)) (Fn.len_tuple (by simp; lia)))) .range2)) ?_ (.cons rfl (.cons rfl (.cons rfl (.cons rfl (.cons rfl .nil))))) rfl (fun pre i post hL => ?_) ?_)
  · have := Itr.up2N (T := T0 prog w mg mb) (a := ts) (b := d.cnt.length) (by lia) (by lia)
    rw [List.length_map]; exact this
  · have hi : i < d.cnt.length - ts := List.mem_range.mp (by rw [hL]; simp)
    generalize List.foldl (ilStep d ts) 0 pre = il
    have hq : -(2 ^ 64) < ((ts + i : Nat) : Int).fdiv ts ∧ ((ts + i : Nat) : Int).fdiv ts < 2 ^ 64 := by
      rw [Int.fdiv_eq_ediv_of_nonneg _ (by lia), ← Int.natCast_ediv]
      have : (ts + i) / ts ≤ ts + i := Nat.div_le_self _ _
      generalize (ts + i) / ts = z at *
      lia
    refine Ex.cons (Ex1.assign (d := .int (ilStep d ts il i)) (.inl (.bin (.name rfl) (.bin (.bin (.name rfl) (.name rfl) (.fdiv_int (by lia) (PyProof.noPylong_small (by lia)))) (.itemT (.name rfl) (.name rfl) (by lia) (by lia) ?_) (.mul_int (.of_left (intBits_le_64 hq.1 hq.2)))) .add_int)) ?_)
    · rw [Int.toNat_natCast, List.getElem?_map, List.getElem?_eq_getElem (by lia)]
      simp only [Option.map_some]
      rw [List.getD_eq_getElem?_getD, List.getElem?_eq_getElem (by lia)]
      rfl
    · exact Ex.nil ⟨.cons rfl (.cons rfl (.cons rfl (.cons rfl (.cons rfl .nil)))), rfl⟩
  · exact Ex.nil (Ex.cons (Ex1.ret (.inl (.bin (.name rfl) (.bin (.name rfl) (.bin (.name rfl) (.nt (.name rfl)) .add_int) (.mul_int (.of_left (intBits_le_64 (by lia) (by lia))))) .add_int)) rfl))

theorem fn_equal {a b : Ws} : Fn (T0 prog w mg mb) (k + 1) (.ref 81) [.ws a, .ws b] (.bool (normEq a b)) := by
  refine Fn.def' ["self", "other"] rfl rfl rfl rfl rfl rfl rfl (fun vals hv => by obtain ⟨a, b, rfl⟩ := len2 hv; rfl) rfl rfl rfl rfl rfl rfl ?_
  exact Ex.cons (Ex1.ret (.inl (.cmp (.norm (.name rfl)) (.norm (.name rfl)) .eq_norm)) rfl)

theorem m_longest : Method w "longest_run_of_spaces" 67 := ⟨rfl, fun _ _ _ _ _ _ _ _ _ _ _ _ _ _ _ _ => rfl, rfl, rfl⟩
theorem m_indent : Method w "indent_level" 74 := ⟨rfl, fun _ _ _ _ _ _ _ _ _ _ _ _ _ _ _ _ => rfl, rfl, rfl⟩
theorem m_equal : Method w "equal" 81 := ⟨rfl, fun _ _ _ _ _ _ _ _ _ _ _ _ _ _ _ _ => rfl, rfl, rfl⟩
theorem m_less : Method w "less" 95 := ⟨rfl, fun _ _ _ _ _ _ _ _ _ _ _ _ _ _ _ _ => rfl, rfl, rfl⟩
theorem m_notless : Method w "not_less_witness" 102 := ⟨rfl, fun _ _ _ _ _ _ _ _ _ _ _ _ _ _ _ _ => rfl, rfl, rfl⟩

def wStep (a b : Ws) (acc : Due) (i : Nat) : Due := if indent b (1 + i) ≤ indent a (1 + i) then acc ++ [(((1 + i : Nat) : Int), indent a (1 + i), indent b (1 + i))] else acc
def witness (a b : Ws) : Due := (List.range (max (longest a) (longest b) + 1).toNat).foldl (wStep a b) []
theorem wStep_len (a b : Ws) : ∀ (L : List Nat) (acc : Due), (L.foldl (wStep a b) acc).length ≤ acc.length + L.length
  | [], acc => by simp
  | i :: L, acc => by
    have := wStep_len a b L (wStep a b acc i)
    have h2 : (wStep a b acc i).length ≤ acc.length + 1 := by unfold wStep; split <;> simp
    rw [List.foldl_cons, List.length_cons]; lia

theorem itr_from1 {T : Th} {m : Int} (h0 : -1 ≤ m) (h1 : m < 1000) : Itr T (.range 1 (m + 1 + 1) 1) ((List.range (m + 1).toNat).map fun i : Nat => gN (1 + i)) := by
  have := Itr.up2 (T := T) (a := 1) (b := m + 1 + 1) (by lia) (by lia)
  rw [show (m + 1 + 1 - 1).toNat = (m + 1).toNat by lia] at this
  have e : (fun i : Nat => D.int (1 + (i : Int))) = fun i : Nat => gN (1 + i) := by funext i; simp [gN]
  rw [e] at this; exact this
theorem longest_bd {d : Ws} (hz : d.cnt.length ≤ 500) (ht : 0 ≤ d.tr ∧ d.tr ≤ 500) : 0 ≤ longest d ∧ longest d ≤ 500 := by
  unfold longest; lia

theorem fn_notless {a b : Ws} (ha : a.cnt.length ≤ 500) (hb : b.cnt.length ≤ 500) (hta : 0 ≤ a.tr ∧ a.tr ≤ 500) (htb : 0 ≤ b.tr ∧ b.tr ≤ 500) : Fn (T0 prog w mg mb) (k + 2) (.ref 102) [.ws a, .ws b] (dueD (witness a b)) := by
  refine Fn.def' ["self", "other"] rfl rfl rfl rfl rfl rfl rfl (fun vals hv => by obtain ⟨a, b, rfl⟩ := len2 hv; rfl) rfl rfl rfl rfl rfl rfl ?_
  have la := longest_bd ha hta
  have lb := longest_bd hb htb
  refine Ex.cons (Ex1.assign (.inl (.bin (.gB rfl (.two (.meth0 (.name rfl) (fn_longest (by lia)) m_longest) (.meth0 (.name rfl) (fn_longest (by lia)) m_longest)) .max2) .int .add_int)) ?_)
  refine Ex.cons (Ex1.newOwn .nil (by simp) ?_)
  refine Ex.cons (Ex1.forFoldP (List.range (max (longest a) (longest b) + 1).toNat) (fun i : Nat => gN (1 + i)) (wStep a b) (fun _ => [("self", .ws a), ("other", .ws b)]) (fun acc => some ("a", .list (acc.map gT))) []
    (.inl (.gT rfl (.two .int (.bin (.name rfl) .int .add_int)) .range2)) (itr_from1 (by lia) (by lia)) (.cons rfl (.cons rfl .nil)) rfl (fun pre i post hL => ?_) ?_)
  · have hi : i < (max (longest a) (longest b) + 1).toNat := List.mem_range.mp (by rw [hL]; simp)
    have hlen := wStep_len a b pre []
    have hpre : pre.length ≤ 1000 := by
      have := congrArg List.length hL
      rw [List.length_range, List.length_append] at this; lia
    generalize hacc : List.foldl (wStep a b) [] pre = acc at hlen ⊢
    have hlen' : acc.length ≤ 1000 := by simpa using Nat.le_trans hlen (by simpa using hpre)
    refine Ex.cons (Ex1.if_ (.inl (.cmp (.meth1 (.name rfl) (.name rfl) (fn_indent (by lia) (by lia)) m_indent) (.meth1 (.name rfl) (.name rfl) (fn_indent (by lia) (by lia)) m_indent) .ge_int)) (fun hb => ?_) fun hb => ?_)
    · have hb := of_decide_eq_true hb
      refine Ex.cons (Ex1.append (.tup (.three (.name rfl) (.meth1 (.name rfl) (.name rfl) (fn_indent (by lia) (by lia)) m_indent) (.meth1 (.name rfl) (.name rfl) (fn_indent (by lia) (by lia)) m_indent)) (by simp)) (by rw [List.length_map]; lia) ?_)
      refine Ex.nil (Ex.nil ⟨.cons rfl (.cons rfl .nil), ?_⟩)
      rw [wStep, if_pos hb]; simp
    · have hb := of_decide_eq_false hb
      refine Ex.nil (Ex.nil ⟨.cons rfl (.cons rfl .nil), ?_⟩)
      rw [wStep, if_neg hb]
  · exact Ex.nil (Ex.freeze (Ex.cons (Ex1.ret (.inl (.name rfl)) rfl)))

def lessW (a b : Ws) : Bool :=
  if b.n ≤ a.n then false else if a.simple && b.simple then decide (a.nt ≤ b.nt) else
    (List.range (max (longest a) (longest b)).toNat).all fun i => !decide (indent b (2 + i) ≤ indent a (2 + i))
theorem itr_from2 {T : Th} {m : Int} (h0 : 0 ≤ m) (h1 : m < 1000) : Itr T (.range 2 (m + 1 + 1) 1) ((List.range m.toNat).map fun i : Nat => gN (2 + i)) := by
  have := Itr.up2 (T := T) (a := 2) (b := m + 1 + 1) (by lia) (by lia)
  rw [show (m + 1 + 1 - 2).toNat = m.toNat by lia] at this
  have e : (fun i : Nat => D.int (2 + (i : Int))) = fun i : Nat => gN (2 + i) := by funext i; simp [gN]
  rw [e] at this; exact this

theorem fn_less {a b : Ws} (ha : a.cnt.length ≤ 500) (hb : b.cnt.length ≤ 500) (hta : 0 ≤ a.tr ∧ a.tr ≤ 500) (htb : 0 ≤ b.tr ∧ b.tr ≤ 500) : Fn (T0 prog w mg mb) (k + 2) (.ref 95) [.ws a, .ws b] (.bool (lessW a b)) := by
  refine Fn.def' ["self", "other"] rfl rfl rfl rfl rfl rfl rfl (fun vals hv => by obtain ⟨a, b, rfl⟩ := len2 hv; rfl) rfl rfl rfl rfl rfl rfl ?_
  have la := longest_bd ha hta
  have lb := longest_bd hb htb
  refine Ex.cons (Ex1.if_ (.inl (.cmp (.n (.name rfl)) (.n (.name rfl)) .ge_int)) (fun h1 => ?_) fun h1 => ?_)
  · have h1 := of_decide_eq_true h1
    exact Ex.cons (Ex1.ret (.inl .bool) (by show D.bool _ = D.bool _; rw [lessW, if_pos h1]))
  have h1 := of_decide_eq_false h1
  refine Ex.nil (Ex.cons (Ex1.if_ (.inl (.and2 (.bool (.simple (.name rfl))) fun _ => .bool (.simple (.name rfl)))) (fun h2 => ?_) fun h2 => ?_))
  · exact Ex.cons (Ex1.ret (.inl (.cmp (.nt (.name rfl)) (.nt (.name rfl)) .le_int)) (by show D.bool _ = D.bool _; rw [lessW, if_neg h1, if_pos h2]))
  refine Ex.nil (Ex.cons (Ex1.assign (.inl (.bin (.gB rfl (.two (.meth0 (.name rfl) (fn_longest (by lia)) m_longest) (.meth0 (.name rfl) (fn_longest (by lia)) m_longest)) .max2) .int .add_int)) ?_))
  refine Ex.cons (Ex1.forSomeM (List.range (max (longest a) (longest b)).toNat) (fun i : Nat => gN (2 + i)) (fun i => if indent b (2 + i) ≤ indent a (2 + i) then some (.bool false) else none)
    (.inl (.gT rfl (.two .int (.bin (.name rfl) .int .add_int)) .range2)) (itr_from2 (by lia) (by lia)) (fun i hi => ?_) (fun v hv => ?_) fun hn => ?_)
  · have hi := List.mem_range.mp hi
    refine Ex.cons (Ex1.if_ (.inl (.cmp (.meth1 (.name rfl) (.name rfl) (fn_indent (by lia) (by lia)) m_indent) (.meth1 (.name rfl) (.name rfl) (fn_indent (by lia) (by lia)) m_indent) .ge_int)) (fun hb => ?_) fun hb => ?_)
    · have hb := of_decide_eq_true hb
      exact Ex.cons (Ex1.ret (.inl .bool) ⟨if_pos hb, rfl⟩)
    · have hb := of_decide_eq_false hb
      exact Ex.nil (Ex.nil ⟨if_neg hb, .cons rfl (.cons rfl (.cons rfl .nil)), rfl⟩)
  · obtain ⟨i, hi, h3⟩ := List.exists_of_findSome?_eq_some hv
    split at h3
    · rename_i h4
      cases h3
      show D.bool _ = D.bool _
      rw [lessW, if_neg h1, if_neg (ne_true_of_eq_false h2)]
      congr 1
      rw [eq_comm, ← Bool.not_eq_true, List.all_eq_true]
      intro q
      have := q i hi
      rw [decide_eq_true h4] at this; cases this
    · cases h3
  · refine Ex.nil (Ex.cons (Ex1.ret (.inl .bool) ?_))
    show D.bool _ = D.bool _
    rw [lessW, if_neg h1, if_neg (ne_true_of_eq_false h2)]
    congr 1
    rw [eq_comm, List.all_eq_true]
    intro i hi
    have := List.findSome?_eq_none_iff.mp hn i hi
    split at this
    · cases this
    · rename_i h4
      rw [decide_eq_false h4]; rfl
end
end Mine

-- E9
namespace Mine
open PySem PySem.W PyProof.Rows

section
variable {prog : Program} {w : World} {mg mb : Str → Option Value} {P : Params} {k : Nat}

def agree (kept whole : Ws) (times : Nat) (size : Nat) : Bool :=
  ((List.range size).all fun i => !(size % (1 + i) == 0 && indent whole (1 + i) - indent kept (1 + i) != (size : Int) * (times : Int))) && (normEq kept whole == (times == 0))

theorem fn_agree {kept whole : Ws} {times size : Nat} (ha : kept.cnt.length ≤ 500) (hb : whole.cnt.length ≤ 500) (hs : 0 < size ∧ size ≤ 100) : Fn (T0 prog w mg mb) (k + 2) (.ref 180) [.ws kept, .ws whole, .int times, .int size] (.bool (agree kept whole times size)) := by
  refine Fn.def' ["kept", "whole", "times", "size"] rfl rfl rfl rfl rfl rfl rfl (fun vals hv => by obtain ⟨a, b, c, d, rfl⟩ := len4 hv; rfl) rfl rfl rfl rfl rfl rfl ?_
  refine Ex.cons (Ex1.forSomeM (List.range size) (fun i : Nat => gN (1 + i)) (fun i => if size % (1 + i) == 0 && indent whole (1 + i) - indent kept (1 + i) != (size : Int) * (times : Int) then some (.bool false) else none)
    (.inl (.gT rfl (.two .int (.bin (.name rfl) .int .add_int)) .range2)) ?_ (fun i hi => ?_) (fun v hv => ?_) fun hn => ?_)
  · have := Itr.up2 (T := T0 prog w mg mb) (a := 1) (b := (size : Int) + 1) (by lia) (by lia)
    rw [show ((size : Int) + 1 - 1).toNat = size by lia] at this
    have e : (fun i : Nat => D.int (1 + (i : Int))) = fun i : Nat => gN (1 + i) := by funext i; simp [gN]
    rw [e] at this; exact this
  · have hi := List.mem_range.mp hi
    refine Ex.cons (Ex1.if_ (b := (size % (1 + i) == 0 && indent whole (1 + i) - indent kept (1 + i) != (size : Int) * (times : Int))) (.inl ((Tr.and2 (.cmp (.bin (.name rfl) (.name rfl) (.fmod_int (by lia))) .int .eq_int) fun _ => .cmp (.bin (.meth1 (.name rfl) (.name rfl) (fn_indent (by lia) (by lia)) m_indent) (.meth1 (.name rfl) (.name rfl) (fn_indent (by lia) (by lia)) m_indent) .sub_int) (.bin (.name rfl) (.name rfl) (.mul_int (.of_left (intBits_le_64 (by lia) (by lia))))) .ne_int).to ?_)) (fun hb => ?_) fun hb => ?_)
    · congr 1
      rw [Int.fmod_eq_emod_of_nonneg _ (by lia), ← Int.natCast_emod, Bool.eq_iff_iff]
      simp only [beq_iff_eq]
      lia
    · exact Ex.cons (Ex1.ret (.inl .bool) ⟨by rw [if_pos hb], rfl⟩)
    · exact Ex.nil (Ex.nil ⟨by rw [if_neg (ne_true_of_eq_false hb)], .cons rfl (.cons rfl (.cons rfl (.cons rfl .nil))), rfl⟩)
  · obtain ⟨i, hi, h3⟩ := List.exists_of_findSome?_eq_some hv
    split at h3
    · rename_i h4
      cases h3
      show D.bool _ = D.bool _
      congr 1
      have : ((List.range size).all fun i => !(size % (1 + i) == 0 && indent whole (1 + i) - indent kept (1 + i) != (size : Int) * (times : Int))) = false := by
        rw [← Bool.not_eq_true, List.all_eq_true]
        intro q
        have := q i hi
        rw [h4] at this; cases this
      rw [agree, this, Bool.false_and]
    · cases h3
  · have hall : ((List.range size).all fun i => !(size % (1 + i) == 0 && indent whole (1 + i) - indent kept (1 + i) != (size : Int) * (times : Int))) = true := by
      rw [List.all_eq_true]
      intro i hi
      have := List.findSome?_eq_none_iff.mp hn i hi
      split at this
      · cases this
      · rename_i h4
        rw [Bool.not_eq_true] at h4
        rw [h4]; rfl
    refine Ex.nil (Ex.cons (Ex1.ret (.inl (.cmp (.meth1 (.name rfl) (.name rfl) fn_equal m_equal) (.cmp (.name rfl) .int .eq_int) .is_bool)) ?_))
    show D.bool _ = D.bool _
    rw [agree, hall, Bool.true_and]
    congr 2
    rw [Bool.eq_iff_iff]; simp
end
end Mine

-- G1
namespace Mine
open PySem PySem.W PyProof.Rows

def CodeT (h : Heap) (c P : Addr) (ps : Array Value) : Prop := h.IsCode c P ps ∧ h.TableAt c P ps
theorem CodeT.keeps {h h' : Heap} {c P : Addr} {ps : Array Value} (x : CodeT h c P ps) (hk : ∀ b o, h.get? b = some o → h'.get? b = some o) : CodeT h' c P ps := ⟨x.1.keeps hk, x.2.keeps hk⟩
theorem genexprCodeT {prog : Program} {w : World} {A : Around} {E : Value → Shared → Prop} {s : Shared} {env : Env} {c P : Addr} {ps : Array Value} {pos : Pos} {qualname : Str} {scope : Scope} {Q : Value → Shared → Prop} (hc : env.code = .ref c) (hok : CodeT s.heap c P ps)
    (hQ : ∀ code h' tk ps', Heap.ExtBut P s.heap h' → CodeT h' c P ps' → Q code { s with heap := h', toks := tk }) : wpAny (model prog w) A (genexprCode env pos qualname scope) Q E s := by
  cases hnf : codeAmong pos ps.toList with
  | some cv => exact wpAny_genexprCode_hit hc hok.1 hnf (hQ cv s.heap s.toks ps (Heap.ExtBut.refl _ _) hok)
  | none => exact wpAny_genexprCodeX hc hok.1 hok.2 hnf fun c' h' tk hx _ _ h1 _ h2 _ => hQ _ h' tk _ hx ⟨h1, h2⟩
/-- the code table at P, and the module behind the globals -/
structure GX (mg : Str → Option Value) (c P : Addr) (h : Heap) : Prop where
  code : ∃ ps, CodeT h c P ps
  bm : ∃ bm ob, BMod h mainGlobals mg bm ob ∧ bm ≠ P ∧ mainGlobals ≠ P
theorem BMod.off {h h' : Heap} {g bm P : Addr} {mg : Str → Option Value} {ob : Obj} (x : BMod h g mg bm ob) (h1 : bm ≠ P) (h2 : g ≠ P) (hk : ∀ b o, b ≠ P → h.get? b = some o → h'.get? b = some o) : BMod h' g mg bm ob :=
  ⟨x.ns.at' fun o e => hk _ o h2 e, x.name, x.ne, hk _ _ h1 x.obj, x.cls, x.dict, x.data⟩
theorem GX.but {mg : Str → Option Value} {c P : Addr} {h h' : Heap} (x : GX mg c P h) (hk : ∀ b o, b ≠ P → h.get? b = some o → h'.get? b = some o) (hc : ∃ ps, CodeT h' c P ps) : GX mg c P h' :=
  let ⟨bm, ob, b, h1, h2⟩ : ∃ bm ob, BMod h mainGlobals mg bm ob ∧ bm ≠ P ∧ (mainGlobals ≠ P ∧ True) := let ⟨bm, ob, b, h1, h2⟩ := x.bm; ⟨bm, ob, b, h1, h2, trivial⟩; ⟨hc, bm, ob, BMod.off b h1 h2.1 hk, h1, h2.1⟩
theorem GX.keeps {mg : Str → Option Value} {c P : Addr} {h h' : Heap} (x : GX mg c P h) (hk : Ext h h') : GX mg c P h' :=
  x.but (fun b o _ e => hk b o e) (let ⟨ps, q⟩ := x.code; ⟨ps, q.keeps hk⟩)

section
variable {T : Th} {k : Nat} {sc : Scope} {σ : St}

structure Made (T : Th) (A : Around) (env : Env) (P : Addr) (h : Heap) (n : Nat) (Y : Nat → Value → Prop) (a C I : Addr) (s₅ : Shared) (g : Nat) : Prop where
  freshI : h.get? I = none
  freshC : h.get? C = none
  freshA : h.get? a = none
  ne : a ≠ C ∧ a ≠ I ∧ C ≠ I
  at_ : ∃ oa oC oI, s₅.heap.get? a = some oa ∧ s₅.heap.get? C = some oC ∧ s₅.heap.get? I = some oI
  walk : ∃ fp wr St, WalksS T.prog T.w A.in4 a (a :: C :: fp) (C :: wr) (GenOnlyQ g) n Y St ∧ St 0 s₅ ∧ (∀ i s', St i s' → s'.TypeIs (.ref a) "generator") ∧ (∀ b ∈ fp, @LT.lt Nat _ b a ∧ b ∉ fr env) ∧ (∀ b ∈ wr, b = I) ∧
    ∀ i s' h' tk, St i s' → (∀ b ∈ a :: C :: fp, ∀ o, s'.heap.get? b = some o → h'.get? b = some o) → St i { s' with heap := h', toks := tk }

theorem gen_make {env : Env} {elt iter : Expr} {x : Str} {px : Pos} {scope : Scope} {pos : Pos} {A : Around} {s : Shared} {M : List Addr} {Q : Value → Shared → Prop} {E : Value → Shared → Prop} {c P : Addr} {ds : List D} {f : D → Str}
    (ok : EnvOk sc env) (r : Room (k + 1) A) (cx : Cx T M s.heap) (hl : Holds M s.heap env σ) (hP : P ∈ M) (hfr : ∀ a ∈ fr env, a ∈ M) (gx : GX T.mg c P s.heap) (hcode : env.code = .ref c)
    (hi : Ev T (k + 1) sc σ iter (.list ds)) (he : ∀ d ∈ ds, Ev T k scope [(x, d)] elt (.str (f d)))
    (hco : scope.isCoroutine = false) (hclos : closureFor scope env = pure []) (hcell : ∀ y ∈ scope.names, y.2 ≠ .cell) (h0 : scope.names.lookup (".0" : Str) = some NameKind.local) (hx : scope.names.lookup x = some .local) (hkind : scope.kind = .function)
    (hs : ∀ v, genFold iter env v = pure v)
    (q : ∀ a C I h₅ tk gs, gs.bare = true → (∀ b o, b ≠ P → s.heap.get? b = some o → h₅.get? b = some o) → GX T.mg c P h₅ → Cx T M h₅ →
      Made T A env P s.heap ds.length (fun j y => ∃ d u, ds[j]? = some d ∧ y = .str (f d) u) a C I { s with gens := s.gens.push gs, toks := tk, heap := h₅ } s.gens.size →
      Q (.ref a) { s with gens := s.gens.push gs, toks := tk, heap := h₅ }) :
    W T A (eval (.GeneratorExp elt [⟨.Name x px, iter, [], 0⟩] scope pos) env) Q E s := by
  refine wpAny_GeneratorExp_make hco hclos hcell h0 hkind r.room (hi env M A s _ E ok r cx hl fun v h1 t1 x1 r1 => ?_) hs
  have cx1 := cx.keeps x1
  have gx1 := gx.keeps x1
  cases r1 with
  | list hlM el rl =>
    rename_i l vs n
    have hL : h1.IsList l vs.toArray := ⟨_, el, rfl, n, rfl⟩
    have hlt : @LT.lt Nat _ l h1.objs.size := Heap.lt_size el
    have hPlt : @LT.lt Nat _ P h1.objs.size := let ⟨_, x⟩ := gx1.code; Heap.lt_size x.2.2
    refine wpAny_pyIter_list (s := { s with heap := h1, toks := t1 }) hL ?_
    dsimp only
    generalize hIeq : h1.objs.size = I at hlt hPlt ⊢
    generalize hH : h1.push { cls := .type "list_iterator", data := .fields #[.ref l, .int 0 0] } = h2
    have x2 : Ext h1 h2 := hH ▸ Ext.push _ _
    have hI2 : h2.get? I = some { cls := .type "list_iterator", data := .fields #[.ref l, .int 0 0] } := by rw [← hH, ← hIeq]; exact Heap.get?_push_size _ rfl
    have sz2 : h2.objs.size = I + 1 := by rw [← hH, Heap.size_push, hIeq]
    have cx2 := cx1.keeps x2
    have gx2 := gx1.keeps x2
    refine ⟨cx2.lim, ?_⟩
    obtain ⟨ps, hps⟩ := gx2.code
    refine genexprCodeT (s := { s with heap := h2, toks := t1 }) hcode hps fun code h3 t3 ps' x3 hps' => ?_
    have gx3 : GX T.mg c P h3 := gx2.but (fun b o hb e => x3 b o hb e) ⟨ps', hps'⟩
    obtain ⟨bm, ob, bmod, hbP, hgP⟩ := gx3.bm
    refine wpAny_builtinsFor (by rw [ok.glob]; exact bmod.ns) bmod.name bmod.ne bmod.obj bmod.cls bmod.dict bmod.data ?_
    have P3 : ∃ o, h3.get? P = some o := ⟨_, hps'.2.2⟩
    have cx3 : Cx T M h3 := cx2.but (fun _ z => .inl z) (fun b o hb _ e => x3 b o (fun z => hb (z ▸ hP)) e) fun b hb => by
      by_cases hbP' : b = P
      · exact hbP' ▸ P3
      · obtain ⟨o, e⟩ := cx2.m b hb; exact ⟨o, x3 b o hbP' e⟩
    have hIP : @Ne Nat I P := Nat.ne_of_gt hPlt
    have hlP : l ≠ P := fun z => hlM (z ▸ hP)
    have hI3 : h3.get? I = some { cls := .type "list_iterator", data := .fields #[.ref l, .int 0 0] } := x3 _ _ hIP hI2
    have hL3 : h3.IsList l vs.toArray := ⟨_, x3 _ _ hlP (x2 _ _ el), rfl, n, rfl⟩
    have hIlt : @LT.lt Nat _ I h3.objs.size := Heap.lt_size hI3
    dsimp only
    generalize hCeq : h3.objs.size = C at hIlt ⊢
    intro h4 hn4 sb4
    have hsz : h4.objs.size = C + 1 := by rw [sb4.1, Heap.size_push, hCeq]
    have keep4 : Ext h3 h4 := fun b o e => sb4.extBut b o (Nat.ne_of_lt (hCeq ▸ Heap.lt_size e)) (Heap.get?_push_of_some _ e)
    generalize hA5 : h4.push { cls := .type "generator", data := .fields #[.int s.gens.size 0, .str "<genexpr>" (t3 + 1), .str (env.qual ++ "<genexpr>") (t3 + 1 + 1)] } = h5
    have keep5' : Ext h4 h5 := hA5 ▸ Ext.push _ _
    have keep5 : Ext h3 h5 := keep4.trans keep5'
    have hclt : @LT.lt Nat _ cStatics C := by obtain ⟨_, hn, _⟩ := cx3.lim; rw [← hCeq]; exact hn.lt
    have hfp : ∀ b ∈ (List.range C).filter (fun b => decide (b ∉ fr env)), @LT.lt Nat _ b C ∧ b ∉ fr env := fun b hb => by
      obtain ⟨h1, h2⟩ := List.mem_filter.mp hb
      exact ⟨List.mem_range.mp h1, of_decide_eq_true h2⟩
    have infp : ∀ b : Addr, @LT.lt Nat _ b C → b ∉ fr env → b ∈ (List.range C).filter (fun b => decide (b ∉ fr env)) := fun b h1 h2 => List.mem_filter.mpr ⟨List.mem_range.mpr h1, decide_eq_true h2⟩
    generalize hfpe : (List.range C).filter (fun b => decide (b ∉ fr env)) = fp at hfp infp
    have hfrx : ∀ b ∈ fr env, ∃ o, h1.get? b = some o := fun b hb => cx1.m b (hfr b hb)
    have hIf : I ∉ fr env := fun z => by
      obtain ⟨o, e⟩ := hfrx I z
      exact absurd (Heap.lt_size e) (show ¬ @LT.lt Nat _ _ _ by lia)
    have hlf : l ∉ fr env := fun z => hlM (hfr l z)
    obtain ⟨hb, xb, nb, Xb, gb, bb, limb⟩ := cx.base
    have hcf : cStatics ∉ fr env := fun z => by
      obtain ⟨_, ⟨o, _, _, e, _⟩, _⟩ := limb
      rw [nb _ (hfr _ z)] at e; cases e
    have W0 : ∀ A' : Around, A'.handled = none → Walks T.prog T.w A' I fp [I] vs.toArray.size (fun i v => vs.toArray[i]? = some v) (fun i h => h.IsListIter I l i ∧ h.IsList l vs.toArray) := fun A' hA' =>
      (Walks.list (prog := T.prog) (w := T.w) hA' I l (show @Ne Nat l I by lia) vs.toArray).mono_fp fun b hb => by
        rcases List.mem_cons.mp hb with rfl | hb
        · exact infp _ hIlt hIf
        · rw [List.mem_singleton.mp hb]; exact infp _ (by lia) hlf
    have hpass : passing (fun _ => true) vs.toArray.size 0 = List.range ds.length := by
      unfold passing
      rw [List.drop_zero, List.size_toArray, rl.length, filter_true]
    have hplen : (passing (fun _ => true) vs.toArray.size 0).length = ds.length := by rw [hpass, List.length_range]
    let F : Nat → Value → Prop := fun i y => ∃ d u, ds[i]? = some d ∧ y = .str (f d) u
    have WS := WalksS.genexpQ (prog := T.prog) (w := T.w) (A := A.in4) r.handled h4.objs.size s.gens.size C fp [I] (fun _ => true) vs.toArray.size F (show @Ne Nat _ _ by lia) (fun z => by have := (hfp _ z).1; lia) (fun b hb => by rw [List.mem_singleton.mp hb]; exact infp _ hIlt hIf) r.room (infp _ hclt hcf) (Nat.ne_of_lt hclt) (by
        simp only [List.mem_singleton]
        intro z
        obtain ⟨_, ⟨o, _, _, e, _⟩, _⟩ := cx1.lim
        exact absurd (Heap.lt_size e) (show ¬ @LT.lt Nat _ _ _ by rw [z]; lia))
    rw [hplen] at WS
    have hgen : h5.IsGen h4.objs.size s.gens.size := ⟨_, _, _, by rw [← hA5]; exact Heap.get?_push_size _ rfl, rfl, rfl, rfl⟩
    have hq : QuietGenD T.prog T.w (genEnv scope [] C code builtinsNs env) x [] elt fp [I] (fun i v => vs.toArray[i]? = some v) (fun _ => true) F h5 (A.in4.depth + 1) (A.in4.units + 4) := by
      refine ⟨fun A' E' i v s₂ m₂ hA hD hU hPv hn hm hkp => wpAny_tests_nil ⟨rfl, s₂.heap, s₂.toks, rfl, fun _ _ e => e⟩, fun A' E' i v s₂ m₂ hA hD hU hPv _ hn hm hkp => ?_⟩
      obtain ⟨d, hd, rd⟩ := rl.getV (show vs[i]? = some v by simpa using hPv)
      have old : ∀ b o, b ∉ M → h1.get? b = some o → s₂.heap.get? b = some o := fun b o hbM e => by
        have hblt : @LT.lt Nat _ b h1.objs.size := Heap.lt_size e
        refine hkp b (infp b (by lia) fun z => hbM (hfr b z)) (fun z => by rw [List.mem_singleton.mp z] at hblt; lia) o (keep5 b o (x3 b o (fun z => hbM (z ▸ hP)) (x2 b o e)))
      have xs : Ext hb s₂.heap := fun b o e => old b o (fun z => by rw [nb b z] at e; cases e) (x1 b o (xb b o e))
      have cxs : Cx T [] s₂.heap := ⟨(fun a ha => by cases ha), Xb.keeps xs, gb.keeps xs, bb.keeps xs, limb.keeps xs, cx.bi, hb, xs, (fun a ha => by cases ha), Xb, gb, bb, limb⟩
      have rv : Rep [] s₂.heap v d := rd.to (fun a ha => by cases ha) old
      refine he d (List.mem_of_getElem? hd) (genEnv scope [] C code builtinsNs env) [] A' s₂ _ E' ⟨rfl, hkind, ok.glob, rfl⟩ ⟨hA, ?_, ?_⟩ cxs (fun y d' e => ?_) fun y h' tk' x' ry => ?_
      · have := r.depth; have : A'.depth ≤ A.depth + 1 := hD; lia
      · have := r.units; have : A'.units ≤ A.units + 8 := hU; lia
      · rw [List.lookup_cons] at e
        cases hy : y == x with
        | true =>
          rw [hy] at e
          obtain rfl : d = d' := by simpa using e
          rw [beq_iff_eq.mp hy]
          exact ⟨v, .inl ⟨hx, m₂, hn, hm⟩, rv⟩
        | false => rw [hy] at e; cases e
      · cases ry
        exact ⟨⟨d, _, hd, rfl⟩, h', tk', rfl, x'⟩
    have hat : GenAt T.prog T.w A.in4 h4.objs.size s.gens.size C fp [I] (fun _ => true) vs.toArray.size F 0 { s with gens := s.gens.push (.fresh (.compStart (.GeneratorExp elt [⟨.Name x px, iter, [], 0⟩] scope pos) 0 (.ref I) .none (genEnv scope [] C code builtinsNs env))), toks := t3 + 1 + 1 + 1, heap := h5 } :=
      GenAt.freshD (A := A.in4) (cenv := genEnv scope [] C code builtinsNs env) (m := fun y => if y = ".0" then some (.ref I) else none) r.handled W0 (fun _ => true) F hx (by simp [genEnv, hkind]) hco
        (fun z => Nat.lt_irrefl _ (hfp _ z).1) hq hgen (Array.getElem?_push_size ..) ⟨⟨_, keep5 _ _ hI3, rfl, rfl⟩, hL3.at fun o e => keep5 _ o e⟩ (by
          have : h4.Ns C fun y => if y = ".0" then some (.ref I) else none := hn4
          exact this.keeps keep5') (cx3.lim.keeps keep5)
    refine q h4.objs.size C I h5 _ _ rfl (fun b o hb e => keep5 b o (x3 b o hb (x2 b o (x1 b o e)))) (gx3.keeps keep5) (cx3.keeps keep5) ⟨?_, ?_, ?_, ⟨show @Ne Nat _ _ by lia, show @Ne Nat _ _ by lia, show @Ne Nat _ _ by lia⟩, ?_, fp, [I], _, ?_, hat, (fun i s' st => st.1.typeIs), fun b hb => ⟨?_, (hfp b hb).2⟩, (fun b hb => List.mem_singleton.mp hb), fun i s' h' tk st hk => ?_⟩
    · cases e : s.heap.get? I with
      | none => rfl
      | some o => exact absurd (Heap.lt_size (x1 _ _ e)) (show ¬ @LT.lt Nat _ _ _ by lia)
    · cases e : s.heap.get? C with
      | none => rfl
      | some o => exact absurd (Heap.lt_size (x1 _ _ e)) (show ¬ @LT.lt Nat _ _ _ by lia)
    · cases e : s.heap.get? h4.objs.size with
      | none => rfl
      | some o => exact absurd (Heap.lt_size (x1 _ _ e)) (show ¬ @LT.lt Nat _ _ _ by lia)
    · obtain ⟨o1, _, _, e1, _⟩ := hgen
      obtain ⟨o2, _, _, e2, _⟩ := hn4
      exact ⟨o1, o2, _, e1, keep5' _ _ (hCeq ▸ e2), keep5 _ _ hI3⟩
    · exact WS.imp fun j y hy => by
        obtain ⟨i, hi, d, u, hd, rfl⟩ := hy
        rw [hpass] at hi
        obtain ⟨h1, h2⟩ := List.getElem?_eq_some_iff.mp hi
        rw [List.getElem_range] at h2
        exact ⟨d, u, h2 ▸ hd, rfl⟩
    · have := (hfp b hb).1
      lia
    · exact ⟨let ⟨o, nm, qn, ho, r⟩ := st.1; ⟨o, nm, qn, hk _ (List.mem_cons_self ..) o ho, r⟩,
        (let ⟨mc, hns, hnn⟩ := st.2.1; ⟨mc, hns.at' fun o e => hk cStatics (List.mem_cons_of_mem _ (List.mem_cons_of_mem _ (infp _ hclt hcf))) o e, hnn⟩),
        let ⟨gs, hgs, hgo⟩ := st.2.2; ⟨gs, hgs, fun s'' hal => hgo s'' fun b hb o e => hal b hb o (hk b (List.mem_cons_of_mem _ hb) o e)⟩⟩
end
end Mine

-- G2
namespace Mine
open PySem PySem.W PyProof.Rows

theorem execs_append (env : Env) (rest : List Stmt) : ∀ pre : List Stmt, execs (pre ++ rest) env = (do match ← execs pre env with | .next => execs rest env | f => pure f)
  | [] => by
    show execs rest env = (pure Flow.next >>= _)
    rw [pure_bind]
  | st :: pre => by
    rw [List.cons_append, execs_cons, execs_cons, bind_assoc]
    congr 1
    funext fl
    cases fl with
    | next => exact execs_append env rest pre
    | _ => simp
theorem W_append {T : Th} {A : Around} {env : Env} {pre rest : List Stmt} {Q : Flow → Shared → Prop} {E : Value → Shared → Prop} {s : Shared}
    (h : W T A (execs pre env) (fun f s' => match f with | .next => W T A (execs rest env) Q E s' | f => Q f s') E s) : W T A (execs (pre ++ rest) env) Q E s := by
  show wpAny _ _ _ _ _ _
  rw [execs_append]
  refine wpAny_bind (wpAny_mono h (fun f s' h' => ?_) fun _ _ z => z)
  cases f with
  | next => exact h'
  | _ => exact wpAny_pure h'

theorem Ex.run {T : Th} {k : Nat} {sc : Scope} {σ : St} {own : Own} {ss : List Stmt} {P : Out → Prop} {env : Env} {M₀ : List Addr} {oa : Option Addr} {A : Around} {s : Shared} {Q : Flow → Shared → Prop} {E : Value → Shared → Prop} (ok : EnvOk sc env) (fo : Fo env) (r : Room k A) (si : SI T env M₀ oa σ own s.heap)
    (h : Ex T k sc σ own ss P) (post : ∀ o, P o → Post1 T env M₀ oa Q s o) : W T A (execs ss env) Q E s := h env M₀ oa A s Q E ok fo r si post

/-- a contract that may leave a finished generator and a line in the code table P -/
def FnG (T : Th) (k : Nat) (f : Value) (ds : List D) (d : D) (c P : Addr) : Prop :=
  ∀ (M : List Addr) (A : Around) (s : Shared) (vs : List Value) (Q : Value → Shared → Prop) (E : Value → Shared → Prop), Room k A → Cx T M s.heap → P ∈ M → GX T.mg c P s.heap → AllBare s.gens → RepL M s.heap vs ds →
    (∀ v h' tk g', (∀ b o, b ≠ P → s.heap.get? b = some o → h'.get? b = some o) → GX T.mg c P h' → Cx T M h' → AllBare g' → Rep M h' v d → Q v { s with heap := h', toks := tk, gens := g' }) → W T A (call f vs) Q E s

theorem code_at2 {h h' : Heap} {c P : Addr} {ps : Array Value} (x : CodeT h c P ps) (hc : ∀ o, h.get? c = some o → h'.get? c = some o) (hP : ∀ o, h.get? P = some o → h'.get? P = some o) : CodeT h' c P ps := ⟨x.1.at2 hc hP, x.2.at2 hc hP⟩
theorem code_there {h : Heap} {c P : Addr} {ps : Array Value} (x : CodeT h c P ps) : (∃ o, h.get? c = some o) ∧ ∃ o, h.get? P = some o := by
  obtain ⟨o, vs, e, _⟩ := x.2.1
  exact ⟨⟨o, e⟩, _, x.2.2⟩

def strI (i : Int) : Str := Str.ofString (toString i)
theorem strI_len {i : Int} (h : 0 ≤ i ∧ i < 64) : (strI i).length ≤ 2 := by
  obtain ⟨n, rfl⟩ := Int.eq_ofNat_of_zero_le h.1
  have : ∀ n : Fin 64, (strI ((n.val : Nat) : Int)).length ≤ 2 := by decide
  exact this ⟨n, by lia⟩
def pfx (ds : Due) : Str := if 1 < ds.length then "at tab sizes" else "at tab size"
def fmtW (ds : Due) : Str := pfx ds ++ " " ++ Txt.join ", " (ds.map fun r => strI r.1)

section
variable {prog : Program} {w : World} {mg mb : Str → Option Value} {k : Nat}

theorem pfx_len (ds : Due) : (pfx ds).length ≤ 12 := by
  unfold pfx; split <;> decide
theorem joinW_len (ds : Due) (hz : ds.length ≤ 100) (hr : ∀ r ∈ ds, 0 ≤ r.1 ∧ r.1 < 64) : ((ds.map fun r => strI r.1).map (·.length)).sum + (ds.map fun r => strI r.1).length * (", " : Str).length ≤ 1000 := by
  have := sum_const (fun r : Int × Int × Int => (strI r.1).length) 2 ds fun r hr' => strI_len (hr r hr')
  rw [List.map_map, List.length_map]
  show (List.map (fun r : Int × Int × Int => (strI r.1).length) ds).sum + ds.length * 2 ≤ 1000
  lia

set_option maxHeartbeats 2000000 in
theorem fn_format {ds : Due} (hz : ds.length ≤ 100) (hr : ∀ r ∈ ds, 0 ≤ r.1 ∧ r.1 < 64) (P : Addr) : FnG (T0 prog w mg mb) (k + 3) (.ref 116) [dueD ds] (.str (fmtW ds)) 115 P := by
  intro M A s vs Q E r cx hPM gx hgens rl post
  have df : Def (T0 prog w mg mb) 116 ["w"] _ _ := ⟨⟨_, _, rfl, rfl, rfl, rfl, rfl, rfl, rfl, rfl, fun vals hv => by obtain ⟨a, rfl⟩ := len1 hv; rfl⟩, (by intro x hx; rw [List.mem_singleton.mp hx]; rfl), by decide, rfl, rfl, rfl⟩
  refine call_frame (k := k + 2) df r cx rl rfl fun env h₁ tk ok fo r' frn keep si hcode E' => ?_
  have hcd : env.code = .ref 115 := hcode _ _ rfl rfl
  have gx1 := gx.keeps keep
  refine wpAny_execs_cons (wpAny_Assign_Name ?_ rfl)
  have hP1 : P ∈ mm none env M := List.mem_append.mpr (.inr (List.mem_append.mpr (.inr hPM)))
  refine gen_make (k := k + 1) (σ := [("w", dueD ds)]) (ds := ds.map gT) (f := fun d => match d with | .tup (.int i :: _) => strI i | _ => "") ok r' si.cx (si.holds fo) hP1 (fun a ha => List.mem_append.mpr (.inr (List.mem_append.mpr (.inl ha)))) gx1 hcd (.name rfl) (fun d hd => ?_) rfl rfl (by decide) rfl rfl rfl (fun _ => rfl) fun a C I h₅ tk₅ gs hbare k5 gx5 cx5 made => ?_
  · obtain ⟨row, hrow, rfl⟩ := List.mem_map.mp hd
    have := hr row hrow
    refine .gT rfl (.one (.itemT (.name rfl) .int (by decide) (by decide) rfl)) (.str ?_)
    refine Nat.lt_of_le_of_lt (Nat.log2_le_self _) (by lia)
  have dsz : (ds.map gT).length = ds.length := List.length_map ..
  obtain ⟨m, cm, fm, cx1, dj, _, hl1⟩ := si.ex
  have hPf : P ∉ fr env := fun z => dj P z hPM
  have fm5 : Frm env m cm h₅ := fm.only fun b hb o e => k5 b o (fun z => hPf (z ▸ hb)) e
  obtain ⟨oa, oC, oI, ea, eC, eI⟩ := made.at_
  obtain ⟨naC, naI, nCI⟩ := made.ne
  have exfr : ∀ b ∈ fr env, ∃ o, h₁.get? b = some o := fun b hb => cx1.m b (List.mem_append.mpr (.inr (List.mem_append.mpr (.inl hb))))
  have nf : ∀ b, h₁.get? b = none → b ∉ fr env := fun b hb z => by obtain ⟨o, e⟩ := exfr b z; rw [hb] at e; cases e
  have nM : ∀ b, h₁.get? b = none → b ∉ M := fun b hb z => by obtain ⟨o, e⟩ := cx.m b z; rw [keep _ _ e] at hb; cases hb
  refine fm5.store (T := T0 prog w mg mb) (x := "firsts") (s := { s with gens := s.gens.push gs, toks := tk₅, heap := h₅ }) fo ok rfl fun m' cm' h₆ tk₆ fm6 at6 keepAt hm' _ k6 ex6 => ?_
  dsimp only at k6 ex6 ea eC eI
  have k16 : ∀ b o, b ∉ fr env → b ≠ P → h₁.get? b = some o → h₆.get? b = some o := fun b o h1 h2 e => k6 b o h1 (k5 b o h2 e)
  have ea6 : h₆.get? a = some oa := k6 _ _ (nf _ made.freshA) ea
  have eC6 : h₆.get? C = some oC := k6 _ _ (nf _ made.freshC) eC
  have eI6 : h₆.get? I = some oI := k6 _ _ (nf _ made.freshI) eI
  have hMM : ∀ b ∈ mm (some a) env (C :: I :: M), b ∈ mm none env M ∨ h₁.get? b = none := fun b hb => by
    simp only [List.mem_append, List.mem_cons, Option.toList_some, Option.toList_none, List.not_mem_nil, or_false, false_or] at hb ⊢
    rcases hb with rfl | z | rfl | rfl | z
    · exact .inr made.freshA
    · exact .inl (.inl z)
    · exact .inr made.freshC
    · exact .inr made.freshI
    · exact .inl (.inr z)
  have kk : ∀ b o, b ∉ mm none env M → h₁.get? b = some o → h₆.get? b = some o := fun b o hb e => k16 b o (fun z => hb (List.mem_append.mpr (.inr (List.mem_append.mpr (.inl z))))) (fun z => hb (z ▸ hP1)) e
  have P6 : ∃ o, h₆.get? P = some o := by
    obtain ⟨ps, hps⟩ := gx5.code
    obtain ⟨o, e⟩ := (code_there hps).2
    exact ⟨o, k6 _ _ hPf e⟩
  have si6 : SI (T0 prog w mg mb) env (C :: I :: M) (some a) [("w", dueD ds)] (some (("firsts" : Str), OD.obj a oa)) h₆ := by
    refine ⟨m', cm', fm6, cx1.but hMM (fun b o hb _ e => kk b o hb e) fun b hb => ?_, fun b hb z => ?_, ⟨at6, fun z => ?_, nf _ made.freshA, rfl, ea6⟩, fun y d e => ?_⟩
    · rcases List.mem_append.mp hb with z | z
      · rw [show b = a by simpa using z]; exact ⟨_, ea6⟩
      rcases List.mem_append.mp z with z | z
      · obtain ⟨o, e⟩ := exfr b z
        exact ex6 b z ⟨o, k5 b o (fun q => hPf (q ▸ z)) e⟩
      rcases List.mem_cons.mp z with rfl | z
      · exact ⟨_, eC6⟩
      rcases List.mem_cons.mp z with rfl | z
      · exact ⟨_, eI6⟩
      · by_cases hbP : b = P
        · exact hbP ▸ P6
        · obtain ⟨o, e⟩ := cx.m b z
          have e1 := keep _ _ e
          exact ⟨o, k16 b o (fun q => dj b q z) hbP e1⟩
    · rcases List.mem_cons.mp z with rfl | z
      · exact nf _ made.freshC hb
      · rcases List.mem_cons.mp z with rfl | z
        · exact nf _ made.freshI hb
        · exact dj b hb z
    · rcases List.mem_cons.mp z with z | z
      · exact naC z
      · rcases List.mem_cons.mp z with z | z
        · exact naI z
        · exact nM _ made.freshA z
    · obtain ⟨v, a', rv⟩ := hl1 y d e
      have hy : y ≠ "firsts" := by
        rw [List.lookup_cons] at e
        cases hq : y == ("w" : Str) with
        | true => rw [beq_iff_eq.mp hq]; decide
        | false => rw [hq] at e; cases e
      exact ⟨v, keepAt y v hy a', rv.to hMM kk⟩
  show W (T0 prog w mg mb) (A.deeper env) (execs _ env) _ E' _
  refine W_append (pre := [_, _]) (rest := [_]) (s := { s with gens := s.gens.push gs, toks := tk₆, heap := h₆ }) ?_
  refine Ex.run (P := fun o => match o with | .next σ' own' => Sub σ' [("prefix", .str (pfx ds)), ("w", dueD ds)] ∧ own' = some (("firsts" : Str), OD.obj a oa) | _ => False) ok fo (r'.less (show k + 1 ≤ k + 2 by lia)) si6 ?_ fun o ho => ?_
  · refine Ex.cons (Ex1.assign (.inl .str) ?_)
    refine Ex.cons (Ex1.if_ (.inl (.cmp (.gB rfl (.one (.name rfl)) (Fn.len_list (by rw [dsz]; lia))) .int .gt_int)) (fun hb => ?_) fun hb => ?_)
    · refine Ex.cons (Ex1.assign (.inl (.bin (.name rfl) .str (.add_str (by decide)))) ?_)
      have hb := of_decide_eq_true hb
      rw [dsz] at hb
      refine Ex.nil (Ex.nil ⟨.cons ?_ (.cons rfl .nil), rfl⟩)
      rw [pfx, if_pos (by lia)]; rfl
    · have hb := of_decide_eq_false hb
      rw [dsz] at hb
      refine Ex.nil (Ex.nil ⟨.cons ?_ (.cons rfl .nil), rfl⟩)
      rw [pfx, if_neg (by lia)]; rfl
  cases o with
  | brk σ' own' => exact ho.elim
  | ret d' own' => exact ho.elim
  | next σ' own' =>
  obtain ⟨hsub, rfl⟩ := ho
  intro oa' h₇ tk₇ si7 kp7 rel7
  have si7 := si7.sub hsub
  cases oa' with
  | none => obtain ⟨_, _, _, _, _, ow, _⟩ := si7.ex; exact ow.elim
  | some a' =>
  obtain ⟨m7, cm7, fm7, cx7, dj7, ow7, hl7⟩ := si7.ex
  obtain ⟨at7, _, _, ha', ea7⟩ := ow7
  subst ha'
  -- what stands since the generator was made
  have since : ∀ b o, b ∉ fr env → b ≠ a' → h₅.get? b = some o → h₇.get? b = some o := fun b o h1 h2 e => kp7 b o h1 (fun z => h2 (Option.some.inj z).symm) (k6 b o h1 e)
  obtain ⟨fp, wr, St, WS, hst, hty, hfp, hwr, hfrm⟩ := made.walk
  have ea57 : h₅.get? a' = h₇.get? a' := by rw [ea, ea7]
  -- the return
  refine wpAny_execs_cons (wpAny_Return_some (wpAny_BinOp ?_))
  have hl7' := si7.holds fo
  refine (show Ev (T0 prog w mg mb) (k + 1) _ [("prefix", .str (pfx ds)), ("w", dueD ds)] _ (.str (pfx ds ++ " ")) from .bin (.name rfl) .str (.add_str (by have := pfx_len ds; rw [sizeLine_eq]; show (pfx ds).length + 1 ≤ _; lia))) env _ _ _ _ _ ok (r'.less (by lia)) si7.cx hl7' fun v h₈ t₈ x8 rv8 => ?_
  cases rv8
  refine Call_method1 rfl rfl rfl (wpAny_Constant_str ?_)
  refine ⟨"str", _, F.plainAttrs_str, F.slot_str_join, F.type_str_join, typeIs_str _ _ _, (fun _ e => nomatch e), ?_⟩
  refine Calls.callWith_builtin rfl (Calls.evalArgs_plain (Calls.spliced_cons (wpAny_Name (at7.load (T := T0 prog w mg mb) (fm7.only fun b hb o e => x8 _ _ e) fo ok (Calls.spliced_nil ?_)) (by decide))))
  have step : ∀ b o, b ∉ fr env → h₅.get? b = some o → h₈.get? b = some o := fun b o h1 e => by
    by_cases hba : b = a'
    · subst hba
      rw [ea57] at e; exact x8 _ _ e
    · exact x8 _ _ (since b o h1 hba e)
  have hCf : C ∉ fr env := nf _ made.freshC
  have haf : a' ∉ fr env := nf _ made.freshA
  have hst8 := hfrm 0 _ h₈ (t₈ + 1) hst fun b hb o e => step b o (by
    rcases List.mem_cons.mp hb with rfl | hb
    · exact haf
    · rcases List.mem_cons.mp hb with rfl | hb
      · exact hCf
      · exact (hfp b hb).2) e
  refine SC.joinGen WS.in4_2 hty hst8 (fun b hb => ?_) List.mem_cons_self (fun i v hv => ?_) (fun s' lt hm hit => ?_) (by rw [dsz, sizeLine_eq]; lia)
  · show @LT.lt Nat _ b h₈.objs.size
    rcases List.mem_cons.mp hb with rfl | hb
    · exact Heap.lt_size (step _ _ haf ea)
    · rcases List.mem_cons.mp hb with rfl | hb
      · exact Heap.lt_size (step _ _ hCf eC)
      · have h1 := (hfp b hb).1
        have h2 : @LT.lt Nat _ a' h₈.objs.size := Heap.lt_size (step _ _ haf ea)
        lia
  · obtain ⟨d, u, _, rfl⟩ := hv
    exact ⟨_, u, rfl⟩
  have hl : lt.map (·.1) = ds.map fun r => strI r.1 := by
    have hsz : lt.length = ds.length := by have := hit.1; rw [dsz] at this; simpa [strValues] using this
    apply List.ext_getElem?
    intro j
    by_cases hj : j < ds.length
    · have hj' : j < lt.length := by lia
      obtain ⟨d, u, hd, hv⟩ := hit.2 j (.str lt[j].1 lt[j].2) (by simp [strValues, List.getElem?_eq_getElem hj'])
      rw [List.getElem?_map, List.getElem?_eq_getElem hj] at hd
      obtain rfl : gT ds[j] = d := by simpa using hd
      injection hv with h1 _
      rw [List.getElem?_map, List.getElem?_map, List.getElem?_eq_getElem hj, List.getElem?_eq_getElem hj']
      simp only [Option.map_some, h1]
    · rw [List.getElem?_eq_none (by simpa [hsz] using Nat.le_of_not_lt hj), List.getElem?_eq_none (by simpa using Nat.le_of_not_lt hj)]
  rw [hl]
  have hjl := joinW_len ds hz hr
  refine ⟨joinOk_of (by lia), fun t' kk => ?_⟩
  obtain ⟨hh, gg, dd, tt, oo⟩ := s'
  have hdr := hm.drawn
  have hos := hm.os
  have hhp := hm.heap
  have hgn := hm.gens
  dsimp only at hdr hos hhp hgn
  subst hdr
  subst hos
  have hJ : (Txt.join ", " (ds.map fun r => strI r.1)).length ≤ 1000 := by
    have e : Txt.join ", " (ds.map fun r => strI r.1) = Str.join ", " (ds.map fun r => strI r.1) := StrLaws.glued_eq_join ..
    rw [e]
    exact Nat.le_trans (StrLaws.join_length_le ..) hjl
  refine PyProof.Rows.add_str (fun t'' tk'' => ?_) (by
    have := pfx_len ds
    have e : (pfx ds ++ " ").length = (pfx ds).length + 1 := by
      show ((pfx ds ++ " ").cps).size = (pfx ds).cps.size + 1
      rw [Str.cps_append, Array.size_append]; rfl
    rw [sizeLine_eq, e]
    lia)
  have all : ∀ b o, b ≠ P → s.heap.get? b = some o → hh.get? b = some o := fun b o hb e => by
    have e1 := keep b o e
    have hbf : b ∉ fr env := fun z => by rw [frn b z] at e; cases e
    refine hhp b o (fun z => ?_) (step b o hbf (k5 b o hb e1))
    rcases List.mem_cons.mp z with rfl | z
    · rw [made.freshC] at e1; cases e1
    · rw [hwr b z, made.freshI] at e1; cases e1
  have later : ∀ b o, s.heap.get? b ≠ none → h₅.get? b = some o → hh.get? b = some o := fun b o hb e => by
    have hbf : b ∉ fr env := fun z => hb (frn b z)
    obtain ⟨o0, e0⟩ := Option.ne_none_iff_exists'.mp hb
    have e1 := keep b o0 e0
    refine hhp b o (fun z => ?_) (step b o hbf e)
    rcases List.mem_cons.mp z with rfl | z
    · rw [made.freshC] at e1; cases e1
    · rw [hwr b z, made.freshI] at e1; cases e1
  have gxN : GX mg 115 P hh := by
    obtain ⟨ps0, hps0⟩ := gx.code
    obtain ⟨ps, hps⟩ := gx5.code
    obtain ⟨⟨oc, ec⟩, oP, eP⟩ := code_there hps0
    exact gx.but all ⟨ps, code_at2 hps (fun o e => later _ _ (by rw [ec]; simp) e) fun o e => later _ _ (by rw [eP]; simp) e⟩
  obtain ⟨psN, hpsN⟩ := gxN.code
  refine post _ hh tk'' gg all gxN (cx.but (fun _ z => .inl z) (fun b o hb _ e => all b o (fun z => hb (z ▸ hPM)) e) fun b hb => ?_) ((hgens.push hbare).moved hgn) (.str _ _)
  by_cases hbP : b = P
  · exact hbP ▸ (code_there hpsN).2
  · obtain ⟨o, e⟩ := cx.m b hb
    exact ⟨o, all b o hbP e⟩
end
end Mine

-- G3
namespace Mine
open PySem PySem.W PyProof.Rows

section
variable {prog : Program} {w : World} {mg mb : Str → Option Value} {k : Nat}

theorem gT_inj (a b : Int × Int × Int) (h : gT a = gT b) : a = b := by
  obtain ⟨a1, a2, a3⟩ := a
  obtain ⟨b1, b2, b3⟩ := b
  injection h with h
  injection h with h1 h
  injection h with h2 h
  injection h with h3 h
  injection h1 with h1
  injection h2 with h2
  injection h3 with h3
  dsimp only at h1 h2 h3
  rw [h1, h2, h3]

theorem EqD.due (a b : Due) : ∀ (j : Nat) (x y : D), (a.map gT)[j]? = some x → (b.map gT)[j]? = some y → EqD 1 x y := fun j x y hx hy => by
  rw [List.getElem?_map] at hx hy
  obtain ⟨r, _, rfl⟩ := Option.map_eq_some_iff.mp hx
  obtain ⟨r', _, rfl⟩ := Option.map_eq_some_iff.mp hy
  exact EqD.tup (EqD.ints [r.1, r.2.1, r.2.2] [r'.1, r'.2.1, r'.2.2])

set_option maxHeartbeats 2000000 in
theorem fn_named {a b : Ws} {ds : Due} (hz : ds.length ≤ 100) (hr : ∀ r ∈ ds, 0 ≤ r.1 ∧ r.1 < 64) (hw : witness a b = ds) (ha : a.cnt.length ≤ 500) (hb : b.cnt.length ≤ 500) (hta : 0 ≤ a.tr ∧ a.tr ≤ 500) (htb : 0 ≤ b.tr ∧ b.tr ≤ 500) (P : Addr) :
    FnG (T0 prog w mg mb) (k + 4) (.ref 192) [.ws a, .ws b, dueD ds] (.bool true) 115 P := by
  intro M A s vs Q E r cx hPM gx hgens rl post
  have df : Def (T0 prog w mg mb) 192 ["one", "other", "due"] _ _ := ⟨⟨_, _, rfl, rfl, rfl, rfl, rfl, rfl, rfl, rfl, fun vals hv => by obtain ⟨a, b, c, rfl⟩ := len3 hv; rfl⟩, (by
    intro x hx
    simp only [List.mem_cons, List.not_mem_nil, or_false] at hx
    rcases hx with rfl | rfl | rfl <;> rfl), by decide, rfl, rfl, rfl⟩
  refine call_frame (k := k + 3) df r cx rl rfl fun env h₁ tk ok fo r' frn keep si hcode E' => ?_
  have dsz : (ds.map gT).length = ds.length := List.length_map ..
  have hjl := joinW_len ds hz hr
  have hJ : (Txt.join ", " (ds.map fun r => strI r.1)).length ≤ 1000 := by
    have e : Txt.join ", " (ds.map fun r => strI r.1) = Str.join ", " (ds.map fun r => strI r.1) := StrLaws.glued_eq_join ..
    rw [e]
    exact Nat.le_trans (StrLaws.join_length_le ..) hjl
  have e1 : (pfx ds ++ " ").length = (pfx ds).length + 1 := by
    show ((pfx ds ++ " ").cps).size = (pfx ds).cps.size + 1
    rw [Str.cps_append, Array.size_append]; rfl
  have hpl := pfx_len ds
  have hpf : ("at tab size" : Str) ++ (if decide (1 < ds.length) = true then ("s" : Str) else "") = pfx ds := by
    unfold pfx
    by_cases h : 1 < ds.length
    · rw [if_pos (by simpa using h), if_pos h]; rfl
    · rw [if_neg (by simpa using h), if_neg h]; rfl
  refine W_append (pre := [_, _]) (rest := [_]) (s := { s with heap := h₁, toks := tk }) ?_
  refine Ex.run (P := fun o => match o with | .next σ' own' => Sub σ' [("named", dueD ds), ("written", .str (fmtW ds)), ("due", dueD ds)] ∧ own' = none | _ => False) ok fo r' si ?_ fun o ho => ?_
  · refine Ex.cons (Ex1.assign (d := dueD ds) (.inl ((Ev.meth1 (.name rfl) (.name rfl) (fn_notless ha hb hta htb) m_notless).to (by rw [hw]))) ?_)
    refine Ex.cons (Ex1.assign (d := .str (fmtW ds)) (.inl ((Ev.bin (d₁ := .str (pfx ds ++ " ")) (d₂ := .str (Txt.join ", " (ds.map fun r => strI r.1))) (d := .str ((pfx ds ++ " ") ++ Txt.join ", " (ds.map fun r => strI r.1))) ?_ ?_ (BinOk.add_str (x := pfx ds ++ " ") (y := Txt.join ", " (ds.map fun r => strI r.1)) (by rw [e1, sizeLine_eq]; lia))).to (by rw [fmtW]))) ?_)
    · refine Ev.bin (d₁ := .str (pfx ds)) (d₂ := .str " ") ?_ .str (BinOk.add_str (x := pfx ds) (y := " ") (by rw [sizeLine_eq]; show _ + 1 ≤ _; lia))
      refine (Ev.bin (d₁ := .str "at tab size") (d₂ := .str (if decide (1 < ds.length) = true then ("s" : Str) else ("" : Str))) (d := .str ("at tab size" ++ (if decide (1 < ds.length) = true then ("s" : Str) else ("" : Str)))) .str ?_ (BinOk.add_str (x := "at tab size") (y := if decide (1 < ds.length) = true then ("s" : Str) else ("" : Str)) (by rw [sizeLine_eq]; split <;> decide))).to (by rw [hpf])
      refine (Ev.ite (p := decide (1 < ds.length)) ?_ (fun _ => .str) (fun _ => .str)).to (by split <;> rfl)
      exact (Tr.cmp (.gB rfl (.one (.name rfl)) (Fn.len_list (by rw [dsz]; lia))) .int .gt_int).to (by rw [dsz, Bool.eq_iff_iff]; simp; lia)
    · refine @Ev.join _ _ _ _ _ _ _ _ ", " (ds.map fun r => strI r.1) .str ?_ (by lia) ?_ ?_ ?_
      rotate_left
      · exact fun _ => rfl
      · exact fun _ => rfl
      · rfl
      refine Ev.to (d := .list (ds.map fun r => .str (strI r.1))) ?_ (by rw [List.map_map]; rfl)
      refine Ev.mapM ds gT (fun r => .str (strI r.1)) (.name rfl) .list (by lia) gT_inj fun row hrow => ?_
      have := hr row hrow
      exact .gT rfl (.one (.itemT (.name rfl) .int (by decide) (by decide) rfl)) (.str (Nat.lt_of_le_of_lt (Nat.log2_le_self _) (by lia)))
    · exact Ex.nil ⟨.cons rfl (.cons rfl (.cons rfl .nil)), rfl⟩
  cases o with
  | brk σ' own' => exact ho.elim
  | ret d' own' => exact ho.elim
  | next σ' own' =>
  obtain ⟨hsub, rfl⟩ := ho
  intro oa' h₂ tk₂ si2 kp2 rel2
  have si2 := si2.sub hsub
  cases oa' with
  | some a' => obtain ⟨_, _, _, _, _, ow, _⟩ := si2.ex; exact ow.elim
  | none =>
  have k2 : Ext s.heap h₂ := fun b o e => kp2 b o (fun z => by rw [frn b z] at e; cases e) (by simp) (keep b o e)
  have hP2 : P ∈ mm none env M := List.mem_append.mpr (.inr (List.mem_append.mpr (.inr hPM)))
  refine wpAny_execs_cons (wpAny_Return_some (wpAny_And2 ?_))
  refine (show Ev (T0 prog w mg mb) (k + 3) _ [("named", dueD ds), ("written", .str (fmtW ds)), ("due", dueD ds)] _ (.bool true) from (Ev.cmp (.name rfl) (.name rfl) (.eq_list (EqD.due ds ds) (by lia))).to (by simp)) env _ _ _ _ _ ok r' si2.cx (si2.holds fo) fun v h₃ t₃ x3 rv3 => ?_
  cases rv3
  refine wpAny_truthy_bool ?_
  have si3 := si2.keeps x3
  have gx3 : GX (T0 prog w mg mb).mg 115 P h₃ := gx.keeps (k2.trans x3)
  refine wpAny_Compare1 (wpAny_Call_NameR ((Callee.glob (T := T0 prog w mg mb) (f := .ref 116) rfl rfl) env _ _ _ _ _ _ ok si3.cx ?_)) rfl
  refine callWith_K si3.cx.X rfl ((EvL.one (.name rfl)) env _ _ _ _ _ _ ok r' si3.cx (si3.holds fo) fun vs h₄ t₄ x4 r4 => ⟨(si3.cx.keeps x4).X, ?_⟩) rfl rfl
  have si4 := si3.keeps x4
  refine fn_format hz hr P _ _ _ _ _ _ r' si4.cx hP2 (gx3.keeps x4) hgens r4 fun u h₅ t₅ g₅ k5 gx5 cx5 hg5 ru => ?_
  have si5 : SI (T0 prog w mg mb) env M none _ none h₅ := si4.to (fun _ z => .inl z) (fun b o hb e => k5 b o (fun z => hb (z ▸ hPM)) e) fun b hb => cx5.m b (List.mem_append.mpr (.inr (List.mem_append.mpr (.inr hb))))
  cases ru
  refine (Ev.name (T := T0 prog w mg mb) (k := k) (x := "written") (d := .str (fmtW ds)) rfl) env _ _ { s with heap := h₅, toks := t₅, gens := g₅ } _ _ ok (r'.less (by lia)) si5.cx (si5.holds fo) fun u2 h₆ t₆ x6 r6 => ?_
  cases r6
  refine (CmpOk.eq_str (T := T0 prog w mg mb) (k := k)) _ _ { s with heap := h₆, toks := t₆, gens := g₅ } _ _ _ _ (r'.less (by lia)) (si5.keeps x6).cx (.str _ _) (.str _ _) fun z h₇ t₇ x7 r7 => ?_
  rw [beq_self_eq_true] at r7
  cases r7
  have all : ∀ b o, b ≠ P → s.heap.get? b = some o → h₇.get? b = some o := fun b o hb e => x7 _ _ (x6 _ _ (k5 b o hb (x4 _ _ (x3 _ _ (k2 b o e)))))
  refine post _ h₇ t₇ g₅ all ((gx5.keeps x6).keeps x7) (cx.but (fun _ z => .inl z) (fun b o hb _ e => all b o (fun z => hb (z ▸ hPM)) e) fun b hb => ?_) hg5 (.bool _)
  exact ((cx5.keeps x6).keeps x7).m b (List.mem_append.mpr (.inr (List.mem_append.mpr (.inr hb))))
end
end Mine

-- N1
namespace Mine
open PySem PySem.W PyProof.Rows

theorem entry_bnext : entryFor table "next" = some Builtin.«next» := entryFor_of_fast (by kernel_rfl)
theorem kind_bnext : builtinKind "next" = none := by decide +kernel
theorem plain_bnext : plainId "next" = true := by decide +kernel
theorem args_bnext (a : Value) : argsOk "next" ⟨[a], []⟩ := by unfold argsOk; kernel_rfl
theorem entry_biter : entryFor table "iter" = some Builtin.«iter» := entryFor_of_fast (by kernel_rfl)
theorem kind_biter : builtinKind "iter" = none := by decide +kernel
theorem plain_biter : plainId "iter" = true := by decide +kernel
theorem args_biter (a : Value) : argsOk "iter" ⟨[a], []⟩ := by unfold argsOk; kernel_rfl

section
variable {prog : Program} {w : World} {A : Around} {E : Value → Shared → Prop} {s : Shared} {b : Array UInt8} {t : Tok}
theorem call_next {it : Addr} {i : Nat} {c : UInt8} {Q : Value → Shared → Prop} (hit : KBw.IsBytesIter s.heap it b t i) (hx : b[i]? = some c)
    (hQ : ∀ h', KBw.IsBytesIter h' it b t (i + 1) → Heap.SameBut it s.heap h' → Q (.int (c.toNat : Int) s.toks) { s with heap := h', toks := s.toks + 1 }) : wpAny (model prog w) A (call (.builtin "next") [.ref it]) Q E s := by
  refine Calls.call_function_entry kind_bnext plain_bnext entry_bnext (args_bnext _) ?_
  unfold Builtin.«next»
  refine wpAny_bind (m := someArgs "next" 1 2 _) (wpAny_pure ?_)
  refine wpAny_bind (m := specialOf (.ref it) (Str.ofString "__next__")) (wpAny_specialOf (KBw.iter_typeIs hit) KBw.slot_next.lookup ?_)
  obtain ⟨o, ho, hc, hd⟩ := id hit
  show wpAny _ _ (callSpecial? (.ref it) (Str.ofString "__next__") >>= _) _ _ s
  refine wpAny_bind (wpAny_callSpecial?_slot (name := PySem.Str.ofString "__next__") (KBw.iter_typeIs hit) KBw.slot_next
    (wpAny_call_entry KBw.slot_next (KBw.iter_typeIs hit) KBw.entry_next ?_ (KBw.args_next _)))
  show wpAny _ _ (field (.ref it) 0 >>= _) _ _ s
  refine wpAny_bind (wpAny_field ho hd (x := .bytes b t) rfl ?_)
  show wpAny _ _ (if (Value.bytes b t == Value.none) = true then _ else _) _ _ s
  rw [if_neg (show ¬ ((Value.bytes b t == Value.none) = true) from Bool.false_ne_true)]
  show wpAny _ _ (field (.ref it) 1 >>= _) _ _ s
  refine wpAny_bind (wpAny_field ho hd (x := .int i 0) rfl ?_)
  refine wpAny_bind (wpAny_of_eq (a := b) rfl ?_)
  simp only [Int.toNat_natCast, hx]
  refine wpAny_bind (wpAny_setField ho hd (by simp) (wpAny_bind (wpAny_mkInt (wpAny_pure ⟨_, rfl, wpAny_pure ⟨_, rfl, hQ _ ?_ (Heap.SameBut.update ..)⟩⟩))))
  exact ⟨_, Heap.get?_update_self _ ho (Obj.isFreed_of_fields (Obj.data_mapFields hd _)), (Obj.cls_mapFields ..).trans hc, by
    rw [Obj.data_mapFields hd]; simp [rawInt]⟩
theorem call_iter_bytes {Q : Value → Shared → Prop} (hQ : Q (.ref s.heap.objs.size) { s with heap := s.heap.push { cls := .type "bytes_iterator", data := .fields #[.bytes b t, .int 0 0] } }) : wpAny (model prog w) A (call (.builtin "iter") [.bytes b t]) Q E s := by
  refine Calls.call_function_entry kind_biter plain_biter entry_biter (args_biter _) ?_
  unfold Builtin.«iter»
  refine wpAny_bind (m := someArgs "iter" 1 2 _) (wpAny_pure ?_)
  show wpAny _ _ (pyIter (.bytes b t) >>= _) _ _ s
  exact wpAny_bind (KBw.pyIter_bytes (wpAny_pure ⟨_, rfl, hQ⟩))
end

section
variable {T : Th} {k : Nat} {sc : Scope} {σ : St} {P : Out → Prop} {env : Env} {M₀ : List Addr} {h h' : Heap}

/-- the owned object changes in place -/
theorem SI.ownedO {x : Str} {od od' : OD} {a : Addr} (si : SI T env M₀ (some a) σ (some (x, od)) h) (sb : ∀ b o, b ≠ a → h.get? b = some o → h'.get? b = some o) (r : OObj (mm (some a) env M₀) h' a od') :
    SI T env M₀ (some a) σ (some (x, od')) h' := by
  obtain ⟨m, cm, fm, cx, dj, ow, hl⟩ := si.ex
  obtain ⟨o1, o3, o4, o5⟩ := ow
  have kk : ∀ b o, b ∉ mm (some a) env M₀ → h.get? b = some o → h'.get? b = some o := fun b o hb e => sb b o (fun q => hb (by simp [q])) e
  refine ⟨m, cm, fm.only fun b hb o e => sb b o (fun q => o4 (q ▸ hb)) e, cx.but (fun _ q => .inl q) (fun b o hb _ e => kk b o hb e) fun b hb => ?_, dj, ⟨o1, o3, o4, r⟩, fun y d q => ?_⟩
  · by_cases hba : b = a
    · rw [hba]; exact r.there
    · obtain ⟨o, e'⟩ := cx.m b hb
      exact ⟨o, sb b o hba e'⟩
  · obtain ⟨v, b, c⟩ := hl y d q
    exact ⟨v, b, c.to (fun _ q => .inl q) kk⟩

/-- `b = next(it)` on the owned iterator -/
theorem Ex1.next {x y : Str} {px p1 p2 cpos pos : Pos} {a₀ : Addr} {b : Array UInt8} {i : Nat} {c : UInt8} (hx : b[i]? = some c) (h : P (.next ((x, .int (c.toNat : Int)) :: σ) (some (y, .biter a₀ b (i + 1))))) (hn : nsIn T.K mainGlobals "next" = some none)
    (hs : Stor sc x = true := by rfl) (hne : (!(y == x)) = true := by rfl) (hg : sc.names.lookup ("next" : Str) = some .globalImplicit := by rfl) (hd : (y == ("__debug__" : Str)) = false := by decide) :
    Ex1 T k sc σ (some (y, .biter a₀ b i)) (.Assign [.Name x px] (.Call (.Name "next" p1) [.Name y p2] [] cpos) pos) P := by
  intro env M₀ oa A s Q E ok fo r si post
  cases oa with
  | none => obtain ⟨_, _, _, _, _, ow, _⟩ := si.ex; exact ow.elim
  | some a =>
  obtain ⟨m, cm, fm, cx, dj, ow, hl⟩ := si.ex
  obtain ⟨o1, o3, o4, rfl, t, hit⟩ := ow
  refine wpAny_Assign_Name (wpAny_Call_NameR ((Callee.bi (T := T) (f := .builtin "next") hg hn rfl (by decide)) env _ A s _ E _ ok cx ?_)) rfl
  refine Calls.callWith_builtin rfl (Calls.evalArgs_plain (Calls.spliced_cons (wpAny_Name (o1.load (T := T) fm fo ok (Calls.spliced_nil ?_)) hd)))
  refine call_next hit hx fun h2 hit2 sb2 => ?_
  have si2 := si.ownedO (od' := .biter a b (i + 1)) (fun b o hb e => sb2.extBut b o hb e) ⟨rfl, t, hit2⟩
  refine SI.store (s := { s with heap := h2, toks := s.toks + 1 }) si2 fo ok hs hne (.int _ _) fun h3 t3 si3 k3 => ?_
  refine post _ h (some a) h3 t3 si3 (fun b o h1 h2 e => k3 b o h1 (sb2.extBut b o (fun z => h2 (by rw [z])) e)) (fun a' e => by cases e; exact ⟨o4, .inl rfl⟩)
end

section
variable {prog : Program} {w : World} {mg mb : Str → Option Value} {k : Nat}

theorem call_frame1 {T : Th} {sc : Scope} {f : Addr} {x : Str} {body : List Stmt} (df : Def T f [x] sc body) {A : Around} {s : Shared} {M : List Addr} {v : Value} {Q : Value → Shared → Prop} {E : Value → Shared → Prop}
    (r : Room (k + 1) A) (cx : Cx T M s.heap)
    (hb : ∀ env h₁ tk m cm, EnvOk sc env → Fo env → Room k (A.deeper env) → (∀ a ∈ fr env, s.heap.get? a = none) → Ext s.heap h₁ → Frm env m cm h₁ → At env m cm x v → (∀ a ∈ fr env, ∃ o, h₁.get? a = some o) → ∀ E', W T (A.deeper env) (execs body env) (fun fl s' => Q (match fl with | .ret v => v | _ => .none) s') E' { s with heap := h₁, toks := tk }) : W T A (call (.ref f) [v]) Q E s := by
  obtain ⟨o, fd, ho, hd, hbd, hsc, hc, hclo, hg, hbi, hbind⟩ := df.ex
  have hst := df.st x List.mem_cons_self
  simp only [Stor, Bool.or_eq_true, beq_iff_eq] at hst
  have hkind : ∀ y ∈ [x].zip [v], fd.scope.names.lookup y.1 = some .local ∨ (fd.scope.names.lookup y.1 = some .cell ∧ ((cellsFrom (s.heap.objs.size + 1) fd.scope.names []).lookup y.1).isSome = true) := fun y hy => by
    rw [List.mem_singleton.mp hy, hsc]
    rcases hst with q | q
    · exact .inl q
    · exact .inr ⟨q, cells_has _ _ _ (.inr (mem_of_lookup q))⟩
  refine wpAny_call (codeAny_call_cells r.room (cx.X f o ho) hd cx.lim (codeRec_of cx.X hc) hbd (hbind [v] rfl) hclo hkind (fun s₁ xx => ?_) (by rw [hsc]; exact df.co) (by rw [hsc]; exact df.ge) (by rw [hsc]; exact df.ki))
  have henv : callEnvC fd s.heap.objs.size f = newEnv fd.scope s.heap.objs.size fd.globals (cellsFrom (s.heap.objs.size + 1) fd.scope.names []) (fd.qualname ++ ".<locals>.") (some f) fd.code none fd.builtins := rfl
  generalize callEnvC fd s.heap.objs.size f = env at xx henv ⊢
  have e1 : env.scope = sc := by rw [henv, ← hsc]; rfl
  have e2 : env.cells = cellsFrom (s.heap.objs.size + 1) fd.scope.names [] := by rw [henv]; rfl
  have e3 : env.locals = s.heap.objs.size := by rw [henv]; rfl
  have ok : EnvOk sc env := ⟨e1, df.ki, by rw [henv]; exact hg, by rw [henv]; exact hbi⟩
  have fo : Fo env := ⟨xx.apart, xx.above, fun n hn => by
    rw [e2, hsc]
    have : sc.names.lookup n = some .cell := by rw [← e1]; exact hn
    exact cells_has _ _ _ (.inr (mem_of_lookup this))⟩
  obtain ⟨h₁, tk, hs₁, keep⟩ := xx.done
  have frn : ∀ a ∈ fr env, s.heap.get? a = none := fun a ha => by
    rcases List.mem_cons.mp ha with rfl | ha
    · rw [e3]; exact fresh_none (Nat.le_refl _)
    · obtain ⟨p, hp, hq⟩ := List.mem_filterMap.mp ha
      have := xx.above _ _ (mem_of_lookup hq)
      rw [e3] at this
      exact fresh_none (Nat.le_of_lt this)
  subst hs₁
  refine wpAny_mono (hb env h₁ tk _ _ ok fo r.deeper frn keep ⟨xx.toInCall.ns, xx.cell⟩ ?_ (fun a ha => ?_) _) (fun fl s' q => ?_) fun _ _ z => z
  · have hk : env.kindOf x = some .local ∨ env.kindOf x = some .cell := by
      show env.scope.names.lookup x = _ ∨ env.scope.names.lookup x = _
      rw [e1]; exact hst
    show At env (bindL env.kindOf [(x, v)] _) (bindC env.kindOf [(x, v)] _) x v
    unfold bindL bindC bindL bindC
    rcases hk with hk | hk
    · exact .inl ⟨hk, by rw [if_pos hk]; exact if_pos rfl⟩
    · exact .inr ⟨hk, by rw [if_neg (by rw [hk]; decide)]; exact if_pos rfl⟩
  · rcases List.mem_cons.mp ha with rfl | q
    · obtain ⟨o', _, _, e', _⟩ := xx.toInCall.ns; exact ⟨o', e'⟩
    · obtain ⟨p, hp, hq⟩ := List.mem_filterMap.mp q
      obtain ⟨o', e', _⟩ := xx.cell _ _ hq
      exact ⟨o', e'⟩
  · exact q

theorem bitOr_shift {v d : Nat} (h : d < 64) : Builtin.bitOr ((v : Int) * 2 ^ (6 : Int).toNat) (d : Int) = ((v * 64 + d : Nat) : Int) := by
  have e : (v : Int) * 2 ^ (6 : Int).toNat = ((2 ^ 6 * v : Nat) : Int) := by
    show (v : Int) * 64 = _; push_cast; lia
  rw [e, bitOr_and, bitAnd_pp (by lia) (by lia), Int.toNat_natCast, Int.toNat_natCast]
  have h1 := nat_or_add_and (2 ^ 6 * v) d
  have h2 := Nat.two_pow_add_eq_or_of_lt (i := 6) (b := d) (by lia) v
  rw [← h2] at h1
  have h3 : 2 ^ 6 * v &&& d = 0 := by lia
  rw [h3]; push_cast; lia
theorem and63 (c : Nat) : Builtin.bitAnd (c : Int) 63 = ((c % 64 : Nat) : Int) := by
  have := kbt_mask (c : Int) 6
  rw [show ((2 : Int) ^ 6 - 1) = 63 by decide] at this
  rw [this]; rfl
theorem and64 (c : Nat) : Builtin.bitAnd (c : Int) 64 = ((c / 64 % 2 * 64 : Nat) : Int) := by
  have := kbt_bit (c : Int) 6
  rw [show ((2 : Int) ^ 6) = 64 by decide] at this
  rw [this]; rfl

theorem fn_parse {bs : Array UInt8} {i : Nat} {c0 c1 c2 : UInt8} {d0 d1 d2 : Nat} (g0 : bs[i]? = some c0) (g1 : bs[i + 1]? = some c1) (g2 : bs[i + 2]? = some c2) (e0 : c0.toNat = 64 + d0) (e1 : c1.toNat = 64 + d1) (e2 : c2.toNat = d2) (b0 : d0 < 64) (b1 : d1 < 64) (b2 : d2 < 64)
    {M : List Addr} {A : Around} {s : Shared} {a : Addr} {t : Tok} {Q : Value → Shared → Prop} {E : Value → Shared → Prop} (r : Room (k + 1) A) (cx : Cx (T0 prog w mg mb) M s.heap) (ha : a ∉ M) (hit : KBw.IsBytesIter s.heap a bs t i)
    (hcx : ∃ hb : Heap, Ext hb s.heap ∧ hb.get? a = none ∧ (∀ b ∈ M, hb.get? b = none) ∧ (K0 w.params).In hb ∧ hb.Ns mainGlobals mg ∧ hb.Ns builtinsNs mb ∧ hb.NoLimit)
    (post : ∀ u h' tk, (∀ b o, b ≠ a → s.heap.get? b = some o → h'.get? b = some o) → (∃ t', KBw.IsBytesIter h' a bs t' (i + 3)) → Q (.int (((d0 * 64 + d1) * 64 + d2 : Nat) : Int) u) { s with heap := h', toks := tk }) : W (T0 prog w mg mb) A (call (.ref 43) [.ref a]) Q E s := by
  have df : Def (T0 prog w mg mb) 43 ["iterator"] _ _ := ⟨⟨_, _, rfl, rfl, rfl, rfl, rfl, rfl, rfl, rfl, fun vals hv => by obtain ⟨a, rfl⟩ := len1 hv; rfl⟩, (by intro x hx; rw [List.mem_singleton.mp hx]; rfl), by decide, rfl, rfl, rfl⟩
  refine call_frame1 df r cx fun env h₁ tk m cm ok fo r' frn keep fm at1 exf E' => ?_
  obtain ⟨oo, eo, hco, hdo⟩ := hit
  have eo1 := keep _ _ eo
  have haf : a ∉ fr env := fun z => by rw [frn a z] at eo; cases eo
  obtain ⟨hb, xb, nba, nbM, Xb, gb, bb, limb⟩ := hcx
  have cxa : Cx (T0 prog w mg mb) (a :: M) s.heap := ⟨fun b hb' => by
    rcases List.mem_cons.mp hb' with rfl | hb'
    · exact ⟨_, eo⟩
    · exact cx.m b hb', cx.X, cx.g, cx.b, cx.lim, cx.bi, hb, xb, (fun b hb' => by
      rcases List.mem_cons.mp hb' with rfl | hb'
      · exact nba
      · exact nbM b hb'), Xb, gb, bb, limb⟩
  have si : SI (T0 prog w mg mb) env M (some a) [] (some ("iterator", .biter a bs i)) h₁ := by
    refine ⟨m, cm, fm, cxa.but (fun b hb' => ?_) (fun b o _ _ e => keep b o e) fun b hb' => ?_, fun b hb' z => ?_, ⟨at1, ha, haf, rfl, t, oo, eo1, hco, hdo⟩, fun y d e => by simp at e⟩
    · rcases List.mem_append.mp hb' with z | z
      · exact .inl (by rw [show b = a by simpa using z]; exact List.mem_cons_self)
      · rcases List.mem_append.mp z with z | z
        · exact .inr (frn b z)
        · exact .inl (List.mem_cons_of_mem _ z)
    · rcases List.mem_append.mp hb' with z | z
      · exact ⟨_, by rw [show b = a by simpa using z]; exact eo1⟩
      · rcases List.mem_append.mp z with z | z
        · exact exf b z
        · obtain ⟨o, e⟩ := cx.m b z; exact ⟨o, keep _ _ e⟩
    · obtain ⟨o, e⟩ := cx.m b z
      rw [frn b hb'] at e; cases e
  let bj : Nat → Nat := fun j => match j with | 0 => 64 + d0 | 1 => 64 + d1 | _ => d2
  let vj : Nat → Nat := fun j => match j with | 0 => d0 | 1 => d0 * 64 + d1 | _ => (d0 * 64 + d1) * 64 + d2
  refine Ex.run (P := fun o => o = .ret (.int (((d0 * 64 + d1) * 64 + d2 : Nat) : Int)) (some (("iterator" : Str), .biter a bs (i + 3)))) ok fo r' si ?_ fun o ho => ?_
  · refine Ex.cons (Ex1.next g0 ?_ rfl)
    refine Ex.cons (Ex1.assign (d := .int ((d0 : Nat) : Int)) (.inl ((Ev.bin (.name rfl) .int .and_int).to (by rw [and63, e0]; congr 2; lia))) ?_)
    refine Ex.cons (Ex1.while_ (S := Nat) (fun j => j ≤ 2) (fun j => 2 - j) (fun j => [("b", .int ((bj j : Nat) : Int)), ("val", .int ((vj j : Nat) : Int))]) (fun j => some (("iterator" : Str), .biter a bs (i + 1 + j))) (a₀ := 0) (by lia) ?_ rfl fun j hj => ?_)
    · exact .cons (by rw [e0]; rfl) (.cons rfl .nil)
    · have hj3 : j = 0 ∨ j = 1 ∨ j = 2 := by lia
      refine ⟨bj j / 64 % 2 != 0, .inl ((Tr.int (.bin (.name rfl) .int .and_int)).to ?_), fun hb => ?_, fun hb => ?_⟩
      · rw [and64]
        rcases Nat.mod_two_eq_zero_or_one (bj j / 64) with q | q
        · rw [q]; rfl
        · rw [q]; rfl
      · have hj2 : j < 2 := by
          rcases hj3 with rfl | rfl | rfl
          · lia
          · lia
          · have : (d2 / 64 % 2 != 0) = true := hb
            rw [Nat.div_eq_of_lt b2] at this; simp at this
        have step : ∃ c : UInt8, bs[i + 1 + j]? = some c ∧ c.toNat = bj (j + 1) ∧ vj (j + 1) = vj j * 64 + bj (j + 1) % 64 ∧ bj (j + 1) % 64 < 64 := by
          rcases hj3 with rfl | rfl | rfl
          · exact ⟨c1, g1, e1, by show d0 * 64 + d1 = d0 * 64 + (64 + d1) % 64; lia, Nat.mod_lt _ (by decide)⟩
          · exact ⟨c2, g2, e2, by show (d0 * 64 + d1) * 64 + d2 = (d0 * 64 + d1) * 64 + d2 % 64; lia, Nat.mod_lt _ (by decide)⟩
          · lia
        obtain ⟨c, gc, ec, evj, hlt⟩ := step
        refine Ex.cons (Ex1.aug rfl .int (.shl_int (by decide) ?_) ?_)
        · have hv : vj j < 2 ^ 20 := by
            rcases hj3 with rfl | rfl | rfl
            · show d0 < _; lia
            · show d0 * 64 + d1 < _; lia
            · lia
          have := intBits_le_64 (k := ((vj j : Nat) : Int)) (by lia) (by lia)
          lia
        · refine Ex.cons (Ex1.next gc ?_ rfl)
          refine Ex.cons (Ex1.aug rfl ((Ev.bin (.name rfl) .int .and_int).to (d' := .int ((bj (j + 1) % 64 : Nat) : Int)) (by rw [and63, ec])) .or_int ?_)
          refine Ex.nil ⟨j + 1, by lia, by lia, .cons ?_ (.cons ?_ .nil), ?_⟩
          · show some (D.int _) = some (D.int _)
            rw [ec]
          · show some (D.int _) = some (D.int _)
            rw [bitOr_shift hlt, evj]
          · rfl
      · have hj2 : j = 2 := by
          rcases hj3 with rfl | rfl | rfl
          · have : ((64 + d0) / 64 % 2 != 0) = false := hb
            rw [show (64 + d0) / 64 = 1 by lia] at this; simp at this
          · have : ((64 + d1) / 64 % 2 != 0) = false := hb
            rw [show (64 + d1) / 64 = 1 by lia] at this; simp at this
          · rfl
        subst hj2
        exact Ex.nil (Ex.cons (Ex1.ret (.inl (.name rfl)) rfl))
  · subst ho
    intro v oa' h' tk' rv cx' ro kp rel
    cases rv
    cases oa' with
    | none => exact ro.elim
    | some a' =>
    obtain ⟨rfl, t', hit'⟩ := ro
    exact post _ h' tk' (fun b o hb' e => kp b o (fun z => by rw [frn b z] at e; cases e) (fun z => hb' (Option.some.inj z).symm) (keep b o e)) ⟨t', hit'⟩
end
end Mine

-- I1
namespace Mine
open PySem PySem.W PyProof.Rows

section
variable {prog : Program} {w : World} {A : Around} {E : Value → Shared → Prop} {s : Shared}

/-- a store into the dict of an object of Whitespace -/
theorem set_ws {x dx : Addr} {es : List DictEntry} {n : Nat} {name : Str} {v : Value} {Q : Unit → Shared → Prop} (X : (K0 w.params).In s.heap) (e1 : s.heap.get? x = some (instObj wsC dx)) (e2 : s.heap.get? dx = some (dictOf es n))
    (ht : takerIn (K0 w.params) wsC name = some none) (hl : (getL name es).isSome = true) (hz : (putL name (PyData.keyHash w.params name) (.str name (s.toks + 1)) v es).length ≤ 1000)
    (h : ∀ h' tk, (∀ b o, b ≠ dx → s.heap.get? b = some o → h'.get? b = some o) → h'.get? dx = some (dictOf (putL name (PyData.keyHash w.params name) (.str name (s.toks + 1)) v es) (putN name es n)) → Q () { s with heap := h', toks := tk }) :
    wpAny (model prog w) A (setAttr (.ref x) name v) Q E s := by
  have I := inst_at e1 e2
  refine set_plain X I rfl ?_
  refine osa_open (s := { s with toks := s.toks + 1 }) X I rfl ht fun b => ?_
  obtain ⟨cd, hc, hd'⟩ := any_some (show (clsIn (K0 w.params) wsC).any (·.hasDict) = true from rfl)
  have L : Looks (model prog w) ({ s with toks := s.toks + 1 } : Shared).heap (classData wsC) cd := looks_clsIn X hc
  refine wpAny_bind (wpAny_pure (wpAny_bind (wpAny_bind (wpAny_loadPart (s := { s with toks := s.toks + 1 }) e1 (wpAny_bind (L.here ?_))))))
  rw [hd']
  refine wpAny_pure (a := some dx) (wpAny_bind (wpAny_pure (wpAny_bind ?_)))
  unfold nsSet
  refine wpAny_bind (wpAny_bind (wpAny_askSetting (wpAny_pure (wpAny_bind (wpAny_mkText (wpAny_bind (wpAny_loadPart e2 ?_)))))))
  dsimp only
  have c : (!es.toArray.any (·.key.isStr name) && es.toArray.any (·.refKey)) = false := by
    unfold getL at hl
    rw [List.any_toArray, List.any_toArray]
    split at hl
    · rename_i en he
      rw [List.any_eq_true.mpr ⟨en, List.mem_of_find?_eq_some he, List.find?_some he⟩]; rfl
    · split at hl
      · cases hl
      · rename_i z; rw [Bool.not_eq_true] at z; rw [z, Bool.and_false]
  rw [aRefKeyMayBeTheName_at, c]
  have up : (s.heap.update dx (Obj.putName name (PyData.keyHash w.params name) (.str name (s.toks + 1)) v)).get? dx = some (dictOf (putL name (PyData.keyHash w.params name) (.str name (s.toks + 1)) v es) (putN name es n)) := by
    have := Heap.get?_update_self (Obj.putName name (PyData.keyHash w.params name) (.str name (s.toks + 1)) v) e2 (by rw [putName_dict]; rfl)
    rw [putName_dict] at this; exact this
  refine wpAny_updatePart e2 ?_
  refine wpAny_bind (wpAny_lookBehind up (pastItsLine_dict (by rw [List.size_toArray, sizeLine_eq]; lia)) ?_)
  exact wpAny_pure (h _ _ (fun b o hb e => (Heap.get?_update_other _ _ (Ne.symm hb)).trans e) up)

theorem cls_attr {name : Str} {v : Value} {expr : Bool} {Q : Value → Shared → Prop} (X : (K0 w.params).In s.heap) (hr : readsIn (K0 w.params) wsC (.type "type") = true) (e : findCls (K0 w.params) (.ref wsC) (.type "type") name = some (.val v)) (hh : handedIn v = true)
    (h : Q v { s with toks := s.toks + 1 }) : wpAny (model prog w) A (getAttr (.ref wsC) name expr) Q E s := cls_value X hr e hh h
end
end Mine

-- I2
namespace Mine
open PySem PySem.W PyProof.Rows

section
variable {T : Th} {k : Nat} {sc : Scope} {σ : St} {Φ : Out → Prop} {env : Env} {M₀ : List Addr} {h h' : Heap}

/-- a fresh list is stored and owned -/
theorem SI.adopt {A : Around} {s₀ : Shared} {h1 : Heap} {t1 : Nat} {x : Str} {vs : List Value} {ds : List D} {Q : Unit → Shared → Prop} {E : Value → Shared → Prop} (si1 : SI T env M₀ none σ none h1) (fo : Fo env) (ok : EnvOk sc env) (hx : Stor sc x = true) (hσ : σ.lookup x = none) (r1 : RepL (mm none env M₀) h1 vs ds)
    (q : ∀ h' tk, SI T env M₀ (some h1.objs.size) σ (some (x, .list ds)) h' → (∀ b o, b ∉ fr env → h1.get? b = some o → h'.get? b = some o) → h1.objs.size ∉ fr env → Q () { s₀ with heap := h', toks := tk }) :
    W T A (storeName env x (.ref h1.objs.size)) Q E { s₀ with heap := h1.push (lObj vs 0), toks := t1 } := by
  obtain ⟨m, cm, fm, cx, dj, ow, hl⟩ := si1.ex
  have hfr : h1.get? h1.objs.size = none := fresh_none (Nat.le_refl _)
  have fm2 : Frm env m cm (h1.push (lObj vs 0)) := fm.only fun b hb o e => Heap.get?_push_of_some _ e
  refine fm2.store (s := { s₀ with heap := h1.push (lObj vs 0), toks := t1 }) fo ok hx fun m' cm' h' tk fm' at' keep hm' hmx kp ex => ?_
  have new : ∀ a ∈ mm none env M₀, a ≠ h1.objs.size := fun a ha q => by
    obtain ⟨o, e⟩ := cx.m a ha
    rw [q, hfr] at e; cases e
  have nf : h1.objs.size ∉ fr env := fun q => new _ (by simp only [List.mem_append]; exact .inr (.inl q)) rfl
  have nm : h1.objs.size ∉ M₀ := fun q => new _ (by simp only [List.mem_append]; exact .inr (.inr q)) rfl
  have eL : h'.get? h1.objs.size = some (lObj vs 0) := kp _ _ nf (Heap.get?_push_size _ rfl)
  have hMM : ∀ a ∈ mm (some h1.objs.size) env M₀, a ∈ mm none env M₀ ∨ h1.get? a = none := fun a ha => by
    simp only [List.mem_append, Option.toList_some, List.mem_singleton] at ha
    rcases ha with rfl | ha
    · exact .inr hfr
    · exact .inl (by simp only [List.mem_append]; exact .inr ha)
  have kk : ∀ b o, b ∉ mm none env M₀ → h1.get? b = some o → h'.get? b = some o := fun b o hb e => kp b o (fun z => hb (by simp only [List.mem_append]; exact .inr (.inl z))) (Heap.get?_push_of_some _ e)
  refine q h' tk ⟨m', cm', fm', cx.but hMM (fun b o hb _ e => kk b o hb e) fun a ha => ?_, dj, ⟨at', nm, nf, vs, 0, eL, r1.to hMM kk⟩, fun y d' e => ?_⟩
    (fun b o hb e => kp b o hb (Heap.get?_push_of_some _ e)) nf
  · simp only [List.mem_append, Option.toList_some, List.mem_singleton] at ha
    rcases ha with rfl | ha
    · exact ⟨_, eL⟩
    · obtain ⟨o, e⟩ := cx.m a (by simp only [List.mem_append]; exact .inr ha)
      by_cases hf : a ∈ fr env
      · exact ex a hf ⟨o, Heap.get?_push_of_some _ e⟩
      · exact ⟨o, kp a o hf (Heap.get?_push_of_some _ e)⟩
  · obtain ⟨v', a, rv⟩ := hl y d' e
    exact ⟨v', keep y v' (fun z => by rw [z, hσ] at e; cases e) a, rv.to hMM kk⟩

theorem SI.unown {x : Str} {ds : List D} {oa : Option Addr} (si : SI T env M₀ oa σ (some (x, .list ds)) h) : SI T env M₀ none σ none h := by
  obtain ⟨m, cm, fm, cx, dj, ow, hl⟩ := si.freeze.ex
  obtain ⟨m', cm', fm', cx', dj', ow', hl'⟩ := si.ex
  cases oa with
  | none => exact ow'.elim
  | some a =>
  have hMM : ∀ b ∈ mm none env M₀, b ∈ mm (some a) env M₀ := fun b hb => List.mem_append.mpr (.inr (by simpa using hb))
  exact ⟨m', cm', fm', cx'.less hMM, dj', trivial, fun y d e => let ⟨v, b, c⟩ := hl' y d e; ⟨v, b, c.less hMM⟩⟩

/-- `x = x + e` where x owns its list: it owns the new one -/
theorem Ex1.regrow {x : Str} {px p bp pos : Pos} {e : Expr} {ds ds' : List D} (he : Ev T k sc ((x, .list ds) :: σ) e (.list ds')) (hz : ds.length + ds'.length ≤ 1000000) (h : Φ (.next σ (some (x, .list (ds ++ ds'))))) (hx : Stor sc x = true := by rfl) (hσ : σ.lookup x = none := by rfl) (hd : (x == ("__debug__" : Str)) = false := by decide) :
    Ex1 T k sc σ (some (x, .list ds)) (.Assign [.Name x px] (.BinOp (.Name x p) .Add e bp) pos) Φ := by
  intro env M₀ oa A s Q E ok fo r si post
  cases oa with
  | none => obtain ⟨_, _, _, _, _, ow, _⟩ := si.ex; exact ow.elim
  | some a =>
  obtain ⟨m, cm, fm, cx, dj, ow, hl⟩ := si.ex
  obtain ⟨o1, o3, o4, vs, n, e5, r5⟩ := ow
  refine wpAny_Assign_Name (wpAny_BinOp (wpAny_Name (o1.load (T := T) fm fo ok ?_) hd)) rfl
  refine he env _ A s _ E ok r si.freeze.cx (si.freeze.holds fo) fun v h1 t1 x1 r1 => ?_
  have hMM : ∀ b ∈ mm none env M₀, b ∈ mm (some a) env M₀ := fun b hb => List.mem_append.mpr (.inr (by simpa using hb))
  have r5' : RepL (mm none env M₀) h1 vs ds := (r5.less hMM).keeps x1
  cases r1 with
  | list hb eb lb =>
    rename_i b us n2
    refine P.add_list (s := { s with heap := h1, toks := t1 }) (x1 _ _ e5) eb ?_ (by rw [List.size_toArray, List.size_toArray, r5.length, lb.length, sizeLine_eq]; lia)
    rw [List.append_toArray]
    have si1 := (si.keeps x1).unown
    refine SI.adopt si1 fo ok hx hσ (r5'.append lb) fun h2 t2 si2 k2 nf => ?_
    refine post _ h (some h1.objs.size) h2 t2 si2 (fun b o h1' _ e => k2 b o h1' (x1 b o e)) fun c ec => ?_
    cases ec
    refine ⟨nf, .inr ?_⟩
    cases q : s.heap.get? h1.objs.size with
    | none => rfl
    | some o => have := x1 _ _ q; rw [fresh_none (Nat.le_refl _)] at this; cases this

theorem repl_set {M : List Addr} : ∀ {vs : List Value} {ds : List D} (i : Nat) {v : Value} {d : D}, RepL M h vs ds → Rep M h v d → RepL M h (vs.set i v) (ds.set i d)
  | _, _, i, v, d, .nil, rv => .nil
  | _, _, 0, v, d, .cons r rs, rv => .cons rv rs
  | _, _, i + 1, v, d, .cons r rs, rv => .cons r (repl_set i rs rv)

/-- `x[i] = e` in the owned list -/
theorem Ex1.setItem {x y : Str} {p1 p2 sp pos : Pos} {e : Expr} {ds : List D} {d : D} {i : Nat} (hs : Scal d) (he : Ev T k sc ((x, .list ds) :: σ) e d) (hy : σ.lookup y = some (.int i)) (hi : i < ds.length) (hz : ds.length ≤ 1000000) (h : Φ (.next σ (some (x, .list (ds.set i d)))))
    (hsw : ∀ env, swapsWith e (some (.Subscript (.Name x p1) (.Name y p2) sp)) pos.line env = pure false := by intro _; rfl) (hd : (x == ("__debug__" : Str)) = false := by decide) (hd2 : (y == ("__debug__" : Str)) = false := by decide) (hc2 : (y == ("__classdict__" : Str)) = false := by decide) :
    Ex1 T k sc σ (some (x, .list ds)) (.Assign [.Subscript (.Name x p1) (.Name y p2) sp] e pos) Φ := by
  intro env M₀ oa A s Q E ok fo r si post
  cases oa with
  | none => obtain ⟨_, _, _, _, _, ow, _⟩ := si.ex; exact ow.elim
  | some a =>
  refine wpAny_Assign_Subscript ?_ (hsw env)
  refine he env _ A s _ E ok r si.freeze.cx (si.freeze.holds fo) fun v h1 t1 x1 r1 => ?_
  have si1 := si.keeps x1
  have rv : Rep (mm (some a) env M₀) h1 v d := hs.rep r1
  obtain ⟨m, cm, fm, cx, dj, ow, hl⟩ := si1.ex
  obtain ⟨o1, o3, o4, vs, n, e5, r5⟩ := ow
  refine wpAny_Name (o1.load (T := T) (s := { s with heap := h1, toks := t1 }) fm fo ok ?_) hd
  obtain ⟨vi, ai, ri⟩ := hl y _ hy
  cases ri
  rename_i ti
  refine wpAny_Name (ai.load (T := T) (s := { s with heap := h1, toks := t1 }) fm fo ok ?_) hd2
  have hlen := r5.length
  refine ki_setAt (s := { s with heap := h1, toks := t1 }) (n := n) e5 (by lia) (by lia) (by rw [List.size_toArray]; lia) ?_
  have e6 : (h1.update a (Obj.mapSeq (·.setIfInBounds (i : Int).toNat v))).get? a = some (Obj.mapSeq (·.setIfInBounds (i : Int).toNat v) (lObj vs n)) := Heap.get?_update_self _ e5 rfl
  have e7 : Obj.mapSeq (·.setIfInBounds (i : Int).toNat v) (lObj vs n) = lObj (vs.set i v) (if (vs.toArray.setIfInBounds i v).size == vs.toArray.size then n else n + 1) := by
    show ({ cls := .type "list", data := .seq (vs.toArray.setIfInBounds i v) (if (vs.toArray.setIfInBounds i v).size == vs.toArray.size then n else n + 1) } : Obj) = _
    rw [List.setIfInBounds_toArray]
  have sb : Heap.SameBut a h1 (h1.update a (Obj.mapSeq (·.setIfInBounds (i : Int).toNat v))) := Heap.SameBut.update ..
  refine post _ h (some a) _ t1 (si1.owned sb (e6.trans (congrArg some e7)) (repl_set i r5 rv)) (fun b o h1' h2 e => sb.extBut b o (fun z => h2 (by rw [z])) (x1 b o e)) fun c ec => ⟨?_, .inl ec⟩
  cases ec; exact o4

theorem Scal.rep2 {M M' : List Addr} {h h' : Heap} {v : Value} {d : D} (hd : Scal d) (r : Rep M h v d) : Rep M' h' v d := by
  cases r with
  | none => exact .none
  | bool => exact .bool _
  | int => exact .int _ _
  | str => exact .str _ _
  | bytes => exact .bytes _ _
  | _ => exact hd.elim
/-- `a = b = c = e` of a scalar -/
theorem Ex1.three {a b c : Str} {pa pb pc pos : Pos} {e : Expr} {d : D} {own : Own} (hs : Scal d) (he : Ev T k sc σ e d) (h : Φ (.next ((c, d) :: (b, d) :: (a, d) :: σ) own)) (ha : Stor sc a = true := by rfl) (hb : Stor sc b = true := by rfl) (hc : Stor sc c = true := by rfl)
    (hna : ownNe own a = true := by rfl) (hnb : ownNe own b = true := by rfl) (hnc : ownNe own c = true := by rfl) (hw : ∀ env, swappedStores [.Name a pa, .Name b pb, .Name c pc] e env = pure none := by intro _; rfl) :
    Ex1 T k sc σ own (.Assign [.Name a pa, .Name b pb, .Name c pc] e pos) Φ := by
  intro env M₀ oa A s Q E ok fo r si post
  refine wpAny_Assign_three (he env _ A s _ E ok r si.cx (si.holds fo) fun v h1 t1 x1 r1 => ?_) rfl (hw env)
  refine wpAny_assign_Name (SI.store (s := { s with heap := h1, toks := t1 }) (si.keeps x1) fo ok ha hna r1 fun h2 t2 si2 k2 => ?_)
  refine wpAny_assign_Name (SI.store (s := { s with heap := h2, toks := t2 }) si2 fo ok hb hnb (hs.rep2 r1) fun h3 t3 si3 k3 => ?_)
  refine wpAny_assign_Name (SI.store (s := { s with heap := h3, toks := t3 }) si3 fo ok hc hnc (hs.rep2 r1) fun h4 t4 si4 k4 => ?_)
  exact post _ h oa h4 t4 si4 (fun b o h1' _ e => k4 b o h1' (k3 b o h1' (k2 b o h1' (x1 b o e)))) (si.rel _)

/-- `a, b = (e, f)`, stored the other way round -/
theorem Ex1.swap2 {a b : Str} {pa pb tp vp pos : Pos} {x1 x2 : Nat} {e f : Expr} {da db : D} {own : Own} (hsa : Scal da) (hsb : Scal db) (he : EvL T k sc σ [e, f] [da, db]) (h : Φ (.next ((a, da) :: (b, db) :: σ) own)) (ha : Stor sc a = true := by rfl) (hb : Stor sc b = true := by rfl)
    (hna : ownNe own a = true := by rfl) (hnb : ownNe own b = true := by rfl)
    (hw : ∀ env, EnvOk sc env → swappedStores [.Tuple [.Name a pa, .Name b pb] x1 tp] (.Tuple [e, f] x2 vp) env = pure (some [a, b])) :
    Ex1 T k sc σ own (.Assign [.Tuple [.Name a pa, .Name b pb] x1 tp] (.Tuple [e, f] x2 vp) pos) Φ := by
  intro env M₀ oa A s Q E ok fo r si post
  rw [exec_Assign_arm]
  refine wpAny_bind (wpAny_standAt ?_)
  show W T A (pure false >>= _) _ E s
  refine wpAny_bind (wpAny_pure ?_)
  rw [if_neg (by decide)]
  refine wpAny_bind (wpAny_Tuple (he env _ A s _ E vp ok r si.cx (si.holds fo) fun vs h1 t1 x1' r1 => ⟨by rw [r1.length, sizeLine_eq]; simp, ?_⟩))
  rw [hw env ok]
  refine wpAny_bind (wpAny_pure ?_)
  cases r1 with
  | cons ra rl => cases rl with
    | cons rb rl => cases rl with
      | nil =>
        rename_i va vb
        show W T A (assignStores env _ (some [a, b]) _) _ E _
        unfold assignStores
        refine wpAny_bind (wpAny_rule (wpAny_bind ?_))
        have hT : (h1.push (tObj [va, vb] 0)).IsTuple h1.objs.size #[va, vb] := ⟨_, Heap.get?_push_size _ rfl, rfl, 0, rfl⟩
        rw [show ([a, b] : List Str).length = (#[va, vb] : Array Value).size from rfl]
        refine wpAny_unpackItems_tuple (items := #[va, vb]) (s := { s with heap := h1.push (tObj [va, vb] 0), toks := t1 }) r.handled hT ?_
        intro h2 x2
        have y2 : Ext h1 h2 := fun b o e => x2 b o (Nat.ne_of_lt (Heap.lt_size (Heap.get?_push_of_some _ e))) (Heap.get?_push_of_some _ e)
        have si2 := (si.keeps x1').keeps y2
        refine wpAny_bind ?_
        show W T A (assignInOrder [fun v => bindName env b v, fun v => bindName env a v] [vb, va]) _ E _
        unfold assignInOrder
        refine wpAny_bind (wpAny_holding (wpAny_bindName (SI.store (s := { s with heap := h2, toks := t1 }) si2 fo ok hb hnb (hsb.rep2 rb) fun h3 t3 si3 k3 => ?_)))
        unfold assignInOrder
        refine wpAny_bind (wpAny_holding (wpAny_bindName (SI.store (s := { s with heap := h3, toks := t3 }) si3 fo ok ha hna (hsa.rep2 ra) fun h4 t4 si4 k4 => ?_)))
        unfold assignInOrder
        exact wpAny_pure (wpAny_pure (post _ h oa h4 t4 si4 (fun b o h1' _ e => k4 b o h1' (k3 b o h1' (y2 b o (x1' b o e)))) (si.rel _)))
end
end Mine

-- I3
namespace Mine
open PySem PySem.W PyProof.Rows

structure CS where
  b : Nat
  n : Nat
  nt : Nat
  cnt : List Int
def grow (cnt : List Int) (b : Nat) : List Int := if cnt.length ≤ b then cnt ++ List.replicate (b - cnt.length + 1) 0 else cnt
def bump (cnt : List Int) (b : Nat) : List Int := (grow cnt b).set b ((grow cnt b).getD b 0 + 1)
def cStep (st : CS) (c : Nat) : CS := if c = 32 then ⟨st.b + 1, st.n + 1, st.nt, st.cnt⟩ else ⟨0, st.n + 1, st.nt + 1, bump st.cnt st.b⟩
theorem grow_len (cnt : List Int) (b : Nat) : b < (grow cnt b).length := by
  unfold grow
  split
  · simp; lia
  · lia
theorem grow_le (cnt : List Int) (b : Nat) : (grow cnt b).length ≤ max cnt.length (b + 1) := by
  unfold grow
  split
  · simp; lia
  · lia

section
variable {prog : Program} {w : World} {mg mb : Str → Option Value} {k : Nat} {sc : Scope} {σ : St}

/-- `self.name = value` -/
theorem step_set {env : Env} {M₀ : List Addr} {oa : Option Addr} {own : Own} {A : Around} {s : Shared} {Q : Flow → Shared → Prop} {E : Value → Shared → Prop} {x dx : Addr} {es : List DictEntry} {n : Nat} {name : Str} {p ap pos : Pos} {value : Expr} {d : D}
    (ok : EnvOk sc env) (fo : Fo env) (r : Room k A) (si : SI (T0 prog w mg mb) env M₀ oa σ own s.heap) (hxM : x ∈ M₀) (hdM : dx ∈ M₀) (hne : dx ≠ x) (e1 : s.heap.get? x = some (instObj wsC dx)) (e2 : s.heap.get? dx = some (dictOf es n))
    (he : Ev (T0 prog w mg mb) k sc σ value d) (hself : σ.lookup ("self" : Str) = some (D.opq x)) (ht : takerIn (K0 w.params) wsC name = some none) (hl : (getL name es).isSome = true) (hz : ∀ hsh key v, (putL name hsh key v es).length ≤ 1000)
    (hs : swapsWith value (some (.Attribute (.Name "self" p) name ap)) pos.line env = pure false)
    (post : ∀ v h1 h' tk tok, Ext s.heap h1 → Rep (mm oa env M₀) h' v d → (∀ b o, b ≠ dx → h1.get? b = some o → h'.get? b = some o) → SI (T0 prog w mg mb) env M₀ oa σ own h' → h'.get? x = some (instObj wsC dx) →
      h'.get? dx = some (dictOf (putL name (PyData.keyHash w.params name) (.str name tok) v es) (putN name es n)) → Q .next { s with heap := h', toks := tk }) :
    W (T0 prog w mg mb) A (exec (.Assign [.Attribute (.Name "self" p) name ap] value pos) env) Q E s := by
  refine plainObj_wpAny_Assign_Attribute ?_ hs
  refine he env _ A s _ E ok r si.cx (si.holds fo) fun v h1 t1 x1 r1 => ?_
  have si1 := si.keeps x1
  refine (Ev.name (T := T0 prog w mg mb) (k := k) (x := "self") (d := .opq x) hself) env _ A { s with heap := h1, toks := t1 } _ E ok r si1.cx (si1.holds fo) fun u h2 t2 x2 r2 => ?_
  cases r2
  have si2 := si1.keeps x2
  refine set_ws (s := { s with heap := h2, toks := t2 }) si2.cx.X (x2 _ _ (x1 _ _ e1)) (x2 _ _ (x1 _ _ e2)) ht hl (hz _ _ _) fun h3 t3 k3 e3 => ?_
  have si3 : SI (T0 prog w mg mb) env M₀ oa σ own h3 := si2.to (fun _ z => .inl z) (fun b o hb e => k3 b o (fun z => hb (z ▸ hdM)) e) fun b hb => by
    by_cases hbd : b = dx
    · rw [hbd]; exact ⟨_, e3⟩
    · obtain ⟨o, e⟩ := si2.cx.m b (List.mem_append.mpr (.inr (List.mem_append.mpr (.inr hb))))
      exact ⟨o, k3 b o hbd e⟩
  have hdmm : dx ∈ mm oa env M₀ := List.mem_append.mpr (.inr (List.mem_append.mpr (.inr hdM)))
  exact post v h2 h3 t3 _ (x1.trans x2) ((r1.keeps x2).to (fun _ z => .inl z) fun b o hb e => k3 b o (fun z => hb (z ▸ hdmm)) e) k3 si3 (k3 _ _ (Ne.symm hne) (x2 _ _ (x1 _ _ e1))) e3

theorem Ev.clsS {p pos : Pos} (hg : sc.names.lookup ("Whitespace" : Str) = some .globalImplicit) : Ev (T0 prog w mg mb) k sc σ (.Attribute (.Name "Whitespace" p) "S" pos) (.str " ") := by
  intro env M A s Q E ok r cx hl post
  refine Attribute_Name_ ((Callee.glob (T := T0 prog w mg mb) (f := .ref wsC) hg rfl) env M A s _ E p ok cx ?_)
  exact cls_attr cx.X rfl (v := .str " " 273) rfl rfl (post _ _ _ (Ext.refl _) (.str _ _))
theorem Ev.clsT {p pos : Pos} (hg : sc.names.lookup ("Whitespace" : Str) = some .globalImplicit) : Ev (T0 prog w mg mb) k sc σ (.Attribute (.Name "Whitespace" p) "T" pos) (.str "\t") := by
  intro env M A s Q E ok r cx hl post
  refine Attribute_Name_ ((Callee.glob (T := T0 prog w mg mb) (f := .ref wsC) hg rfl) env M A s _ E p ok cx ?_)
  exact cls_attr cx.X rfl (v := .str "\t" 274) rfl rfl (post _ _ _ (Ext.refl _) (.str _ _))
end
end Mine

-- I4
namespace Mine
open PySem PySem.W PyProof.Rows

def csRun (cs : List Nat) : CS := cs.foldl cStep ⟨0, 0, 0, []⟩
def csWs (cs : List Nat) : Ws := ⟨⟨cs.toArray⟩, (csRun cs).n, (csRun cs).nt, (csRun cs).cnt, (csRun cs).b, decide ((csRun cs).cnt.length ≤ 1)⟩

theorem cs_bd : ∀ (cs : List Nat) (st : CS) (m : Nat), st.b ≤ m → st.cnt.length ≤ m → (cs.foldl cStep st).b ≤ m + cs.length ∧ (cs.foldl cStep st).cnt.length ≤ m + cs.length
  | [], st, m, h1, h2 => ⟨h1, h2⟩
  | c :: cs, st, m, h1, h2 => by
    have h3 := grow_le st.cnt st.b
    have := cs_bd cs (cStep st c) (m + 1) (by unfold cStep; split <;> simp <;> lia) (by
      unfold cStep
      split
      · show st.cnt.length ≤ _; lia
      · show (bump st.cnt st.b).length ≤ _
        rw [bump, List.length_set]; lia)
    rw [List.foldl_cons, List.length_cons]
    lia

section
variable {prog : Program} {w : World} {mg mb : Str → Option Value} {k : Nat}

abbrev initEs (h : Str → Int) (t1 : Tok) (v1 : Value) : List DictEntry := [⟨h "raw", .str "raw" t1, v1⟩]

theorem Ex1.mono {T : Th} {sc : Scope} {σ : St} {own : Own} {P P' : Out → Prop} {st : Stmt} (h : Ex1 T k sc σ own st P') (hp : ∀ o, P' o → P o) : Ex1 T k sc σ own st P := fun env M₀ oa A s Q E ok fo r si post => h env M₀ oa A s Q E ok fo r si fun o ho => post o (hp o ho)

set_option maxHeartbeats 4000000 in
theorem fn_init {cs : List Nat} (hcs : ∀ c ∈ cs, c = 32 ∨ c = 9) (hz : cs.length ≤ 400) {M : List Addr} {A : Around} {s : Shared} {x dx : Addr} {v : Value} {R : Result → Shared → Prop}
    (r : Room (k + 1) A) (cx : Cx (T0 prog w mg mb) (x :: dx :: M) s.heap) (hne : dx ≠ x) (hxN : x ∉ M) (hdN : dx ∉ M) (e1 : s.heap.get? x = some (instObj wsC dx)) (e2 : s.heap.get? dx = some (dictOf [] 0)) (rv : Rep (x :: dx :: M) s.heap v (.str ⟨cs.toArray⟩))
    (post : ∀ h' tk, (∀ b o, b ≠ dx → s.heap.get? b = some o → h'.get? b = some o) → Rep M h' (.ref x) (.ws (csWs cs)) → R (.ok (.ret .none)) { s with heap := h', toks := tk }) : codeAny (model prog w) A (.call (.ref 60) ⟨[.ref x, v], []⟩) R s := by
  have df : Def (T0 prog w mg mb) 60 ["self", "ws"] _ _ := ⟨⟨_, _, rfl, rfl, rfl, rfl, rfl, rfl, rfl, rfl, fun vals hv => by obtain ⟨a, b, rfl⟩ := len2 hv; rfl⟩, (by
    intro x hx
    simp only [List.mem_cons, List.not_mem_nil, or_false] at hx
    rcases hx with rfl | rfl <;> rfl), by decide, rfl, rfl, rfl⟩
  refine call_frameC (T := T0 prog w mg mb) (k := k) df r cx (.cons (.opq x) (.cons rv .nil)) rfl fun env h₁ tk ok fo r' frn keep si hcode E' => ?_
  have hxM : x ∈ x :: dx :: M := List.mem_cons_self
  have hdM : dx ∈ x :: dx :: M := List.mem_cons_of_mem _ List.mem_cons_self
  -- self.raw = ws
  refine wpAny_execs_cons (step_set (σ := [("self", .opq x), ("ws", .str ⟨cs.toArray⟩)]) (d := .str ⟨cs.toArray⟩) ok fo r' si hxM hdM hne (keep _ _ e1) (keep _ _ e2) (.name rfl) rfl rfl rfl (fun _ _ _ => Nat.le_of_ble_eq_true rfl) rfl fun v1 ha h2 t2 tok1 xa rv1 k2 si2 ex2 ed2 => ?_)
  cases rv1
  rename_i tv1
  -- S, T = ..; count = []; b = n = nt = 0
  refine W_append (pre := [_, _, _]) ?_
  refine Ex.run (P := fun o => match o with | .next σ' own' => Sub σ' [("n", .int (0 : Nat)), ("b", .int (0 : Nat)), ("nt", .int (0 : Nat)), ("S", .str " "), ("T", .str "\t"), ("self", .opq x), ("ws", .str ⟨cs.toArray⟩)] ∧ own' = some (("count" : Str), OD.list []) | _ => False) ok fo r' si2 ?_ fun o ho => ?_
  · refine Ex.cons (Ex1.swap2 (da := .str " ") (db := .str "\t") trivial trivial (.two (Ev.clsS rfl) (Ev.clsT rfl)) ?_ (hw := fun env ok => ?_))
    · refine Ex.cons (Ex1.newOwn .nil (by simp) ?_)
      refine Ex.cons (Ex1.three (d := .int 0) trivial .int ?_)
      exact Ex.nil ⟨.cons rfl (.cons rfl (.cons rfl (.cons rfl (.cons rfl (.cons rfl (.cons rfl .nil)))))), rfl⟩
    · unfold swappedStores Env.blockKind Env.kindOf
      rw [ok.scope]; rfl
  cases o with
  | brk σ' own' => exact ho.elim
  | ret d' own' => exact ho.elim
  | next σ' own' =>
  obtain ⟨hsub, rfl⟩ := ho
  intro oa3 h3 t3 si3 kp3 rel3
  have si3 := si3.sub hsub
  have nfr : ∀ b ∈ x :: dx :: M, b ∉ fr env := fun b hb z => by
    obtain ⟨_, _, _, _, dj, _⟩ := si.ex
    exact dj b z hb
  have ex3 : h3.get? x = some (instObj wsC dx) := kp3 _ _ (nfr x hxM) (by simp) ex2
  have ed3 := kp3 _ _ (nfr dx hdM) (by simp) ed2
  let σf : CS → St := fun st => [("n", .int (st.n : Nat)), ("b", .int (st.b : Nat)), ("nt", .int (st.nt : Nat)), ("S", .str " "), ("T", .str "\t"), ("self", .opq x), ("ws", .str ⟨cs.toArray⟩)]
  let ownf : CS → Own := fun st => some (("count" : Str), OD.list (st.cnt.map .int))
  -- the loop
  refine wpAny_execs_cons (W.for_ (P := fun o => match o with | .next σ' own' => Sub σ' (σf (csRun cs)) ∧ own' = ownf (csRun cs) | _ => False) (di := .str ⟨cs.toArray⟩) (ds := cs.map fun c => D.str ⟨#[c]⟩) (fun i st => st = (cs.take i).foldl cStep ⟨0, 0, 0, []⟩) σf ownf (a₀ := ⟨0, 0, 0, []⟩) ok fo r' si3 (fun Q E q => ?_) Itr.str (by simp) Sub.refl rfl (fun i st d hd hJ => ?_) (fun st hJ => ?_) rfl (fun _ => rfl) (fun _ _ => rfl) fun o ho => ?_)
  · refine Attribute_Name_ ((Ev.name (T := T0 prog w mg mb) (k := k) (x := "self") (d := .opq x) rfl) env _ _ { s with heap := h3, toks := t3 } _ E ok r' si3.cx (si3.holds fo) fun u h4 t4 x4 r4 => ?_)
    cases r4
    exact get_value (s := { s with heap := h4, toks := t4 }) (si3.keeps x4).cx.X (inst_at (x4 _ _ ex3) (x4 _ _ ed3)) rfl rfl rfl (q _ h4 _ x4 (.str _ _))
  · rw [List.getElem?_map] at hd
    obtain ⟨c, hc, rfl⟩ := Option.map_eq_some_iff.mp hd
    have hbd := cs_bd (cs.take i) ⟨0, 0, 0, []⟩ 0 (Nat.le_refl _) (Nat.le_refl _)
    rw [← hJ] at hbd
    have hi : (cs.take i).length ≤ 400 := by rw [List.length_take]; lia
    have hlen : (st.cnt.map D.int).length = st.cnt.length := List.length_map ..
    have hcc := hcs c (List.mem_of_getElem? hc)
    have hnext : cStep st c = (cs.take (i + 1)).foldl cStep ⟨0, 0, 0, []⟩ := by
      rw [List.take_add_one, hc, List.foldl_append, ← hJ]; rfl
    refine Ex.mono (P' := LoopP (fun σ' own' => Sub σ' (σf (cStep st c)) ∧ own' = ownf (cStep st c)) (fun _ => False)) ?_ fun o ho => ?_
    · rcases hcc with rfl | rfl
      · refine Ex.cons (Ex1.if_ (b := true) (.inl ((Tr.cmp (.name rfl) (.name rfl) .eq_str).to (by decide))) (fun _ => ?_) fun hb => by cases hb)
        refine Ex.cons (Ex1.assign (.inl (.bin (.name rfl) .int .add_int)) ?_)
        refine Ex.cons (Ex1.assign (.inl (.bin (.name rfl) .int .add_int)) ?_)
        exact Ex.nil (Ex.nil ⟨.cons rfl (.cons rfl (.cons rfl (.cons rfl (.cons rfl (.cons rfl (.cons rfl .nil)))))), rfl⟩)
      · refine Ex.cons (Ex1.if_ (b := false) (.inl ((Tr.cmp (.name rfl) (.name rfl) .eq_str).to (by decide))) (fun hb => by cases hb) fun _ => ?_)
        refine Ex.cons (Ex1.if_ (b := true) (.inl ((Tr.cmp (.name rfl) (.name rfl) .eq_str).to (by decide))) (fun _ => ?_) fun hb => by cases hb)
        refine Ex.cons (Ex1.assign (.inl (.bin (.name rfl) .int .add_int)) ?_)
        refine Ex.cons (Ex1.assign (.inl (.bin (.name rfl) .int .add_int)) ?_)
        have hgl := grow_len st.cnt st.b
        have hge := grow_le st.cnt st.b
        refine Ex.cons (Ex1.mono (P' := fun o => match o with | .next σ' own' => own' = some (("count" : Str), OD.list ((grow st.cnt st.b).map .int)) ∧ Sub σ' [("nt", .int ((st.nt + 1 : Nat) : Int)), ("n", .int ((st.n + 1 : Nat) : Int)), ("b", .int (st.b : Nat)), ("S", .str " "), ("T", .str "\t"), ("self", .opq x), ("ws", .str ⟨cs.toArray⟩)] | _ => False) (Ex1.if_ (.inr ⟨"count", _, rfl, .cmp (.name rfl) (.gB rfl (.one (.name rfl)) (Fn.len_list (by rw [hlen]; lia))) .ge_int⟩) (fun hb => ?_) fun hb => ?_) fun o ho => ?_)
        · have hb := of_decide_eq_true hb
          rw [hlen] at hb
          refine Ex.cons (Ex1.regrow (ds' := List.replicate (st.b - st.cnt.length + 1) (.int 0)) ((Ev.bin (.list (.one .int) (by simp)) (.bin (.bin (.name rfl) (.gB rfl (.one (.name rfl)) (Fn.len_list (by rw [hlen]; lia))) .sub_int) .int .add_int) (.mul_list1 (by rw [hlen]; lia) (by rw [hlen]; lia))).to (by rw [hlen]; congr 2; lia)) (by rw [hlen, List.length_replicate]; lia) ?_)
          refine Ex.nil ⟨?_, .cons rfl (.cons rfl (.cons rfl (.cons rfl (.cons rfl (.cons rfl (.cons rfl .nil))))))⟩
          rw [grow, if_pos (by lia), List.map_append, List.map_replicate]
        · have hb := of_decide_eq_false hb
          rw [hlen] at hb
          refine Ex.nil ⟨?_, .cons rfl (.cons rfl (.cons rfl (.cons rfl (.cons rfl (.cons rfl (.cons rfl .nil))))))⟩
          rw [grow, if_neg (by lia)]
        · cases o with
          | brk σ' own' => exact ho.elim
          | ret d own' => exact ho.elim
          | next σ' own' =>
          obtain ⟨rfl, hsb⟩ := ho
          refine Ex.sub hsb ?_
          refine Ex.cons (Ex1.setItem (d := .int ((grow st.cnt st.b).getD st.b 0 + 1)) (i := st.b) trivial (.bin (.at (ns := grow st.cnt st.b) st.b (.name rfl) (.name rfl) rfl hgl (by lia)) .int .add_int) rfl (by rw [List.length_map]; exact hgl) (by rw [List.length_map]; lia) ?_)
          refine Ex.cons (Ex1.assign (.inl .int) ?_)
          refine Ex.nil (Ex.nil (Ex.nil ⟨.cons rfl (.cons rfl (.cons rfl (.cons rfl (.cons rfl (.cons rfl (.cons rfl .nil)))))), ?_⟩))
          show _ = some (("count" : Str), OD.list ((bump st.cnt st.b).map .int))
          rw [bump, List.map_set]
    · cases o with
      | next σ' own' => exact ⟨_, hnext, ho.1, ho.2⟩
      | brk σ' own' => exact ho.elim
      | ret d own' => exact ho.elim
  · rw [List.length_map, List.take_length] at hJ
    subst hJ
    exact Ex.nil ⟨Sub.refl, rfl⟩
  cases o with
  | brk σ' own' => exact ho.elim
  | ret d' own' => exact ho.elim
  | next σ' own' =>
  obtain ⟨hsub, rfl⟩ := ho
  intro oa4 h4 t4 si4 kp4 rel4
  have si4 := (si4.sub hsub).freeze
  have hbd := cs_bd cs ⟨0, 0, 0, []⟩ 0 (Nat.le_refl _) (Nat.le_refl _)
  have hlen : ((csRun cs).cnt.map D.int).length = (csRun cs).cnt.length := List.length_map ..
  have hcl : (csRun cs).cnt.length ≤ 400 := by
    have : (csRun cs).cnt.length ≤ 0 + cs.length := hbd.2
    lia
  have noa : ∀ b ∈ x :: dx :: M, oa3 ≠ some b := fun b hb z => (si3.off z).1 hb
  have ex4 : h4.get? x = some (instObj wsC dx) := kp4 _ _ (nfr x hxM) (noa x hxM) ex3
  have ed4 := kp4 _ _ (nfr dx hdM) (noa dx hdM) ed3
  refine wpAny_execs_cons (step_set (d := .int ((csRun cs).n : Nat)) (s := { s with heap := h4, toks := t4 }) ok fo r' si4 hxM hdM hne ex4 ed4 (.name rfl) rfl rfl rfl (fun _ _ _ => Nat.le_of_ble_eq_true rfl) rfl fun v5 hb5 h5 t5 tok5 x5 rv5 k5 si5 ex5 ed5 => ?_)
  cases rv5
  refine wpAny_execs_cons (step_set (d := .int ((csRun cs).nt : Nat)) (s := { s with heap := h5, toks := t5 }) ok fo r' si5 hxM hdM hne ex5 ed5 (.name rfl) rfl rfl rfl (fun _ _ _ => Nat.le_of_ble_eq_true rfl) rfl fun v6 hb6 h6 t6 tok6 x6 rv6 k6 si6 ex6 ed6 => ?_)
  cases rv6
  refine wpAny_execs_cons (step_set (d := .tup [.tup ((csRun cs).cnt.map .int), .int ((csRun cs).b : Nat)]) (s := { s with heap := h6, toks := t6 }) ok fo r' si6 hxM hdM hne ex6 ed6 (.tup (.two (.gT rfl (.one (.name rfl)) (.tuple (by rw [hlen]; lia))) (.name rfl)) (by simp)) rfl rfl rfl (fun _ _ _ => Nat.le_of_ble_eq_true rfl) rfl fun v7 hb7 h7 t7 tok7 x7 rv7 k7 si7 ex7 ed7 => ?_)
  refine wpAny_execs_cons (step_set (d := .bool (decide ((csRun cs).cnt.length ≤ 1))) (s := { s with heap := h7, toks := t7 }) ok fo r' si7 hxM hdM hne ex7 ed7 ((Ev.cmp (.gB rfl (.one (.name rfl)) (Fn.len_list (by rw [hlen]; lia))) .int .le_int).to (by rw [hlen]; congr 1; rw [Bool.eq_iff_iff]; simp; lia)) rfl rfl rfl (fun _ _ _ => Nat.le_of_ble_eq_true rfl) rfl fun v8 hb8 h8 t8 tok8 x8 rv8 k8 si8 ex8 ed8 => ?_)
  cases rv8
  refine wpAny_execs_nil ?_
  have all : ∀ b o, b ≠ dx → s.heap.get? b = some o → h8.get? b = some o := fun b o hb e => by
    have e1' := keep b o e
    have hbf : b ∉ fr env := fun z => by rw [frn b z] at e; cases e
    have e2' : h2.get? b = some o := k2 b o hb (xa b o e1')
    have e3' : h3.get? b = some o := kp3 b o hbf (by simp) e2'
    have e4' : h4.get? b = some o := kp4 b o hbf (fun z => by
      rcases (rel3 b z).2 with q | q
      · cases q
      · have q' : h2.get? b = none := q
        rw [q'] at e2'; cases e2') e3'
    have e5' := k5 b o hb (x5 b o e4')
    have e6' := k6 b o hb (x6 b o e5')
    have e7' := k7 b o hb (x7 b o e6')
    exact k8 b o hb (x8 b o e7')
  refine post h8 t8 all ?_
  have hMM : ∀ a ∈ M, a ∈ mm none env (x :: dx :: M) := fun a ha => List.mem_append.mpr (.inr (List.mem_append.mpr (.inr (List.mem_cons_of_mem _ (List.mem_cons_of_mem _ ha)))))
  have hdmm : dx ∈ mm none env (x :: dx :: M) := List.mem_append.mpr (.inr (List.mem_append.mpr (.inr hdM)))
  have rn : Rep M h8 v7 (normD (csWs cs)) := ((rv7.keeps x8).to (fun _ z => .inl z) fun b o hb e => k8 b o (fun z => hb (z ▸ hdmm)) e).less hMM
  exact .ws hxN hdN ex8 ed8 rn
end
end Mine

-- I5
namespace Mine
open PySem PySem.W PyProof.Rows

section
variable {prog : Program} {w : World} {mg mb : Str → Option Value} {k : Nat}

theorem fn_cls {cs : List Nat} (hcs : ∀ c ∈ cs, c = 32 ∨ c = 9) (hz : cs.length ≤ 400) : Fn (T0 prog w mg mb) (k + 2) (.ref 105) [.str ⟨cs.toArray⟩] (.ws (csWs cs)) := by
  intro M A s vs Q E r cx rl post
  cases rl with
  | cons r1 rl =>
  cases rl
  rename_i v
  obtain ⟨hh, g, d, t, os⟩ := s
  have hdx : hh.get? hh.objs.size = none := fresh_none (Nat.le_refl _)
  have hx : hh.get? (hh.objs.size + 1) = none := fresh_none (Nat.le_succ _)
  have sz1 : (hh.push emptyDict).objs.size = hh.objs.size + 1 := Heap.size_push ..
  have e2 : ((hh.push emptyDict).push (instObj wsC hh.objs.size)).get? hh.objs.size = some (dictOf [] 0) := Heap.get?_push_of_some _ (Heap.get?_push_size _ rfl)
  have e1 : ((hh.push emptyDict).push (instObj wsC hh.objs.size)).get? (hh.objs.size + 1) = some (instObj wsC hh.objs.size) := by rw [← sz1]; exact Heap.get?_push_size _ rfl
  have up : Ext hh ((hh.push emptyDict).push (instObj wsC hh.objs.size)) := (Ext.push _ _).trans (Ext.push _ _)
  have hM : ∀ a ∈ (hh.objs.size + 1) :: hh.objs.size :: M, a ∈ M ∨ hh.get? a = none := fun a ha => by
    rcases List.mem_cons.mp ha with rfl | ha
    · exact .inr hx
    · rcases List.mem_cons.mp ha with rfl | ha
      · exact .inr hdx
      · exact .inl ha
  have nM : ∀ a, hh.get? a = none → a ∉ M := fun a ha z => by obtain ⟨o, e⟩ := cx.m a z; dsimp only at e; rw [ha] at e; cases e
  refine wpAny_call (make_core (C := wsC) (init := .ref 60) (makes_of (C := wsC) cx.X rfl) (looks_findIn (K := K0 w.params) cx.X rfl) (fun self => bind_fn cx.X self (f := 60) rfl) (.inl rfl) ?_)
  refine fn_init (mg := mg) (mb := mb) (k := k) (M := M) hcs hz ⟨r.handled, ?_, ?_⟩ (cx.but hM (fun b o _ _ e => up b o e) fun a ha => ?_) (show @Ne Nat _ _ by lia) (nM _ hx) (nM _ hdx) e1 e2 (r1.to hM fun b o _ e => up b o e) fun h' tk k' rw' => ?_
  · have h1 := r.depth
    show A.depth + Code.weight _ + 4 * (k + 1) ≤ 800
    have : Code.weight (.builtin "type.__call__" ⟨[.ref wsC, v], []⟩) ≤ 2 := Nat.le_of_ble_eq_true (by kernel_rfl)
    lia
  · have h1 := r.units
    show A.units + Code.cUnits _ + 20 * (k + 1) ≤ 9000
    have : Code.cUnits (.builtin "type.__call__" ⟨[.ref wsC, v], []⟩) ≤ 10 := Nat.le_of_ble_eq_true (by kernel_rfl)
    lia
  · rcases List.mem_cons.mp ha with rfl | ha
    · exact ⟨_, e1⟩
    · rcases List.mem_cons.mp ha with rfl | ha
      · exact ⟨_, e2⟩
      · obtain ⟨o, e⟩ := cx.m a ha; exact ⟨o, up _ _ e⟩
  · exact ⟨rfl, post _ h' tk (fun b o e => k' b o (fun z => by dsimp only at e; rw [z, hdx] at e; cases e) (up b o e)) rw'⟩
end
end Mine

-- L0
namespace Mine
open PySem PySem.W PyProof.Rows

/-! what Whitespace reads in a lead -/
theorem cs_blanks : ∀ (m : Nat) (st : CS), (List.replicate m 32).foldl cStep st = ⟨st.b + m, st.n + m, st.nt, st.cnt⟩
  | 0, st => rfl
  | m + 1, st => by
    rw [List.replicate_succ, List.foldl_cons, cs_blanks m]
    show (⟨st.b + 1 + m, st.n + 1 + m, st.nt, st.cnt⟩ : CS) = _
    rw [show st.b + 1 + m = st.b + (m + 1) by lia, show st.n + 1 + m = st.n + (m + 1) by lia]
theorem cs_seg (p : Nat) (n nt : Nat) (cnt : List Int) : (segS p).foldl cStep ⟨0, n, nt, cnt⟩ = ⟨0, n + (p + 1), nt + 1, bump cnt p⟩ := by
  rw [segS, List.foldl_append, cs_blanks]
  show (⟨0, n + p + 1, nt + 1, bump cnt (0 + p)⟩ : CS) = _
  rw [Nat.zero_add, Nat.add_assoc]
theorem cs_segs : ∀ (ps : List Nat) (n nt : Nat) (cnt : List Int), (ps.flatMap segS).foldl cStep ⟨0, n, nt, cnt⟩ = ⟨0, n + (ps.map (· + 1)).sum, nt + ps.length, ps.foldl bump cnt⟩
  | [], n, nt, cnt => by simp
  | p :: ps, n, nt, cnt => by
    rw [List.flatMap_cons, List.foldl_append, cs_seg, cs_segs ps]
    simp only [List.map_cons, List.sum_cons, List.length_cons, List.foldl_cons]
    rw [show n + (p + 1) + (ps.map (· + 1)).sum = n + (p + 1 + (ps.map (· + 1)).sum) by lia, show nt + 1 + ps.length = nt + (ps.length + 1) by lia]
theorem cs_lead (ps : List Nat) (behind : Nat) : csRun (leadL ps behind) = ⟨behind, (ps.map (· + 1)).sum + behind, ps.length, ps.foldl bump []⟩ := by
  rw [csRun, leadL, List.foldl_append, cs_segs, cs_blanks]
  simp

/-- the record of a lead -/
def leadW (ps : List Nat) (behind : Nat) : Ws := ⟨leadS ps behind, ((ps.map (· + 1)).sum + behind : Nat), ps.length, ps.foldl bump [], behind, decide ((ps.foldl bump []).length ≤ 1)⟩
theorem csWs_lead (ps : List Nat) (behind : Nat) : csWs (leadL ps behind) = leadW ps behind := by
  rw [csWs, cs_lead, leadW]; rfl

theorem bump_at (cnt : List Int) (b i : Nat) : (bump cnt b).getD i 0 = cnt.getD i 0 + if i = b then 1 else 0 := by
  have hg : ∀ j, (grow cnt b).getD j 0 = cnt.getD j 0 := fun j => by
    unfold grow
    split
    · simp only [List.getD_eq_getElem?_getD]
      by_cases hj : j < cnt.length
      · rw [List.getElem?_append_left hj]
      · rw [List.getElem?_append_right (by lia), List.getElem?_eq_none (by lia : cnt.length ≤ j)]
        simp only [List.getElem?_replicate]
        split <;> rfl
    · rfl
  have hl := grow_len cnt b
  unfold bump
  simp only [List.getD_eq_getElem?_getD, List.getElem?_set] at hg ⊢
  by_cases hib : b = i
  · subst hib
    rw [if_pos rfl, if_pos hl, if_pos rfl]
    simp only [Option.getD_some]
    rw [hg]
  · rw [if_neg hib, if_neg (Ne.symm hib), hg]; lia
theorem bump_len (cnt : List Int) (b : Nat) : (bump cnt b).length = max cnt.length (b + 1) := by
  unfold bump grow
  split
  · simp; lia
  · simp; lia
theorem bumps_at : ∀ (ps : List Nat) (cnt : List Int) (i : Nat), (ps.foldl bump cnt).getD i 0 = cnt.getD i 0 + (ps.countP (· == i) : Nat)
  | [], cnt, i => by simp
  | p :: ps, cnt, i => by
    rw [List.foldl_cons, bumps_at ps, bump_at, List.countP_cons]
    by_cases h : i = p
    · subst h; simp; lia
    · rw [if_neg h]; simp [Ne.symm h]
theorem bumps_len : ∀ (ps : List Nat) (cnt : List Int), (ps.foldl bump cnt).length = ps.foldl (fun m p => max m (p + 1)) cnt.length
  | [], cnt => rfl
  | p :: ps, cnt => by rw [List.foldl_cons, bumps_len ps, bump_len]; rfl
end Mine

-- L1
namespace Mine
open PySem PySem.W PyProof.Rows

section
variable {T : Th} {k : Nat} {sc : Scope} {σ : St} {own : Own} {P : Out → Prop} {env : Env} {M₀ : List Addr} {h h' : Heap} {oa : Option Addr}

theorem SI.drop {x : Str} {od : OD} (si : SI T env M₀ oa σ (some (x, od)) h) : SI T env M₀ none σ none h := by
  obtain ⟨m', cm', fm', cx', dj', ow', hl'⟩ := si.ex
  cases oa with
  | none => exact ow'.elim
  | some a =>
  have hMM : ∀ b ∈ mm none env M₀, b ∈ mm (some a) env M₀ := fun b hb => List.mem_append.mpr (.inr (by simpa using hb))
  exact ⟨m', cm', fm', cx'.less hMM, dj', trivial, fun y d e => let ⟨v, b, c⟩ := hl' y d e; ⟨v, b, c.less hMM⟩⟩
theorem Ex.drop {x : Str} {od : OD} {ss : List Stmt} (h : Ex T k sc σ none ss P) : Ex T k sc σ (some (x, od)) ss P := fun env M₀ oa A s Q E ok fo r si post =>
  h env M₀ none A s Q E ok fo r si.drop fun o ho => (post o ho).step (Kp.ext (Ext.refl _)) (fun a e => by cases e)

/-- `x = iter(e)` of bytes: x owns the iterator -/
theorem Ex1.newIter {x : Str} {px p1 cpos pos : Pos} {e : Expr} {b : Array UInt8} (he : EvL T k sc σ [e] [.bytes b]) (h : ∀ a, P (.next σ (some (x, .biter a b 0)))) (hn : nsIn T.K mainGlobals "iter" = some none) (hx : Stor sc x = true := by rfl) (hσ : σ.lookup x = none := by rfl)
    (hg : sc.names.lookup ("iter" : Str) = some .globalImplicit := by rfl)
    (hst : ∀ env, starEach [e] env = (false, eval e env) :: starEach [] env := by intro _; rfl) (hpl : ∀ env, (backTo cpos (starEach [] env)).any (·.1) = false := by intro _; rfl) :
    Ex1 T k sc σ none (.Assign [.Name x px] (.Call (.Name "iter" p1) [e] [] cpos) pos) P := by
  intro env M₀ oa A s Q E ok fo r si post
  refine wpAny_Assign_Name ?_ rfl
  refine wpAny_Call_NameR ((Callee.bi (T := T) (f := .builtin "iter") hg hn rfl (by decide)) env _ A s _ E _ ok si.cx ?_)
  refine callWith_builtin1 (he env _ A s _ E cpos ok r si.cx (si.holds fo) fun vs h1 t1 x1 r1 => ?_) (hst env) (hpl env)
  cases r1 with
  | cons r1 rl =>
  cases rl
  cases r1
  rename_i u
  refine call_iter_bytes (s := { s with heap := h1, toks := t1 }) ?_
  have si1 := si.keeps x1
  obtain ⟨m, cm, fm, cx, dj, ow, hl⟩ := si1.ex
  cases oa with
  | some a => exact ow.elim
  | none =>
  have hfr : h1.get? h1.objs.size = none := fresh_none (Nat.le_refl _)
  generalize ho : ({ cls := .type "bytes_iterator", data := .fields #[.bytes b u, .int 0 0] } : Obj) = o
  have fm2 : Frm env m cm (h1.push o) := fm.only fun b hb o e => Heap.get?_push_of_some _ e
  refine fm2.store (s := { s with heap := h1.push o, toks := t1 }) fo ok hx fun m' cm' h' tk fm' at' keep hm' hmx kp ex => ?_
  have new : ∀ a ∈ mm none env M₀, a ≠ h1.objs.size := fun a ha q => by
    obtain ⟨o, e⟩ := cx.m a ha
    rw [q, hfr] at e; cases e
  have nf : h1.objs.size ∉ fr env := fun q => new _ (by simp only [List.mem_append]; exact .inr (.inl q)) rfl
  have nm : h1.objs.size ∉ M₀ := fun q => new _ (by simp only [List.mem_append]; exact .inr (.inr q)) rfl
  have eL : h'.get? h1.objs.size = some o := kp _ _ nf (Heap.get?_push_size _ (by rw [← ho]; rfl))
  have hMM : ∀ a ∈ mm (some h1.objs.size) env M₀, a ∈ mm none env M₀ ∨ h1.get? a = none := fun a ha => by
    simp only [List.mem_append, Option.toList_some, List.mem_singleton] at ha
    rcases ha with rfl | ha
    · exact .inr hfr
    · exact .inl (by simp only [List.mem_append]; exact .inr ha)
  have kk : ∀ b o, b ∉ mm none env M₀ → h1.get? b = some o → h'.get? b = some o := fun b o hb e => kp b o (fun z => hb (by simp only [List.mem_append]; exact .inr (.inl z))) (Heap.get?_push_of_some _ e)
  refine post _ (h h1.objs.size) (some h1.objs.size) h' tk ⟨m', cm', fm', cx.but hMM (fun b o hb _ e => kk b o hb e) fun a ha => ?_, dj, ⟨at', nm, nf, rfl, u, o, eL, by rw [← ho], by rw [← ho]; rfl⟩, fun y d' e => ?_⟩
    (fun b o hb _ e => kp b o hb (Heap.get?_push_of_some _ (x1 b o e))) fun a ea => ?_
  · simp only [List.mem_append, Option.toList_some, List.mem_singleton] at ha
    rcases ha with rfl | ha
    · exact ⟨_, eL⟩
    · obtain ⟨o, e⟩ := cx.m a (by simp only [List.mem_append]; exact .inr ha)
      by_cases hf : a ∈ fr env
      · exact ex a hf ⟨o, Heap.get?_push_of_some _ e⟩
      · exact ⟨o, kp a o hf (Heap.get?_push_of_some _ e)⟩
  · obtain ⟨v', a, rv⟩ := hl y d' e
    exact ⟨v', keep y v' (fun z => by rw [z, hσ] at e; cases e) a, rv.to hMM kk⟩
  · cases ea
    refine ⟨nf, .inr ?_⟩
    cases e : s.heap.get? h1.objs.size with
    | none => rfl
    | some o => rw [x1 _ _ e] at hfr; cases hfr
end

section
variable {prog : Program} {w : World} {mg mb : Str → Option Value} {k : Nat} {sc : Scope} {σ : St} {own : Own} {P : Out → Prop} {env : Env} {M₀ : List Addr}

/-- `_parse_varint(x)` on the owned iterator, as an expression -/
theorem own_parse {x : Str} {p1 p2 cpos : Pos} {a₀ : Addr} {bs : Array UInt8} {i : Nat} {c0 c1 c2 : UInt8} {d0 d1 d2 : Nat} (g0 : bs[i]? = some c0) (g1 : bs[i + 1]? = some c1) (g2 : bs[i + 2]? = some c2) (e0 : c0.toNat = 64 + d0) (e1 : c1.toNat = 64 + d1) (e2 : c2.toNat = d2) (b0 : d0 < 64) (b1 : d1 < 64) (b2 : d2 < 64)
    {oa : Option Addr} {A : Around} {s : Shared} {Q : Value → Shared → Prop} {E : Value → Shared → Prop} (ok : EnvOk sc env) (fo : Fo env) (r : Room (k + 1) A) (si : SI (T0 prog w mg mb) env M₀ oa σ (some (x, .biter a₀ bs i)) s.heap)
    (hg : sc.names.lookup ("_parse_varint" : Str) = some .globalImplicit) (hd : (x == ("__debug__" : Str)) = false)
    (post : ∀ u h' tk, SI (T0 prog w mg mb) env M₀ oa σ (some (x, .biter a₀ bs (i + 3))) h' → Kp env oa s.heap h' → Q (.int (((d0 * 64 + d1) * 64 + d2 : Nat) : Int) u) { s with heap := h', toks := tk }) :
    W (T0 prog w mg mb) A (eval (.Call (.Name "_parse_varint" p1) [.Name x p2] [] cpos) env) Q E s := by
  cases oa with
  | none => obtain ⟨_, _, _, _, _, ow, _⟩ := si.ex; exact ow.elim
  | some a =>
  obtain ⟨m, cm, fm, cx, dj, ow, hl⟩ := si.ex
  obtain ⟨o1, o3, o4, rfl, t, hit⟩ := ow
  refine wpAny_Call_NameR ((Callee.glob (T := T0 prog w mg mb) (f := .ref 43) hg rfl) env _ A s _ E _ ok cx ?_)
  refine callWith_K cx.X rfl (wpAny_items_cons (wpAny_Name (o1.load (T := T0 prog w mg mb) fm fo ok (wpAny_items_nil ⟨cx.X, ?_⟩)) hd) rfl) rfl rfl
  have hMM : ∀ b ∈ mm none env M₀, b ∈ mm (some a) env M₀ := fun b hb => List.mem_append.mpr (.inr (by simpa using hb))
  have hna : a ∉ mm none env M₀ := fun z => by
    rcases List.mem_append.mp z with z | z
    · cases z
    · rcases List.mem_append.mp z with z | z
      · exact o4 z
      · exact o3 z
  obtain ⟨hb, xb, nb, Xb, gb, bb, limb⟩ := cx.base
  refine fn_parse g0 g1 g2 e0 e1 e2 b0 b1 b2 r (cx.less hMM) hna hit ⟨hb, xb, nb a (by simp), fun b hb' => nb b (hMM b hb'), Xb, gb, bb, limb⟩ fun u h' tk k' hit' => ?_
  exact post u h' tk (si.ownedO k' ⟨rfl, hit'⟩) fun b o _ h2 e => k' b o (fun z => h2 (by rw [z])) e

/-- `next(x)` on the owned iterator, as an expression -/
theorem own_next {T : Th} {x : Str} {p1 p2 cpos : Pos} {a₀ : Addr} {bs : Array UInt8} {i : Nat} {c : UInt8} (hx : bs[i]? = some c)
    {oa : Option Addr} {A : Around} {s : Shared} {Q : Value → Shared → Prop} {E : Value → Shared → Prop} (ok : EnvOk sc env) (fo : Fo env) (r : Room (k + 1) A) (si : SI T env M₀ oa σ (some (x, .biter a₀ bs i)) s.heap) (hn : nsIn T.K mainGlobals "next" = some none)
    (hg : sc.names.lookup ("next" : Str) = some .globalImplicit) (hd : (x == ("__debug__" : Str)) = false)
    (post : ∀ u h' tk, SI T env M₀ oa σ (some (x, .biter a₀ bs (i + 1))) h' → Kp env oa s.heap h' → Q (.int (c.toNat : Int) u) { s with heap := h', toks := tk }) :
    W T A (eval (.Call (.Name "next" p1) [.Name x p2] [] cpos) env) Q E s := by
  cases oa with
  | none => obtain ⟨_, _, _, _, _, ow, _⟩ := si.ex; exact ow.elim
  | some a =>
  obtain ⟨m, cm, fm, cx, dj, ow, hl⟩ := si.ex
  obtain ⟨o1, o3, o4, rfl, t, hit⟩ := ow
  refine wpAny_Call_NameR ((Callee.bi (T := T) (f := .builtin "next") hg hn rfl (by decide)) env _ A s _ E _ ok cx ?_)
  refine Calls.callWith_builtin rfl (Calls.evalArgs_plain (Calls.spliced_cons (wpAny_Name (o1.load (T := T) fm fo ok (Calls.spliced_nil ?_)) hd)))
  refine call_next hit hx fun h2 hit2 sb2 => ?_
  exact post _ h2 _ (si.ownedO (od' := .biter a bs (i + 1)) (fun b o hb e => sb2.extBut b o hb e) ⟨rfl, t, hit2⟩) fun b o _ h2 e => sb2.extBut b o (fun z => h2 (by rw [z])) e

/-- the `if` with two varints and a last octet -/
theorem Ex1.varint {x y z : Str} {p1 p2 p3 p4 p5 p6 q1 q2 q3 q4 q5 q6 q7 q8 q9 bp ip : Pos} {kk : Nat} {body : List Stmt} {a₀ : Addr} {bs : Array UInt8} {c0 c1 c2 c3 c4 c5 c6 : UInt8} {d0 d1 d2 d3 d4 d5 : Nat} {n m : Nat} {v6 : Int}
    (g0 : bs[0]? = some c0) (g1 : bs[1]? = some c1) (g2 : bs[2]? = some c2) (g3 : bs[3]? = some c3) (g4 : bs[4]? = some c4) (g5 : bs[5]? = some c5) (g6 : bs[6]? = some c6)
    (e0 : c0.toNat = 64 + d0) (e1 : c1.toNat = 64 + d1) (e2 : c2.toNat = d2) (e3 : c3.toNat = 64 + d3) (e4 : c4.toNat = 64 + d4) (e5 : c5.toNat = d5) (e6 : (c6.toNat : Int) = v6)
    (b0 : d0 < 64) (b1 : d1 < 64) (b2 : d2 < 64) (b3 : d3 < 64) (b4 : d4 < 64) (b5 : d5 < 64) (hn : (d0 * 64 + d1) * 64 + d2 = n) (hm : (d3 * 64 + d4) * 64 + d5 = m)
    (hy : σ.lookup y = some (.int n)) (hz : σ.lookup z = some (.int m)) (h : P (.next σ (some (x, .biter a₀ bs 7))))
    (hg : sc.names.lookup ("_parse_varint" : Str) = some .globalImplicit := by rfl) (hg' : sc.names.lookup ("next" : Str) = some .globalImplicit := by rfl) (hd : (x == ("__debug__" : Str)) = false := by decide) (hdy : (y == ("__debug__" : Str)) = false := by decide) (hdz : (z == ("__debug__" : Str)) = false := by decide)
    (hcy : (y == ("__classdict__" : Str)) = false := by decide) (hcz : (z == ("__classdict__" : Str)) = false := by decide) :
    Ex1 (T0 prog w mg mb) (k + 1) sc σ (some (x, .biter a₀ bs 0))
      (.If (.BoolOp .Or [.Compare (.Call (.Name "_parse_varint" p1) [.Name x p2] [] q1) [.NotEq] [.Name y q2] q3, .Compare (.Call (.Name "_parse_varint" p3) [.Name x p4] [] q4) [.NotEq] [.Name z q5] q6, .Compare (.Call (.Name "next" p5) [.Name x p6] [] q7) [.NotEq] [.Constant (.int v6) kk q8] q9] bp) body [] ip) P := by
  intro env M₀ oa A s Q E ok fo r si post
  refine wpAny_If (wpAny_isTrue_BoolOp (wpAny_allTrue_Or_cons ?_))
  refine wpAny_isTrue_Compare1 (own_parse g0 g1 g2 e0 e1 e2 b0 b1 b2 ok fo r si hg hd fun u h1 t1 si1 k1 => ?_) (by with_unfolding_all rfl)
  refine (Ev.name (T := T0 prog w mg mb) (k := k) (x := y) hy (hd := hdy) (hc := hcy)) env _ _ { s with heap := h1, toks := t1 } _ _ ok (r.less (by lia)) si1.cx (si1.holds fo) fun u2 h2 t2 x2 r2 => ?_
  cases r2
  have si2 := si1.keeps x2
  refine (CmpOk.ne_int (T := T0 prog w mg mb) (k := k)) _ _ { s with heap := h2, toks := t2 } _ _ _ _ (r.less (by lia)) si2.cx (.int _ _) (.int _ _) fun v3 h3 t3 x3 r3 => ?_
  rw [hn, bne_self_eq_false] at r3
  cases r3
  have si3 := si2.keeps x3
  refine wpAny_truthy_bool ?_
  refine wpAny_allTrue_Or_cons ?_
  refine wpAny_isTrue_Compare1 (own_parse (i := 3) (s := { s with heap := h3, toks := t3 }) g3 g4 g5 e3 e4 e5 b3 b4 b5 ok fo r si3 hg hd fun u h4 t4 si4 k4 => ?_) (by with_unfolding_all rfl)
  refine (Ev.name (T := T0 prog w mg mb) (k := k) (x := z) hz (hd := hdz) (hc := hcz)) env _ _ { s with heap := h4, toks := t4 } _ _ ok (r.less (by lia)) si4.cx (si4.holds fo) fun u2 h5 t5 x5 r5 => ?_
  cases r5
  have si5 := si4.keeps x5
  refine (CmpOk.ne_int (T := T0 prog w mg mb) (k := k)) _ _ { s with heap := h5, toks := t5 } _ _ _ _ (r.less (by lia)) si5.cx (.int _ _) (.int _ _) fun v3 h6 t6 x6 r6 => ?_
  rw [hm, bne_self_eq_false] at r6
  cases r6
  have si6 := si5.keeps x6
  refine wpAny_truthy_bool ?_
  refine wpAny_allTrue_Or_cons ?_
  refine wpAny_isTrue_Compare1 (own_next (i := 6) (s := { s with heap := h6, toks := t6 }) g6 ok fo r si6 rfl hg' hd fun u h7 t7 si7 k7 => ?_) (by with_unfolding_all rfl)
  refine (Ev.int (T := T0 prog w mg mb) (k := k) (σ := σ)) env _ _ { s with heap := h7, toks := t7 } _ _ ok (r.less (by lia)) si7.cx (si7.holds fo) fun u2 h8 t8 x8 r8 => ?_
  cases r8
  have si8 := si7.keeps x8
  refine (CmpOk.ne_int (T := T0 prog w mg mb) (k := k)) _ _ { s with heap := h8, toks := t8 } _ _ _ _ (r.less (by lia)) si8.cx (.int _ _) (.int _ _) fun v3 h9 t9 x9 r9 => ?_
  rw [e6, bne_self_eq_false] at r9
  cases r9
  have si9 := si8.keeps x9
  refine wpAny_truthy_bool ?_
  refine wpAny_allTrue_Or_nil ?_
  refine wpAny_execs_nil ?_
  have rel : ∀ h₀ : Heap, OwnRel env oa oa h₀ := fun h₀ => si.rel h₀
  exact post _ h oa h9 t9 si9 (k1.trans (oa' := oa) ((Kp.ext (x2.trans x3)).trans (oa' := oa) (k4.trans (oa' := oa) ((Kp.ext (x5.trans x6)).trans (oa' := oa) (k7.trans (oa' := oa) (Kp.ext (x8.trans x9)) (rel _)) (rel _)) (rel _)) (rel _)) (rel _)) (rel _)
end
end Mine

-- L2
namespace Mine
open PySem PySem.W PyProof.Rows

def rowsOf (pl : List Int) : List Int := (List.range pl.length).map fun i : Nat => pl.getD (pl.length - 1 - i) 0 - ((pl.length : Int) - 1 - (i : Int))
abbrev leadOf (F : Nat) (b : Nat) : Ws := leadW (bitsBelow F 14) b
def overOf (d : Due) : Due := d.filter fun r => decide (r.2.2 < r.2.1)
abbrev divs (hs : List Int) (t : Int) : List Int := (hs.filter fun h => h.fmod t == 0).map id

structure Facts (F C4 C6 N4 N6 : Nat) : Prop where
  hF : F < 2 ^ 14
  h4 : C4 < 2 ^ 14
  h6 : C6 < 2 ^ 14
  stab4 : taken (tIt (rowsOf (plN F)) 4 N4) 4 = tIt (rowsOf (plN F)) 4 N4
  left4 : beadsOf (tIt (rowsOf (plN F)) 4 N4) = plN C4
  stab6 : taken (tIt (rowsOf (plN F)) 6 N6) 6 = tIt (rowsOf (plN F)) 6 N6
  left6 : beadsOf (tIt (rowsOf (plN F)) 6 N6) = plN C6
  rb : ∀ r ∈ rowsOf (plN F), -1000 < r ∧ r < 1000
  hl : (hooks (rowsOf (plN F))).length ≤ 100000
  sum4 : ((plN C4).map fun p => (2 : Int) ^ p.toNat).sum = C4
  sum6 : ((plN C6).map fun p => (2 : Int) ^ p.toNat).sum = C6
  dr : ∀ f ∈ digitsOf (plN F) 4 4, 0 ≤ f ∧ f < 64
  lt : word (digitsOf (plN F) 4 4) = apAcc F []
  ar : ∀ a ∈ apAcc F [], 65 ≤ a ∧ a < 81
  al : (apAcc F []).length ≤ 1000
  fr : ∀ f ∈ fallen ((apAcc F []).map (· - 65)) 4, 0 ≤ f ∧ f < 64
  ft : word (fallen ((apAcc F []).map (· - 65)) 4) = apAcc C4 []
  d6 : ∃ d0 d1 d2 d3 d4 d5 : Nat, d0 < 64 ∧ d1 < 64 ∧ d2 < 64 ∧ d3 < 64 ∧ d4 < 64 ∧ d5 < 64 ∧ digitsOf (plN F) 6 3 = [(d0 : Int), (d1 : Int), (d2 : Int)] ∧ fallen [(d0 : Int), (d1 : Int), (d2 : Int)] 6 = [(d3 : Int), (d4 : Int), (d5 : Int)] ∧ (d0 * 64 + d1) * 64 + d2 = F ∧ (d3 * 64 + d4) * 64 + d5 = C6
  ag4 : agree (leadOf C4 0) (leadOf F 0) (divs (hooks (rowsOf (plN F))) 4).length 4 = true
  ag6 : agree (leadOf C6 0) (leadOf F 0) (divs (hooks (rowsOf (plN F))) 6).length 6 = true
  w1 : witness (leadOf C4 0) (leadOf F 0) = due (plN C4) (plN F)
  w2 : witness (leadOf C4 0) (leadOf C6 0) = due (plN C4) (plN C6)
  l1 : (due (plN C4) (plN F)).length ≤ 100
  l2 : (due (plN C4) (plN C6)).length ≤ 100
  r1 : ∀ r ∈ due (plN C4) (plN F), 0 ≤ r.1 ∧ r.1 < 64
  r2 : ∀ r ∈ due (plN C4) (plN C6), 0 ≤ r.1 ∧ r.1 < 64
  eqn : normEq (leadOf C4 0) (leadOf C6 0) = decide (plN C4 = plN C6)
  lss : lessW (leadOf C4 0) (leadOf C6 1) = decide (overOf (due (plN C4) (plN C6)) = [])

theorem pb_lt {F p : Nat} (h : p ∈ bitsBelow F 14) : p < 14 := List.mem_range.mp (List.mem_filter.mp h).1
theorem pb_len (F : Nat) : (bitsBelow F 14).length ≤ 14 := by
  have := List.length_filter_le (bitN F) (List.range 14)
  simpa [bitsBelow] using this
theorem plN_len (F : Nat) : (plN F).length ≤ 14 := by
  have := pb_len F
  simpa [plN] using this
theorem plN_lt {F : Nat} {p : Int} (h : p ∈ plN F) : 0 ≤ p ∧ p < 14 := by
  obtain ⟨q, hq, rfl⟩ := List.mem_map.mp h
  have := pb_lt hq
  lia
theorem bumps_len_le (ps : List Nat) (hp : ∀ p ∈ ps, p < 14) (c : List Int) (hc : c.length ≤ 14) : (ps.foldl bump c).length ≤ 14 := by
  induction ps generalizing c with
  | nil => exact hc
  | cons p ps ih =>
    refine ih (fun q hq => hp q (List.mem_cons_of_mem _ hq)) _ ?_
    have := hp p List.mem_cons_self
    rw [bump_len]; lia
theorem lead_cnt (F b : Nat) : (leadOf F b).cnt.length ≤ 14 := bumps_len_le _ (fun _ h => pb_lt h) [] (by simp)
theorem segs_len (ps : List Nat) (hp : ∀ p ∈ ps, p < 14) : (ps.flatMap segS).length ≤ 15 * ps.length := by
  induction ps with
  | nil => simp
  | cons p ps ih =>
    have := ih fun q hq => hp q (List.mem_cons_of_mem _ hq)
    have h := hp p List.mem_cons_self
    simp only [List.flatMap_cons, List.length_append, List.length_cons, segS, List.length_replicate, List.length_nil]
    lia
theorem leadL_ok (F b : Nat) (hb : b ≤ 1) : (∀ c ∈ leadL (bitsBelow F 14) b, c = 32 ∨ c = 9) ∧ (leadL (bitsBelow F 14) b).length ≤ 400 := by
  refine ⟨fun c hc => ?_, ?_⟩
  · rcases List.mem_append.mp hc with q | q
    · obtain ⟨p, _, hp⟩ := List.mem_flatMap.mp q
      rcases List.mem_append.mp hp with z | z
      · exact .inl (List.mem_replicate.mp z).2
      · exact .inr (by simpa using z)
    · exact .inl (List.mem_replicate.mp q).2
  · have h1 := segs_len (bitsBelow F 14) fun _ h => pb_lt h
    have h2 := pb_len F
    simp only [leadL, List.length_append, List.length_replicate]
    lia
theorem byteArr_ints (l : List Int) (h : ∀ a ∈ l, 0 ≤ a ∧ a < 256) : ((byteArr l).toList.map fun c : UInt8 => (c.toNat : Int)) = l := by
  simp only [byteArr]
  induction l with
  | nil => rfl
  | cons a l ih =>
    have := ih fun b hb => h b (List.mem_cons_of_mem _ hb)
    have ha := h a List.mem_cons_self
    simp only [List.map_cons] at this ⊢
    rw [this]
    congr 1
    simp
    lia
theorem rowsOf_len (pl : List Int) : (rowsOf pl).length = pl.length := by simp [rowsOf]
end Mine

-- L3
namespace Mine
open PySem PySem.W PyProof.Rows

section
variable {prog : Program} {w : World} {mg mb : Str → Option Value} {k : Nat}

theorem u8_inj (a b : UInt8) (h : D.int (a.toNat : Int) = D.int (b.toNat : Int)) : a = b := by
  injection h with h
  exact UInt8.toNat_inj.mp (by lia)
theorem size_byteArr (l : List Int) : (byteArr l).size = l.length := by simp [byteArr]

theorem bit_int (F p : Nat) : (((F : Int).fdiv ((2 : Int) ^ (p : Int).toNat)).fmod 2 == 1) = bitN F p := by
  rw [Int.toNat_natCast, show ((2 : Int) ^ p) = ((2 ^ p : Nat) : Int) by push_cast; rfl, Int.fdiv_eq_ediv_of_nonneg _ (Int.natCast_nonneg _), Int.fmod_eq_emod_of_nonneg _ (by decide), bitN, Bool.eq_iff_iff]
  simp only [beq_iff_eq]
  lia

theorem lead_call (F b : Nat) (hb : b ≤ 1) : Fn (T0 prog w mg mb) (k + 1) (.ref 133) [iD (plN F), .int b] (.str (leadS (bitsBelow F 14) b)) :=
  fn_lead (by have := pb_len F; lia) (fun p hp => by have := pb_lt hp; lia) (by lia)
theorem lead_cls (F b : Nat) (hb : b ≤ 1) : Fn (T0 prog w mg mb) (k + 2) (.ref 105) [.str (leadS (bitsBelow F 14) b)] (.ws (leadOf F b)) := by
  have := fn_cls (prog := prog) (w := w) (mg := mg) (mb := mb) (k := k) (leadL_ok F b hb).1 (leadL_ok F b hb).2
  rw [csWs_lead] at this
  exact this

theorem named_call {sc : Scope} {σ : St} {env : Env} {M₀ : List Addr} {p1 cpos : Pos} {ea : Expr} {es : List Expr} {a b : Ws} {ds : Due} {P : Addr} {A : Around} {s : Shared} {Q : Value → Shared → Prop} {E : Value → Shared → Prop}
    (args : EvL (T0 prog w mg mb) (k + 5) sc σ (ea :: es) [.ws a, .ws b, dueD ds]) (hz : ds.length ≤ 100) (hr : ∀ r ∈ ds, 0 ≤ r.1 ∧ r.1 < 64) (hw : witness a b = ds) (ha : a.cnt.length ≤ 500) (hb : b.cnt.length ≤ 500) (hta : 0 ≤ a.tr ∧ a.tr ≤ 500) (htb : 0 ≤ b.tr ∧ b.tr ≤ 500)
    (ok : EnvOk sc env) (fo : Fo env) (r : Room (k + 5) A) (si : SI (T0 prog w mg mb) env M₀ none σ none s.heap) (hP : P ∈ M₀) (gx : GX (T0 prog w mg mb).mg 115 P s.heap) (hg : AllBare s.gens) (hsc : sc.names.lookup ("_law_named" : Str) = some .globalImplicit)
    (post : ∀ h' tk g', SI (T0 prog w mg mb) env M₀ none σ none h' → (∀ b o, b ≠ P → s.heap.get? b = some o → h'.get? b = some o) → GX (T0 prog w mg mb).mg 115 P h' → AllBare g' → Q (.bool true) { s with heap := h', toks := tk, gens := g' })
    (hst : ∀ env, starEach (ea :: es) env = (false, eval ea env) :: starEach es env := by intro _; rfl) (hpl : ∀ env, (backTo cpos (starEach es env)).any (·.1) = false := by intro _; rfl) :
    W (T0 prog w mg mb) A (eval (.Call (.Name "_law_named" p1) (ea :: es) [] cpos) env) Q E s := by
  refine wpAny_Call_NameR ((Callee.glob (T := T0 prog w mg mb) (f := .ref 192) hsc rfl) env _ _ _ _ _ _ ok si.cx ?_)
  refine callWith_K si.cx.X rfl (args env _ _ _ _ _ _ ok r si.cx (si.holds fo) fun vs h₄ t₄ x4 r4 => ⟨(si.cx.keeps x4).X, ?_⟩) (hst env) (hpl env)
  have si4 := si.keeps x4
  have hPm : P ∈ mm none env M₀ := List.mem_append.mpr (.inr (List.mem_append.mpr (.inr hP)))
  refine fn_named (k := k) hz hr hw ha hb hta htb P _ _ _ _ _ _ (r.less (by lia)) si4.cx hPm (gx.keeps x4) hg r4 fun u h₅ t₅ g₅ k5 gx5 cx5 hg5 ru => ?_
  have si5 := si4.to (fun _ z => .inl z) (fun b o hb e => k5 b o (fun z => hb (z ▸ hP)) e) fun b hb => cx5.m b (List.mem_append.mpr (.inr (List.mem_append.mpr (.inr hb))))
  cases ru
  exact post h₅ t₅ g₅ si5 (fun b o hb e => k5 b o hb (x4 _ _ e)) gx5 hg5

theorem lead_tr (F b : Nat) (hb : b ≤ 1) : 0 ≤ (leadOf F b).tr ∧ (leadOf F b).tr ≤ 500 := by
  show (0 : Int) ≤ (b : Int) ∧ (b : Int) ≤ 500
  lia

set_option maxHeartbeats 4000000 in
theorem law_A {F C4 C6 N4 N6 : Nat} {ns : List Int} (hN : numF ns = F) (hz : ns.length ≤ 1000) (fx : Facts F C4 C6 N4 N6) (P : Addr) :
    FnG (T0 prog w mg mb) (k + 6) (.ref 197) [iD ns] (.bool true) 115 P := by
  intro M A s vs Q E r cx hPM gx hgens rl post
  have df : Def (T0 prog w mg mb) 197 ["script"] _ _ := ⟨⟨_, _, rfl, rfl, rfl, rfl, rfl, rfl, rfl, rfl, fun vals hv => by obtain ⟨a, rfl⟩ := len1 hv; rfl⟩, (by intro x hx; rw [List.mem_singleton.mp hx]; rfl), by decide, rfl, rfl, rfl⟩
  refine call_frame (k := k + 5) df r cx rl rfl fun env h₁ tk ok fo r' frn keep si hcode E' => ?_
  obtain ⟨d0, d1, d2, d3, d4, d5, b0, b1, b2, b3, b4, b5, ed, ef, en, em⟩ := fx.d6
  have hplF := plN_len F
  have hpl4 := plN_len C4
  have hpl6 := plN_len C6
  have hrl : (rowsOf (plN F)).length ≤ 14 := by rw [rowsOf_len]; exact hplF
  have hF := fx.hF
  have h4 := fx.h4
  have h6 := fx.h6
  refine W_append (pre := [_, _, _, _, _, _, _, _, _, _, _, _, _, _, _, _, _, _, _, _, _, _]) (rest := [_, _, _]) (s := { s with heap := h₁, toks := tk }) ?_
  refine Ex.run (P := fun o => match o with | .next σ' own' => Sub σ' [("across", dueD (due (plN C4) (plN C6))), ("kept_four", .ws (leadOf C4 0)), ("kept_six", .ws (leadOf C6 0)), ("wider_six", .ws (leadOf C6 1)), ("whole", .ws (leadOf F 0)), ("fours", iD (plN C4)), ("sixes", iD (plN C6)), ("places", iD (plN F))] ∧ own' = none | _ => False) ok fo r' si ?_ fun o ho => ?_
  · refine Ex.cons (Ex1.assign (d := .int F) (.inl ((Ev.gR rfl (.one (.name rfl)) (fn_number hz)).to (by rw [hN]))) ?_)
    refine Ex.cons (Ex1.assignC (d := iD (plN F)) (.filtI (List.range 14) gN (bitN F) (fun p => (p : Int)) (.gT rfl (.one .int) .range1) (.up1 (n := 14) (by decide)) (by simp) gN_inj (fun p hp => ?_) fun p hp _ => .name rfl) ?_)
    · have hp := List.mem_range.mp hp
      refine (Tr.cmp (.bin (.bin (.name rfl) (.bin .int (.name rfl) (.pow_int (by lia) (by lia) (by decide))) (.fdiv_int (by rw [pow_nat]; exact Int.ne_of_gt (Int.pow_pos (by decide))) (PyProof.noPylong_small (by rw [pow_nat]; exact pow2_lt p (by lia))))) .int (.fmod_int (by decide))) .int .eq_int).to ?_
      exact bit_int F p
    refine Ex.cons (Ex1.assignCompM (List.range (plN F).length) (fun i : Nat => .int (((plN F).length : Int) - 1 - (i : Int))) (fun _ => true) (fun i : Nat => .int ((plN F).getD ((plN F).length - 1 - i) 0 - (((plN F).length : Int) - 1 - (i : Int))))
      (.gT rfl (.three (.bin (.gB rfl (.one (.name rfl)) (Fn.len_iD (by lia))) .int .sub_int) .negOne .negOne) (.range3 (by decide) (PyProof.noPylong_small (by decide)))) (.down (by lia)) (by simp; lia) (fun i hi => Tests.nil) (fun i hi _ => ?_) (down_inj _) ?_)
    · have hi := List.mem_range.mp hi
      exact .bin (.at ((plN F).length - 1 - i) (.name rfl) (.name rfl) (by lia) (by lia) (by lia)) (.name rfl) .sub_int
    rw [filter_true, show (List.range (plN F).length).map (fun i : Nat => D.int ((plN F).getD ((plN F).length - 1 - i) 0 - (((plN F).length : Int) - 1 - (i : Int)))) = (rowsOf (plN F)).map .int by simp [rowsOf]]
    refine Ex.cons (Ex1.assign (d := iD (hooks (rowsOf (plN F)))) (.inl (.gR rfl (.one (.name rfl)) (fn_hooks (by lia) fx.rb fx.hl))) ?_)
    refine Ex.cons (Ex1.assign (d := iD (plN C4)) (.inl ((Ev.gR rfl (.two (.name rfl) .int) (fn_left N4 fx.stab4 (by lia))).to (by rw [fx.left4]))) ?_)
    refine Ex.cons (Ex1.assign (d := iD (plN C6)) (.inl ((Ev.gR rfl (.two (.name rfl) .int) (fn_left N6 fx.stab6 (by lia))).to (by rw [fx.left6]))) ?_)
    refine Ex.cons (Ex1.assign (d := .int C4) (.inl ((Ev.gB rfl (.one (.mapI (plN C4) D.int (fun p => (2 : Int) ^ p.toNat) (.name rfl) .ints (by lia) int_inj fun p hp => ?_)) Fn.sum).to (by rw [fx.sum4]))) ?_)
    · have := plN_lt hp
      exact .bin .int (.name rfl) (.pow_int (by lia) (by lia) (by decide))
    refine Ex.cons (Ex1.assign (d := .int C6) (.inl ((Ev.gB rfl (.one (.mapI (plN C6) D.int (fun p => (2 : Int) ^ p.toNat) (.name rfl) .ints (by lia) int_inj fun p hp => ?_)) Fn.sum).to (by rw [fx.sum6]))) ?_)
    · have := plN_lt hp
      exact .bin .int (.name rfl) (.pow_int (by lia) (by lia) (by decide))
    refine Ex.cons (Ex1.assign (d := iD (plN F)) (.inl (.gR rfl (.one (.name rfl)) (fn_words hF))) ?_)
    refine Ex.cons (Ex1.assign (d := .bytes (byteArr (apAcc F []))) (.inl ((Ev.gR rfl (.one (.neg (.name rfl))) (fn_int2ap (by lia))).to (by rw [Int.natAbs_neg, Int.natAbs_natCast]))) ?_)
    refine Ex.cons (Ex1.if_ (b := false) (.inl ((Tr.or2 (.cmp (.name rfl) (.name rfl) .ne_iD) fun _ => .cmp (.name rfl) (.gR rfl (.one (.gR rfl (.three (.name rfl) .int .int) (fn_digits (most := 4) (by lia) (by decide) (by decide)))) (fn_word (by simp [digitsOf]) fx.dr)) .ne_bytes).to ?_)) (fun hb => by cases hb) fun _ => Ex.nil ?_)
    · rw [fx.lt]; simp
    have hal := fx.al
    refine Ex.cons (Ex1.if_ (b := false) (.inl ((Tr.cmp (.gR rfl (.one (.gR rfl (.two (.to (.mapI (byteArr (apAcc F [])).toList (fun c : UInt8 => .int (c.toNat : Int)) (fun c : UInt8 => (c.toNat : Int) - 65) (.name rfl) .bytes (by rw [Array.length_toList, size_byteArr]; lia) u8_inj fun c hc => .bin (.name rfl) .int .sub_int) (d' := iD ((apAcc F []).map (· - 65))) ?_) .int) (fn_fallen (width := 4) (by rw [List.length_map]; exact hal) (by decide)))) (fn_word (by simp only [fallen, List.length_map, List.length_range]; exact hal) fx.fr)) (.gR rfl (.one (.name rfl)) (fn_int2ap (by lia))) .ne_bytes).to ?_)) (fun hb => by cases hb) fun _ => Ex.nil ?_)
    · have := byteArr_ints (apAcc F []) fun a ha => by have := fx.ar a ha; lia
      conv => rhs; rw [← this]
      rw [List.map_map]; rfl
    · rw [fx.ft, Int.natAbs_natCast]; simp
    refine Ex.cons (Ex1.assign (d := iD [(d0 : Int), (d1 : Int), (d2 : Int)]) (.inl ((Ev.gR rfl (.three (.name rfl) .int .int) (fn_digits (most := 3) (by lia) (by decide) (by decide))).to (by rw [ed]))) ?_)
    refine Ex.cons (Ex1.newIter (b := byteArr (octetsOf [(d0 : Int), (d1 : Int), (d2 : Int)]) ++ byteArr (octetsOf [(d3 : Int), (d4 : Int), (d5 : Int)]) ++ [63, 62].toArray) (.one (.bin (.bin (.gR rfl (.one (.name rfl)) (fn_octets (by simp) (by simp; lia))) (.gR rfl (.one (.to (.gR rfl (.two (.name rfl) .int) (fn_fallen (width := 6) (by simp) (by decide))) (d' := iD [(d3 : Int), (d4 : Int), (d5 : Int)]) (by rw [← ef]))) (fn_octets (by simp) (by simp; lia))) (.add_bytes (by simp [size_byteArr, octetsOf]))) .bytes (.add_bytes (by simp [size_byteArr, octetsOf])))) (fun a => ?_) rfl)
    refine Ex.cons (Ex1.varint (c0 := (64 + (d0 : Int)).toNat.toUInt8) (c1 := (64 + (d1 : Int)).toNat.toUInt8) (c2 := (d2 : Int).toNat.toUInt8) (c3 := (64 + (d3 : Int)).toNat.toUInt8) (c4 := (64 + (d4 : Int)).toNat.toUInt8) (c5 := (d5 : Int).toNat.toUInt8) (c6 := 63)
      rfl rfl rfl rfl rfl rfl rfl (by simp; lia) (by simp; lia) (by simp; lia) (by simp; lia) (by simp; lia) (by simp; lia) rfl b0 b1 b2 b3 b4 b5 en em rfl rfl ?_)
    refine Ex.drop ?_
    refine Ex.cons (Ex1.assign (d := .ws (leadOf F 0)) (.inl (.gR rfl (.one (.gR rfl (.two (.name rfl) .int) (lead_call F 0 (by lia)))) (lead_cls F 0 (by lia)))) ?_)
    refine Ex.cons (Ex1.assign (d := .ws (leadOf C4 0)) (.inl (.gR rfl (.one (.gR rfl (.two (.gR rfl (.one (.name rfl)) (fn_words h4)) .int) (lead_call C4 0 (by lia)))) (lead_cls C4 0 (by lia)))) ?_)
    refine Ex.cons (Ex1.assign (d := .ws (leadOf C6 0)) (.inl (.gR rfl (.one (.gR rfl (.two (.gR rfl (.one (.name rfl)) (fn_words h6)) .int) (lead_call C6 0 (by lia)))) (lead_cls C6 0 (by lia)))) ?_)
    refine Ex.cons (Ex1.assign (d := .ws (leadOf C6 1)) (.inl (.gR rfl (.one (.gR rfl (.two (.gR rfl (.one (.name rfl)) (fn_words h6)) .int) (lead_call C6 1 (by lia)))) (lead_cls C6 1 (by lia)))) ?_)
    have hhl := fx.hl
    have cF := lead_cnt F 0
    have c4 := lead_cnt C4 0
    have c6 := lead_cnt C6 0
    refine Ex.cons (Ex1.if_ (b := false) (.inl ((Tr.not (.bool (.gR rfl (.cons (.name rfl) (.three (.name rfl) (.gB rfl (.one (.filtI (hooks (rowsOf (plN F))) D.int (fun h => h.fmod 4 == 0) id (.name rfl) .ints (by lia) int_inj (fun h hh => .cmp (.bin (.name rfl) .int (.fmod_int (by decide))) .int .eq_int) fun h hh _ => .name rfl)) (Fn.len_iD (by have := List.length_filter_le (fun h : Int => h.fmod 4 == 0) (hooks (rowsOf (plN F))); rw [List.length_map]; lia))) .int)) (fn_agree (size := 4) (by lia) (by lia) (by decide))))).to (by rw [fx.ag4]; rfl))) (fun hb => by cases hb) fun _ => Ex.nil ?_)
    refine Ex.cons (Ex1.if_ (b := false) (.inl ((Tr.not (.bool (.gR rfl (.cons (.name rfl) (.three (.name rfl) (.gB rfl (.one (.filtI (hooks (rowsOf (plN F))) D.int (fun h => h.fmod 6 == 0) id (.name rfl) .ints (by lia) int_inj (fun h hh => .cmp (.bin (.name rfl) .int (.fmod_int (by decide))) .int .eq_int) fun h hh _ => .name rfl)) (Fn.len_iD (by have := List.length_filter_le (fun h : Int => h.fmod 6 == 0) (hooks (rowsOf (plN F))); rw [List.length_map]; lia))) .int)) (fn_agree (size := 6) (by lia) (by lia) (by decide))))).to (by rw [fx.ag6]; rfl))) (fun hb => by cases hb) fun _ => Ex.nil ?_)
    refine Ex.cons (Ex1.assign (d := dueD (due (plN C4) (plN C6))) (.inl (.gR rfl (.two (.name rfl) (.name rfl)) (fn_due (by lia) (by lia) (fun a ha => by have := plN_lt ha; lia) (fun a ha => by have := plN_lt ha; lia)))) ?_)
    exact Ex.nil ⟨.cons rfl (.cons rfl (.cons rfl (.cons rfl (.cons rfl (.cons rfl (.cons rfl (.cons rfl .nil))))))), rfl⟩
  cases o with
  | brk σ' own' => exact ho.elim
  | ret d' own' => exact ho.elim
  | next σ' own' =>
  obtain ⟨hsub, rfl⟩ := ho
  intro oa' h₂ tk₂ si2 kp2 rel2
  have si2 := si2.sub hsub
  cases oa' with
  | some a' => obtain ⟨_, _, _, _, _, ow, _⟩ := si2.ex; exact ow.elim
  | none =>
  have k2 : Ext s.heap h₂ := fun b o e => kp2 b o (fun z => by rw [frn b z] at e; cases e) (by simp) (keep b o e)
  have cF := lead_cnt F 0
  have c4 := lead_cnt C4 0
  have c6 := lead_cnt C6 0
  have c61 := lead_cnt C6 1
  refine wpAny_execs_cons (wpAny_If (wpAny_isTrue_BoolOp (wpAny_allTrue_Or_cons (wpAny_isTrue_Not (wpAny_isTrue_value (named_call (k := k) (s := { s with heap := h₂, toks := tk₂ }) (.three (.name rfl) (.name rfl) (.gR rfl (.two (.name rfl) (.name rfl)) (fn_due (by lia) (by lia) (fun a ha => by have := plN_lt ha; lia) (fun a ha => by have := plN_lt ha; lia)))) fx.l1 fx.r1 fx.w1 (by lia) (by lia) (lead_tr _ _ (by lia)) (lead_tr _ _ (by lia)) ok fo r' si2 hPM (gx.keeps k2) hgens rfl fun h₃ t₃ g₃ si3 k3 gx3 hg3 => ?_))))))
  refine wpAny_truthy_bool ?_
  refine wpAny_allTrue_Or_cons (wpAny_isTrue_Not (wpAny_isTrue_value (named_call (k := k) (s := { s with heap := h₃, toks := t₃, gens := g₃ }) (.three (.name rfl) (.name rfl) (.name rfl)) fx.l2 fx.r2 fx.w2 (by lia) (by lia) (lead_tr _ _ (by lia)) (lead_tr _ _ (by lia)) ok fo r' si3 hPM gx3 hg3 rfl fun h₄ t₄ g₄ si4 k4 gx4 hg4 => ?_)))
  refine wpAny_truthy_bool ?_
  refine wpAny_allTrue_Or_nil ?_
  refine wpAny_execs_nil ?_
  have hov := List.length_filter_le (fun r : Int × Int × Int => decide (r.2.2 < r.2.1)) (due (plN C4) (plN C6))
  have hl2 := fx.l2
  refine Ex.run (P := fun o => match o with | .ret d own => d = .bool true ∧ own = none | _ => False) (s := { s with heap := h₄, toks := t₄, gens := g₄ }) ok fo r' si4 ?_ fun o ho => ?_
  · refine Ex.cons (Ex1.assignCompM (due (plN C4) (plN C6)) gT (fun r => decide (r.2.2 < r.2.1)) gT (.name rfl) .list (by lia) (fun r hr => Tests.one (.cmp (.itemT (.name rfl) .int (by decide) (by decide) rfl) (.itemT (.name rfl) .int (by decide) (by decide) rfl) .gt_int)) (fun r hr _ => .name rfl) gT_inj ?_)
    refine Ex.cons (Ex1.ret (d := .bool true) (.inl ((Ev.and2 (.cmp (.meth1 (.name rfl) (.name rfl) fn_equal m_equal) (.cmp (.name rfl) (.name rfl) .eq_iD) .is_bool) fun _ => .cmp (.meth1 (.name rfl) (.name rfl) (fn_less (by lia) (by lia) (lead_tr _ _ (by lia)) (lead_tr _ _ (by lia))) m_less) (.cmp (.name rfl) (.list .nil (by simp)) (.eq_list (EqD.due (overOf (due (plN C4) (plN C6))) []) (by lia))) .is_bool).to ?_)) ⟨rfl, rfl⟩)
    rw [fx.eqn, fx.lss]
    congr 1
    rw [beq_self_eq_true, Bool.true_and, beq_iff_eq]
    refine dec_iff ⟨fun h => by rw [show due (plN C4) (plN C6) = due (plN C4) (plN C6) from rfl]; exact congrArg _ (congrArg (List.map gT) h), fun h => ?_⟩
    injection h with h
    exact List.map_eq_nil_iff.mp h
  cases o with
  | brk σ' own' => exact ho.elim
  | next σ' own' => exact ho.elim
  | ret d' own' =>
  obtain ⟨rfl, rfl⟩ := ho
  intro v oa' h₅ t₅ rv cx5 ro kp5 rel5
  cases oa' with
  | some a' => exact ro.elim
  | none =>
  have all : ∀ b o, b ≠ P → s.heap.get? b = some o → h₅.get? b = some o := fun b o hb e => kp5 b o (fun z => by rw [frn b z] at e; cases e) (by simp) (k4 b o hb (k3 b o hb (k2 b o e)))
  obtain ⟨ps, hps⟩ := gx4.code
  obtain ⟨ps', hps'⟩ := gx.code
  obtain ⟨⟨o1, q1⟩, ⟨o2, q2⟩⟩ := code_there hps'
  have k45 : ∀ b o, (∃ o', s.heap.get? b = some o') → h₄.get? b = some o → h₅.get? b = some o := fun b o hb e => kp5 b o (fun z => by obtain ⟨o', e'⟩ := hb; rw [frn b z] at e'; cases e') (by simp) e
  have hcode5 : CodeT h₅ 115 P ps := code_at2 hps (fun o e => k45 _ o ⟨_, q1⟩ e) (fun o e => k45 _ o ⟨_, q2⟩ e)
  have cx5' : Cx (T0 prog w mg mb) M h₅ := cx5.less fun b hb => List.mem_append.mpr (.inr hb)
  obtain ⟨bm, ob, bb, hbm1, hbm2⟩ := gx.bm
  exact post v h₅ t₅ g₄ all ⟨⟨ps, hcode5⟩, bm, ob, BMod.off bb hbm1 hbm2 all, hbm1, hbm2⟩ cx5' hg4 (rv.less fun b hb => List.mem_append.mpr (.inr hb))
end
end Mine

-- P1
namespace Mine
open PySem PySem.W PyProof.Rows

/-- the rows of beads, the greatest ahead -/
def rD : List Nat → List Int
  | [] => []
  | d :: ds => ((d : Int) - (ds.length : Int)) :: rD ds
theorem rD_len : ∀ ds, (rD ds).length = ds.length
  | [] => rfl
  | d :: ds => by rw [rD, List.length_cons, List.length_cons, rD_len ds]
theorem rD_app : ∀ (a b : List Nat), rD (a ++ b) = (rD a).map (· - (b.length : Int)) ++ rD b
  | [], b => rfl
  | x :: a, b => by
    rw [List.cons_append, rD, rD_app a b, rD, List.map_cons, List.cons_append, List.length_append]
    congr 1
    push_cast; lia

theorem rowsOf_snoc (pl : List Int) (x : Int) : rowsOf (pl ++ [x]) = (x - (pl.length : Int)) :: rowsOf pl := by
  unfold rowsOf
  rw [List.length_append, List.length_singleton, List.range_succ_eq_map, List.map_cons, List.map_map]
  congr 1
  · simp
  · apply List.map_congr_left
    intro i hi
    have hi := List.mem_range.mp hi
    simp only [Function.comp_apply]
    rw [show pl.length + 1 - 1 - i.succ = pl.length - 1 - i by lia]
    congr 1
    · simp only [List.getD_eq_getElem?_getD]
      rw [List.getElem?_append_left (by lia)]
    · push_cast; lia
theorem rowsOf_rev : ∀ ds : List Nat, rowsOf (ds.reverse.map fun i => ((i : Nat) : Int)) = rD ds
  | [] => rfl
  | d :: ds => by
    rw [List.reverse_cons, List.map_append, List.map_cons, List.map_nil, rowsOf_snoc, rowsOf_rev ds, rD]
    simp
theorem beadsOf_cons (r : Int) (rs : List Int) : beadsOf (r :: rs) = beadsOf rs ++ [r + (rs.length : Int)] := by
  unfold beadsOf
  rw [List.length_cons, List.range_succ, List.map_append, List.map_singleton]
  congr 1
  · apply List.map_congr_left
    intro i hi
    have hi := List.mem_range.mp hi
    rw [show rs.length + 1 - 1 - i = (rs.length - 1 - i) + 1 by lia, List.getD_cons_succ]
  · simp
theorem beadsOf_rD : ∀ ds : List Nat, beadsOf (rD ds) = ds.reverse.map fun i => ((i : Nat) : Int)
  | [] => rfl
  | d :: ds => by
    rw [rD, beadsOf_cons, beadsOf_rD ds, rD_len, List.reverse_cons, List.map_append]
    congr 1
    simp

/-- strictly falling -/
abbrev Fall (ds : List Nat) : Prop := ds.Pairwise (· > ·)

theorem split_top {α : Type} {L : List α} {i : Nat} (h : i < L.length) : ∃ A b R, L = A ++ b :: R ∧ A.length = i :=
  ⟨L.take i, L[i], L.drop (i + 1), by rw [List.getElem_cons_drop, List.take_append_drop], by rw [List.length_take]; lia⟩

section
variable {A B C : List Nat} {b : Nat} {t : Nat}
theorem rD_four : rD (A ++ b :: (B ++ C)) = (rD A).map (· - ((B.length + C.length + 1 : Nat) : Int)) ++ ((b : Int) - (B.length + C.length : Nat)) :: ((rD B).map (· - (C.length : Int)) ++ rD C) := by
  rw [rD_app, rD, rD_app]
  simp only [List.length_cons, List.length_append]
theorem tEnd_four : tEnd (rD (A ++ b :: (B ++ C))) t A.length (A.length + B.length) = (b : Int) - t - C.length := by
  unfold tEnd
  rw [rD_four, List.getD_eq_getElem?_getD, List.getElem?_append_right (by simp [rD_len])]
  simp [rD_len]
  lia
theorem tRes_four (hb : t ≤ b) : tRes (rD (A ++ b :: (B ++ C))) t A.length (A.length + B.length) = rD (A ++ (B ++ (b - t) :: C)) := by
  unfold tRes
  rw [tEnd_four, rD_four]
  have lA : ((rD A).map (· - ((B.length + C.length + 1 : Nat) : Int))).length = A.length := by rw [List.length_map, rD_len]
  have lB : ((rD B).map (· - (C.length : Int))).length = B.length := by rw [List.length_map, rD_len]
  generalize hA : (rD A).map (· - ((B.length + C.length + 1 : Nat) : Int)) = A' at lA ⊢
  generalize hB : (rD B).map (· - (C.length : Int)) = B' at lB ⊢
  rw [List.take_left' lA]
  have e1 : (A' ++ ((b : Int) - (B.length + C.length : Nat)) :: (B' ++ rD C)).drop (A.length + 1) = B' ++ rD C := by
    rw [← List.drop_drop, List.drop_left' lA]; rfl
  rw [e1, show A.length + B.length + 1 - (A.length + 1) = B.length by lia, List.take_left' lB]
  have e2 : (A' ++ ((b : Int) - (B.length + C.length : Nat)) :: (B' ++ rD C)).drop (A.length + B.length + 1) = rD C := by
    rw [show A.length + B.length + 1 = (A.length + 1) + B.length by lia, ← List.drop_drop, e1, List.drop_left' lB]
  rw [e2, rD_app, rD_app, rD, ← hA, ← hB]
  simp only [List.length_append, List.length_cons, List.map_append, List.map_map, List.append_assoc, List.map_cons, List.cons_append, List.nil_append]
  congr 1
  congr 1
  · apply List.map_congr_left
    intro x _
    simp only [Function.comp_apply]
    lia
  · congr 1
    lia

theorem rows_at : (rD (A ++ b :: (B ++ C))).getD (A.length + B.length + 1) 0 = (rD C).getD 0 0 := by
  rw [rD_four]
  simp only [List.getD_eq_getElem?_getD]
  rw [List.getElem?_append_right (by simp [rD_len]; lia), List.length_map, rD_len, show A.length + B.length + 1 - A.length = B.length + 1 by lia, List.getElem?_cons_succ, List.getElem?_append_right (by simp [rD_len]), List.length_map, rD_len, Nat.sub_self]
theorem rows_low {x : Nat} {B' : List Nat} (hB : b :: B = B' ++ [x]) : (rD (A ++ b :: (B ++ C))).getD (A.length + B.length) 0 = (x : Int) - C.length := by
  have e : A ++ b :: (B ++ C) = (A ++ B') ++ x :: ([] ++ C) := by
    rw [← List.cons_append, hB]; simp
  have hl : A.length + B.length = (A ++ B').length := by
    have := congrArg List.length hB
    simp at this ⊢; lia
  rw [e, hl, rD_four]
  simp only [List.getD_eq_getElem?_getD]
  rw [List.getElem?_append_right (by simp [rD_len])]
  simp [rD_len]

/-- the condition says: b - t is free, between B and C -/
theorem tCond_four {x : Nat} {B' : List Nat} (hB : b :: B = B' ++ [x]) : tCond (rD (A ++ b :: (B ++ C))) t A.length (A.length + B.length) = true ↔ (b : Int) - t < x ∧ match C with | [] => t ≤ b | y :: _ => (y : Int) < (b : Int) - t := by
  unfold tCond
  rw [Bool.and_eq_true, decide_eq_true_iff, decide_eq_true_iff, tEnd_four, rows_low hB]
  have h2 : (rD (A ++ b :: (B ++ C)) ++ [0]).getD (A.length + B.length + 1) 0 = (rD C).getD 0 0 := by
    rw [← rows_at (A := A) (b := b) (B := B)]
    simp only [List.getD_eq_getElem?_getD]
    by_cases h : A.length + B.length + 1 < (rD (A ++ b :: (B ++ C))).length
    · rw [List.getElem?_append_left h]
    · have hl : (rD (A ++ b :: (B ++ C))).length ≤ A.length + B.length + 1 := by lia
      rw [List.getElem?_append_right hl, List.getElem?_eq_none hl]
      cases (A.length + B.length + 1 - (rD (A ++ b :: (B ++ C))).length) with
      | zero => rfl
      | succ n => rfl
  rw [h2]
  cases C with
  | nil => simp [rD]
  | cons y C => simp [rD]; lia
end

theorem last_of (b : Nat) (B : List Nat) : ∃ B' x, b :: B = B' ++ [x] := ⟨(b :: B).dropLast, (b :: B).getLast (by simp), (List.dropLast_concat_getLast _).symm⟩

/-- a step: a bead goes t down -/
def Step (t : Nat) (ds ds' : List Nat) : Prop := ∃ A b B C, ds = A ++ b :: (B ++ C) ∧ t ≤ b ∧ (∀ x ∈ B, b - t < x) ∧ (∀ x ∈ C, x < b - t) ∧ ds' = A ++ (B ++ (b - t) :: C)

theorem taken_step {t : Nat} (ht : 0 < t) {ds : List Nat} (hf : Fall ds) :
    (∃ ds', Step t ds ds' ∧ taken (rD ds) t = rD ds') ∨ ((∀ b ∈ ds, t ≤ b → b - t ∈ ds) ∧ taken (rD ds) t = rD ds) := by
  unfold taken
  cases h : (List.range (rD ds).length).findSome? (tAt (rD ds) t) with
  | some r =>
    left
    obtain ⟨top, htop, h1⟩ := List.exists_of_findSome?_eq_some h
    obtain ⟨i, hi, h2⟩ := List.exists_of_findSome?_eq_some h1
    have htop := List.mem_range.mp htop
    have hi := List.mem_range.mp hi
    rw [rD_len] at htop hi
    split at h2
    case isFalse => cases h2
    rename_i hc
    cases h2
    obtain ⟨A, b, R, rfl, rfl⟩ := split_top htop
    have hR : i ≤ R.length := by simp at hi; lia
    obtain ⟨B, C, rfl, rfl⟩ : ∃ B C, R = B ++ C ∧ B.length = i := ⟨R.take i, R.drop i, (List.take_append_drop _ _).symm, by rw [List.length_take]; lia⟩
    obtain ⟨B', x, hB⟩ := last_of b B
    obtain ⟨c1, c2⟩ := (tCond_four hB).mp hc
    have hfb : Fall (b :: (B ++ C)) := (List.pairwise_append.mp hf).2.1
    have hfB : Fall (b :: B) := by
      rw [← List.cons_append] at hfb
      exact (List.pairwise_append.mp hfb).1
    have hfC : Fall C := by
      rw [← List.cons_append] at hfb
      exact (List.pairwise_append.mp hfb).2.1
    have htb : t ≤ b := by
      cases C with
      | nil => exact c2
      | cons y C => have : (y : Int) < b - t := c2; lia
    refine ⟨_, ⟨A, b, B, C, rfl, htb, fun z hz => ?_, fun z hz => ?_, rfl⟩, tRes_four htb⟩
    · have hz' : z ∈ B' ++ [x] := hB ▸ List.mem_cons_of_mem _ hz
      have : x ≤ z := by
        rw [hB] at hfB
        rcases List.mem_append.mp hz' with q | q
        · exact Nat.le_of_lt ((List.pairwise_append.mp hfB).2.2 z q x (by simp))
        · rw [List.mem_singleton.mp q]; exact Nat.le_refl _
      lia
    · cases C with
      | nil => cases hz
      | cons y C =>
        have c2 : (y : Int) < b - t := c2
        rcases List.mem_cons.mp hz with rfl | hz
        · lia
        · have := (List.pairwise_cons.mp hfC).1 z hz
          lia
  | none =>
    right
    refine ⟨fun b hb htb => ?_, rfl⟩
    apply Classical.byContradiction
    intro hno
    obtain ⟨A, R, rfl⟩ := List.append_of_mem hb
    have hfb : Fall (b :: R) := (List.pairwise_append.mp hf).2.1
    have hfR := (List.pairwise_cons.mp hfb).2
    generalize hB : R.takeWhile (fun x => decide (b - t < x)) = B
    generalize hC : R.dropWhile (fun x => decide (b - t < x)) = C
    have hR : R = B ++ C := by rw [← hB, ← hC, List.takeWhile_append_dropWhile]
    subst hR
    have hBx : ∀ x ∈ B, b - t < x := fun x hx => by
      have : ∀ (L : List Nat), ∀ x ∈ L.takeWhile (fun x => decide (b - t < x)), b - t < x := by
        intro L
        induction L with
        | nil => simp
        | cons a L ih =>
          intro x hx
          rw [List.takeWhile_cons] at hx
          split at hx
          · rename_i ha
            rcases List.mem_cons.mp hx with rfl | hx
            · exact of_decide_eq_true ha
            · exact ih x hx
          · cases hx
      exact this (B ++ C) x (by rw [hB]; exact hx)
    have hCx : ∀ y C', C = y :: C' → y < b - t := fun y C' e => by
      have h0 : ¬ b - t < y := by
        have : ∀ (L : List Nat) (y : Nat) (C' : List Nat), L.dropWhile (fun x => decide (b - t < x)) = y :: C' → ¬ b - t < y := by
          intro L
          induction L with
          | nil => intro y C' e; cases e
          | cons a L ih =>
            intro y C' e
            rw [List.dropWhile_cons] at e
            split at e
            · exact ih y C' e
            · rename_i ha
              cases e
              simpa using ha
        exact this (B ++ C) y C' (by rw [hC, e])
      have h1 : y ≠ b - t := fun z => hno (by rw [← z]; simp [e])
      lia
    have h3 := List.findSome?_eq_none_iff.mp h A.length (List.mem_range.mpr (by rw [rD_len]; simp))
    have h4 := List.findSome?_eq_none_iff.mp h3 B.length (List.mem_range.mpr (by rw [rD_len]; simp; lia))
    split at h4
    · cases h4
    rename_i h5
    apply h5
    obtain ⟨B', x, hBx'⟩ := last_of b B
    refine (tCond_four hBx').mpr ⟨?_, ?_⟩
    · have : x ∈ b :: B := by rw [hBx']; simp
      rcases List.mem_cons.mp this with rfl | q
      · lia
      · have := hBx x q; lia
    · cases C with
      | nil => exact htb
      | cons y C' =>
        have := hCx y C' rfl
        show (y : Int) < (b : Int) - t
        lia
end Mine

-- P2
namespace Mine
open PySem PySem.W PyProof.Rows

inductive StepN (t : Nat) : Nat → List Nat → List Nat → Prop
  | zero {ds} : StepN t 0 ds ds
  | succ {j ds d₁ d₂} : Step t ds d₁ → StepN t j d₁ d₂ → StepN t (j + 1) ds d₂

theorem Step.fall {t : Nat} (ht : 0 < t) {ds ds' : List Nat} (h : Step t ds ds') (hf : Fall ds) : Fall ds' := by
  obtain ⟨A, b, B, C, rfl, hb, hB, hC, rfl⟩ := h
  obtain ⟨fA, fR, hAR⟩ := List.pairwise_append.mp hf
  obtain ⟨hbR, fBC⟩ := List.pairwise_cons.mp fR
  obtain ⟨fB, fC, hBC⟩ := List.pairwise_append.mp fBC
  refine List.pairwise_append.mpr ⟨fA, List.pairwise_append.mpr ⟨fB, List.pairwise_cons.mpr ⟨fun x hx => hC x hx, fC⟩, fun x hx y hy => ?_⟩, fun x hx y hy => ?_⟩
  · rcases List.mem_cons.mp hy with rfl | hy
    · exact hB x hx
    · exact hBC x hx y hy
  · rcases List.mem_append.mp hy with q | q
    · exact hAR x hx y (List.mem_cons_of_mem _ (List.mem_append.mpr (.inl q)))
    · rcases List.mem_cons.mp q with rfl | q
      · have := hAR x hx b List.mem_cons_self
        lia
      · exact hAR x hx y (List.mem_cons_of_mem _ (List.mem_append.mpr (.inr q)))
theorem Step.sum {t : Nat} {ds ds' : List Nat} (h : Step t ds ds') (g : Nat → Int) (c : Int) (hg : ∀ b, t ≤ b → g b = g (b - t) + c) : (ds.map g).sum = (ds'.map g).sum + c := by
  obtain ⟨A, b, B, C, rfl, hb, hB, hC, rfl⟩ := h
  simp only [List.map_append, List.map_cons, List.sum_append, List.sum_cons]
  rw [hg b hb]; lia
theorem Step.bound {t n : Nat} {ds ds' : List Nat} (h : Step t ds ds') (hn : ∀ x ∈ ds, x < n) : ∀ x ∈ ds', x < n := by
  obtain ⟨A, b, B, C, rfl, hb, hB, hC, rfl⟩ := h
  intro x hx
  have hbn := hn b (by simp)
  simp only [List.mem_append, List.mem_cons] at hx hn
  rcases hx with q | q | rfl | q
  · exact hn x (.inl q)
  · exact hn x (.inr (.inr (.inl q)))
  · lia
  · exact hn x (.inr (.inr (.inr q)))

theorem StepN.sum {t j : Nat} {ds ds' : List Nat} (h : StepN t j ds ds') (g : Nat → Int) (c : Int) (hg : ∀ b, t ≤ b → g b = g (b - t) + c) : (ds.map g).sum = (ds'.map g).sum + j * c := by
  induction h with
  | zero => simp
  | succ s _ ih =>
    rw [s.sum g c hg, ih]
    push_cast
    rw [Int.add_mul]; lia
theorem StepN.bound {t j n : Nat} {ds ds' : List Nat} (h : StepN t j ds ds') (hn : ∀ x ∈ ds, x < n) : ∀ x ∈ ds', x < n := by
  induction h with
  | zero => exact hn
  | succ s _ ih => exact ih (s.bound hn)

theorem tIt_shift (rows : List Int) (t : Int) : ∀ n, tIt rows t (n + 1) = tIt (taken rows t) t n
  | 0 => rfl
  | n + 1 => by
    show taken (tIt rows t (n + 1)) t = taken (tIt (taken rows t) t n) t
    rw [tIt_shift rows t n]

theorem core_exists {t : Nat} (ht : 0 < t) : ∀ (n : Nat) (ds : List Nat), Fall ds → ds.sum < n → ∃ N ds' j, tIt (rD ds) t N = rD ds' ∧ taken (rD ds') t = rD ds' ∧ Fall ds' ∧ StepN t j ds ds' ∧ ∀ b ∈ ds', t ≤ b → b - t ∈ ds'
  | 0, ds, _, h => by lia
  | n + 1, ds, hf, h => by
    rcases taken_step ht hf with ⟨d₁, hs, he⟩ | ⟨hm, he⟩
    · have hsum : d₁.sum < n := by
        obtain ⟨A, b, B, C, rfl, hb, hB, hC, rfl⟩ := hs
        simp only [List.sum_append, List.sum_cons] at h ⊢
        lia
      obtain ⟨N, ds', j, h1, h2, h3, h4, h5⟩ := core_exists ht n d₁ (hs.fall ht hf) hsum
      exact ⟨N + 1, ds', j + 1, by rw [tIt_shift, he, h1], h2, h3, .succ hs h4, h5⟩
    · exact ⟨0, ds, 0, rfl, he, hf, .zero, hm⟩

/-! bits -/
theorem bitsB_succ (F n : Nat) : bitsBelow F (n + 1) = bitsBelow F n ++ if bitN F n then [n] else [] := by
  unfold bitsBelow
  rw [List.range_succ, List.filter_append]
  congr 1
  by_cases h : bitN F n = true
  · simp [h]
  · simp [h]
theorem bits_fall (F n : Nat) : Fall (bitsBelow F n).reverse := by
  unfold Fall
  rw [List.pairwise_reverse]
  exact List.Pairwise.filter _ List.pairwise_lt_range
theorem bitN_add {C n i : Nat} (h : i < n) : bitN (C + 2 ^ n) i = bitN C i := by
  unfold bitN
  obtain ⟨k, rfl⟩ : ∃ k, n = i + 1 + k := ⟨n - (i + 1), by lia⟩
  have e : C + 2 ^ (i + 1 + k) = C + 2 ^ i * (2 * 2 ^ k) := by
    rw [Nat.pow_add, Nat.pow_succ, Nat.mul_assoc]
  rw [e, Nat.add_mul_div_left _ _ (Nat.pow_pos (by decide)), Nat.add_mul_mod_self_left]
theorem bitN_top {C n : Nat} (h : C < 2 ^ n) : bitN (C + 2 ^ n) n = true := by
  unfold bitN
  rw [Nat.add_div_right _ (Nat.pow_pos (by decide)), Nat.div_eq_of_lt h]; rfl
theorem bitN_none {C n : Nat} (h : C < 2 ^ n) : bitN C n = false := by
  unfold bitN
  rw [Nat.div_eq_of_lt h]; rfl
theorem bits_congr {A B n : Nat} (h : ∀ i, i < n → bitN A i = bitN B i) : bitsBelow A n = bitsBelow B n :=
  List.filter_congr fun i hi => h i (List.mem_range.mp hi)
theorem of_fall : ∀ (n : Nat) (ds : List Nat), Fall ds → (∀ x ∈ ds, x < n) → ∃ C, C < 2 ^ n ∧ bitsBelow C n = ds.reverse
  | 0, ds, _, h => by
    cases ds with
    | nil => exact ⟨0, by decide, rfl⟩
    | cons d ds => exact absurd (h d List.mem_cons_self) (by lia)
  | n + 1, ds, hf, h => by
    by_cases hn : ∃ ds', ds = n :: ds'
    · obtain ⟨ds', rfl⟩ := hn
      obtain ⟨h1, h2⟩ := List.pairwise_cons.mp hf
      obtain ⟨C, hC, hb⟩ := of_fall n ds' h2 h1
      refine ⟨C + 2 ^ n, by rw [Nat.pow_succ]; lia, ?_⟩
      rw [bitsB_succ, bitN_top hC, bits_congr (B := C) fun i hi => bitN_add hi, hb]
      simp
    · have hall : ∀ x ∈ ds, x < n := by
        cases ds with
        | nil => simp
        | cons d ds =>
          have hd := h d List.mem_cons_self
          have hdn : d ≠ n := fun e => hn ⟨ds, by rw [e]⟩
          intro x hx
          rcases List.mem_cons.mp hx with rfl | hx
          · lia
          · have := (List.pairwise_cons.mp hf).1 x hx
            lia
      obtain ⟨C, hC, hb⟩ := of_fall n ds hf hall
      refine ⟨C, by rw [Nat.pow_succ]; lia, ?_⟩
      rw [bitsB_succ, bitN_none hC, hb]
      simp
theorem bits_sum (F : Nat) : ∀ n, ((bitsBelow F n).map fun p => 2 ^ p).sum = F % 2 ^ n
  | 0 => by rw [Nat.pow_zero, Nat.mod_one]; rfl
  | n + 1 => by
    rw [bitsB_succ, List.map_append, List.sum_append, bits_sum F n, Nat.mod_pow_succ]
    congr 1
    unfold bitN
    rcases Nat.mod_two_eq_zero_or_one (F / 2 ^ n) with q | q
    · rw [q]; simp
    · rw [q]; simp
theorem plN_sum {F : Nat} (h : F < 2 ^ 14) : ((plN F).map fun p => (2 : Int) ^ p.toNat).sum = F := by
  have e : ((plN F).map fun p => (2 : Int) ^ p.toNat) = ((bitsBelow F 14).map fun p => 2 ^ p).map fun n : Nat => (n : Int) := by
    unfold plN
    rw [List.map_map, List.map_map]
    apply List.map_congr_left
    intro p _
    simp
  have c : ∀ L : List Nat, (L.map fun n : Nat => (n : Int)).sum = (L.sum : Nat) := by
    intro L
    induction L with
    | nil => rfl
    | cons a L ih => rw [List.map_cons, List.sum_cons, List.sum_cons, ih]; push_cast; rfl
  rw [e, c, bits_sum, Nat.mod_eq_of_lt h]
theorem mem_bits {F n i : Nat} : i ∈ bitsBelow F n ↔ i < n ∧ bitN F i = true := by
  unfold bitsBelow
  rw [List.mem_filter, List.mem_range]
end Mine

-- P3
namespace Mine
open PySem PySem.W PyProof.Rows

def hT (r : Int) (rs : List Int) : List Int := (List.range r.toNat).map fun c : Nat => r - (c : Int) + ((rs.filter fun x => decide ((c : Int) < x)).length : Int)
theorem hooks_cons (r : Int) (rs : List Int) : hooks (r :: rs) = hT r rs ++ hooks rs := by
  unfold hooks
  rw [List.length_cons, List.range_succ_eq_map, List.flatMap_cons, List.flatMap_map]
  rfl
theorem hT_zero (r : Int) (rs : List Int) : hT r (rs ++ [0]) = hT r rs := by
  unfold hT
  apply List.map_congr_left
  intro c _
  have : decide ((c : Int) < 0) = false := decide_eq_false (by lia)
  rw [List.filter_append, List.filter_cons, this]; simp
theorem hooks_zero : ∀ rs : List Int, hooks (rs ++ [0]) = hooks rs
  | [] => rfl
  | r :: rs => by rw [List.cons_append, hooks_cons, hooks_cons, hT_zero, hooks_zero rs]
theorem hT_succ {r : Int} {rs : List Int} (hr : 0 ≤ r) (hrs : ∀ x ∈ rs, 0 ≤ x) : hT (r + 1) (rs.map (· + 1)) = (r + 1 + (rs.length : Int)) :: hT r rs := by
  unfold hT
  rw [show (r + 1).toNat = r.toNat + 1 by lia, List.range_succ_eq_map, List.map_cons, List.map_map]
  congr 1
  · have : (rs.map (· + 1)).filter (fun x => decide (((0 : Nat) : Int) < x)) = rs.map (· + 1) := List.filter_eq_self.mpr fun x hx => by
      obtain ⟨y, hy, rfl⟩ := List.mem_map.mp hx
      have := hrs y hy
      exact decide_eq_true (by lia)
    rw [this, List.length_map]
    lia
  · apply List.map_congr_left
    intro c _
    simp only [Function.comp_apply, List.filter_map, List.length_map]
    have : ((fun x => decide (((c.succ : Nat) : Int) < x)) ∘ fun x : Int => x + 1) = fun x : Int => decide ((c : Int) < x) := by
      funext x
      simp only [Function.comp_apply]
      rw [decide_eq_decide]
      lia
    rw [this]
    push_cast; lia

def hk (t : Int) (hs : List Int) : Nat := (hs.filter fun h => h.fmod t == 0).length
theorem hk_app (t : Int) (a b : List Int) : hk t (a ++ b) = hk t a + hk t b := by unfold hk; rw [List.filter_append, List.length_append]
theorem hk_cons (t h : Int) (b : List Int) : hk t (h :: b) = (if h.fmod t == 0 then 1 else 0) + hk t b := by
  unfold hk
  rw [List.filter_cons]
  split <;> simp; lia
theorem divs_len (hs : List Int) (t : Int) : (divs hs t).length = hk t hs := by rw [List.length_map]; rfl

theorem fall_len : ∀ {ds : List Nat} {d : Nat}, Fall (d :: ds) → ds.length ≤ d
  | [], d, _ => Nat.zero_le _
  | e :: ds, d, h => by
    obtain ⟨h1, h2⟩ := List.pairwise_cons.mp h
    have := fall_len h2
    have := h1 e List.mem_cons_self
    rw [List.length_cons]; lia
theorem rD_nonneg : ∀ {ds : List Nat}, Fall ds → ∀ r ∈ rD ds, 0 ≤ r
  | [], _, r, h => by cases h
  | d :: ds, hf, r, h => by
    rcases List.mem_cons.mp h with rfl | h
    · have := fall_len hf; lia
    · exact rD_nonneg (List.pairwise_cons.mp hf).2 r h

theorem hk_succ {t : Nat} : ∀ {ds : List Nat}, Fall ds → hk t (hooks ((rD ds).map (· + 1))) = hk t (hooks (rD ds)) + (ds.filter fun x => (x + 1) % t == 0).length
  | [], _ => rfl
  | d :: ds, hf => by
    have ih := hk_succ (t := t) (List.pairwise_cons.mp hf).2
    have hl := fall_len hf
    rw [rD, List.map_cons, hooks_cons, hooks_cons, hk_app, hk_app, hT_succ (by lia) (rD_nonneg (List.pairwise_cons.mp hf).2), hk_cons, ih, List.filter_cons, rD_len]
    have e : (((d : Int) - (ds.length : Int) + 1 + (ds.length : Int)).fmod t == 0) = ((d + 1) % t == 0) := by
      rw [show (d : Int) - (ds.length : Int) + 1 + (ds.length : Int) = ((d + 1 : Nat) : Int) by push_cast; lia, Int.fmod_eq_emod_of_nonneg _ (Int.natCast_nonneg t), ← Int.natCast_emod, Bool.eq_iff_iff]
      simp only [beq_iff_eq]
      lia
    rw [e]
    by_cases q : ((d + 1) % t == 0) = true
    · rw [if_pos q, if_pos q, List.length_cons]; lia
    · rw [if_neg q, if_neg q]; lia

theorem rD_up : ∀ ds : List Nat, rD (ds.map (· + 1)) = (rD ds).map (· + 1)
  | [] => rfl
  | d :: ds => by
    rw [List.map_cons, rD, rD_up ds, rD, List.map_cons, List.length_map]
    congr 1
    push_cast; lia
theorem rD_up0 (ds : List Nat) : rD (ds.map (· + 1) ++ [0]) = rD ds ++ [0] := by
  rw [rD_app, rD_up, List.map_map]
  congr 1
  have : ((fun x : Int => x - (([0] : List Nat).length : Int)) ∘ fun x : Int => x + 1) = id := by
    funext x
    simp
  rw [this, List.map_id]

def tri : Nat → Nat
  | 0 => 0
  | n + 1 => tri n + n
def cnt (t r : Nat) (ds : List Nat) : Nat := (ds.filter fun x => x % t == r).length
def triSum (t : Nat) (ds : List Nat) : Nat := ((List.range t).map fun r => tri (cnt t r ds)).sum
def wt (t : Nat) (ds : List Nat) : Nat := (ds.map (· / t)).sum

theorem cnt_up {t r : Nat} (ht : t = 4 ∨ t = 6) (hr : r + 1 < t) (ds : List Nat) : cnt t (r + 1) (ds.map (· + 1)) = cnt t r ds := by
  unfold cnt
  rw [List.filter_map, List.length_map]
  congr 1
  apply List.filter_congr
  intro x _
  simp only [Function.comp_apply]
  rw [Bool.eq_iff_iff, beq_iff_eq, beq_iff_eq]
  rcases ht with rfl | rfl <;> lia
theorem cnt_up0 {t : Nat} (ht : t = 4 ∨ t = 6) (ds : List Nat) : cnt t 0 (ds.map (· + 1)) = cnt t (t - 1) ds := by
  unfold cnt
  rw [List.filter_map, List.length_map]
  congr 1
  apply List.filter_congr
  intro x _
  simp only [Function.comp_apply]
  rw [Bool.eq_iff_iff, beq_iff_eq, beq_iff_eq]
  rcases ht with rfl | rfl <;> lia
theorem wt_up {t : Nat} (ht : t = 4 ∨ t = 6) : ∀ ds : List Nat, wt t (ds.map (· + 1)) = wt t ds + cnt t (t - 1) ds
  | [] => rfl
  | d :: ds => by
    have ih := wt_up ht ds
    unfold wt cnt at ih ⊢
    rw [List.map_cons, List.map_cons, List.map_cons, List.sum_cons, List.sum_cons, ih, List.filter_cons]
    by_cases q : (d % t == t - 1) = true
    · rw [if_pos q, List.length_cons]
      rw [beq_iff_eq] at q
      rcases ht with rfl | rfl <;> lia
    · rw [if_neg q]
      rw [beq_iff_eq] at q
      rcases ht with rfl | rfl <;> lia
theorem cnt_app (t r : Nat) (a b : List Nat) : cnt t r (a ++ b) = cnt t r a + cnt t r b := by unfold cnt; rw [List.filter_append, List.length_append]

theorem triSum_up {t : Nat} (ht : t = 4 ∨ t = 6) (ds : List Nat) : triSum t (ds.map (· + 1)) = triSum t ds := by
  unfold triSum
  obtain ⟨t', rfl⟩ : ∃ t', t = t' + 1 := ⟨t - 1, by lia⟩
  conv => lhs; rw [List.range_succ_eq_map]
  rw [List.range_succ]
  simp only [List.map_cons, List.map_map, List.sum_cons, List.map_append, List.sum_append, List.map_nil, List.sum_nil]
  rw [cnt_up0 ht, show t' + 1 - 1 = t' by lia]
  have : (List.range t').map ((fun r => tri (cnt (t' + 1) r (ds.map (· + 1)))) ∘ Nat.succ) = (List.range t').map fun r => tri (cnt (t' + 1) r ds) := by
    apply List.map_congr_left
    intro r hr
    have hr := List.mem_range.mp hr
    simp only [Function.comp_apply]
    rw [cnt_up ht (by lia)]
  rw [this]; lia
theorem triSum_up0 {t : Nat} (ht : t = 4 ∨ t = 6) (ds : List Nat) : triSum t (ds.map (· + 1) ++ [0]) = triSum t ds + cnt t (t - 1) ds := by
  have h0 : triSum t (ds.map (· + 1) ++ [0]) = triSum t (ds.map (· + 1)) + cnt t 0 (ds.map (· + 1)) := by
    unfold triSum
    obtain ⟨t', rfl⟩ : ∃ t', t = t' + 1 := ⟨t - 1, by lia⟩
    rw [List.range_succ_eq_map]
    simp only [List.map_cons, List.map_map, List.sum_cons]
    have e0 : cnt (t' + 1) 0 (ds.map (· + 1) ++ [0]) = cnt (t' + 1) 0 (ds.map (· + 1)) + 1 := by
      rw [cnt_app]
      congr 1
    have : (List.range t').map ((fun r => tri (cnt (t' + 1) r (ds.map (· + 1) ++ [0]))) ∘ Nat.succ) = (List.range t').map ((fun r => tri (cnt (t' + 1) r (ds.map (· + 1)))) ∘ Nat.succ) := by
      apply List.map_congr_left
      intro r hr
      simp only [Function.comp_apply]
      rw [cnt_app]
      have : cnt (t' + 1) r.succ [0] = 0 := by
        unfold cnt
        rw [List.filter_cons, if_neg (by rw [Nat.zero_mod]; simp)]; rfl
      rw [this, Nat.add_zero]
    rw [this, e0, tri]; lia
  rw [h0, triSum_up ht, cnt_up0 ht]

theorem bits_half (F n : Nat) : bitsBelow F (n + 1) = (if bitN F 0 then [0] else []) ++ (bitsBelow (F / 2) n).map (· + 1) := by
  unfold bitsBelow
  rw [List.range_succ_eq_map, List.filter_cons, List.filter_map]
  have : bitN F ∘ Nat.succ = bitN (F / 2) := by
    funext i
    simp only [Function.comp_apply, bitN]
    rw [Nat.pow_succ, Nat.mul_comm, Nat.div_div_eq_div_mul]
  rw [this]
  split <;> rfl

theorem hook_formula {t : Nat} (ht : t = 4 ∨ t = 6) : ∀ (n F : Nat), hk t (hooks (rD (bitsBelow F n).reverse)) + triSum t (bitsBelow F n).reverse = wt t (bitsBelow F n).reverse
  | 0, F => by rcases ht with rfl | rfl <;> rfl
  | n + 1, F => by
    have ih := hook_formula ht n (F / 2)
    have hf := bits_fall (F / 2) n
    rw [bits_half, List.reverse_append, ← List.map_reverse]
    generalize (bitsBelow (F / 2) n).reverse = ds at ih hf ⊢
    split
    · rw [List.reverse_singleton, rD_up0, hooks_zero, triSum_up0 ht]
      have : wt t (ds.map (· + 1) ++ [0]) = wt t (ds.map (· + 1)) := by unfold wt; simp
      rw [this, wt_up ht]; lia
    · rw [List.reverse_nil, List.append_nil, rD_up, hk_succ hf, triSum_up ht, wt_up ht]
      have : (ds.filter fun x => (x + 1) % t == 0).length = cnt t (t - 1) ds := by
        unfold cnt
        congr 1
        apply List.filter_congr
        intro x _
        rw [Bool.eq_iff_iff, beq_iff_eq, beq_iff_eq]
        rcases ht with rfl | rfl <;> lia
      rw [this]; lia
end Mine

-- P4
namespace Mine
open PySem PySem.W PyProof.Rows

abbrev be (F x : Nat) : Nat := F / 2 ^ x % 2
theorem be_le (F x : Nat) : be F x ≤ 1 := by unfold be; lia
theorem bits_map_sum (g : Nat → Nat) (F : Nat) : ∀ n, ((bitsBelow F n).map g).sum = ((List.range n).map fun x => be F x * g x).sum
  | 0 => rfl
  | n + 1 => by
    rw [bitsB_succ, List.range_succ, List.map_append, List.map_append, List.sum_append, List.sum_append, bits_map_sum g F n]
    congr 1
    unfold bitN
    rcases Nat.mod_two_eq_zero_or_one (F / 2 ^ n) with q | q
    · simp [q]
    · simp [q]
abbrev s14 (f : Nat → Nat) : Nat := f 0 + (f 1 + (f 2 + (f 3 + (f 4 + (f 5 + (f 6 + (f 7 + (f 8 + (f 9 + (f 10 + (f 11 + (f 12 + (f 13 + 0)))))))))))))
theorem sum14 (f : Nat → Nat) : ((List.range 14).map f).sum = s14 f := rfl
theorem sum_rev : ∀ L : List Nat, L.reverse.sum = L.sum
  | [] => rfl
  | a :: L => by rw [List.reverse_cons, List.sum_append, sum_rev L]; simp; lia
theorem cnt_sum (t r : Nat) : ∀ ds : List Nat, cnt t r ds = (ds.map fun x => if x % t = r then 1 else 0).sum
  | [] => rfl
  | d :: ds => by
    have := cnt_sum t r ds
    unfold cnt at this ⊢
    rw [List.filter_cons, List.map_cons, List.sum_cons, ← this]
    by_cases q : d % t = r
    · rw [if_pos (by simpa using q), if_pos q, List.length_cons]; lia
    · rw [if_neg (by simpa using q), if_neg q]; lia
theorem wt14 (t F : Nat) : wt t (bitsBelow F 14).reverse = s14 fun x => be F x * (x / t) := by
  unfold wt
  rw [List.map_reverse, sum_rev, bits_map_sum, sum14]
theorem cnt14 (t r F : Nat) : cnt t r (bitsBelow F 14).reverse = s14 fun x => be F x * if x % t = r then 1 else 0 := by
  rw [cnt_sum, List.map_reverse, sum_rev, bits_map_sum, sum14]

theorem tri4 {a b c d : Nat} (ha : a ≤ 1) (hb : b ≤ a) (hc : c ≤ b) (hd : d ≤ c) : tri (a + b + c + d) = b + 2 * c + 3 * d := by
  obtain rfl | rfl : a = 0 ∨ a = 1 := by lia
  · obtain rfl : b = 0 := by lia
    obtain rfl : c = 0 := by lia
    obtain rfl : d = 0 := by lia
    rfl
  · obtain rfl | rfl : b = 0 ∨ b = 1 := by lia
    · obtain rfl : c = 0 := by lia
      obtain rfl : d = 0 := by lia
      rfl
    · obtain rfl | rfl : c = 0 ∨ c = 1 := by lia
      · obtain rfl : d = 0 := by lia
        rfl
      · obtain rfl | rfl : d = 0 ∨ d = 1 := by lia
        · rfl
        · rfl
/-- no bead of C can go t down -/
def Still (t C : Nat) : Prop := ∀ b ∈ bitsBelow C 14, t ≤ b → b - t ∈ bitsBelow C 14
theorem Still.be {t C : Nat} (h : Still t C) (x : Nat) (hx : x + t < 14) : be C (x + t) ≤ be C x := by
  by_cases q : bitN C (x + t) = true
  · have := h (x + t) (mem_bits.mpr ⟨hx, q⟩) (by lia)
    rw [show x + t - t = x by lia] at this
    have := (mem_bits.mp this).2
    unfold bitN at q this
    rw [beq_iff_eq] at q this
    unfold Mine.be
    lia
  · unfold bitN at q
    rw [beq_iff_eq] at q
    unfold Mine.be
    lia

theorem cnt4 (F : Nat) : cnt 4 0 (bitsBelow F 14).reverse = be F 0 + be F 4 + be F 8 + be F 12 ∧ cnt 4 1 (bitsBelow F 14).reverse = be F 1 + be F 5 + be F 9 + be F 13 ∧ cnt 4 2 (bitsBelow F 14).reverse = be F 2 + be F 6 + be F 10 + 0 ∧ cnt 4 3 (bitsBelow F 14).reverse = be F 3 + be F 7 + be F 11 + 0 := by
  simp only [cnt14, s14]
  refine ⟨?_, ?_, ?_, ?_⟩ <;> simp <;> lia
theorem cnt6 (F : Nat) : cnt 6 0 (bitsBelow F 14).reverse = be F 0 + be F 6 + be F 12 + 0 ∧ cnt 6 1 (bitsBelow F 14).reverse = be F 1 + be F 7 + be F 13 + 0 ∧ cnt 6 2 (bitsBelow F 14).reverse = be F 2 + be F 8 + 0 + 0 ∧ cnt 6 3 (bitsBelow F 14).reverse = be F 3 + be F 9 + 0 + 0 ∧
    cnt 6 4 (bitsBelow F 14).reverse = be F 4 + be F 10 + 0 + 0 ∧ cnt 6 5 (bitsBelow F 14).reverse = be F 5 + be F 11 + 0 + 0 := by
  simp only [cnt14, s14]
  refine ⟨?_, ?_, ?_, ?_, ?_, ?_⟩ <;> simp <;> lia

theorem still_wt4 {C : Nat} (h : Still 4 C) : wt 4 (bitsBelow C 14).reverse = triSum 4 (bitsBelow C 14).reverse := by
  have e : triSum 4 (bitsBelow C 14).reverse = tri (cnt 4 0 (bitsBelow C 14).reverse) + (tri (cnt 4 1 (bitsBelow C 14).reverse) + (tri (cnt 4 2 (bitsBelow C 14).reverse) + (tri (cnt 4 3 (bitsBelow C 14).reverse) + 0))) := rfl
  obtain ⟨c0, c1, c2, c3⟩ := cnt4 C
  rw [e, c0, c1, c2, c3, wt14]
  have hb := be_le C
  have h0 := h.be 0 (by lia); have h1 := h.be 1 (by lia); have h2 := h.be 2 (by lia); have h3 := h.be 3 (by lia); have h4 := h.be 4 (by lia); have h5 := h.be 5 (by lia); have h6 := h.be 6 (by lia); have h7 := h.be 7 (by lia); have h8 := h.be 8 (by lia); have h9 := h.be 9 (by lia)
  simp only [Nat.reduceAdd] at h0 h1 h2 h3 h4 h5 h6 h7 h8 h9
  rw [tri4 (hb 0) h0 h4 h8, tri4 (hb 1) h1 h5 h9, tri4 (hb 2) h2 h6 (Nat.zero_le _), tri4 (hb 3) h3 h7 (Nat.zero_le _)]
  simp [s14]
  lia
theorem still_wt6 {C : Nat} (h : Still 6 C) : wt 6 (bitsBelow C 14).reverse = triSum 6 (bitsBelow C 14).reverse := by
  have e : triSum 6 (bitsBelow C 14).reverse = tri (cnt 6 0 (bitsBelow C 14).reverse) + (tri (cnt 6 1 (bitsBelow C 14).reverse) + (tri (cnt 6 2 (bitsBelow C 14).reverse) + (tri (cnt 6 3 (bitsBelow C 14).reverse) + (tri (cnt 6 4 (bitsBelow C 14).reverse) + (tri (cnt 6 5 (bitsBelow C 14).reverse) + 0))))) := rfl
  obtain ⟨c0, c1, c2, c3, c4, c5⟩ := cnt6 C
  rw [e, c0, c1, c2, c3, c4, c5, wt14]
  have hb := be_le C
  have h0 := h.be 0 (by lia); have h1 := h.be 1 (by lia); have h2 := h.be 2 (by lia); have h3 := h.be 3 (by lia); have h4 := h.be 4 (by lia); have h5 := h.be 5 (by lia); have h6 := h.be 6 (by lia); have h7 := h.be 7 (by lia)
  simp only [Nat.reduceAdd] at h0 h1 h2 h3 h4 h5 h6 h7
  rw [tri4 (hb 0) h0 h6 (Nat.zero_le _), tri4 (hb 1) h1 h7 (Nat.zero_le _), tri4 (hb 2) h2 (Nat.zero_le _) (Nat.zero_le _), tri4 (hb 3) h3 (Nat.zero_le _) (Nat.zero_le _), tri4 (hb 4) h4 (Nat.zero_le _) (Nat.zero_le _), tri4 (hb 5) h5 (Nat.zero_le _) (Nat.zero_le _)]
  simp [s14]
  lia
end Mine

-- P5
namespace Mine
open PySem PySem.W PyProof.Rows

/-- the blocks of w bits, the highest ahead -/
def digs (w most F : Nat) : List Int := (List.range most).map fun i => ((F / 2 ^ (w * (most - 1 - i)) % 2 ^ w : Nat) : Int)
def colC (F w most bit : Nat) : Nat := ((List.range most).filter fun m => bitN F (w * m + bit)).length
theorem digs_len (w most F : Nat) : (digs w most F).length = most := by unfold digs; rw [List.length_map, List.length_range]

theorem icast_sum : ∀ L : List Nat, (L.map fun n : Nat => (n : Int)).sum = ((L.sum : Nat) : Int)
  | [] => rfl
  | a :: L => by rw [List.map_cons, List.sum_cons, List.sum_cons, icast_sum L]; push_cast; rfl
theorem bitN_test (C i : Nat) : bitN C i = C.testBit i := by
  rw [Nat.testBit_eq_decide_div_mod_eq, bitN, Bool.eq_iff_iff, beq_iff_eq, decide_eq_true_iff]
theorem bitN_div (F k i : Nat) : bitN (F / 2 ^ k) i = bitN F (k + i) := by
  rw [bitN_test, bitN_test, Nat.testBit_div_two_pow, Nat.add_comm]
theorem bitN_blk {F k w i : Nat} (h : i < w) : bitN (F / 2 ^ k % 2 ^ w) i = bitN F (k + i) := by
  rw [← bitN_div, bitN_test, bitN_test, Nat.testBit_mod_two_pow, decide_eq_true h, Bool.true_and]
theorem bits_ext {F n : Nat} (h : F < 2 ^ n) : ∀ k, bitsBelow F (n + k) = bitsBelow F n
  | 0 => rfl
  | k + 1 => by
    rw [← Nat.add_assoc, bitsB_succ, bits_ext h k, bitN_none (Nat.lt_of_lt_of_le h (Nat.pow_le_pow_right (by decide) (Nat.le_add_right n k)))]
    simp
theorem bitN_lt {F n i : Nat} (h : F < 2 ^ n) (hb : bitN F i = true) : i < n := by
  apply Classical.byContradiction
  intro hn
  rw [bitN_none (Nat.lt_of_lt_of_le h (Nat.pow_le_pow_right (by decide) (Nat.le_of_not_lt hn)))] at hb
  cases hb

/-- the bits of one block -/
theorem blk_filter {w : Nat} (hw : 0 < w) (F h r : Nat) : (bitsBelow F (w * h + (w + r))).filter (fun x => decide (x / w = h)) = (bitsBelow (F / 2 ^ (w * h)) w).map (w * h + ·) := by
  unfold bitsBelow
  rw [List.filter_filter, List.range_add, List.range_add, List.map_append, List.filter_append, List.filter_append]
  have e1 : (List.range (w * h)).filter (fun a => decide (a / w = h) && bitN F a) = [] := List.filter_eq_nil_iff.mpr fun x hx => by
    have hx := List.mem_range.mp hx
    have : x / w < h := Nat.div_lt_of_lt_mul hx
    rw [Bool.and_eq_true, decide_eq_true_iff]
    exact fun z => Nat.ne_of_lt this z.1
  have e3 : (((List.range r).map fun x => w + x).map (w * h + ·)).filter (fun a => decide (a / w = h) && bitN F a) = [] := List.filter_eq_nil_iff.mpr fun x hx => by
    obtain ⟨y, hy, rfl⟩ := List.mem_map.mp hx
    obtain ⟨z, hz, rfl⟩ := List.mem_map.mp hy
    have : (w * h + (w + z)) / w = h + (1 + z / w) := by
      rw [Nat.mul_add_div hw, Nat.add_div_left z hw, Nat.add_comm 1]
    rw [this, Bool.and_eq_true, decide_eq_true_iff]
    exact fun z => by have := z.1; lia
  rw [e1, e3, List.nil_append, List.append_nil, List.filter_map]
  congr 1
  apply List.filter_congr
  intro i hi
  have hi := List.mem_range.mp hi
  simp only [Function.comp_apply]
  rw [Nat.mul_add_div hw, Nat.div_eq_of_lt hi, Nat.add_zero, decide_eq_true rfl, Bool.true_and, bitN_div]
theorem blk_sum {w : Nat} (hw : 0 < w) (F h r : Nat) : (((bitsBelow F (w * h + (w + r))).filter fun x => decide (x / w = h)).map fun x => 2 ^ (x % w)).sum = F / 2 ^ (w * h) % 2 ^ w := by
  rw [blk_filter hw, List.map_map, ← bits_sum (F / 2 ^ (w * h)) w]
  congr 1
  apply List.map_congr_left
  intro i hi
  have hi := (mem_bits.mp hi).1
  simp only [Function.comp_apply]
  rw [Nat.mul_add_mod, Nat.mod_eq_of_lt hi]

theorem digits_digs {w most F : Nat} (hw : 0 < w) (hF : F < 2 ^ 14) (hm : 14 ≤ w * most) : digitsOf (plN F) w most = digs w most F := by
  unfold digitsOf digs
  apply List.map_congr_left
  intro i hi
  have hi := List.mem_range.mp hi
  generalize hh : most - 1 - i = h
  have e0 : (most : Int) - 1 - (i : Int) = (h : Int) := by lia
  have hle : w * h + w ≤ w * most := by
    rw [← Nat.mul_succ]
    exact Nat.mul_le_mul_left w (by lia)
  obtain ⟨r, hr⟩ : ∃ r, w * most = w * h + (w + r) := ⟨w * most - (w * h + w), by lia⟩
  obtain ⟨k, hk⟩ : ∃ k, w * most = 14 + k := ⟨w * most - 14, by lia⟩
  have hb : bitsBelow F 14 = bitsBelow F (w * h + (w + r)) := by rw [← hr, hk, bits_ext hF]
  rw [e0]
  unfold plN
  rw [List.filter_map, List.map_map, hb]
  have e1 : ((fun p : Int => p.fdiv w == (h : Int)) ∘ fun i : Nat => (i : Int)) = fun x : Nat => decide (x / w = h) := by
    funext x
    simp only [Function.comp_apply]
    rw [Int.fdiv_eq_ediv_of_nonneg _ (Int.natCast_nonneg w), ← Int.natCast_ediv, Bool.eq_iff_iff, beq_iff_eq, decide_eq_true_iff]
    exact Int.ofNat_inj
  have e2 : ((fun p : Int => (2 : Int) ^ (p.fmod w).toNat) ∘ fun i : Nat => (i : Int)) = (fun n : Nat => (n : Int)) ∘ fun x : Nat => 2 ^ (x % w) := by
    funext x
    simp only [Function.comp_apply]
    rw [Int.fmod_eq_emod_of_nonneg _ (Int.natCast_nonneg w), ← Int.natCast_emod, Int.toNat_natCast]
    push_cast; rfl
  rw [e1, e2, ← List.map_map, icast_sum, blk_sum hw]

abbrev dig4 (F : Nat) : List Int := digs 4 4 F
abbrev dig6 (F : Nat) : List Int := digs 6 3 F
theorem dig4_eq {F : Nat} (hF : F < 2 ^ 14) : dig4 F = [((F / 4096 : Nat) : Int), ((F / 256 % 16 : Nat) : Int), ((F / 16 % 16 : Nat) : Int), ((F % 16 : Nat) : Int)] := by
  rw [show F / 4096 = F / 4096 % 16 from (Nat.mod_eq_of_lt (by omega)).symm, show F % 16 = F / 1 % 16 by rw [Nat.div_one]]
  rfl
theorem dig6_eq (F : Nat) : dig6 F = [((F / 4096 % 64 : Nat) : Int), ((F / 64 % 64 : Nat) : Int), ((F % 64 : Nat) : Int)] := by
  rw [show F % 64 = F / 1 % 64 by rw [Nat.div_one]]
  rfl

theorem word_skip (l : List Int) : word (0 :: l) = word l := rfl
theorem word_keep {a : Int} (l : List Int) (h : a ≠ 0) : word (a :: l) = (65 + a) :: l.map (65 + ·) := by
  unfold word
  rw [List.dropWhile_cons, if_neg (by simpa using h)]; rfl
theorem ap_zero (acc : List Int) : apAcc 0 acc = acc := by rw [apAcc, dif_pos rfl]
theorem ap_succ {n : Nat} (acc : List Int) (h : n ≠ 0) : apAcc n acc = apAcc (n / 16) (((65 + n % 16 : Nat) : Int) :: acc) := by rw [apAcc, dif_neg h]
theorem word_ap {F : Nat} (hF : F < 2 ^ 14) : word (dig4 F) = apAcc F [] := by
  rw [dig4_eq hF]
  by_cases h3 : F < 4096
  · rw [Nat.div_eq_of_lt h3, show ((0 : Nat) : Int) = 0 from rfl, word_skip]
    by_cases h2 : F < 256
    · rw [Nat.div_eq_of_lt h2, show ((0 % 16 : Nat) : Int) = 0 from rfl, word_skip]
      by_cases h1 : F < 16
      · rw [Nat.div_eq_of_lt h1, show ((0 % 16 : Nat) : Int) = 0 from rfl, word_skip]
        by_cases h0 : F = 0
        · subst h0
          rw [ap_zero]; rfl
        · rw [ap_succ _ h0, Nat.div_eq_of_lt h1, ap_zero, word_keep _ (by omega)]
          push_cast; rfl
      · rw [ap_succ _ (by omega), ap_succ _ (by omega), show F / 16 / 16 = 0 by omega, ap_zero, word_keep _ (by omega)]
        push_cast; rfl
    · rw [ap_succ _ (by omega), ap_succ _ (by omega), ap_succ _ (by omega), show F / 16 / 16 / 16 = 0 by omega, ap_zero, word_keep _ (by omega), show F / 16 / 16 = F / 256 by omega]
      push_cast; rfl
  · rw [ap_succ _ (by omega), ap_succ _ (by omega), ap_succ _ (by omega), ap_succ _ (by omega), show F / 16 / 16 / 16 / 16 = 0 by omega, ap_zero, word_keep _ (by omega), show F / 16 / 16 / 16 % 16 = F / 4096 by omega, show F / 16 / 16 = F / 256 by omega]
    push_cast; rfl

/-! fallen -/
theorem countsOf_skip (figs : List Int) (w : Nat) : countsOf (0 :: figs) w = countsOf figs w := by
  unfold countsOf
  apply List.map_congr_left
  intro bit _
  have : bitOf 0 bit = false := by
    unfold bitOf
    rw [Int.zero_fdiv]; rfl
  rw [List.filter_cons, this]; rfl
theorem fallenAt_high (figs : List Int) (w : Nat) : fallenAt (countsOf figs w) w (figs.length : Int) = 0 := by
  unfold fallenAt
  have : (List.range w).filter (fun bit => decide ((figs.length : Int) < (countsOf figs w).getD bit 0)) = [] := List.filter_eq_nil_iff.mpr fun bit hb => by
    have hb := List.mem_range.mp hb
    rw [decide_eq_true_iff]
    unfold countsOf
    rw [List.getD_eq_getElem?_getD, List.getElem?_map, List.getElem?_range hb]
    simp only [Option.map_some, Option.getD_some]
    have := List.length_filter_le (fun one => bitOf one bit) figs
    omega
  rw [this]; rfl
theorem fallen_skip (figs : List Int) (w : Nat) : fallen (0 :: figs) w = 0 :: fallen figs w := by
  unfold fallen
  rw [countsOf_skip, List.length_cons, List.range_succ_eq_map, List.map_cons, List.map_map]
  congr 1
  · rw [show ((figs.length + 1 : Nat) : Int) - 1 - ((0 : Nat) : Int) = (figs.length : Int) by push_cast; omega, fallenAt_high]
  · apply List.map_congr_left
    intro i _
    simp only [Function.comp_apply]
    congr 1
    push_cast; omega
theorem fallen_strip (w : Nat) : ∀ figs : List Int, word (fallen (figs.dropWhile (· == 0)) w) = word (fallen figs w) ∧ ∀ f ∈ fallen (figs.dropWhile (· == 0)) w, f ∈ fallen figs w
  | [] => ⟨rfl, fun _ h => h⟩
  | a :: l => by
    rw [List.dropWhile_cons]
    split
    · rename_i h
      obtain rfl : a = 0 := by simpa using h
      obtain ⟨h1, h2⟩ := fallen_strip w l
      rw [fallen_skip, word_skip]
      exact ⟨h1, fun f hf => List.mem_cons_of_mem _ (h2 f hf)⟩
    · exact ⟨rfl, fun _ h => h⟩
theorem map65 (l : List Int) : (l.map (65 + ·)).map (· - 65) = l := by
  rw [List.map_map]
  have : ((fun x : Int => x - 65) ∘ fun x : Int => 65 + x) = id := by
    funext x
    simp only [Function.comp_apply, id]
    omega
  rw [this, List.map_id]

theorem bitOf_nat (n bit : Nat) : bitOf (n : Int) bit = bitN n bit := by
  unfold bitOf
  rw [show ((2 : Int) ^ bit) = ((2 ^ bit : Nat) : Int) by push_cast; rfl, Int.fdiv_eq_ediv_of_nonneg _ (Int.natCast_nonneg _), Int.fmod_eq_emod_of_nonneg _ (by decide), bitN, Bool.eq_iff_iff]
  simp only [beq_iff_eq]
  omega

theorem rev_filter (p : Nat → Bool) (n : Nat) : ((List.range n).filter fun i => p (n - 1 - i)).length = ((List.range n).filter p).length := by
  have h : (List.range n).reverse = (List.range n).map (n - 1 - ·) := List.ext_getElem (by simp) fun i h1 h2 => by simp
  have := congrArg (fun l => (l.filter p).length) h
  simp only [List.filter_reverse, List.length_reverse, List.filter_map, List.length_map] at this
  exact this.symm
theorem counts_digs (w most F : Nat) : countsOf (digs w most F) w = (List.range w).map fun bit => ((colC F w most bit : Nat) : Int) := by
  unfold countsOf
  apply List.map_congr_left
  intro bit hb
  have hb := List.mem_range.mp hb
  congr 1
  unfold digs colC
  rw [List.filter_map, List.length_map]
  refine Eq.trans ?_ (rev_filter (fun m => bitN F (w * m + bit)) most)
  congr 1
  apply List.filter_congr
  intro i _
  simp only [Function.comp_apply]
  rw [bitOf_nat, bitN_blk hb]
theorem one_at (p : Nat → Bool) (bit : Nat) : ∀ w, ((List.range w).filter fun i => decide (i = bit) && p i).length = if bit < w ∧ p bit = true then 1 else 0
  | 0 => by rw [if_neg (fun z => Nat.not_lt_zero _ z.1)]; rfl
  | w + 1 => by
    rw [List.range_succ, List.filter_append, List.length_append, one_at p bit w, List.filter_cons]
    by_cases h : w = bit
    · subst h
      rw [if_neg (fun z => Nat.lt_irrefl _ z.1), decide_eq_true rfl, Bool.true_and]
      by_cases q : p w = true
      · rw [if_pos q, if_pos ⟨Nat.lt_succ_self w, q⟩]; rfl
      · rw [if_neg q, if_neg (fun z => q z.2)]; rfl
    · rw [decide_eq_false h, Bool.false_and, if_neg Bool.false_ne_true]
      by_cases q : bit < w ∧ p bit = true
      · rw [if_pos q, if_pos ⟨Nat.lt_succ_of_lt q.1, q.2⟩]; rfl
      · rw [if_neg q, if_neg (fun z => q ⟨by have := z.1; lia, z.2⟩)]; rfl
theorem cnt_col {w bit : Nat} (hb : bit < w) (F : Nat) : ∀ most, ((bitsBelow F (w * most)).filter fun x => x % w == bit).length = colC F w most bit
  | 0 => rfl
  | m + 1 => by
    have ih := cnt_col hb F m
    unfold colC bitsBelow at ih ⊢
    rw [Nat.mul_succ, List.range_add, List.filter_append, List.filter_append, List.length_append, ih, List.range_succ, List.filter_append, List.length_append, List.filter_cons]
    congr 1
    rw [List.filter_filter, List.filter_map, List.length_map]
    have e : (List.range w).filter ((fun a => (a % w == bit) && bitN F a) ∘ fun x => w * m + x) = (List.range w).filter fun i => decide (i = bit) && bitN F (w * m + i) := by
      apply List.filter_congr
      intro i hi
      simp only [Function.comp_apply]
      rw [Nat.mul_add_mod, Nat.mod_eq_of_lt (List.mem_range.mp hi)]
      congr 1
    rw [e, one_at]
    by_cases q : bitN F (w * m + bit) = true
    · rw [if_pos ⟨hb, q⟩, if_pos q]; rfl
    · rw [if_neg (fun z => q z.2), if_neg q]; rfl
theorem cnt_colC {w most bit F : Nat} (hb : bit < w) (hF : F < 2 ^ 14) (hm : 14 ≤ w * most) : cnt w bit (bitsBelow F 14).reverse = colC F w most bit := by
  obtain ⟨k, hk⟩ : ∃ k, w * most = 14 + k := ⟨w * most - 14, by lia⟩
  rw [← cnt_col hb, hk, bits_ext hF]
  unfold cnt
  rw [List.filter_reverse, List.length_reverse]

/-- how many hold, where each that holds has those below it -/
theorem down {p : Nat → Bool} : ∀ n, (∀ m, m + 1 < n → p (m + 1) = true → p m = true) → ∀ h, h < n → (h < ((List.range n).filter p).length ↔ p h = true)
  | 0, _, h, hh => (Nat.not_lt_zero _ hh).elim
  | n + 1, hd, h, hh => by
    have ih := down n fun m hm => hd m (Nat.lt_succ_of_lt hm)
    have hle := List.length_filter_le p (List.range n)
    rw [List.length_range] at hle
    rw [List.range_succ, List.filter_append, List.length_append, List.filter_cons]
    by_cases q : p n = true
    · rw [if_pos q]
      have all : ((List.range n).filter p).length = n := by
        cases n with
        | zero => rfl
        | succ n =>
          have := (ih n (Nat.lt_succ_self n)).mpr (hd n (Nat.lt_succ_self _) q)
          lia
      rw [all]
      refine ⟨fun _ => ?_, fun _ => hh⟩
      rcases Nat.lt_or_ge h n with z | z
      · exact (ih h z).mp (by rw [all]; exact z)
      · obtain rfl : h = n := Nat.le_antisymm (Nat.le_of_lt_succ hh) z
        exact q
    · rw [if_neg q]
      show h < _ + 0 ↔ _
      rw [Nat.add_zero]
      rcases Nat.lt_or_ge h n with z | z
      · exact ih h z
      · obtain rfl : h = n := Nat.le_antisymm (Nat.le_of_lt_succ hh) z
        exact ⟨fun y => (Nat.lt_irrefl _ (Nat.lt_of_lt_of_le y hle)).elim, fun y => (q y).elim⟩
theorem still_digs {w most C : Nat} (hC : C < 2 ^ 14) (h : Still w C) : fallen (digs w most C) w = digs w most C := by
  unfold fallen
  rw [counts_digs, digs_len]
  unfold digs
  apply List.map_congr_left
  intro i hi
  have hi := List.mem_range.mp hi
  generalize hh : most - 1 - i = g
  have e0 : (most : Int) - 1 - (i : Int) = (g : Int) := by lia
  rw [e0]
  unfold fallenAt
  have e1 : (List.range w).filter (fun bit => decide ((g : Int) < ((List.range w).map fun bit => ((colC C w most bit : Nat) : Int)).getD bit 0)) = bitsBelow (C / 2 ^ (w * g)) w := by
    unfold bitsBelow
    apply List.filter_congr
    intro bit hb
    have hb := List.mem_range.mp hb
    rw [List.getD_eq_getElem?_getD, List.getElem?_map, List.getElem?_range hb]
    simp only [Option.map_some, Option.getD_some]
    rw [bitN_div, Bool.eq_iff_iff, decide_eq_true_iff, Int.ofNat_lt]
    refine down most (fun m _ z => ?_) g (by lia)
    have h1 := bitN_lt hC z
    have := h (w * (m + 1) + bit) (mem_bits.mpr ⟨h1, z⟩) (by rw [Nat.mul_succ]; lia)
    rw [Nat.mul_succ, show w * m + w + bit - w = w * m + bit by lia] at this
    exact (mem_bits.mp this).2
  rw [e1, ← bits_sum (C / 2 ^ (w * g)) w, ← icast_sum, List.map_map]
  congr 1
end Mine

-- P6
namespace Mine
open PySem PySem.W PyProof.Rows

def colN (ps : List Nat) (ts : Nat) : Nat := (ps.map fun p => ts * (p / ts + 1)).sum
theorem column_nat (F ts : Nat) : column (plN F) (ts : Int) = (colN (bitsBelow F 14) ts : Nat) := by
  unfold column plN colN
  rw [List.map_map, ← icast_sum, List.map_map]
  congr 1
  apply List.map_congr_left
  intro p _
  simp only [Function.comp_apply, colAt]
  rw [Int.fdiv_eq_ediv_of_nonneg _ (Int.natCast_nonneg ts), ← Int.natCast_ediv]
  push_cast; rfl
theorem colN_eq (ts : Nat) : ∀ ps : List Nat, colN ps ts = ts * ((ps.map (· / ts)).sum + ps.length)
  | [] => by simp [colN]
  | p :: ps => by
    have := colN_eq ts ps
    unfold colN at this ⊢
    rw [List.map_cons, List.sum_cons, this, List.map_cons, List.sum_cons, List.length_cons, ← Nat.mul_add]
    congr 1; lia

theorem delta_sum (ts p : Nat) : ∀ m : Nat, ((List.range m).map fun i => (ts + i) / ts * if p == ts + i then 1 else 0).sum = if ts ≤ p ∧ p < ts + m then p / ts else 0
  | 0 => by rw [if_neg (by lia)]; rfl
  | m + 1 => by
    rw [List.range_succ, List.map_append, List.sum_append, delta_sum ts p m]
    by_cases h : p = ts + m
    · subst h
      rw [if_neg (by lia), if_pos (by lia)]
      simp
    · have e : (if (p == ts + m) = true then 1 else 0) = 0 := if_neg (by simpa using h)
      simp only [List.map_cons, List.map_nil, List.sum_cons, List.sum_nil, e, Nat.mul_zero, Nat.add_zero]
      by_cases h2 : ts ≤ p ∧ p < ts + m
      · rw [if_pos h2, if_pos (by lia)]
      · rw [if_neg h2, if_neg (by lia)]
theorem sum_map_add (f g : Nat → Nat) : ∀ L : List Nat, (L.map fun i => f i + g i).sum = (L.map f).sum + (L.map g).sum
  | [] => rfl
  | a :: L => by rw [List.map_cons, List.map_cons, List.map_cons, List.sum_cons, List.sum_cons, List.sum_cons, sum_map_add f g L]; lia
theorem count_sum (ts m : Nat) (ht : 0 < ts) : ∀ ps : List Nat, (∀ p ∈ ps, p < ts + m) → ((List.range m).map fun i => (ts + i) / ts * ps.countP (· == ts + i)).sum = (ps.map (· / ts)).sum
  | [], _ => by
    have : (fun i => (ts + i) / ts * ([] : List Nat).countP (· == ts + i)) = fun _ : Nat => 0 := by funext i; simp
    rw [this]
    induction m with
    | zero => rfl
    | succ m ih => simpa [List.range_succ] using ih
  | p :: ps, h => by
    have ih := count_sum ts m ht ps fun q hq => h q (List.mem_cons_of_mem _ hq)
    have e : (fun i => (ts + i) / ts * (p :: ps).countP (· == ts + i)) = fun i => (ts + i) / ts * ps.countP (· == ts + i) + (ts + i) / ts * if p == ts + i then 1 else 0 := by
      funext i
      rw [List.countP_cons, Nat.mul_add]
    rw [e, sum_map_add, ih, delta_sum, List.map_cons, List.sum_cons]
    have hp := h p List.mem_cons_self
    by_cases q : ts ≤ p
    · rw [if_pos ⟨q, hp⟩]; lia
    · rw [if_neg (by lia), Nat.div_eq_of_lt (by lia)]; lia

theorem foldl_sumI (f : Nat → Int) : ∀ (L : List Nat) (a : Int), L.foldl (fun a i => a + f i) a = a + (L.map f).sum
  | [], a => by simp
  | x :: L, a => by rw [List.foldl_cons, foldl_sumI f L, List.map_cons, List.sum_cons]; lia
theorem fold_ge : ∀ (ps : List Nat) (a : Nat), a ≤ ps.foldl (fun m p => max m (p + 1)) a ∧ ∀ p ∈ ps, p < ps.foldl (fun m p => max m (p + 1)) a
  | [], a => ⟨Nat.le_refl _, fun _ h => by cases h⟩
  | q :: ps, a => by
    obtain ⟨h1, h2⟩ := fold_ge ps (max a (q + 1))
    rw [List.foldl_cons]
    refine ⟨by lia, fun p hp => ?_⟩
    rcases List.mem_cons.mp hp with rfl | hp
    · lia
    · exact h2 p hp
theorem lead_len (ps : List Nat) : (ps.foldl bump []).length = ps.foldl (fun m p => max m (p + 1)) 0 := bumps_len ps []
theorem lead_at (ps : List Nat) (i : Nat) : (ps.foldl bump []).getD i 0 = (ps.countP (· == i) : Nat) := by
  rw [bumps_at]; simp

theorem indent_lead (ps : List Nat) (b ts : Nat) (ht : 0 < ts) : indent (leadW ps b) ts = ((colN ps ts + b : Nat) : Int) := by
  unfold indent
  show (b : Int) + ts * ((List.range ((ps.foldl bump []).length - ts)).foldl (ilStep (leadW ps b) ts) 0 + (ps.length : Int)) = _
  have e : ilStep (leadW ps b) ts = fun (a : Int) (i : Nat) => a + (((ts + i) / ts * ps.countP (· == ts + i) : Nat) : Int) := by
    funext a i
    unfold ilStep
    show a + ((ts + i : Nat) : Int).fdiv ts * (ps.foldl bump []).getD (ts + i) 0 = _
    rw [lead_at, Int.fdiv_eq_ediv_of_nonneg _ (Int.natCast_nonneg ts), ← Int.natCast_ediv]
    push_cast; rfl
  rw [e, foldl_sumI, show ((List.range ((ps.foldl bump []).length - ts)).map fun i => (((ts + i) / ts * ps.countP (· == ts + i) : Nat) : Int)) = ((List.range ((ps.foldl bump []).length - ts)).map fun i => (ts + i) / ts * ps.countP (· == ts + i)).map fun n : Nat => (n : Int) by rw [List.map_map]; rfl, icast_sum, count_sum ts _ ht ps, colN_eq]
  · push_cast
    rw [Int.zero_add, Int.add_comm]
  · intro p hp
    have := (fold_ge ps 0).2 p hp
    rw [lead_len]; lia

/-! the longest run -/
def ML (ps : List Nat) : Nat := ps.foldl max 0
theorem fold_up : ∀ (ps : List Nat) (a : Nat), ps.foldl (fun m p => max m (p + 1)) (a + 1) = ps.foldl max a + 1
  | [], a => rfl
  | p :: ps, a => by
    rw [List.foldl_cons, List.foldl_cons, show max (a + 1) (p + 1) = max a p + 1 by lia, fold_up ps]
theorem lead_len' (ps : List Nat) : (ps.foldl bump []).length = if ps = [] then 0 else ML ps + 1 := by
  rw [lead_len]
  cases ps with
  | nil => rfl
  | cons p ps =>
    rw [if_neg (by simp), ML, List.foldl_cons, List.foldl_cons, show max 0 (p + 1) = max 0 p + 1 by lia, fold_up]
theorem longest_lead (ps : List Nat) (b : Nat) : longest (leadW ps b) = ((max (ML ps) b : Nat) : Int) := by
  unfold longest
  show max (((ps.foldl bump []).length : Int) - 1) (b : Int) = _
  rw [lead_len']
  cases ps with
  | nil => simp [ML]; lia
  | cons p ps => rw [if_neg (by simp)]; push_cast; lia
theorem fold_max : ∀ (l : List Int) (a : Int), 0 ≤ a → l.foldl max a = max a (l.foldl max 0)
  | [], a, h => by simp; lia
  | x :: l, a, h => by
    rw [List.foldl_cons, List.foldl_cons, fold_max l (max a x) (by lia), fold_max l (max 0 x) (by lia)]
    lia
theorem fold_cast : ∀ (ps : List Nat) (a : Nat), (ps.map fun i : Nat => (i : Int)).foldl max (a : Int) = ((ps.foldl max a : Nat) : Int)
  | [], a => rfl
  | p :: ps, a => by
    rw [List.map_cons, List.foldl_cons, List.foldl_cons, show max (a : Int) (p : Int) = ((max a p : Nat) : Int) by lia, fold_cast ps]
theorem mx_bits (A B : Nat) : mx (plN A ++ plN B) = ((max (ML (bitsBelow A 14)) (ML (bitsBelow B 14)) : Nat) : Int) := by
  have ha : (plN A).foldl max 0 = ((ML (bitsBelow A 14) : Nat) : Int) := fold_cast _ 0
  have hb : (plN B).foldl max 0 = ((ML (bitsBelow B 14) : Nat) : Int) := fold_cast _ 0
  unfold mx
  rw [List.foldl_append, fold_max _ _ (by rw [ha]; lia), ha, hb]
  lia
theorem ML_le (F : Nat) : ML (bitsBelow F 14) ≤ 13 := by
  have : ∀ (ps : List Nat) (a : Nat), a ≤ 13 → (∀ p ∈ ps, p < 14) → ps.foldl max a ≤ 13 := by
    intro ps
    induction ps with
    | nil => exact fun a h _ => h
    | cons p ps ih =>
      intro a h hp
      exact ih _ (by have := hp p List.mem_cons_self; lia) fun q hq => hp q (List.mem_cons_of_mem _ hq)
  exact this _ 0 (by lia) fun p hp => pb_lt hp

theorem witness_due (A B : Nat) : witness (leadOf A 0) (leadOf B 0) = due (plN A) (plN B) := by
  unfold witness due
  rw [longest_lead, longest_lead, mx_bits]
  have e1 : max ((max (ML (bitsBelow A 14)) 0 : Nat) : Int) ((max (ML (bitsBelow B 14)) 0 : Nat) : Int) = ((max (ML (bitsBelow A 14)) (ML (bitsBelow B 14)) : Nat) : Int) := by lia
  have e2 : wStep (leadOf A 0) (leadOf B 0) = dueStep (plN A) (plN B) := by
    funext acc i
    unfold wStep dueStep
    rw [indent_lead _ _ _ (by lia), indent_lead _ _ _ (by lia), show (1 + (i : Int)) = ((1 + i : Nat) : Int) by push_cast; rfl, column_nat, column_nat, Nat.add_zero, Nat.add_zero]
  rw [e1, e2]

theorem due_fold (l r : List Int) : ∀ (L : List Nat) (acc : Due), L.foldl (dueStep l r) acc = acc ++ (L.filter fun i : Nat => decide (column r (1 + (i : Int)) ≤ column l (1 + (i : Int)))).map fun i : Nat => (1 + (i : Int), column l (1 + (i : Int)), column r (1 + (i : Int)))
  | [], acc => by simp
  | i :: L, acc => by
    rw [List.foldl_cons, due_fold l r L, List.filter_cons]
    unfold dueStep
    by_cases h : column r (1 + (i : Int)) ≤ column l (1 + (i : Int))
    · rw [if_pos h, if_pos (decide_eq_true h)]; simp
    · rw [if_neg h, if_neg (by simpa using h)]
theorem due_eq (A B : Nat) : due (plN A) (plN B) = ((List.range (max (ML (bitsBelow A 14)) (ML (bitsBelow B 14)) + 1)).filter fun i : Nat => decide (column (plN B) (1 + (i : Int)) ≤ column (plN A) (1 + (i : Int)))).map fun i : Nat => (1 + (i : Int), column (plN A) (1 + (i : Int)), column (plN B) (1 + (i : Int))) := by
  unfold due
  rw [mx_bits, due_fold, List.nil_append]
  rfl
theorem due_ok (A B : Nat) : (due (plN A) (plN B)).length ≤ 100 ∧ ∀ r ∈ due (plN A) (plN B), 0 ≤ r.1 ∧ r.1 < 64 := by
  have hA := ML_le A
  have hB := ML_le B
  rw [due_eq]
  constructor
  · rw [List.length_map]
    refine Nat.le_trans (List.length_filter_le ..) ?_
    rw [List.length_range]; lia
  · intro r hr
    obtain ⟨i, hi, rfl⟩ := List.mem_map.mp hr
    have := List.mem_range.mp (List.mem_filter.mp hi).1
    constructor
    · show (0 : Int) ≤ 1 + i; lia
    · show (1 : Int) + i < 64; lia
theorem over_nil (A B : Nat) : overOf (due (plN A) (plN B)) = [] ↔ ∀ i, i ≤ max (ML (bitsBelow A 14)) (ML (bitsBelow B 14)) → colN (bitsBelow A 14) (1 + i) ≤ colN (bitsBelow B 14) (1 + i) := by
  unfold overOf
  rw [due_eq, List.filter_eq_nil_iff]
  have ca : ∀ i : Nat, column (plN A) (1 + (i : Int)) = (colN (bitsBelow A 14) (1 + i) : Nat) := fun i => by rw [show (1 + (i : Int)) = ((1 + i : Nat) : Int) by push_cast; rfl, column_nat]
  have cb : ∀ i : Nat, column (plN B) (1 + (i : Int)) = (colN (bitsBelow B 14) (1 + i) : Nat) := fun i => by rw [show (1 + (i : Int)) = ((1 + i : Nat) : Int) by push_cast; rfl, column_nat]
  constructor
  · intro h i hi
    apply Classical.byContradiction
    intro hn
    refine h _ (List.mem_map.mpr ⟨i, List.mem_filter.mpr ⟨List.mem_range.mpr (by lia), ?_⟩, rfl⟩) ?_
    · rw [ca, cb]; exact decide_eq_true (by lia)
    · show decide (column (plN B) (1 + (i : Int)) < column (plN A) (1 + (i : Int))) = true
      rw [ca, cb]; exact decide_eq_true (by lia)
  · intro h r hr
    obtain ⟨i, hi, rfl⟩ := List.mem_map.mp hr
    have := h i (by have := List.mem_range.mp (List.mem_filter.mp hi).1; lia)
    show ¬ decide (column (plN B) (1 + (i : Int)) < column (plN A) (1 + (i : Int))) = true
    rw [ca, cb, decide_eq_true_iff]
    lia
end Mine

-- P7
namespace Mine
open PySem PySem.W PyProof.Rows

theorem colN_one (ps : List Nat) : colN ps 1 = (ps.map (· + 1)).sum := by
  unfold colN
  congr 1
  apply List.map_congr_left
  intro p _
  rw [Nat.div_one, Nat.one_mul]
theorem ML_ge (ps : List Nat) : ∀ p ∈ ps, p ≤ ML ps := by
  have : ∀ (ps : List Nat) (a : Nat), a ≤ ps.foldl max a ∧ ∀ p ∈ ps, p ≤ ps.foldl max a := by
    intro ps
    induction ps with
    | nil => exact fun a => ⟨Nat.le_refl _, fun _ h => by cases h⟩
    | cons q ps ih =>
      intro a
      obtain ⟨h1, h2⟩ := ih (max a q)
      rw [List.foldl_cons]
      refine ⟨by lia, fun p hp => ?_⟩
      rcases List.mem_cons.mp hp with rfl | hp
      · lia
      · exact h2 p hp
  exact (this ps 0).2
theorem zeros_sum : ∀ ps : List Nat, (∀ p ∈ ps, p = 0) → (ps.map (· + 1)).sum = ps.length
  | [], _ => rfl
  | p :: ps, h => by
    rw [List.map_cons, List.sum_cons, zeros_sum ps fun q hq => h q (List.mem_cons_of_mem _ hq), h p List.mem_cons_self, List.length_cons]
    lia
theorem lead_len1 (ps : List Nat) : (ps.foldl bump []).length ≤ 1 ↔ ML ps = 0 := by
  rw [lead_len']
  cases ps with
  | nil => simp [ML]
  | cons p ps => rw [if_neg (by simp)]; lia

theorem less_over (A B : Nat) : lessW (leadOf A 0) (leadOf B 1) = decide (overOf (due (plN A) (plN B)) = []) := by
  have ho := over_nil A B
  rw [Bool.eq_iff_iff, decide_eq_true_iff, ho]
  unfold lessW
  have na : (leadOf A 0).n = (((bitsBelow A 14).map (· + 1)).sum + 0 : Nat) := rfl
  have nb : (leadOf B 1).n = (((bitsBelow B 14).map (· + 1)).sum + 1 : Nat) := rfl
  have sa : (leadOf A 0).simple = decide (((bitsBelow A 14).foldl bump []).length ≤ 1) := rfl
  have sb : (leadOf B 1).simple = decide (((bitsBelow B 14).foldl bump []).length ≤ 1) := rfl
  have ta : (leadOf A 0).nt = ((bitsBelow A 14).length : Int) := rfl
  have tb : (leadOf B 1).nt = ((bitsBelow B 14).length : Int) := rfl
  have la := lead_len1 (bitsBelow A 14)
  have lb := lead_len1 (bitsBelow B 14)
  have ca := colN_one (bitsBelow A 14)
  have cb := colN_one (bitsBelow B 14)
  rw [na, nb, sa, sb, ta, tb, longest_lead, longest_lead]
  by_cases h1 : ((((bitsBelow B 14).map (· + 1)).sum + 1 : Nat) : Int) ≤ (((bitsBelow A 14).map (· + 1)).sum + 0 : Nat)
  · rw [if_pos h1]
    refine ⟨fun h => (by cases h), fun h => ?_⟩
    have := h 0 (Nat.zero_le _)
    rw [Nat.add_zero, ca, cb] at this
    lia
  · rw [if_neg h1]
    by_cases h2 : ML (bitsBelow A 14) = 0 ∧ ML (bitsBelow B 14) = 0
    · rw [if_pos (by rw [Bool.and_eq_true, decide_eq_true_iff, decide_eq_true_iff, la, lb]; exact h2), decide_eq_true_iff]
      have za := zeros_sum (bitsBelow A 14) fun p hp => by have := ML_ge _ p hp; lia
      have zb := zeros_sum (bitsBelow B 14) fun p hp => by have := ML_ge _ p hp; lia
      refine ⟨fun _ i hi => ?_, fun _ => by lia⟩
      obtain rfl : i = 0 := by lia
      rw [Nat.add_zero, ca, cb]
      lia
    · rw [if_neg (by rw [Bool.and_eq_true, decide_eq_true_iff, decide_eq_true_iff, la, lb]; exact h2), List.all_eq_true]
      have hm : (max ((max (ML (bitsBelow A 14)) 0 : Nat) : Int) ((max (ML (bitsBelow B 14)) 1 : Nat) : Int)).toNat = max (ML (bitsBelow A 14)) (ML (bitsBelow B 14)) := by lia
      rw [hm]
      constructor
      · intro h i hi
        cases i with
        | zero => rw [Nat.add_zero, ca, cb]; lia
        | succ i =>
          have := h i (List.mem_range.mpr (by lia))
          rw [indent_lead _ _ _ (by lia), indent_lead _ _ _ (by lia), Bool.not_eq_true', decide_eq_false_iff_not] at this
          rw [show 1 + (i + 1) = 2 + i by lia]
          lia
      · intro h i hi
        have hi := List.mem_range.mp hi
        have := h (i + 1) (by lia)
        rw [show 1 + (i + 1) = 2 + i by lia] at this
        rw [indent_lead _ _ _ (by lia), indent_lead _ _ _ (by lia), Bool.not_eq_true', decide_eq_false_iff_not]
        lia

theorem bits_of_plN {A B : Nat} (h : plN A = plN B) : bitsBelow A 14 = bitsBelow B 14 := by
  have inj : ∀ (a b : List Nat), (a.map fun i : Nat => (i : Int)) = (b.map fun i : Nat => (i : Int)) → a = b := by
    intro a
    induction a with
    | nil => intro b h; cases b with
      | nil => rfl
      | cons => cases h
    | cons x a ih => intro b h; cases b with
      | nil => cases h
      | cons y b =>
        rw [List.map_cons, List.map_cons] at h
        injection h with h1 h2
        rw [ih b h2, show x = y by lia]
  exact inj _ _ h
theorem norm_eq (A B : Nat) : normEq (leadOf A 0) (leadOf B 0) = decide (plN A = plN B) := by
  rw [Bool.eq_iff_iff, decide_eq_true_iff]
  unfold normEq
  rw [Bool.and_eq_true, beq_iff_eq, beq_iff_eq]
  show (bitsBelow A 14).foldl bump [] = (bitsBelow B 14).foldl bump [] ∧ ((0 : Nat) : Int) = ((0 : Nat) : Int) ↔ _
  constructor
  · rintro ⟨h, _⟩
    unfold plN
    congr 1
    apply bits_congr
    intro i hi
    have ha := lead_at (bitsBelow A 14) i
    have hb := lead_at (bitsBelow B 14) i
    rw [h, hb] at ha
    have hc : (bitsBelow A 14).countP (· == i) = (bitsBelow B 14).countP (· == i) := by lia
    have mem : ∀ X : Nat, 0 < (bitsBelow X 14).countP (· == i) ↔ bitN X i = true := fun X => by
      rw [List.countP_pos_iff]
      constructor
      · rintro ⟨a, ha', hb'⟩
        rw [beq_iff_eq] at hb'
        subst hb'
        exact (mem_bits.mp ha').2
      · intro h
        exact ⟨i, mem_bits.mpr ⟨hi, h⟩, by simp⟩
    rw [Bool.eq_iff_iff, ← mem, ← mem, hc]
  · intro h
    rw [bits_of_plN h]
    exact ⟨rfl, rfl⟩

theorem agree_of {C F j t : Nat} (hc : ∀ part, 0 < part → t % part = 0 → colN (bitsBelow F 14) part = colN (bitsBelow C 14) part + t * j) (h0 : plN C = plN F ↔ j = 0) : agree (leadOf C 0) (leadOf F 0) j t = true := by
  unfold agree
  rw [Bool.and_eq_true, List.all_eq_true, norm_eq, beq_iff_eq]
  constructor
  · intro i _
    rw [Bool.not_eq_true', Bool.and_eq_false_iff]
    by_cases h : t % (1 + i) = 0
    · right
      rw [indent_lead _ _ _ (by lia), indent_lead _ _ _ (by lia), bne_eq_false_iff_eq, hc (1 + i) (by lia) h]
      push_cast; lia
    · left
      simpa using h
  · rw [Bool.eq_iff_iff, decide_eq_true_iff, beq_iff_eq, h0]

theorem StepN.sumN {t j : Nat} {ds ds' : List Nat} (h : StepN t j ds ds') (g : Nat → Nat) (c : Nat) (hg : ∀ b, t ≤ b → g b = g (b - t) + c) : (ds.map g).sum = (ds'.map g).sum + j * c := by
  have := h.sum (fun b => (g b : Int)) c fun b hb => by rw [hg b hb]; push_cast; rfl
  have e : ∀ L : List Nat, (L.map fun b => (g b : Int)).sum = ((L.map g).sum : Nat) := fun L => by rw [← icast_sum, List.map_map]; rfl
  rw [e, e] at this
  have hh : (j : Int) * (c : Int) = ((j * c : Nat) : Int) := by push_cast; rfl
  rw [hh] at this
  lia

theorem core_pack {t : Nat} (ht : t = 4 ∨ t = 6) {F : Nat} (hF : F < 2 ^ 14) : ∃ C N j, C < 2 ^ 14 ∧ taken (tIt (rowsOf (plN F)) t N) t = tIt (rowsOf (plN F)) t N ∧ beadsOf (tIt (rowsOf (plN F)) t N) = plN C ∧ Still t C ∧
    (∀ r, cnt t r (bitsBelow F 14).reverse = cnt t r (bitsBelow C 14).reverse) ∧ agree (leadOf C 0) (leadOf F 0) j t = true ∧ hk t (hooks (rowsOf (plN F))) = j := by
  have ht0 : 0 < t := by lia
  have hfall := bits_fall F 14
  have hrow : rowsOf (plN F) = rD (bitsBelow F 14).reverse := by
    have := rowsOf_rev (bitsBelow F 14).reverse
    rw [List.reverse_reverse] at this
    exact this
  obtain ⟨N, ds', j, h1, h2, h3, h4, h5⟩ := core_exists ht0 _ (bitsBelow F 14).reverse hfall (Nat.lt_succ_self _)
  have hbd := h4.bound (n := 14) fun x hx => pb_lt (List.mem_reverse.mp hx)
  obtain ⟨C, hC, hb⟩ := of_fall 14 ds' h3 hbd
  have hrev : (bitsBelow C 14).reverse = ds' := by rw [hb, List.reverse_reverse]
  have hcnt : ∀ r, cnt t r (bitsBelow F 14).reverse = cnt t r (bitsBelow C 14).reverse := fun r => by
    rw [hrev, cnt_sum, cnt_sum]
    have := h4.sumN (fun x => if x % t = r then 1 else 0) 0 fun b hb => by
      show (if b % t = r then 1 else 0) = (if (b - t) % t = r then 1 else 0) + 0
      rw [← Nat.mod_eq_sub_mod hb]; rfl
    rw [this, Nat.mul_zero, Nat.add_zero]
  have hcol : ∀ part, 0 < part → t % part = 0 → colN (bitsBelow F 14) part = colN (bitsBelow C 14) part + t * j := fun part hp hd => by
    have := h4.sumN (fun p => part * (p / part + 1)) t fun b hb => by
      obtain ⟨m, hm⟩ : ∃ m, t = part * m := ⟨t / part, by have := Nat.div_add_mod t part; rw [hd] at this; lia⟩
      show part * (b / part + 1) = part * ((b - t) / part + 1) + t
      conv => lhs; rw [show b = (b - t) + part * m by lia, Nat.add_mul_div_left _ _ hp]
      generalize (b - t) / part = q
      rw [hm, ← Nat.mul_add]
      congr 1
      lia
    rw [← hrev, List.map_reverse, List.map_reverse, sum_rev, sum_rev] at this
    unfold colN
    rw [this, Nat.mul_comm j t]
  have hwt : wt t (bitsBelow F 14).reverse = wt t (bitsBelow C 14).reverse + j := by
    have := h4.sumN (fun p => p / t) 1 fun b hb => Nat.div_eq_sub_div ht0 hb
    rw [hrev]
    unfold wt
    lia
  have hstill : Still t C := fun b hb' htb => by
    rw [hb, List.mem_reverse] at hb' ⊢
    exact h5 b hb' htb
  have hw : wt t (bitsBelow C 14).reverse = triSum t (bitsBelow C 14).reverse := by
    rcases ht with rfl | rfl
    · exact still_wt4 hstill
    · exact still_wt6 hstill
  have htri : triSum t (bitsBelow F 14).reverse = triSum t (bitsBelow C 14).reverse := by
    unfold triSum
    congr 1
    apply List.map_congr_left
    intro r _
    rw [hcnt r]
  have hhk : hk t (hooks (rowsOf (plN F))) = j := by
    have := hook_formula ht 14 F
    rw [← hrow] at this
    lia
  have h0 : plN C = plN F ↔ j = 0 := by
    constructor
    · intro h
      rw [bits_of_plN h] at hwt
      lia
    · intro h
      subst h
      cases h4
      unfold plN
      rw [hb, List.reverse_reverse]
  refine ⟨C, N, j, hC, ?_, ?_, hstill, hcnt, agree_of hcol h0, hhk⟩
  · rw [hrow, h1, h2]
  · rw [hrow, h1, beadsOf_rD, ← hb]; rfl

theorem hT_len (r : Int) (rs : List Int) : (hT r rs).length = r.toNat := by unfold hT; rw [List.length_map, List.length_range]
theorem hooks_len : ∀ rows : List Int, (∀ r ∈ rows, r < 14) → (hooks rows).length ≤ 14 * rows.length
  | [], _ => Nat.zero_le _
  | r :: rs, h => by
    have ih := hooks_len rs fun x hx => h x (List.mem_cons_of_mem _ hx)
    have := h r List.mem_cons_self
    rw [hooks_cons, List.length_append, hT_len, List.length_cons]
    lia
theorem rD_lt : ∀ ds : List Nat, (∀ x ∈ ds, x < 14) → ∀ r ∈ rD ds, r < 14
  | [], _, r, h => by cases h
  | d :: ds, hd, r, h => by
    rcases List.mem_cons.mp h with rfl | h
    · have := hd d List.mem_cons_self; lia
    · exact rD_lt ds (fun x hx => hd x (List.mem_cons_of_mem _ hx)) r h
end Mine

-- P8
namespace Mine
open PySem PySem.W PyProof.Rows

theorem fallen_congr {a b : List Int} {w : Nat} (hl : a.length = b.length) (hc : countsOf a w = countsOf b w) : fallen a w = fallen b w := by
  unfold fallen
  rw [hl, hc]
theorem dig4_range (F : Nat) : ∀ f ∈ dig4 F, 0 ≤ f ∧ f < 16 := by
  intro f hf
  obtain ⟨i, _, rfl⟩ := List.mem_map.mp hf
  have := Nat.mod_lt (F / 2 ^ (4 * (4 - 1 - i))) (show 0 < 2 ^ 4 by decide)
  lia
theorem fallen_core {w most F C : Nat} (hF : F < 2 ^ 14) (hC : C < 2 ^ 14) (hm : 14 ≤ w * most) (sl : Still w C) (ct : ∀ r, cnt w r (bitsBelow F 14).reverse = cnt w r (bitsBelow C 14).reverse) : fallen (digs w most F) w = digs w most C := by
  refine (fallen_congr (a := digs w most F) (b := digs w most C) (by rw [digs_len, digs_len]) ?_).trans (still_digs hC sl)
  rw [counts_digs, counts_digs]
  apply List.map_congr_left
  intro r hr
  have hr := List.mem_range.mp hr
  rw [← cnt_colC hr hF hm, ← cnt_colC hr hC hm, ct r]
theorem word_range {figs : List Int} (h : ∀ f ∈ figs, 0 ≤ f ∧ f < 16) : ∀ a ∈ word figs, 65 ≤ a ∧ a < 81 := by
  intro a ha
  obtain ⟨f, hf, rfl⟩ := List.mem_map.mp ha
  have := h f ((List.dropWhile_sublist _).subset hf)
  lia

theorem facts_of (F : Nat) (h : F < 2 ^ 14) : ∃ C4 C6 N4 N6, Facts F C4 C6 N4 N6 := by
  obtain ⟨C4, N4, j4, hC4, st4, lf4, sl4, ct4, ag4, hk4⟩ := core_pack (t := 4) (.inl rfl) h
  obtain ⟨C6, N6, j6, hC6, st6, lf6, sl6, ct6, ag6, hk6⟩ := core_pack (t := 6) (.inr rfl) h
  have hrow : rowsOf (plN F) = rD (bitsBelow F 14).reverse := by
    have := rowsOf_rev (bitsBelow F 14).reverse
    rw [List.reverse_reverse] at this
    exact this
  have hlt := rD_lt (bitsBelow F 14).reverse fun x hx => pb_lt (List.mem_reverse.mp hx)
  have hf4 : fallen (dig4 F) 4 = dig4 C4 := fallen_core h hC4 (by decide) sl4 ct4
  have hf6 : fallen (dig6 F) 6 = dig6 C6 := fallen_core h hC6 (by decide) sl6 ct6
  have hd4 : digitsOf (plN F) 4 4 = dig4 F := digits_digs (by decide) h (by decide)
  have hd6 : digitsOf (plN F) 6 3 = dig6 F := digits_digs (by decide) h (by decide)
  have hap := word_ap h
  have hap4 := word_ap hC4
  have hstrip : (apAcc F []).map (· - 65) = (dig4 F).dropWhile (· == 0) := by
    rw [← hap]
    exact map65 _
  obtain ⟨s1, s2⟩ := fallen_strip 4 (dig4 F)
  refine ⟨C4, C6, N4, N6, h, hC4, hC6, st4, lf4, st6, lf6, ?_, ?_, plN_sum hC4, plN_sum hC6, ?_, ?_, ?_, ?_, ?_, ?_, ?_, ?_, ?_, witness_due _ _, witness_due _ _, (due_ok _ _).1, (due_ok _ _).1, (due_ok _ _).2, (due_ok _ _).2, norm_eq _ _, less_over _ _⟩
  · intro r hr
    rw [hrow] at hr
    have h1 := rD_nonneg (bits_fall F 14) r hr
    have h2 := hlt r hr
    lia
  · have := hooks_len (rowsOf (plN F)) (by rw [hrow]; exact hlt)
    have h2 := plN_len F
    rw [rowsOf_len] at this
    lia
  · rw [hd4]
    intro f hf
    have := dig4_range F f hf
    lia
  · rw [hd4, hap]
  · rw [← hap]
    exact word_range (dig4_range F)
  · rw [← hap]
    unfold word
    rw [List.length_map]
    refine Nat.le_trans (List.dropWhile_sublist _).length_le ?_
    exact (by decide : 4 ≤ 1000)
  · rw [hstrip]
    intro f hf
    have := s2 f hf
    rw [hf4] at this
    have := dig4_range C4 f this
    lia
  · rw [hstrip, s1, hf4, hap4]
  · refine ⟨F / 4096 % 64, F / 64 % 64, F % 64, C6 / 4096 % 64, C6 / 64 % 64, C6 % 64, Nat.mod_lt _ (by decide), Nat.mod_lt _ (by decide), Nat.mod_lt _ (by decide), Nat.mod_lt _ (by decide), Nat.mod_lt _ (by decide), Nat.mod_lt _ (by decide), hd6.trans (dig6_eq F), ?_, by omega, by omega⟩
    rw [← dig6_eq, ← dig6_eq]
    exact hf6
  · rw [divs_len]
    have : hk 4 (hooks (rowsOf (plN F))) = j4 := hk4
    rw [this]; exact ag4
  · rw [divs_len]
    have : hk 6 (hooks (rowsOf (plN F))) = j6 := hk6
    rw [this]; exact ag6
end Mine

-- H1
namespace Mine
open PySem PySem.W PyProof.Rows
abbrev LP (w : World) : Prop := (openEnds treeTable pw w 2598).map (fun s => (openSeen view loose (importedModules pw.main.body) (fun s => xlAt view [] s && recOk [] s) true s, Q.obs s)) = some (openGood view loose, Q.val w)
set_option maxHeartbeats 4000000 in
theorem left_f (w : World) : LP (w.withFollow "special-get-raises" false) := by
  unfold LP openEnds fencedOpening topFrom
  rw [Fast.te14364793385576792824, Fast.te14082659384304107361, Fast.te10274390034422433532, Fast.te4187177175401517315]
  kernel_rfl
set_option maxHeartbeats 4000000 in
theorem left_t (w : World) : LP (w.withFollow "special-get-raises" true) := by
  unfold LP openEnds fencedOpening topFrom
  rw [Fast.te14364793385576792824, Fast.te14082659384304107361, Fast.te10274390034422433532, Fast.te4187177175401517315]
  kernel_rfl
theorem left_ : LeftO pw view loose (fun s => xlAt view [] s && recOk [] s) Q.obs Q.val 2598 := byRow2 "special-get-raises" (P := LP) left_f left_t
end Mine

-- H2
namespace Mine
open PySem PySem.W PyProof.Rows
noncomputable def drec (s : Stmt) : DefRec := match s with
  | .FunctionDef name args body _ _ _ scope _ _ pos => ⟨name, args, body, scope, pos⟩
  | _ => ⟨"", ⟨[], [], none, [], [], none, []⟩, [], ⟨.function, [], false, false, []⟩, ⟨0, 0, 0, 0⟩⟩
theorem def_law : defOf view "law" = some (drec (st 25), []) := by kernel_rfl
theorem the_law : pw.theDef "law" = some ((drec (st 25)).params, (drec (st 25)).body, (drec (st 25)).scope) := by kernel_rfl
theorem kw_law : kwWritten? (drec (st 25)).params.kwonlyargs (drec (st 25)).params.kw_defaults = some [] := by kernel_rfl
theorem find_fmt : (recsOf view).find? (fun e => e.name == ("format_witnesses" : Str)) = some (drec (st 9)) := by kernel_rfl
theorem ok_ : (chainsOk view && opensWell pw && (frees PySem.Challenge.rw_ty0028_01.row.toRowW && PySem.Challenge.rw_ty0028_01.row.within.isEmpty)) = true := by decide +kernel
theorem bare_ : pw.bare := ⟨rfl, rfl, rfl, rfl, rfl, by decide +kernel⟩
theorem wit_ : PySem.Challenge.rw_ty0028_01.row.toRowW.promised := by w_witness2
theorem no111 (P : Params) : (K0 P).lookup 111 = none := by kernel_rfl
theorem tab115 (P : Params) : ∃ o vs, (K0 P).lookup 115 = some o ∧ o.data = .fields vs ∧ vs[11]? = some (.ref 111) := ⟨_, _, rfl, rfl, rfl⟩
end Mine

-- J1
namespace Mine
open PySem PySem.W PyProof.Rows
theorem numF_lt (ns : List Int) : ∃ F : Nat, F < 2 ^ 14 ∧ numF ns = F := by
  have key : ∀ (l : List Int) (t : Int), 0 ≤ t ∧ t < 16384 → 0 ≤ l.foldl (fun t x => (9 * t + x.fmod 16384).fmod 16384) t ∧ l.foldl (fun t x => (9 * t + x.fmod 16384).fmod 16384) t < 16384 := by
    intro l
    induction l with
    | nil => exact fun t h => h
    | cons x l ih =>
      intro t _
      exact ih _ ⟨Int.fmod_nonneg_of_pos _ (by decide), Int.fmod_lt_of_pos _ (by decide)⟩
  have := key (ns.take 16) 9810 (by decide)
  refine ⟨(numF ns).toNat, ?_, ?_⟩
  · unfold numF; lia
  · unfold numF; lia

theorem ints_of {R : WRecords} : ∀ {xs : List WData}, WShape.hasItems R xs .int = true → ∃ ns : List Int, xs = ns.map .int
  | [], _ => ⟨[], rfl⟩
  | x :: xs, h => by
    have h' : WShape.has R x .int = true ∧ WShape.hasItems R xs .int = true := by simpa [WShape.hasItems] using h
    obtain ⟨i, rfl⟩ := hasW_int h'.1
    obtain ⟨ns, rfl⟩ := ints_of h'.2
    exact ⟨i :: ns, rfl⟩
theorem well_ints {P : Params} {h : Heap} {M : List Addr} : ∀ {vs : List Value} {ns : List Int}, WellAll P h vs (ns.map .int) → RepL M h vs (ns.map .int)
  | _, [], r => by cases r; exact .nil
  | _, n :: ns, r => by
    cases r with
    | cons r1 r => cases r1; exact .cons (.int _ _) (well_ints r)
end Mine
namespace Mine
open PySem PySem.W PyProof.Rows
theorem len_of {ns : List Int} (h : (Challenge.rw_ty0028_01.row.pre).holds [] { args := [.list (ns.map .int)] } = true) : ns.length ≤ 63 := by
  by_cases hl : (63 : Int) < ns.length
  · exfalso
    revert h
    show ¬ (WTm.holds [] (.and (.not (.lt (.lit (.int 63)) (.len (.arg 0)))) (.lit (.bool true))) _ = true)
    simp [WTm.holds, WTm.value, less?, Num.less?, hl]
  · lia

theorem post_true (args after : List WData) : Challenge.rw_ty0028_01.row.claim.post args (.bool true) after = true := by
  show (WShape.has [] (WData.bool true) .bool && WTm.holds [] (.eq .res (.lit (.bool true))) _) = true
  simp [WShape.has, WShape.arms, WTm.holds, WTm.value, same]

theorem dict_ne (es : Array DictEntry) (n : Nat) (vs : Array Value) : Data.dict es n ≠ Data.fields vs := fun h => by cases h
theorem plain_ne (vs : Array Value) : Data.plain ≠ Data.fields vs := fun h => by cases h
theorem seq_ne (es : Array Value) (n : Nat) (vs : Array Value) : Data.seq es n ≠ Data.fields vs := fun h => by cases h
end Mine

open Mine in
set_option maxHeartbeats 4000000 in
theorem PySem.Challenge.cw_ty0028_01_holds : PySem.Challenge.rw_ty0028_01.Holds := by
  o_law
  refine PySem.W.holds_open (q := view) (loose := loose) (Xt := fun s => xlAt view [] s && recOk [] s) (XP := XL view []) (Yf := Q.obs) (Ya := Q.val) (YP := Q.says) (N := 2598) left_ Q.of Q.keeps (fun s e => xl_of s (Bool.and_eq_true_iff.mp e).1) XL.keeps def_law the_law kw_law (fun s e => recFacts_of (Bool.and_eq_true_iff.mp e).2) rfl (by assumption) ok_ bare_ wit_ ?_
  intro w s₀ s₁ mg mb G Y fa o pm cd doc dV kV ho hd hcd hD hmg hg args vals as hpre hlay hrd hwl hlo
  have KX : (K0 w.params).In s₁.heap := kIn_of Y
  have hlaw : mg "law" = some (.ref 197) := mg_of KX G.T.g rfl
  have hmg' : mg "law" = some (.ref fa) := hmg
  obtain rfl : fa = 197 := by
    rw [hlaw] at hmg'
    cases hmg'; rfl
  obtain ⟨hsh, hpr⟩ := Bool.and_eq_true_iff.mp hpre
  obtain ⟨d, r, rfl, hd1, hr1⟩ := hasAllW_cons hsh
  obtain rfl := hasAllW_nil hr1
  obtain ⟨xs, rfl, hit⟩ := hasW_list hd1
  obtain ⟨ns, rfl⟩ := ints_of hit
  have hlen := len_of hpr
  clear ho hd hcd hD
  obtain ⟨c, P, hcP, B⟩ := based_of_top G.T find_fmt (mg_of KX G.T.g rfl) (KX 116 _ rfl) rfl
  obtain rfl : c = 115 := by cases hcP; rfl
  obtain ⟨bm, ob, BM⟩ := bmod_of_top G.T
  have hfld : ∀ b o, s₁.heap.get? b = some o → (∀ vs, o.data ≠ .fields vs) → b ≠ P := fun b o e hn z => by
    subst z
    rw [B.tab.2] at e
    cases e
    exact hn _ rfl
  have hKP : (K0 w.params).lookup P = none := by
    obtain ⟨o', vs', l1, l2, l3⟩ := tab115 w.params
    obtain ⟨⟨o, vs, e, _, hd, h11⟩, _⟩ := B.tab
    rw [KX 115 o' l1] at e
    cases e
    rw [l2] at hd
    cases hd
    rw [l3] at h11
    cases h11
    exact no111 _
  have hnG : mainGlobals ≠ P := by
    obtain ⟨o, es, n, e, hd, _⟩ := G.T.g
    exact hfld _ _ e (by rw [hd]; exact dict_ne _ _)
  have hnB : builtinsNs ≠ P := by
    obtain ⟨o, es, n, e, hd, _⟩ := G.T.b
    exact hfld _ _ e (by rw [hd]; exact dict_ne _ _)
  have hnbm : bm ≠ P := hfld _ _ BM.obj (by rw [BM.data]; exact plain_ne)
  cases hwl with
  | cons w1 wr =>
  cases wr
  cases w1 with
  | list hl wvs =>
  rename_i a vs
  have haP : a ≠ P := hfld _ _ hl (seq_ne _ _)
  have hide : ∀ b o, b ≠ P → s₁.heap.get? b = some o → (s₁.heap.hide P).get? b = some o := fun b o hb e => (Heap.hide_ne _ hb).trans e
  have cx : Cx (T0 Challenge.rw_ty0028_01.row.prog w mg mb) [P] s₁.heap := by
    refine ⟨fun b hb => by rw [List.mem_singleton.mp hb]; exact ⟨_, B.tab.2⟩, KX, G.T.g, G.T.b, G.T.nolimit, G.T.builtins, s₁.heap.hide P, fun b o e => Heap.of_hide e, fun b hb => by rw [List.mem_singleton.mp hb]; exact Heap.hide_self _ _, fun b o e => hide b o (fun z => by rw [z] at e; rw [hKP] at e; cases e) (KX b o e), ?_, ?_, ?_⟩
    · exact G.T.g.at' fun o e => hide _ o hnG e
    · exact G.T.b.at' fun o e => hide _ o hnB e
    · exact G.T.nolimit.at fun o e => hide _ o (Ne.symm B.notStatics) e
  obtain ⟨F, hF, hN⟩ := numF_lt ns
  obtain ⟨C4, C6, N4, N6, fx⟩ := facts_of F hF
  have rl : RepL [P] s₁.heap [.ref a] [iD ns] := .cons (.list (n := 0) (by simpa using haP) hl (well_ints wvs)) .nil
  refine law_A (k := 0) hN (by lia) fx P [P] callerA s₁ [.ref a] _ _ ⟨rfl, by decide, by decide⟩ cx (List.mem_singleton.mpr rfl) ⟨⟨#[], B.code, B.tab⟩, bm, ob, BM, hnbm, hnG⟩ (AllBare.of_eq hg) rl fun v h' tk g' kp gx' cx' hb rv => ?_
  cases rv
  refine ⟨.inl ⟨_, .bool true, [], rfl, fun _ => rfl, .bool _, post_true _ _, fun _ => ⟨List.nodup_nil, fun _ h => by cases h⟩⟩, ⟨fun b o e => ?_, fun b o e => ?_⟩, rfl, hb⟩
  · by_cases hbP : b = P
    · subst hbP
      obtain ⟨ps, hps⟩ := gx'.code
      rw [B.tab.2] at e
      cases e
      exact .inr (.inl ⟨B.tab.isCodeTable, rfl, #[], ps, rfl, by rw [hps.2.2]; simp⟩)
    · exact .inl (kp b o hbP e)
  · by_cases hbP : b = P
    · subst hbP
      obtain ⟨ps, hps⟩ := gx'.code
      exact ⟨_, hps.2.2⟩
    · exact ⟨o, kp b o hbP e⟩

