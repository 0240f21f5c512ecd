import PyProof.Rows.All
import Wide.All
import OpenK.AllK
import Wide.FinOn
import PySem.Challenge.RW_wj0013_01
set_option Elab.async false

/-! text MA -/
section
open PySem PySem.Spec PySem.Calls PyProof.Rows
set_option linter.unusedVariables false
namespace Mine

/-! values: what a value is as data, over plain lists; `as` = the addresses of the lists and tuples in it -/
abbrev lst (vs : Array Value) (n : Nat) : Obj := { cls := .type "list", dict := none, data := .seq vs n, slots := #[] }
mutual
inductive Rd (h : Heap) : Value → PyData → List Addr → Prop
  | none : Rd h .none .none []
  | bool (b : Bool) : Rd h (.bool b) (.bool b) []
  | int (i : Int) (t : Tok) : Rd h (.int i t) (.int i) []
  | str (x : Str) (t : Tok) : Rd h (.str x t) (.str x) []
  | list {a : Addr} {vs : Array Value} {n : Nat} {xs : List PyData} {as : List Addr} : h.get? a = some (lst vs n) → RdL h vs.toList xs as → Rd h (.ref a) (.list xs) (a :: as)
  | tuple {a : Addr} {o : Obj} {vs : Array Value} {n : Nat} {xs : List PyData} {as : List Addr} : h.get? a = some o → o.cls = .type "tuple" → o.data = .seq vs n → RdL h vs.toList xs as → Rd h (.ref a) (.tuple xs) (a :: as)
inductive RdL (h : Heap) : List Value → List PyData → List Addr → Prop
  | nil : RdL h [] [] []
  | cons {v : Value} {vs : List Value} {d : PyData} {ds : List PyData} {as bs : List Addr} : Rd h v d as → RdL h vs ds bs → RdL h (v :: vs) (d :: ds) (as ++ bs)
end

theorem len2 {α : Type} {l : List α} (h : l.length = 2) : ∃ a b, l = [a, b] := by
  cases l with
  | nil => cases h
  | cons a l => obtain ⟨b, rfl⟩ := List.length_eq_one_iff.mp (Nat.succ.inj h); exact ⟨a, b, rfl⟩
theorem len3 {α : Type} {l : List α} (h : l.length = 3) : ∃ a b c, l = [a, b, c] := by
  cases l with
  | nil => cases h
  | cons a l => obtain ⟨b, c, rfl⟩ := len2 (Nat.succ.inj h); exact ⟨a, b, c, rfl⟩
theorem Rd.reads {h : Heap} {v : Value} {d : PyData} {as : List Addr} (r : Rd h v d as) : ∃ bs, Reads h v d bs :=
  Rd.rec (motive_1 := fun v d _ _ => ∃ bs, Reads h v d bs) (motive_2 := fun vs ds _ _ => ∃ bs, ReadsAll h vs ds bs) ⟨_, .none⟩ (fun b => ⟨_, .bool b⟩) (fun i t => ⟨_, .int i t⟩) (fun x t => ⟨_, .str x t⟩)
    (fun h1 _ ⟨_, r⟩ => ⟨_, .list h1 rfl rfl r⟩) (fun h1 h2 h3 _ ⟨_, r⟩ => ⟨_, .tuple h1 h2 h3 r⟩) ⟨_, .nil⟩ (fun _ _ ⟨_, r⟩ ⟨_, q⟩ => ⟨_, .cons r q⟩) r
abbrev ButAt (h h' : Heap) (as : List Addr) : Prop := ∀ a ∈ as, ∀ o, h.get? a = some o → h'.get? a = some o
theorem Rd.but {h h' : Heap} {v : Value} {d : PyData} {as : List Addr} (hw : ∀ a ∈ as, ∀ o, h.get? a = some o → h'.get? a = some o) (r : Rd h v d as) : Rd h' v d as :=
  Rd.rec (motive_1 := fun v d as _ => ButAt h h' as → Rd h' v d as) (motive_2 := fun vs ds as _ => ButAt h h' as → RdL h' vs ds as) (fun _ => .none) (fun b _ => .bool b) (fun i t _ => .int i t) (fun x t _ => .str x t)
    (fun h1 _ f hw => .list (hw _ (List.mem_cons_self ..) _ h1) (f fun a ha => hw a (List.mem_cons_of_mem _ ha))) (fun h1 h2 h3 _ f hw => .tuple (hw _ (List.mem_cons_self ..) _ h1) h2 h3 (f fun a ha => hw a (List.mem_cons_of_mem _ ha)))
    (fun _ => .nil) (fun _ _ f g hw => .cons (f fun a ha => hw a (List.mem_append_left _ ha)) (g fun a ha => hw a (List.mem_append_right _ ha))) r hw
theorem RdL.but {h h' : Heap} {vs : List Value} {ds : List PyData} {as : List Addr} (hw : ∀ a ∈ as, ∀ o, h.get? a = some o → h'.get? a = some o) (r : RdL h vs ds as) : RdL h' vs ds as :=
  RdL.rec (motive_1 := fun v d as _ => ButAt h h' as → Rd h' v d as) (motive_2 := fun vs ds as _ => ButAt h h' as → RdL h' vs ds as) (fun _ => .none) (fun b _ => .bool b) (fun i t _ => .int i t) (fun x t _ => .str x t)
    (fun h1 _ f hw => .list (hw _ (List.mem_cons_self ..) _ h1) (f fun a ha => hw a (List.mem_cons_of_mem _ ha))) (fun h1 h2 h3 _ f hw => .tuple (hw _ (List.mem_cons_self ..) _ h1) h2 h3 (f fun a ha => hw a (List.mem_cons_of_mem _ ha)))
    (fun _ => .nil) (fun _ _ f g hw => .cons (f fun a ha => hw a (List.mem_append_left _ ha)) (g fun a ha => hw a (List.mem_append_right _ ha))) r hw

def Up (h h' : Heap) : Prop := ∀ b o, h.get? b = some o → h'.get? b = some o
theorem Up.refl (h : Heap) : Up h h := fun _ _ e => e
theorem Up.trans {a b c : Heap} (x : Up a b) (y : Up b c) : Up a c := fun d o e => y d o (x d o e)
theorem Up.push (h : Heap) (o : Obj) : Up h (h.push o) := fun _ _ e => Heap.get?_push_of_some _ e
theorem Rd.up {h h' : Heap} (u : Up h h') {v d as} (r : Rd h v d as) : Rd h' v d as := Rd.but (fun a _ o e => u a o e) r
theorem RdL.up {h h' : Heap} (u : Up h h') {v d as} (r : RdL h v d as) : RdL h' v d as := RdL.but (fun a _ o e => u a o e) r

def SeqAt (h : Heap) (a : Addr) : Prop := ∃ o vs n, h.get? a = some o ∧ o.data = .seq vs n
abbrev LiveAt (h : Heap) (as : List Addr) : Prop := ∀ a ∈ as, SeqAt h a
theorem live_cons {h : Heap} {a : Addr} {as : List Addr} (h1 : SeqAt h a) (h2 : LiveAt h as) : LiveAt h (a :: as) := List.forall_mem_cons.mpr ⟨h1, h2⟩
theorem live_nil {h : Heap} : LiveAt h [] := fun _ h => nomatch h
theorem Rd.live {h : Heap} {v : Value} {d : PyData} {as : List Addr} (r : Rd h v d as) : ∀ a ∈ as, SeqAt h a :=
  Rd.rec (motive_1 := fun _ _ as _ => LiveAt h as) (motive_2 := fun _ _ as _ => LiveAt h as) live_nil (fun _ => live_nil) (fun _ _ => live_nil) (fun _ _ => live_nil)
    (fun h1 _ f => live_cons ⟨_, _, _, h1, rfl⟩ f) (fun h1 _ h3 _ f => live_cons ⟨_, _, _, h1, h3⟩ f) live_nil (fun _ _ f g => List.forall_mem_append.mpr ⟨f, g⟩) r
theorem RdL.live {h : Heap} {vs : List Value} {ds : List PyData} {as : List Addr} (r : RdL h vs ds as) : ∀ a ∈ as, SeqAt h a :=
  RdL.rec (motive_1 := fun _ _ as _ => LiveAt h as) (motive_2 := fun _ _ as _ => LiveAt h as) live_nil (fun _ => live_nil) (fun _ _ => live_nil) (fun _ _ => live_nil)
    (fun h1 _ f => live_cons ⟨_, _, _, h1, rfl⟩ f) (fun h1 _ h3 _ f => live_cons ⟨_, _, _, h1, h3⟩ f) live_nil (fun _ _ f g => List.forall_mem_append.mpr ⟨f, g⟩) r

theorem Rd.int_inv {h : Heap} {v : Value} {i : Int} {as : List Addr} (r : Rd h v (.int i) as) : ∃ t, v = .int i t ∧ as = [] := by cases r; exact ⟨_, rfl, rfl⟩
theorem Rd.str_inv {h : Heap} {v : Value} {i : Str} {as : List Addr} (r : Rd h v (.str i) as) : ∃ t, v = .str i t ∧ as = [] := by cases r; exact ⟨_, rfl, rfl⟩
theorem Rd.bool_inv {h : Heap} {v : Value} {i : Bool} {as : List Addr} (r : Rd h v (.bool i) as) : v = .bool i ∧ as = [] := by cases r; exact ⟨rfl, rfl⟩
theorem Rd.none_inv {h : Heap} {v : Value} {as : List Addr} (r : Rd h v .none as) : v = .none ∧ as = [] := by cases r; exact ⟨rfl, rfl⟩
theorem Rd.list_inv {h : Heap} {v : Value} {xs : List PyData} {as : List Addr} (r : Rd h v (.list xs) as) : ∃ a vs n bs, v = .ref a ∧ h.get? a = some (lst vs n) ∧ RdL h vs.toList xs bs ∧ as = a :: bs := by
  cases r with
  | list h1 h2 => exact ⟨_, _, _, _, rfl, h1, h2, rfl⟩
theorem Rd.tuple_inv {h : Heap} {v : Value} {xs : List PyData} {as : List Addr} (r : Rd h v (.tuple xs) as) : ∃ a vs bs, v = .ref a ∧ h.IsTuple a vs ∧ RdL h vs.toList xs bs ∧ as = a :: bs := by
  cases r with
  | tuple h1 h2 h3 h4 => exact ⟨_, _, _, rfl, ⟨_, h1, h2, _, h3⟩, h4, rfl⟩
theorem RdL.ind {h : Heap} {P : List Value → List PyData → List Addr → Prop} (nil : P [] [] []) (cons : ∀ {v : Value} {vs : List Value} {d : PyData} {ds : List PyData} {as bs : List Addr}, Rd h v d as → RdL h vs ds bs → P vs ds bs → P (v :: vs) (d :: ds) (as ++ bs))
    {vs : List Value} {ds : List PyData} {as : List Addr} (r : RdL h vs ds as) : P vs ds as :=
  RdL.rec (motive_1 := fun _ _ _ _ => True) (motive_2 := fun vs ds as _ => P vs ds as) trivial (fun _ => trivial) (fun _ _ => trivial) (fun _ _ => trivial) (fun _ _ _ => trivial) (fun _ _ _ _ _ => trivial) nil (fun h1 h2 _ f => cons h1 h2 f) r
theorem RdL.length {h : Heap} {vs : List Value} {ds : List PyData} {as : List Addr} (r : RdL h vs ds as) : vs.length = ds.length := r.ind (P := fun vs ds _ => vs.length = ds.length) rfl fun _ _ f => congrArg (· + 1) f
theorem RdL.append {h : Heap} {vs ws : List Value} {ds es : List PyData} {as bs : List Addr} (r : RdL h vs ds as) (q : RdL h ws es bs) : RdL h (vs ++ ws) (ds ++ es) (as ++ bs) :=
  r.ind (P := fun vs ds as => RdL h (vs ++ ws) (ds ++ es) (as ++ bs)) q fun {_ _ _ _ as' bs'} h1 _ f => List.append_assoc as' bs' bs ▸ .cons h1 f
theorem RdL.one {h : Heap} {v : Value} {d : PyData} {as : List Addr} (r : Rd h v d as) : RdL h [v] [d] as := by
  have := RdL.cons r (.nil (h := h))
  simpa using this
theorem RdL.snoc {h : Heap} {vs : List Value} {ds : List PyData} {as bs : List Addr} {v : Value} {d : PyData} (r : RdL h vs ds as) (q : Rd h v d bs) : RdL h (vs ++ [v]) (ds ++ [d]) (as ++ bs) :=
  r.append (.one q)
theorem RdL.get {h : Heap} {vs : List Value} {ds : List PyData} {as : List Addr} (r : RdL h vs ds as) {i : Nat} {d : PyData} (e : ds[i]? = some d) : ∃ v bs, vs[i]? = some v ∧ Rd h v d bs ∧ ∀ a ∈ bs, a ∈ as := by
  refine r.ind (P := fun vs ds as => ∀ i : Nat, ds[i]? = some d → ∃ v bs, vs[i]? = some v ∧ Rd h v d bs ∧ ∀ a ∈ bs, a ∈ as) (fun i e => nomatch e) (fun h1 h2 f i e => ?_) i e
  cases i with
  | zero => cases e; exact ⟨_, _, rfl, h1, fun a ha => List.mem_append_left _ ha⟩
  | succ i => obtain ⟨v, bs, e1, e2, e3⟩ := f i e; exact ⟨v, bs, e1, e2, fun a ha => List.mem_append_right _ (e3 a ha)⟩
theorem RdL.getV {h : Heap} {vs : List Value} {ds : List PyData} {as : List Addr} (r : RdL h vs ds as) {i : Nat} {v : Value} (e : vs[i]? = some v) : ∃ d bs, ds[i]? = some d ∧ Rd h v d bs ∧ ∀ a ∈ bs, a ∈ as := by
  refine r.ind (P := fun vs ds as => ∀ i : Nat, vs[i]? = some v → ∃ d bs, ds[i]? = some d ∧ Rd h v d bs ∧ ∀ a ∈ bs, a ∈ as) (fun i e => nomatch e) (fun h1 h2 f i e => ?_) i e
  cases i with
  | zero => cases e; exact ⟨_, _, rfl, h1, fun a ha => List.mem_append_left _ ha⟩
  | succ i => obtain ⟨v, bs, e1, e2, e3⟩ := f i e; exact ⟨v, bs, e1, e2, fun a ha => List.mem_append_right _ (e3 a ha)⟩
/-- an atom: no list in it -/
def atom : PyData → Bool
  | .list _ => false
  | .tuple _ => false
  | .dict _ => false
  | _ => true
theorem Rd.atom {h : Heap} {v : Value} {d : PyData} {as : List Addr} (r : Rd h v d as) (e : atom d = true) : as = [] := by
  cases r <;> first | rfl | cases e
theorem RdL.atoms {h : Heap} {vs : List Value} {ds : List PyData} {as : List Addr} (r : RdL h vs ds as) : ds.all Mine.atom = true → as = [] :=
  r.ind (P := fun _ ds as => ds.all Mine.atom = true → as = []) (fun _ => rfl) fun h1 _ f e => by
    have e' := Bool.and_eq_true_iff.mp e
    rw [h1.atom e'.1, f e'.2]; rfl

/-! states -/
abbrev Ent := PyData × Bool
abbrev MM := List (Option Ent)

def Sh (s s' : Shared) : Prop := ∃ h tk gs, s' = { s with heap := h, toks := tk, gens := gs } ∧ (AllBare s.gens → AllBare gs)
theorem Sh.refl (s : Shared) : Sh s s := ⟨s.heap, s.toks, s.gens, rfl, id⟩
theorem Sh.trans {a b c : Shared} (x : Sh a b) (y : Sh b c) : Sh a c := by
  obtain ⟨h, t, g, rfl, p⟩ := x
  obtain ⟨h', t', g', rfl, q⟩ := y
  exact ⟨h', t', g', rfl, fun a => q (p a)⟩
structure Ext (s s' : Shared) : Prop where
  sh : Sh s s'
  up : Up s.heap s'.heap
theorem Ext.refl (s : Shared) : Ext s s := ⟨.refl s, .refl _⟩
theorem Ext.trans {a b c : Shared} (x : Ext a b) (y : Ext b c) : Ext a c := ⟨x.sh.trans y.sh, x.up.trans y.up⟩
theorem Ext.tok (s : Shared) (n : Nat) : Ext s { s with toks := n } := ⟨⟨s.heap, n, s.gens, rfl, id⟩, .refl _⟩
theorem Ext.of {s : Shared} {h : Heap} {n : Nat} (u : Up s.heap h) : Ext s { s with heap := h, toks := n } := ⟨⟨h, n, s.gens, rfl, id⟩, u⟩
theorem Ext.heap {s : Shared} {h : Heap} (u : Up s.heap h) : Ext s { s with heap := h } := ⟨⟨h, s.toks, s.gens, rfl, id⟩, u⟩

def Loads (env : Env) (h : Heap) (x : Str) (v : Value) : Prop :=
  (env.kindOf x = some .local ∧ ∃ m, h.Ns env.locals m ∧ m x = some v) ∨
  ((env.kindOf x = some .cell ∨ env.kindOf x = some .free) ∧ ∃ c, env.cells.lookup x = some c ∧ h.IsCell c (some v))

structure EnvOf (env : Env) (sc : Scope) : Prop where
  scope : env.scope = sc
  kind : sc.kind = .function
  glob : env.globals = mainGlobals
  bi : env.builtins = builtinsNs

structure St (B : Heap) (Kp : Addr → Option Obj) (env : Env) (names : List Str) (m : MM) (V : Nat → Value) (Fp : Nat → List Addr) (h : Heap) : Prop where
  base : ∀ a o, B.get? a = some o → Kp a = some o
  keep : ∀ a o, Kp a = some o → h.get? a = some o
  ns : ∃ mL, h.Ns env.locals mL
  nsNew : Kp env.locals = none
  cell : ∀ x, env.kindOf x = some .cell → ∃ c v, env.cells.lookup x = some c ∧ h.IsCell c v
  cellNew : ∀ x c, env.kindOf x = some .cell → env.cells.lookup x = some c → Kp c = none
  apart : ∀ x y c, env.cells.lookup x = some c → env.cells.lookup y = some c → x = y
  loads : ∀ k x e, names[k]? = some x → m[k]? = some (some e) → Loads env h x (V k)
  reads : ∀ k e, m[k]? = some (some e) → Rd h (V k) e.1 (Fp k)
  own : ∀ k d, m[k]? = some (some (d, true)) → (Fp k).Nodup ∧ (∀ a ∈ Fp k, Kp a = none) ∧ ∀ j e, j ≠ k → m[j]? = some (some e) → ∀ a ∈ Fp k, a ∉ Fp j

theorem Loads.up {env : Env} {h h' : Heap} (u : Up h h') {x : Str} {v : Value} (l : Loads env h x v) : Loads env h' x v := by
  rcases l with ⟨a, m, b, c⟩ | ⟨a, c, b, d⟩
  · exact .inl ⟨a, m, b.keeps u, c⟩
  · exact .inr ⟨a, c, b, d.keeps u⟩

theorem St.up {B Kp env names m V Fp h h'} (u : Up h h') (S : St B Kp env names m V Fp h) : St B Kp env names m V Fp h' where
  base := S.base
  keep := fun a o e => u a o (S.keep a o e)
  ns := let ⟨m, x⟩ := S.ns; ⟨m, x.keeps u⟩
  nsNew := S.nsNew
  cell := fun x e => let ⟨c, v, a, b⟩ := S.cell x e; ⟨c, v, a, b.keeps u⟩
  cellNew := S.cellNew
  apart := S.apart
  loads := fun k x e a b => (S.loads k x e a b).up u
  reads := fun k e a => (S.reads k e a).up u
  own := S.own

/-- no slot is owned -/
theorem noOwn {m : MM} (h : (m.all fun o => match o with | some (_, true) => false | _ => true) = true) : ∀ (k : Nat) (d' : PyData), m[k]? ≠ some (some (d', true)) := fun k d' e => by
  have := List.all_eq_true.mp h _ (List.mem_of_getElem? e)
  cases this
theorem noShared {m : MM} (h : (m.all fun o => match o with | some (_, false) => false | _ => true) = true) : ∀ (k : Nat) (d' : PyData), m[k]? ≠ some (some (d', false)) := fun k d' e => by
  have := List.all_eq_true.mp h _ (List.mem_of_getElem? e)
  cases this
/-- a private address of the frame -/
def Priv (env : Env) (a : Addr) : Prop := a = env.locals ∨ ∃ x, env.kindOf x = some .cell ∧ env.cells.lookup x = some a

structure Cx where
  prog : Program
  w : World
  B : Heap
  mg : Str → Option Value
  mb : Str → Option Value
structure Cx.Good (C : Cx) : Prop where
  g : C.B.Ns mainGlobals C.mg
  b : C.B.Ns builtinsNs C.mb
  lim : C.B.NoLimit
  bb : ∀ x : Str, x ≠ "__name__" → C.mb x = bootBuiltins x
abbrev Cx.M (C : Cx) : Model := model C.prog C.w

/-- room for n more calls -/
structure Room (A : Around) (n : Nat) : Prop where
  hh : A.handled = none
  depth : A.depth + 20 * n < 900
  units : A.units + 100 * n < 9000

inductive Md | fresh | new | mine | shared | any
def Res (Kp : Addr → Option Obj) (h : Heap) (m : MM) (Fp : Nat → List Addr) (h' : Heap) (v : Value) (d : PyData) (md : Md) : Prop :=
  ∃ as, Rd h' v d as ∧ match md with
    | .any => True
    | .fresh => as.Nodup ∧ ∀ a ∈ as, h.get? a = none
    | .new => ∀ a ∈ as, h.get? a = none
    | .mine => ∀ a ∈ as, Kp a = none
    | .shared => ∀ k d', m[k]? = some (some (d', true)) → ∀ a ∈ as, a ∉ Fp k

def EvOK (C : Cx) (sc : Scope) (names : List Str) (n : Nat) (m : MM) (e : Expr) (d : PyData) (md : Md) : Prop :=
  ∀ (A : Around) (E : Value → Shared → Prop) (s : Shared) (env : Env) (Kp : Addr → Option Obj) (V : Nat → Value) (Fp : Nat → List Addr),
    Room A n → EnvOf env sc → St C.B Kp env names m V Fp s.heap →
    wpAny C.M A (eval e env) (fun v s' => Ext s s' ∧ Res Kp s.heap m Fp s'.heap v d md) E s

theorem St.fp_live {B Kp env names m V Fp h} (S : St B Kp env names m V Fp h) {k e} (hm : m[k]? = some (some e)) : ∀ a ∈ Fp k, SeqAt h a :=
  (S.reads k e hm).live

theorem Res.any {Kp h m Fp h' v d md} (r : Res Kp h m Fp h' v d md) : Res Kp h m Fp h' v d .any := let ⟨as, a, _⟩ := r; ⟨as, a, trivial⟩
theorem Res.new {Kp h m Fp h' v d} (r : Res Kp h m Fp h' v d .fresh) : Res Kp h m Fp h' v d .new :=
  let ⟨as, a, _, c⟩ := r
  ⟨as, a, c⟩
theorem Res.mine {B Kp env names m V Fp h h' v d} (S : St B Kp env names m V Fp h) (r : Res Kp h m Fp h' v d .new) : Res Kp h m Fp h' v d .mine :=
  let ⟨as, a, c⟩ := r
  ⟨as, a, fun x hx => by
    cases e : Kp x with
    | none => rfl
    | some o => have := S.keep x o e; rw [c x hx] at this; cases this⟩
theorem Res.shared {B Kp env names m V Fp h h' v d} (S : St B Kp env names m V Fp h) (r : Res Kp h m Fp h' v d .new) : Res Kp h m Fp h' v d .shared :=
  let ⟨as, a, c⟩ := r
  ⟨as, a, fun k d' hm x hx hf => by
    obtain ⟨o, vs, n, e, _⟩ := S.fp_live hm x hf
    rw [c x hx] at e; cases e⟩
theorem Res.ofAtom {Kp h m Fp h' v d md} (r : Res Kp h m Fp h' v d .any) (e : Mine.atom d = true) : Res Kp h m Fp h' v d md :=
  let ⟨as, a, _⟩ := r
  ⟨as, a, by
    have : as = [] := a.atom e
    subst this
    cases md
    · exact ⟨List.nodup_nil, fun _ h => nomatch h⟩
    · exact fun _ h => nomatch h
    · exact fun _ h => nomatch h
    · exact fun _ _ _ _ h => nomatch h
    · trivial⟩
section
variable {C : Cx} {sc : Scope} {names : List Str} {n : Nat} {m : MM} {e : Expr} {d : PyData} {md : Md}

theorem EvOK.any (x : EvOK C sc names n m e d md) : EvOK C sc names n m e d .any := fun A E s env Kp V Fp hR hE S =>
  wpAny_mono (x A E s env Kp V Fp hR hE S) (fun _ _ h => ⟨h.1, h.2.any⟩) fun _ _ h => h
theorem EvOK.atom (x : EvOK C sc names n m e d md) (ha : Mine.atom d = true) {md' : Md} : EvOK C sc names n m e d md' := fun A E s env Kp V Fp hR hE S =>
  wpAny_mono (x A E s env Kp V Fp hR hE S) (fun _ _ h => ⟨h.1, h.2.any.ofAtom ha⟩) fun _ _ h => h
theorem EvOK.new (x : EvOK C sc names n m e d .fresh) : EvOK C sc names n m e d .new := fun A E s env Kp V Fp hR hE S =>
  wpAny_mono (x A E s env Kp V Fp hR hE S) (fun _ _ h => ⟨h.1, h.2.new⟩) fun _ _ h => h
theorem EvOK.mine (x : EvOK C sc names n m e d .new) : EvOK C sc names n m e d .mine := fun A E s env Kp V Fp hR hE S =>
  wpAny_mono (x A E s env Kp V Fp hR hE S) (fun _ _ h => ⟨h.1, h.2.mine S⟩) fun _ _ h => h
theorem EvOK.shared (x : EvOK C sc names n m e d .new) : EvOK C sc names n m e d .shared := fun A E s env Kp V Fp hR hE S =>
  wpAny_mono (x A E s env Kp V Fp hR hE S) (fun _ _ h => ⟨h.1, h.2.shared S⟩) fun _ _ h => h
theorem ev_name {x : Str} {pos : Pos} {k : Nat} {o : Bool} (hk : names[k]? = some x) (hm : m[k]? = some (some (d, o)))
    (hd : (x == ("__debug__" : Str)) = false := by decide) (hcl : (x == ("__classdict__" : Str)) = false := by decide) : EvOK C sc names n m (.Name x pos) d (if o then .mine else .shared) := by
  intro A E s env Kp V Fp hR hE S
  have r : Res Kp s.heap m Fp s.heap (V k) d (if o then .mine else .shared) := by
    refine ⟨Fp k, S.reads k _ hm, ?_⟩
    cases o
    · intro j d' hj a ha hf
      by_cases hjk : j = k
      · subst hjk; rw [hm] at hj; cases hj
      · exact (S.own j d' hj).2.2 k _ (Ne.symm hjk) hm a hf ha
    · exact (S.own k _ hm).2.1
  have hkind : env.scope.kind = .function := by rw [hE.scope]; exact hE.kind
  refine wpAny_Name ?_ hd
  rcases S.loads k x _ hk hm with ⟨a, mL, b, c⟩ | ⟨a | a, c, b, e⟩
  · exact wpAny_loadName_local hkind a b c ⟨.refl _, r⟩
  · exact wpAny_loadName_cell hkind a b e ⟨.refl _, r⟩
  · exact wpAny_loadName_free hkind a b e ⟨.refl _, r⟩ hcl

theorem ev_int {i : Int} {k pos} : EvOK C sc names n m (.Constant (.int i) k pos) (.int i) md := fun A E s env Kp V Fp hR hE S =>
  wpAny_Constant_int ⟨.tok _ _, Res.ofAtom ⟨_, .int i _, trivial⟩ rfl⟩
theorem ev_str {x : Str} {k pos} : EvOK C sc names n m (.Constant (.str x) k pos) (.str x) md := fun A E s env Kp V Fp hR hE S =>
  wpAny_Constant_str ⟨.tok _ _, Res.ofAtom ⟨_, .str x _, trivial⟩ rfl⟩
theorem ev_bool {b : Bool} {k pos} : EvOK C sc names n m (.Constant (.bool b) k pos) (.bool b) md := fun A E s env Kp V Fp hR hE S =>
  wpAny_Constant_bool ⟨.refl _, Res.ofAtom ⟨_, .bool b, trivial⟩ rfl⟩
theorem ev_none {k pos} : EvOK C sc names n m (.Constant .none k pos) .none md := fun A E s env Kp V Fp hR hE S =>
  wpAny_Constant_none ⟨.refl _, Res.ofAtom ⟨_, .none, trivial⟩ rfl⟩

/-- two operands in turn -/
theorem ev_bin {l r : Expr} {op : Operator} {pos : Pos} {dl dr : PyData} {ml mr : Md} (hl : EvOK C sc names n m l dl ml) (hr : EvOK C sc names n m r dr mr)
    (hop : ∀ (A : Around) (E : Value → Shared → Prop) (s s₁ : Shared) (Kp : Addr → Option Obj) (Fp : Nat → List Addr) (a b : Value) (as bs : List Addr), Room A n → Up C.B s.heap → Rd s.heap a dl as → Rd s.heap b dr bs → Up s₁.heap s.heap →
      wpAny C.M A (binaryOp op a b) (fun v s' => Ext s s' ∧ Res Kp s₁.heap m Fp s'.heap v d md) E s) : EvOK C sc names n m (.BinOp l op r pos) d md := by
  intro A E s env Kp V Fp hR hE S
  refine wpAny_BinOp (wpAny_mono (hl A E s env Kp V Fp hR hE S) (fun a s₁ h₁ => ?_) fun _ _ h => h)
  obtain ⟨x1, as, ra, _⟩ := h₁
  refine wpAny_mono (hr A E s₁ env Kp V Fp hR hE (S.up x1.up)) (fun b s₂ h₂ => ?_) fun _ _ h => h
  obtain ⟨x2, bs, rb, _⟩ := h₂
  refine wpAny_mono (hop A E s₂ s Kp Fp a b as bs hR (fun c o e => (x1.trans x2).up c o (S.keep c o (S.base c o e))) (ra.up x2.up) rb (x1.up.trans x2.up)) (fun v s₃ h₃ => ?_) fun _ _ h => h
  exact ⟨(x1.trans x2).trans h₃.1, h₃.2⟩

theorem ev_intop {l r : Expr} {op : Operator} {pos : Pos} {a b c : Int} {ml mr : Md} (hl : EvOK C sc names n m l (.int a) ml) (hr : EvOK C sc names n m r (.int b) mr)
    (hop : ∀ (A : Around) (E : Value → Shared → Prop) (s : Shared) (t u : Tok) (Q : Value → Shared → Prop), Room A n → Up C.B s.heap → Q (.int c s.toks) { s with toks := s.toks + 1 } → wpAny C.M A (binaryOp op (.int a t) (.int b u)) Q E s) :
    EvOK C sc names n m (.BinOp l op r pos) (.int c) md :=
  ev_bin hl hr fun A E s s₁ Kp Fp va vb as bs hR hB ra rb u => by
    obtain ⟨t, rfl, _⟩ := ra.int_inv
    obtain ⟨t', rfl, _⟩ := rb.int_inv
    exact hop A E s t t' _ hR hB ⟨.tok _ _, Res.ofAtom ⟨_, .int c _, trivial⟩ rfl⟩

theorem ev_add {l r pos a b ml mr} (hl : EvOK C sc names n m l (.int a) ml) (hr : EvOK C sc names n m r (.int b) mr) : EvOK C sc names n m (.BinOp l .Add r pos) (.int (a + b)) md :=
  ev_intop hl hr fun A E s t u Q _ _ h => wpAny_add_int h
theorem ev_sub {l r pos a b ml mr} (hl : EvOK C sc names n m l (.int a) ml) (hr : EvOK C sc names n m r (.int b) mr) : EvOK C sc names n m (.BinOp l .Sub r pos) (.int (a - b)) md :=
  ev_intop hl hr fun A E s t u Q _ _ h => PyProof.Rows.sub_int h
theorem ev_mul {l r pos a b ml mr} (hl : EvOK C sc names n m l (.int a) ml) (hr : EvOK C sc names n m r (.int b) mr) (hm : IntMulOk a b) : EvOK C sc names n m (.BinOp l .Mult r pos) (.int (a * b)) md :=
  ev_intop hl hr fun A E s t u Q _ _ h => PyProof.Rows.mul_int h hm
end
end Mine
end

/-! text MB -/
section
open PySem PySem.Spec PySem.Calls PyProof.Rows
set_option linter.unusedVariables false
namespace Mine
section
variable {C : Cx} {sc : Scope} {names : List Str} {n : Nat} {m : MM} {e : Expr} {d : PyData} {md : Md}

theorem ev_mod {l r pos a b ml mr} (hl : EvOK C sc names n m l (.int a) ml) (hr : EvOK C sc names n m r (.int b) mr) (hb : b ≠ 0) : EvOK C sc names n m (.BinOp l .Mod r pos) (.int (a.fmod b)) md :=
  ev_intop hl hr fun A E s t u Q _ _ h => mod_int' hb h
theorem ev_div {l r pos a b ml mr} (hl : EvOK C sc names n m l (.int a) ml) (hr : EvOK C sc names n m r (.int b) mr) (hb : b ≠ 0) (hs : b.natAbs < 1073741824) : EvOK C sc names n m (.BinOp l .FloorDiv r pos) (.int (a.fdiv b)) md :=
  ev_intop hl hr fun A E s t u Q _ _ h => floordiv_int hb h (.inl (PyProof.noPylong_small hs))
theorem ev_pow {l r pos a b ml mr} (hl : EvOK C sc names n m l (.int a) ml) (hr : EvOK C sc names n m r (.int b) mr) (h0 : 0 ≤ b) (h1 : b ≤ 1000000) (h2 : a.natAbs < 2 ^ 64) : EvOK C sc names n m (.BinOp l .Pow r pos) (.int (a ^ b.toNat)) md :=
  ev_intop hl hr fun A E s t u Q _ _ h => pow_int_small h0 h1 h2 h
theorem ev_neg {x pos a ml} (hx : EvOK C sc names n m x (.int a) ml) : EvOK C sc names n m (.UnaryOp .USub x pos) (.int (-a)) md := fun A E s env Kp V Fp hR hE S =>
  wpAny_UnaryOp (wpAny_mono (hx A E s env Kp V Fp hR hE S) (fun v s₁ h₁ => by
    obtain ⟨x1, as, r, _⟩ := h₁
    obtain ⟨t, rfl, _⟩ := r.int_inv
    exact PyProof.Rows.neg_int ⟨x1.trans (.tok _ _), Res.ofAtom ⟨_, .int _ _, trivial⟩ rfl⟩) fun _ _ h => h)

/-- a test comes out as b -/
def TsOK (C : Cx) (sc : Scope) (names : List Str) (n : Nat) (m : MM) (e : Expr) (b : Bool) : Prop :=
  ∀ (A : Around) (E : Value → Shared → Prop) (s : Shared) (env : Env) (Kp : Addr → Option Obj) (V : Nat → Value) (Fp : Nat → List Addr),
    Room A n → EnvOf env sc → St C.B Kp env names m V Fp s.heap →
    wpAny C.M A (isTrue e env (eval e env)) (fun c s' => Ext s s' ∧ c = b) E s

abbrev CmpGives (C : Cx) (n : Nat) (op : CmpOp) (dl dr : PyData) (b : Bool) : Prop :=
  ∀ (A : Around) (E : Value → Shared → Prop) (s : Shared) (x y : Value) (as bs : List Addr), Room A n → Rd s.heap x dl as → Rd s.heap y dr bs →
    wpAny C.M A (compareOp op x y) (fun c s' => Ext s s' ∧ c = .bool b) E s

theorem ts_cmp {l r : Expr} {op : CmpOp} {pos : Pos} {dl dr : PyData} {ml mr : Md} {b : Bool} (hl : EvOK C sc names n m l dl ml) (hr : EvOK C sc names n m r dr mr) (hop : CmpGives C n op dl dr b)
    (hm : behindInMarks op r = false := by with_unfolding_all rfl) : TsOK C sc names n m (.Compare l [op] [r] pos) b := by
  intro A E s env Kp V Fp hR hE S
  refine wpAny_isTrue_Compare1 (wpAny_mono (hl A E s env Kp V Fp hR hE S) (fun a s₁ h₁ => ?_) fun _ _ h => h) hm
  obtain ⟨x1, as, ra, _⟩ := h₁
  refine wpAny_mono (hr A E s₁ env Kp V Fp hR hE (S.up x1.up)) (fun c s₂ h₂ => ?_) fun _ _ h => h
  obtain ⟨x2, bs, rb, _⟩ := h₂
  refine wpAny_mono (hop A E s₂ a c as bs hR (ra.up x2.up) rb) (fun v s₃ h₃ => ?_) fun _ _ h => h
  obtain ⟨x3, rfl⟩ := h₃
  exact wpAny_truthy_bool ⟨(x1.trans x2).trans x3, rfl⟩
theorem ev_cmp {l r : Expr} {op : CmpOp} {pos : Pos} {dl dr : PyData} {ml mr : Md} {b : Bool} (hl : EvOK C sc names n m l dl ml) (hr : EvOK C sc names n m r dr mr) (hop : CmpGives C n op dl dr b)
    (hm : behindInMarks op r = false := by with_unfolding_all rfl) : EvOK C sc names n m (.Compare l [op] [r] pos) (.bool b) md := by
  intro A E s env Kp V Fp hR hE S
  refine wpAny_Compare1 (wpAny_mono (hl A E s env Kp V Fp hR hE S) (fun a s₁ h₁ => ?_) fun _ _ h => h) hm
  obtain ⟨x1, as, ra, _⟩ := h₁
  refine wpAny_mono (hr A E s₁ env Kp V Fp hR hE (S.up x1.up)) (fun c s₂ h₂ => ?_) fun _ _ h => h
  obtain ⟨x2, bs, rb, _⟩ := h₂
  refine wpAny_mono (hop A E s₂ a c as bs hR (ra.up x2.up) rb) (fun v s₃ h₃ => ?_) fun _ _ h => h
  obtain ⟨x3, rfl⟩ := h₃
  exact ⟨(x1.trans x2).trans x3, Res.ofAtom ⟨_, .bool _, trivial⟩ rfl⟩

theorem cmp_lt {a b : Int} : CmpGives C n .Lt (.int a) (.int b) (decide (a < b)) := fun A E s x y as bs hR ra rb => by
  obtain ⟨t, rfl, _⟩ := ra.int_inv; obtain ⟨u, rfl, _⟩ := rb.int_inv
  exact wpAny_lt_int ⟨.refl _, rfl⟩
theorem cmp_ge {a b : Int} : CmpGives C n .GtE (.int a) (.int b) (decide (b ≤ a)) := fun A E s x y as bs hR ra rb => by
  obtain ⟨t, rfl, _⟩ := ra.int_inv; obtain ⟨u, rfl, _⟩ := rb.int_inv
  exact PyProof.Rows.ge_int ⟨.refl _, rfl⟩
theorem cmp_eq {a b : PyData} (ha : a.canLay0 = true) (hb : b.canLay0 = true) (hd : a.depth ≤ 100) : CmpGives C n .Eq a b (PyData.eqv a b) := fun A E s x y as bs hR ra rb => by
  obtain ⟨cs, r1⟩ := ra.reads
  obtain ⟨ds, r2⟩ := rb.reads
  refine SeqAt.compareEq_reads r1 r2 ha hb ?_ ⟨.refl _, rfl⟩
  have := hR.units
  have : min a.depth b.depth ≤ 100 := Nat.le_trans (Nat.min_le_left _ _) hd
  have e : cLine = 9900 := rfl
  lia
theorem cmp_ne {a b : PyData} (ha : a.canLay0 = true) (hb : b.canLay0 = true) (hd : a.depth ≤ 100) : CmpGives C n .NotEq a b (!PyData.eqv a b) := fun A E s x y as bs hR ra rb => by
  obtain ⟨cs, r1⟩ := ra.reads
  obtain ⟨ds, r2⟩ := rb.reads
  refine SeqAt.rcNeAt_reads r1 r2 ha hb ?_ C.prog C.w E _ ⟨.refl _, rfl⟩
  have := hR.units
  have : min a.depth b.depth ≤ 100 := Nat.le_trans (Nat.min_le_left _ _) hd
  have e : cLine = 9900 := rfl
  lia
theorem cmp_eq_int {a b : Int} : CmpGives C n .Eq (.int a) (.int b) (a == b) := fun A E s x y as bs hR ra rb => by
  obtain ⟨t, rfl, _⟩ := ra.int_inv; obtain ⟨u, rfl, _⟩ := rb.int_inv
  exact PyProof.Rows.eq_int ⟨.refl _, rfl⟩
theorem cmp_ne_int {a b : Int} : CmpGives C n .NotEq (.int a) (.int b) (a != b) := fun A E s x y as bs hR ra rb => by
  obtain ⟨t, rfl, _⟩ := ra.int_inv; obtain ⟨u, rfl, _⟩ := rb.int_inv
  exact PyProof.Rows.ne_int ⟨.refl _, rfl⟩
theorem cmp_is_true {b : Bool} : CmpGives C n .Is (.bool b) (.bool true) b := fun A E s x y as bs hR ra rb => by
  obtain ⟨rfl, _⟩ := ra.bool_inv; obtain ⟨rfl, _⟩ := rb.bool_inv
  refine wpAny_is_plain (by cases b <;> rfl) ⟨.refl _, ?_⟩
  cases b <;> rfl
theorem cmp_is_none {d : PyData} : CmpGives C n .Is d .none (match d with | .none => true | _ => false) := fun A E s x y as bs hR ra rb => by
  obtain ⟨rfl, _⟩ := rb.none_inv
  refine is_none ⟨.refl _, ?_⟩
  cases ra <;> rfl

abbrev zl (l : List Int) : PyData := .list (l.map .int)
theorem RdL.intsAre {h : Heap} : ∀ {vs : List Value} {ns : List Int} {as : List Addr}, RdL h vs (ns.map .int) as → IntsAre vs ns
  | _, [], _, r => by cases r; exact .nil
  | _, n :: ns, _, r => by
    cases r with
    | cons h1 h2 =>
      obtain ⟨t, rfl, _⟩ := h1.int_inv
      exact .cons n t (RdL.intsAre h2)
theorem Rd.ints_inv {h : Heap} {v : Value} {ns : List Int} {as : List Addr} (r : Rd h v (zl ns) as) : ∃ a vs k, v = .ref a ∧ h.get? a = some (lst vs k) ∧ IntsAre vs.toList ns ∧ vs.size = ns.length ∧ as = [a] := by
  obtain ⟨a, vs, k, bs, rfl, e, q, rfl⟩ := r.list_inv
  refine ⟨a, vs, k, rfl, e, q.intsAre, by simpa using q.length, ?_⟩
  rw [q.atoms (by induction ns with | nil => rfl | cons x xs ih => simp [Mine.atom])]
theorem isList_lst {h : Heap} {a : Addr} {vs : Array Value} {k : Nat} (e : h.get? a = some (lst vs k)) : h.IsList a vs := ⟨_, e, rfl, k, rfl⟩

theorem cmp_in {a : Int} {ns : List Int} : CmpGives C n .In (.int a) (zl ns) (ns.any (· == a)) := fun A E s x y as bs hR ra rb => by
  obtain ⟨t, rfl, _⟩ := ra.int_inv
  obtain ⟨b, vs, k, rfl, e, q, _⟩ := rb.ints_inv
  exact in_list_ints (isList_lst e) q ⟨.refl _, rfl⟩

/-- truth of a list that a name holds -/
theorem ts_list {x : Str} {pos : Pos} {xs : List PyData} {ml : Md} (h : EvOK C sc names n m (.Name x pos) (.list xs) ml) (hs : xs.length < 2 ^ 62) : TsOK C sc names n m (.Name x pos) (!xs.isEmpty) := by
  intro A E s env Kp V Fp hR hE S
  refine wpAny_isTrue_value (wpAny_mono (h A E s env Kp V Fp hR hE S) (fun v s₁ h₁ => ?_) fun _ _ h => h)
  obtain ⟨x1, as, r, _⟩ := h₁
  obtain ⟨a, vs, k, bs, rfl, e, q, _⟩ := r.list_inv
  have hl := q.length
  have hsz : vs.size = xs.length := by simpa using hl
  refine wpAny_truthy_list (isList_lst e) (by lia) ?_
  refine ⟨x1.trans (.tok _ _), ?_⟩
  obtain ⟨l⟩ := vs
  cases xs <;> cases l <;> simp_all

theorem ts_or {x y : Expr} {pos : Pos} {b c : Bool} (hx : TsOK C sc names n m x b) (hy : b = false → TsOK C sc names n m y c) : TsOK C sc names n m (.BoolOp .Or [x, y] pos) (b || c) := by
  intro A E s env Kp V Fp hR hE S
  refine wpAny_isTrue_BoolOp (wpAny_allTrue_Or_cons (wpAny_mono (hx A E s env Kp V Fp hR hE S) (fun v s₁ h₁ => ?_) fun _ _ h => h))
  obtain ⟨x1, rfl⟩ := h₁
  cases v
  · simp only [Bool.false_eq_true, if_false, Bool.false_or]
    refine wpAny_allTrue_Or_cons (wpAny_mono (hy rfl A E s₁ env Kp V Fp hR hE (S.up x1.up)) (fun v s₂ h₂ => ?_) fun _ _ h => h)
    obtain ⟨x2, rfl⟩ := h₂
    cases v
    · exact wpAny_allTrue_Or_nil ⟨x1.trans x2, rfl⟩
    · exact ⟨x1.trans x2, rfl⟩
  · exact ⟨x1, rfl⟩
theorem ts_and {x y : Expr} {pos : Pos} {b c : Bool} (hx : TsOK C sc names n m x b) (hy : b = true → TsOK C sc names n m y c) : TsOK C sc names n m (.BoolOp .And [x, y] pos) (b && c) := by
  intro A E s env Kp V Fp hR hE S
  refine wpAny_isTrue_BoolOp (wpAny_allTrue_And_cons (wpAny_mono (hx A E s env Kp V Fp hR hE S) (fun v s₁ h₁ => ?_) fun _ _ h => h))
  obtain ⟨x1, rfl⟩ := h₁
  cases v
  · exact ⟨x1, rfl⟩
  · simp only [if_true, Bool.true_and]
    refine wpAny_allTrue_And_cons (wpAny_mono (hy rfl A E s₁ env Kp V Fp hR hE (S.up x1.up)) (fun v s₂ h₂ => ?_) fun _ _ h => h)
    obtain ⟨x2, rfl⟩ := h₂
    cases v
    · exact ⟨x1.trans x2, rfl⟩
    · exact wpAny_allTrue_And_nil ⟨x1.trans x2, rfl⟩

theorem ev_if {t b o : Expr} {pos : Pos} {c : Bool} (ht : TsOK C sc names n m t c) (hb : c = true → EvOK C sc names n m b d md) (ho : c = false → EvOK C sc names n m o d md) : EvOK C sc names n m (.IfExp t b o pos) d md := by
  intro A E s env Kp V Fp hR hE S
  refine wpAny_IfExp (wpAny_mono (ht A E s env Kp V Fp hR hE S) (fun v s₁ h₁ => ?_) fun _ _ h => h)
  obtain ⟨x1, rfl⟩ := h₁
  have fin : ∀ {e : Expr}, EvOK C sc names n m e d md → wpAny C.M A (eval e env) (fun v s' => Ext s s' ∧ Res Kp s.heap m Fp s'.heap v d md) E s₁ := fun he =>
    wpAny_mono (he A E s₁ env Kp V Fp hR hE (S.up x1.up)) (fun v s₂ h₂ => by
      obtain ⟨x2, as, r, q⟩ := h₂
      refine ⟨x1.trans x2, as, r, ?_⟩
      cases md
      · refine ⟨q.1, fun a ha => ?_⟩
        cases e0 : s.heap.get? a with
        | none => rfl
        | some o => have := q.2 a ha; rw [x1.up a o e0] at this; cases this
      · intro a ha
        cases e0 : s.heap.get? a with
        | none => rfl
        | some o => have := q a ha; rw [x1.up a o e0] at this; cases this
      · exact q
      · exact q
      · trivial) fun _ _ h => h
  cases v
  · exact fin (ho rfl)
  · exact fin (hb rfl)

/-- items in turn -/
def EvsOK (C : Cx) (sc : Scope) (names : List Str) (n : Nat) (m : MM) (es : List Expr) (ds : List PyData) (md : Md) : Prop :=
  ∀ (A : Around) (E : Value → Shared → Prop) (s : Shared) (env : Env) (Kp : Addr → Option Obj) (V : Nat → Value) (Fp : Nat → List Addr) (pos : Pos),
    Room A n → EnvOf env sc → St C.B Kp env names m V Fp s.heap →
    wpAny C.M A (spliced (backTo pos (starEach es env))) (fun vs s' => Ext s s' ∧ ∃ as, RdL s'.heap vs ds as ∧ (md = .fresh → as.Nodup ∧ ∀ a ∈ as, s.heap.get? a = none) ∧ (md = .mine → ∀ a ∈ as, Kp a = none)) E s

theorem evs_nil : EvsOK C sc names n m [] [] md := fun A E s env Kp V Fp pos hR hE S =>
  wpAny_items_nil ⟨.refl _, [], .nil, fun _ => ⟨List.nodup_nil, fun _ h => nomatch h⟩, fun _ _ h => nomatch h⟩
theorem evs_cons {e : Expr} {es : List Expr} {d : PyData} {ds : List PyData} (h1 : EvOK C sc names n m e d md) (h2 : EvsOK C sc names n m es ds md)
    (he : ∀ env, starEach (e :: es) env = (false, eval e env) :: starEach es env := by intro _; rfl) : EvsOK C sc names n m (e :: es) (d :: ds) md := by
  intro A E s env Kp V Fp pos hR hE S
  refine wpAny_items_cons (wpAny_mono (h1 A E s env Kp V Fp hR hE S) (fun v s₁ h₁ => ?_) fun _ _ h => h) (he env)
  obtain ⟨x1, as, ra, q1⟩ := h₁
  refine wpAny_mono (h2 A E s₁ env Kp V Fp pos hR hE (S.up x1.up)) (fun vs s₂ h₂ => ?_) fun _ _ h => h
  obtain ⟨x2, bs, rb, q2, q3⟩ := h₂
  refine ⟨x1.trans x2, as ++ bs, .cons (ra.up x2.up) rb, fun hmd => ?_, fun hmd a ha => by
    subst hmd
    rcases List.mem_append.mp ha with ha | ha
    · exact q1 a ha
    · exact q3 rfl a ha⟩
  subst hmd
  obtain ⟨n1, f1⟩ := q1
  obtain ⟨n2, f2⟩ := q2 rfl
  refine ⟨List.nodup_append.mpr ⟨n1, n2, fun a ha b hb hab => ?_⟩, fun a ha => ?_⟩
  · subst hab
    obtain ⟨o, vs', k, e', _⟩ := ra.live a ha
    rw [f2 a hb] at e'; cases e'
  · rcases List.mem_append.mp ha with ha | ha
    · exact f1 a ha
    · cases e0 : s.heap.get? a with
      | none => rfl
      | some o => have := f2 a ha; rw [x1.up a o e0] at this; cases this

theorem ev_list {es : List Expr} {ds : List PyData} {pos : Pos} (h : EvsOK C sc names n m es ds md) (hsz : ds.length ≤ 1000) : EvOK C sc names n m (.List es pos) (.list ds) (match md with | .fresh => .fresh | .mine => .mine | _ => .any) := by
  intro A E s env Kp V Fp hR hE S
  refine wpAny_List (wpAny_mono (h A E s env Kp V Fp pos hR hE S) (fun vs s₁ h₁ => ?_) fun _ _ h => h)
  obtain ⟨x1, as, r, q, q'⟩ := h₁
  have hl := r.length
  refine ⟨by rw [sizeLine_eq]; lia, x1.trans (.heap (.push _ _)), s₁.heap.objs.size :: as, .list (vs := vs.toArray) (n := 0) (Heap.get?_push_size _ rfl) (r.up (.push _ _)), ?_⟩
  have hn : ∀ a ∈ as, a ≠ s₁.heap.objs.size := fun a ha => by
    obtain ⟨o, _, _, e, _⟩ := r.live a ha
    exact Nat.ne_of_lt (Heap.lt_size e)
  cases md
  · obtain ⟨n1, f1⟩ := q rfl
    refine ⟨List.nodup_cons.mpr ⟨fun ha => hn _ ha rfl, n1⟩, fun a ha => ?_⟩
    rcases List.mem_cons.mp ha with rfl | ha
    · cases e0 : s.heap.get? s₁.heap.objs.size with
      | none => rfl
      | some o => exact absurd (Heap.lt_size (x1.up _ o e0)) (Nat.lt_irrefl _)
    · exact f1 a ha
  · trivial
  · intro a ha
    rcases List.mem_cons.mp ha with rfl | ha
    · cases e0 : Kp s₁.heap.objs.size with
      | none => rfl
      | some o => exact absurd (Heap.lt_size (x1.up _ o (S.keep _ o e0))) (Nat.lt_irrefl _)
    · exact q' rfl a ha
  · trivial
  · trivial
theorem ev_tuple {es : List Expr} {ds : List PyData} {k : Nat} {pos : Pos} (h : EvsOK C sc names n m es ds md) (hsz : ds.length ≤ 1000) : EvOK C sc names n m (.Tuple es k pos) (.tuple ds) (match md with | .fresh => .fresh | .mine => .mine | _ => .any) := by
  intro A E s env Kp V Fp hR hE S
  refine wpAny_Tuple (wpAny_mono (h A E s env Kp V Fp pos hR hE S) (fun vs s₁ h₁ => ?_) fun _ _ h => h)
  obtain ⟨x1, as, r, q, q'⟩ := h₁
  have hl := r.length
  refine ⟨by rw [sizeLine_eq]; lia, x1.trans (.heap (.push _ _)), s₁.heap.objs.size :: as, .tuple (vs := vs.toArray) (n := 0) (Heap.get?_push_size _ rfl) rfl rfl (r.up (.push _ _)), ?_⟩
  have hn : ∀ a ∈ as, a ≠ s₁.heap.objs.size := fun a ha => by
    obtain ⟨o, _, _, e, _⟩ := r.live a ha
    exact Nat.ne_of_lt (Heap.lt_size e)
  cases md
  · obtain ⟨n1, f1⟩ := q rfl
    refine ⟨List.nodup_cons.mpr ⟨fun ha => hn _ ha rfl, n1⟩, fun a ha => ?_⟩
    rcases List.mem_cons.mp ha with rfl | ha
    · cases e0 : s.heap.get? s₁.heap.objs.size with
      | none => rfl
      | some o => exact absurd (Heap.lt_size (x1.up _ o e0)) (Nat.lt_irrefl _)
    · exact f1 a ha
  · trivial
  · intro a ha
    rcases List.mem_cons.mp ha with rfl | ha
    · cases e0 : Kp s₁.heap.objs.size with
      | none => rfl
      | some o => exact absurd (Heap.lt_size (x1.up _ o (S.keep _ o e0))) (Nat.lt_irrefl _)
    · exact q' rfl a ha
  · trivial
  · trivial
end
end Mine
end

/-! text MC -/
section
open PySem PySem.Spec PySem.Calls PyProof.Rows
set_option linter.unusedVariables false
namespace Mine
section
variable {C : Cx} {sc : Scope} {names : List Str} {n : Nat} {m : MM} {e : Expr} {d : PyData} {md : Md}

/-! items and slices -/
theorem getItem_at {prog : Program} {w : World} {A : Around} {E : Value → Shared → Prop} {s : Shared} {l : Addr} {vs : Array Value} {c : Nat} {k : Int} {t : Tok} {j : Nat} {x : Value} {Q : Value → Shared → Prop}
    (hl : s.heap.get? l = some (lst vs c)) (hsz : vs.size ≤ 1000) (hj : seqIndex? k vs.size = some j) (hx : vs[j]? = some x) (h : Q x s) : wpAny (model prog w) A (getItem (.ref l) (.int k t)) Q E s := by
  have hlt : j < vs.size := (Array.getElem?_eq_some_iff.mp hx).1
  unfold seqIndex? at hj
  by_cases h0 : k < 0
  · simp only [h0, if_true] at hj
    split at hj
    · rename_i hc
      simp only [Bool.and_eq_true, decide_eq_true_eq] at hc
      have hj' : (k + vs.size).toNat = j := Option.some.inj hj
      exact wpAny_getItem_list_neg (isList_lst hl) h0 (by lia) (by lia) (by rw [hj']; exact hx) h
    · cases hj
  · simp only [h0, if_false] at hj
    split at hj
    · rename_i hc
      simp only [Bool.and_eq_true, decide_eq_true_eq] at hc
      have hj' : k.toNat = j := Option.some.inj hj
      exact wpAny_getItem_list (isList_lst hl) (by lia) (by lia) (by rw [hj']; exact hx) h
    · cases hj

theorem ev_index {o i : Expr} {pos : Pos} {xs : List PyData} {k : Int} {j : Nat} {ml mi : Md} (ho : EvOK C sc names n m o (.list xs) ml) (hi : EvOK C sc names n m i (.int k) mi)
    (hsz : xs.length ≤ 1000) (hj : seqIndex? k xs.length = some j) (hx : xs[j]? = some d)
    (hs : ∀ o v, subscripted i false o v = operate [o, v] (getItem o v) := by intro _ _; rfl) : EvOK C sc names n m (.Subscript o i pos) d (if ml matches .shared then .shared else .any) := by
  intro A E s env Kp V Fp hR hE S
  refine Subscript_ (wpAny_mono (ho A E s env Kp V Fp hR hE S) (fun a s₁ h₁ => ?_) fun _ _ h => h)
  obtain ⟨x1, as, ra, q1⟩ := h₁
  refine wpAny_mono (hi A E s₁ env Kp V Fp hR hE (S.up x1.up)) (fun b s₂ h₂ => ?_) fun _ _ h => h
  obtain ⟨x2, bs, rb, _⟩ := h₂
  obtain ⟨t, rfl, _⟩ := rb.int_inv
  obtain ⟨l, vs, c, cs, rfl, hl, q, rfl⟩ := (ra.up x2.up).list_inv
  have hlen := q.length
  have hl2 : vs.size = xs.length := by simpa using hlen
  obtain ⟨v, ds, e1, r1, hsub⟩ := q.get hx
  refine tail_any (isList_lst hl).typeIs slot_list_getitem.lookup (getItem_at hl (by lia) (by rw [hl2]; exact hj) (by simpa using e1) ?_) (hs _ _)
  refine ⟨x1.trans x2, ds, r1, ?_⟩
  cases ml
  · trivial
  · trivial
  · trivial
  · exact fun k d' hm a ha => q1 k d' hm a (List.mem_cons_of_mem _ (hsub a ha))
  · trivial

def PartOK (C : Cx) (sc : Scope) (names : List Str) (n : Nat) (m : MM) (e : Option Expr) (k : Option Int) : Prop :=
  ∀ (A : Around) (E : Value → Shared → Prop) (s : Shared) (env : Env) (Kp : Addr → Option Obj) (V : Nat → Value) (Fp : Nat → List Addr),
    Room A n → EnvOf env sc → St C.B Kp env names m V Fp s.heap →
    wpAny C.M A (evalPart e env) (fun v s' => Ext s s' ∧ IsPart v k) E s
theorem part_none : PartOK C sc names n m none none := fun A E s env Kp V Fp hR hE S => by
  rw [evalPart_none]; exact wpAny_pure ⟨.refl _, .none⟩
theorem part_some {k : Int} {mi : Md} (h : EvOK C sc names n m e (.int k) mi) : PartOK C sc names n m (some e) (some k) := fun A E s env Kp V Fp hR hE S => by
  rw [evalPart_some]
  refine wpAny_mono (h A E s env Kp V Fp hR hE S) (fun v s₁ h₁ => ?_) fun _ _ h => h
  obtain ⟨x1, as, r, _⟩ := h₁
  obtain ⟨t, rfl, _⟩ := r.int_inv
  exact ⟨x1, .int k t⟩

def spick {α : Type} (xs : List α) (lo hi st : Option Int) : List α :=
  (sliceRange (sliceBounds lo hi st xs.length).1 (sliceBounds lo hi st xs.length).2.1 (sliceBounds lo hi st xs.length).2.2).filterMap (xs[·]?)
theorem RdL.picksN {h : Heap} {vs : List Value} {ds : List PyData} {as : List Addr} (r : RdL h vs ds as) : ∀ (ks : List Nat), ∃ bs, RdL h (ks.filterMap (vs[·]?)) (ks.filterMap (ds[·]?)) bs ∧ ∀ a ∈ bs, a ∈ as
  | [] => ⟨[], by simpa using RdL.nil, fun _ h => nomatch h⟩
  | k :: ks => by
    obtain ⟨bs, r1, s1⟩ := RdL.picksN r ks
    cases e : ds[k]? with
    | none =>
      have e' : vs[k]? = none := by
        rw [List.getElem?_eq_none_iff] at e ⊢
        rw [r.length]; exact e
      exact ⟨bs, by simpa [e, e'] using r1, s1⟩
    | some d =>
      obtain ⟨v, cs, e1, e2, e3⟩ := r.get e
      exact ⟨cs ++ bs, by simpa [e, e1] using RdL.cons e2 r1, fun a ha => by
        rcases List.mem_append.mp ha with ha | ha
        · exact e3 a ha
        · exact s1 a ha⟩
theorem spick_atoms {xs : List PyData} {lo hi st : Option Int} (h : xs.all Mine.atom = true) : (spick xs lo hi st).all Mine.atom = true := by
  rw [List.all_eq_true] at h ⊢
  intro x hx
  unfold spick at hx
  obtain ⟨i, _, e⟩ := List.mem_filterMap.mp hx
  exact h x (List.mem_of_getElem? e)

theorem ev_slice {o : Expr} {lo hi st : Option Expr} {p pos : Pos} {xs : List PyData} {a b c : Option Int} {ml : Md} (ho : EvOK C sc names n m o (.list xs) ml)
    (hlo : PartOK C sc names n m lo a) (hhi : PartOK C sc names n m hi b) (hst : PartOK C sc names n m st c) (h0 : c ≠ some 0) (hsz : xs.length ≤ 1000) (hat : xs.all Mine.atom = true)
    (hs : ∀ o v, ∃ ops, subscripted (.Slice lo hi st p) false o v = operate ops (getItem o v) := by exact fun _ _ => ⟨_, rfl⟩) : EvOK C sc names n m (.Subscript o (.Slice lo hi st p) pos) (.list (spick xs a b c)) .fresh := by
  intro A E s env Kp V Fp hR hE S
  refine Subscript_ (wpAny_mono (ho A E s env Kp V Fp hR hE S) (fun v s₁ h₁ => ?_) fun _ _ h => h)
  obtain ⟨x1, as, ra, q1⟩ := h₁
  refine wpAny_Slice (wpAny_mono (hlo A E s₁ env Kp V Fp hR hE (S.up x1.up)) (fun v1 s₂ h₂ => ?_) fun _ _ h => h)
  obtain ⟨x2, p1⟩ := h₂
  refine wpAny_mono (hhi A E s₂ env Kp V Fp hR hE (S.up (x1.trans x2).up)) (fun v2 s₃ h₃ => ?_) fun _ _ h => h
  obtain ⟨x3, p2⟩ := h₃
  refine wpAny_mono (hst A E s₃ env Kp V Fp hR hE (S.up ((x1.trans x2).trans x3).up)) (fun v3 s₄ h₄ => ?_) fun _ _ h => h
  obtain ⟨x4, p3⟩ := h₄
  obtain ⟨l, vs, k, cs, rfl, hl, q, rfl⟩ := (ra.up ((x2.trans x3).trans x4).up).list_inv
  have hlen : vs.size = xs.length := by simpa using q.length
  have hl' := Heap.get?_push_of_some { cls := .type "slice", data := .fields #[v1, v2, v3] } hl
  obtain ⟨ops, hops⟩ := hs (.ref l) (.ref s₄.heap.objs.size)
  refine tail_any (ops := ops) (isList_lst hl').typeIs slot_list_getitem.lookup (wpAny_getItem_list_slice (isList_lst hl') (Heap.IsSliceOf.new ..) p1 p2 p3 h0 ?_ (by rw [sizeLine_eq]; lia)) hops
  obtain ⟨bs, r5, _⟩ := (q.up (.push _ { cls := .type "slice", data := .fields #[v1, v2, v3] })).picksN (sliceRange (sliceBounds a b c xs.length).1 (sliceBounds a b c xs.length).2.1 (sliceBounds a b c xs.length).2.2)
  have hbs : bs = [] := r5.atoms (spick_atoms hat)
  subst hbs
  have e5 : (slicePick vs a b c).toList = (sliceRange (sliceBounds a b c xs.length).1 (sliceBounds a b c xs.length).2.1 (sliceBounds a b c xs.length).2.2).filterMap (vs.toList[·]?) := by
    unfold slicePick
    rw [hlen]
    simp
  refine ⟨(((x1.trans x2).trans x3).trans x4).trans (.heap ((Up.push _ _).trans (.push _ _))), [(s₄.heap.push { cls := .type "slice", data := .fields #[v1, v2, v3] }).objs.size], .list (n := 0) (Heap.get?_push_size _ rfl) ?_, ?_⟩
  · rw [e5]; exact r5.up (.push _ _)
  · refine ⟨by simp, fun x hx => ?_⟩
    rw [List.mem_singleton] at hx
    subst hx
    cases e0 : s.heap.get? (s₄.heap.push { cls := .type "slice", data := .fields #[v1, v2, v3] }).objs.size with
    | none => rfl
    | some o => exact absurd (Heap.lt_size (Heap.get?_push_of_some { cls := .type "slice", data := .fields #[v1, v2, v3] } ((((x1.trans x2).trans x3).trans x4).up _ o e0))) (Nat.lt_irrefl _)

/-! list + list, list * int -/
theorem ev_cat {l r : Expr} {pos : Pos} {xs ys : List PyData} {ml mr : Md} (hl : EvOK C sc names n m l (.list xs) ml) (hr : EvOK C sc names n m r (.list ys) mr)
    (hsz : xs.length + ys.length ≤ 1000) (h1 : xs.all Mine.atom = true) (h2 : ys.all Mine.atom = true) : EvOK C sc names n m (.BinOp l .Add r pos) (.list (xs ++ ys)) .fresh :=
  ev_bin hl hr fun A E s s₁ Kp Fp va vb as bs hR hB ra rb u => by
    obtain ⟨a, vs, k, cs, rfl, ha, qa, rfl⟩ := ra.list_inv
    obtain ⟨b, ws, k', ds, rfl, hb, qb, rfl⟩ := rb.list_inv
    have la : vs.size = xs.length := by simpa using qa.length
    have lb : ws.size = ys.length := by simpa using qb.length
    have e1 := qa.atoms h1
    have e2 := qb.atoms h2
    subst e1; subst e2
    refine PySem.P.add_list ha hb ?_ (by rw [sizeLine_eq]; lia)
    refine ⟨.heap (.push _ _), [s.heap.objs.size], .list (n := 0) (Heap.get?_push_size _ rfl) ?_, by simp, fun x hx => ?_⟩
    · have := (qa.append qb).up (.push _ { cls := .type "list", data := .seq (vs ++ ws) })
      simpa using this
    · rw [List.mem_singleton] at hx; subst hx
      cases e0 : s₁.heap.get? s.heap.objs.size with
      | none => rfl
      | some o => exact absurd (Heap.lt_size (u _ o e0)) (Nat.lt_irrefl _)

theorem rep_atoms {h : Heap} {v : Value} {d : PyData} (r : Rd h v d []) : ∀ k : Nat, RdL h (List.replicate k v) (List.replicate k d) []
  | 0 => .nil
  | k + 1 => by
    have := RdL.cons r (rep_atoms r k)
    simpa [List.replicate_succ] using this
theorem foldl_one (v : Value) : ∀ (k : Nat) (acc : Array Value), (List.foldl (fun x1 x2 => x1 ++ x2) acc (List.replicate k #[v])).toList = acc.toList ++ List.replicate k v
  | 0, acc => by simp
  | k + 1, acc => by
    rw [List.replicate_succ, List.foldl_cons, foldl_one v k]
    simp [List.replicate_succ]
/-- [d] * k -/
theorem ev_rep {l r : Expr} {pos : Pos} {k : Int} {ml mr : Md} (hl : EvOK C sc names n m l (.list [d]) ml) (hr : EvOK C sc names n m r (.int k) mr)
    (h0 : 0 ≤ k) (h1 : k ≤ 1000) (hd : Mine.atom d = true) : EvOK C sc names n m (.BinOp l .Mult r pos) (.list (List.replicate k.toNat d)) .fresh :=
  ev_bin hl hr fun A E s s₁ Kp Fp va vb as bs hR hB ra rb u => by
    obtain ⟨a, vs, c, cs, rfl, ha, qa, rfl⟩ := ra.list_inv
    obtain ⟨t, rfl, _⟩ := rb.int_inv
    obtain ⟨v, hv⟩ : ∃ v, vs = #[v] := by
      have h := qa.length
      obtain ⟨l⟩ := vs
      match l, h with
      | [v], _ => exact ⟨v, rfl⟩
    subst hv
    have rv : Rd s.heap v d [] := by
      cases qa with
      | cons p q =>
        have e := p.atom hd
        subst e; exact p
    refine wpAny_binaryOp_repeat_ref (T := "list") (U := "int") (by decide) ⟨_, ha, rfl⟩ (fun s' => typeIs_int s' k t) noFill_list_mul F.fills_int_mul F.slot_int_rmul repeat_list F.slot_int_index.lookup
      (call_meets F.slot_int_rmul (typeIs_int s k t) F.entry_int_rmul (F.args_int_rmul_2 _ _) (int___rmul___int_list k t a #[v] c)
        ⟨ha, rfl, ⟨_, ha, rfl⟩, call_meets F.slot_list_mul ⟨_, ha, rfl⟩ F.entry_list_mul (F.args_list_mul_2 _ _)
          (AutoListH.list___mul___list_int_3 a #[v] c k t (by simp [Builtin.List.listFitsIndex]; lia) (by simp; lia) (by simp [Builtin.List.listTooLong, sizeLine]; lia))
          ⟨ha, ?_⟩⟩)
    refine ⟨.heap (.push _ _), [s.heap.objs.size], .list (n := 0) (Heap.get?_push_size _ rfl) ?_, by simp, fun x hx => ?_⟩
    · have e : (#[v] : Array Value).isEmpty = false := rfl
      rw [e]
      simp only [Bool.false_eq_true, if_false]
      rw [foldl_one]
      simpa using (rep_atoms rv k.toNat).up (.push _ _)
    · rw [List.mem_singleton] at hx; subst hx
      cases e0 : s₁.heap.get? s.heap.objs.size with
      | none => rfl
      | some o => exact absurd (Heap.lt_size (u _ o e0)) (Nat.lt_irrefl _)

/-! calls -/
def GlobIs (C : Cx) (x : Str) (v : Value) : Prop := C.mg x = some v ∨ (C.mg x = none ∧ bootBuiltins x = some v ∧ x ≠ "__name__")

theorem ld_glob {x : Str} {pos : Pos} {v : Value} {A : Around} {E : Value → Shared → Prop} {s : Shared} {env : Env} {Q : Value → Shared → Prop} (G : C.Good) (g : GlobIs C x v) (hE : EnvOf env sc) (hB : Up C.B s.heap)
    (hx : sc.names.lookup x = some .globalImplicit) (h : Q v s) (hd : (x == ("__debug__" : Str)) = false) : wpAny C.M A (eval (.Name x pos) env) Q E s := by
  have hk : env.scope.kind = .function := by rw [hE.scope]; exact hE.kind
  have hx' : env.kindOf x = some .globalImplicit := by unfold Env.kindOf; rw [hE.scope]; exact hx
  refine Name_function_global hk hx' ?_ hd
  rcases g with g | ⟨g1, g2, g3⟩
  · exact loadGlobal_global (by rw [hE.glob]; exact G.g.keeps hB) g h
  · exact loadGlobal_builtin (by rw [hE.glob]; exact G.g.keeps hB) g1 (by rw [hE.bi]; exact G.b.keeps hB) ((G.bb x g3).trans g2) h

theorem St.baseUp {B Kp env names m V Fp h} (S : St B Kp env names m V Fp h) : Up B h := fun a o e => S.keep a o (S.base a o e)

inductive Callee : Value → Prop
  | bi (id : String) : Callee (.builtin id)
  | ty (T : String) : Callee (.type T)

/-- a call of a built-in function or type by its name, with at least one argument -/
theorem ev_callB {x : Str} {p pos : Pos} {e₁ : Expr} {es : List Expr} {ds : List PyData} {f : Value} {ma : Md} (G : C.Good) (g : GlobIs C x f) (hf : Callee f) (hx : sc.names.lookup x = some .globalImplicit)
    (hargs : EvsOK C sc names n m (e₁ :: es) ds ma)
    (hop : ∀ (A : Around) (E : Value → Shared → Prop) (s s₁ : Shared) (Kp : Addr → Option Obj) (Fp : Nat → List Addr) (vs : List Value) (as : List Addr), Room A n → Up s₁.heap s.heap → RdL s.heap vs ds as →
      wpAny C.M A (call f vs) (fun v s' => Ext s s' ∧ Res Kp s₁.heap m Fp s'.heap v d md) E s)
    (hd : (x == ("__debug__" : Str)) = false := by decide) (he : ∀ env, starEach (e₁ :: es) env = (false, eval e₁ env) :: starEach es env := by intro _; rfl)
    (hplain : ∀ env pos, (backTo pos (starEach es env)).any (·.1) = false := by intro _ _; rfl) : EvOK C sc names n m (.Call (.Name x p) (e₁ :: es) [] pos) d md := by
  intro A E s env Kp V Fp hR hE S
  refine Call_ (ld_glob G g hE S.baseUp hx ?_ hd)
  have fin : wpAny C.M A (spliced (backTo pos (starEach (e₁ :: es) env))) (fun vs s₁ => wpAny C.M A (call f vs) (fun v s' => Ext s s' ∧ Res Kp s.heap m Fp s'.heap v d md) E s₁) E s :=
    wpAny_mono (hargs A E s env Kp V Fp pos hR hE S) (fun vs s₁ h₁ => by
      obtain ⟨x1, as, r, _⟩ := h₁
      exact wpAny_mono (hop A E s₁ s Kp Fp vs as hR x1.up r) (fun v s₂ h₂ => ⟨x1.trans h₂.1, h₂.2⟩) fun _ _ h => h) fun _ _ h => h
  cases hf with
  | bi id => exact callWith_builtin1 fin (he env) (hplain env pos)
  | ty T => exact callWith_type1 fin (he env) (hplain env pos)

theorem call_len {A : Around} {E : Value → Shared → Prop} {s s₁ : Shared} {Kp : Addr → Option Obj} {Fp : Nat → List Addr} {vs : List Value} {as : List Addr} {xs : List PyData} (hsz : xs.length ≤ 1000) (r : RdL s.heap vs [.list xs] as) :
    wpAny C.M A (call (.builtin "len") vs) (fun v s' => Ext s s' ∧ Res Kp s₁.heap m Fp s'.heap v (.int xs.length) md) E s := by
  cases r with
  | cons r1 r2 =>
    cases r2
    obtain ⟨a, ws, k, bs, rfl, ha, q, _⟩ := r1.list_inv
    have hl : ws.size = xs.length := by simpa using q.length
    refine call_len_list (isList_lst ha) (by lia) ⟨.tok _ _, Res.ofAtom ⟨[], ?_, trivial⟩ rfl⟩
    rw [hl]; exact .int _ _
theorem ev_len {x : Str} {p pos : Pos} {e₁ : Expr} {xs : List PyData} {ma : Md} (G : C.Good) (g : GlobIs C x (.builtin "len")) (hx : sc.names.lookup x = some .globalImplicit)
    (h : EvOK C sc names n m e₁ (.list xs) ma) (hsz : xs.length ≤ 1000) (hd : (x == ("__debug__" : Str)) = false := by decide) (he : ∀ env, starEach [e₁] env = [(false, eval e₁ env)] := by intro _; rfl) :
    EvOK C sc names n m (.Call (.Name x p) [e₁] [] pos) (.int xs.length) md :=
  ev_callB G g (.bi _) hx (evs_cons h.any evs_nil he) (fun A E s s₁ Kp Fp vs as hR u r => call_len hsz r) hd he (fun _ _ => rfl)

theorem ev_intc {x : Str} {p pos : Pos} {e₁ : Expr} {i : Int} {ma : Md} (G : C.Good) (g : GlobIs C x (.type "int")) (hx : sc.names.lookup x = some .globalImplicit)
    (h : EvOK C sc names n m e₁ (.int i) ma) (hd : (x == ("__debug__" : Str)) = false := by decide) (he : ∀ env, starEach [e₁] env = [(false, eval e₁ env)] := by intro _; rfl) :
    EvOK C sc names n m (.Call (.Name x p) [e₁] [] pos) (.int i) md :=
  ev_callB G g (.ty _) hx (evs_cons h.any evs_nil he) (fun A E s s₁ Kp Fp vs as hR u r => by
    cases r with
    | cons r1 r2 =>
      cases r2
      obtain ⟨t, rfl, _⟩ := r1.int_inv
      exact call_int_int ⟨.refl _, Res.ofAtom ⟨[], .int _ _, trivial⟩ rfl⟩) hd he (fun _ _ => rfl)

theorem intItems_of {vs : Array Value} {ns : List Int} (h : IntsAre vs.toList ns) : ∃ xs, vs = intItems xs ∧ ns = xs.toList.map (·.1) := by
  obtain ⟨xs, e⟩ := h.allInts.items
  refine ⟨xs, by simpa using e, ?_⟩
  rw [← h.numsOf, ← nums_intItems, ← e]

theorem ev_sum {x : Str} {p pos : Pos} {e₁ : Expr} {ns : List Int} {ma : Md} (G : C.Good) (g : GlobIs C x (.builtin "sum")) (hx : sc.names.lookup x = some .globalImplicit)
    (h : EvOK C sc names n m e₁ (zl ns) ma) (hd : (x == ("__debug__" : Str)) = false := by decide) (he : ∀ env, starEach [e₁] env = [(false, eval e₁ env)] := by intro _; rfl) :
    EvOK C sc names n m (.Call (.Name x p) [e₁] [] pos) (.int ns.sum) md :=
  ev_callB G g (.bi _) hx (evs_cons h.any evs_nil he) (fun A E s s₁ Kp Fp vs as hR u r => by
    cases r with
    | cons r1 r2 =>
      cases r2
      obtain ⟨a, ws, k, rfl, ha, q, _⟩ := r1.ints_inv
      obtain ⟨xs, rfl, rfl⟩ := intItems_of q
      refine sum_intListG hR.hh (isList_lst ha) fun h' tk t' hk => ?_
      refine ⟨.of hk, Res.ofAtom ⟨[], ?_, trivial⟩ rfl⟩
      rw [preSum_eq, List.take_of_length_le (by simp)]
      exact .int _ _) hd he (fun _ _ => rfl)

theorem ev_min {x : Str} {p pos : Pos} {e₁ : Expr} {ns : List Int} {b : Int} {ma : Md} (G : C.Good) (g : GlobIs C x (.builtin "min")) (hx : sc.names.lookup x = some .globalImplicit)
    (h : EvOK C sc names n m e₁ (zl ns) ma) (hb : b ∈ ns) (hle : ∀ a ∈ ns, b ≤ a) (hd : (x == ("__debug__" : Str)) = false := by decide) (he : ∀ env, starEach [e₁] env = [(false, eval e₁ env)] := by intro _; rfl) :
    EvOK C sc names n m (.Call (.Name x p) [e₁] [] pos) (.int b) md :=
  ev_callB G g (.bi _) hx (evs_cons h.any evs_nil he) (fun A E s s₁ Kp Fp vs as hR u r => by
    cases r with
    | cons r1 r2 =>
      cases r2
      obtain ⟨a, ws, k, rfl, ha, q, _⟩ := r1.ints_inv
      obtain ⟨xs, rfl, rfl⟩ := intItems_of q
      have hsz : 0 < xs.size := by
        have := List.length_pos_of_mem hb
        simpa using this
      refine min_intList hR.hh (isList_lst ha) hsz fun v h' tk hv hk => ?_
      obtain ⟨t, rfl⟩ := intItems_at hv
      obtain ⟨h1, h2⟩ := argBest_lt (numAt xs) (xs.size - 1)
      have hm : numAt xs (argBest (fun i j => decide (numAt xs i < numAt xs j)) (xs.size - 1)) ∈ xs.toList.map (·.1) := by
        rw [numAt_eq]; exact getD_mem (by rw [List.length_map, Array.length_toList]; lia)
      have hl : ∀ a ∈ xs.toList.map (·.1), numAt xs (argBest (fun i j => decide (numAt xs i < numAt xs j)) (xs.size - 1)) ≤ a := fun a ha => by
        obtain ⟨j, hj, rfl⟩ := mem_getD ha
        rw [List.length_map, Array.length_toList] at hj
        rw [← numAt_eq]; exact h2 j (by lia)
      have e : numAt xs (argBest (fun i j => decide (numAt xs i < numAt xs j)) (xs.size - 1)) = b := Int.le_antisymm (hl b hb) (hle _ hm)
      rw [e]
      exact ⟨.of hk, Res.ofAtom ⟨[], .int _ _, trivial⟩ rfl⟩) hd he (fun _ _ => rfl)
theorem ev_max {x : Str} {p pos : Pos} {e₁ : Expr} {ns : List Int} {b : Int} {ma : Md} (G : C.Good) (g : GlobIs C x (.builtin "max")) (hx : sc.names.lookup x = some .globalImplicit)
    (h : EvOK C sc names n m e₁ (zl ns) ma) (hb : b ∈ ns) (hle : ∀ a ∈ ns, a ≤ b) (hd : (x == ("__debug__" : Str)) = false := by decide) (he : ∀ env, starEach [e₁] env = [(false, eval e₁ env)] := by intro _; rfl) :
    EvOK C sc names n m (.Call (.Name x p) [e₁] [] pos) (.int b) md :=
  ev_callB G g (.bi _) hx (evs_cons h.any evs_nil he) (fun A E s s₁ Kp Fp vs as hR u r => by
    cases r with
    | cons r1 r2 =>
      cases r2
      obtain ⟨a, ws, k, rfl, ha, q, _⟩ := r1.ints_inv
      obtain ⟨xs, rfl, rfl⟩ := intItems_of q
      have hsz : 0 < xs.size := by
        have := List.length_pos_of_mem hb
        simpa using this
      refine max_intList hR.hh (isList_lst ha) hsz fun v h' tk hv hk => ?_
      obtain ⟨t, rfl⟩ := intItems_at hv
      obtain ⟨h1, h2⟩ := argBest_gt (numAt xs) (xs.size - 1)
      have hm : numAt xs (argBest (fun i j => decide (numAt xs i > numAt xs j)) (xs.size - 1)) ∈ xs.toList.map (·.1) := by
        rw [numAt_eq]; exact getD_mem (by rw [List.length_map, Array.length_toList]; lia)
      have hl : ∀ a ∈ xs.toList.map (·.1), a ≤ numAt xs (argBest (fun i j => decide (numAt xs i > numAt xs j)) (xs.size - 1)) := fun a ha => by
        obtain ⟨j, hj, rfl⟩ := mem_getD ha
        rw [List.length_map, Array.length_toList] at hj
        rw [← numAt_eq]; exact h2 j (by lia)
      have e : numAt xs (argBest (fun i j => decide (numAt xs i > numAt xs j)) (xs.size - 1)) = b := Int.le_antisymm (hle _ hm) (hl b hb)
      rw [e]
      exact ⟨.of hk, Res.ofAtom ⟨[], .int _ _, trivial⟩ rfl⟩) hd he (fun _ _ => rfl)
end
end Mine
end

/-! text MD -/
section
open PySem PySem.Spec PySem.Calls PyProof.Rows
set_option linter.unusedVariables false
namespace Mine

theorem ns_not_seq {h : Heap} {L : Addr} {mL : Str → Option Value} (hn : h.Ns L mL) (q : SeqAt h L) : False := by
  obtain ⟨o, es, ep, ho, hd, _⟩ := hn
  obtain ⟨o', vs, n, ho', hd'⟩ := q
  rw [ho] at ho'; cases ho'
  rw [hd] at hd'; cases hd'
theorem cell_not_seq {h : Heap} {c : Addr} {v : Option Value} (hc : h.IsCell c v) (q : SeqAt h c) : False := by
  obtain ⟨o, ho, hd⟩ := hc
  obtain ⟨o', vs, n, ho', hd'⟩ := q
  rw [ho] at ho'; cases ho'
  rw [hd] at hd'; cases hd'
theorem ns_not_cell {h : Heap} {L : Addr} {mL : Str → Option Value} {v : Option Value} (hn : h.Ns L mL) (hc : h.IsCell L v) : False := by
  obtain ⟨o, es, ep, ho, hd, _⟩ := hn
  obtain ⟨o', ho', hd'⟩ := hc
  rw [ho] at ho'; cases ho'
  rw [hd] at hd'; cases hd'

section
variable {B : Heap} {Kp : Addr → Option Obj} {env : Env} {names : List Str} {m : MM} {V : Nat → Value} {Fp : Nat → List Addr} {h h' : Heap}

theorem St.priv_not_seq (S : St B Kp env names m V Fp h) {a : Addr} (p : Priv env a) (q : SeqAt h a) : False := by
  rcases p with rfl | ⟨x, hx, hl⟩
  · obtain ⟨mL, hn⟩ := S.ns; exact ns_not_seq hn q
  · obtain ⟨c, v, hl', hc⟩ := S.cell x hx
    rw [hl] at hl'; cases hl'
    exact cell_not_seq hc q

/-- the slot's part of an update -/
def up1 {α : Type} (f : Nat → α) (k : Nat) (x : α) : Nat → α := fun j => if j = k then x else f j
theorem up1_same {α : Type} (f : Nat → α) (k : Nat) (x : α) : up1 f k x k = x := if_pos rfl
theorem up1_other {α : Type} (f : Nat → α) {k j : Nat} (x : α) (h : j ≠ k) : up1 f k x j = f j := if_neg h

theorem set_at {m : MM} {k j : Nat} {e : Option Ent} {r : Ent} (h : (m.set k e)[j]? = some (some r)) : (j = k ∧ e = some r) ∨ (j ≠ k ∧ m[j]? = some (some r)) := by
  rw [List.getElem?_set] at h
  by_cases hj : k = j
  · subst hj
    rw [if_pos rfl] at h
    split at h
    · exact .inl ⟨rfl, Option.some.inj h⟩
    · cases h
  · rw [if_neg hj] at h
    exact .inr ⟨Ne.symm hj, h⟩

/-- a slot gets another value, by a change of private places alone -/
theorem St.put (S : St B Kp env names m V Fp h) {k : Nat} {x : Str} {v : Value} {d : PyData} {o : Bool} {as : List Addr} {p : Addr} (hk : names[k]? = some x) (hu : ∀ j, names[j]? = some x → j = k)
    (hp : Priv env p) (hs : ∀ b ob, b ≠ p → h.get? b = some ob → h'.get? b = some ob) (hns : ∃ mL, h'.Ns env.locals mL) (hcell : ∀ c w, Priv env c → h.IsCell c w → ∃ w', h'.IsCell c w')
    (hload : Loads env h' x v) (hother : ∀ y w, y ≠ x → Loads env h y w → Loads env h' y w)
    (r : Rd h v d as) (hsh : ∀ j d', j ≠ k → m[j]? = some (some (d', true)) → ∀ a ∈ as, a ∉ Fp j)
    (ho : o = true → as.Nodup ∧ (∀ a ∈ as, Kp a = none) ∧ ∀ j e, j ≠ k → m[j]? = some (some e) → ∀ a ∈ as, a ∉ Fp j) :
    St B Kp env names (m.set k (some (d, o))) (up1 V k v) (up1 Fp k as) h' where
  base := S.base
  keep := fun a ob e => hs a ob (by
    rintro rfl
    rcases hp with rfl | ⟨y, hy, hl⟩
    · rw [S.nsNew] at e; cases e
    · rw [S.cellNew y _ hy hl] at e; cases e) (S.keep a ob e)
  ns := hns
  nsNew := S.nsNew
  cell := fun y hy => by
    obtain ⟨c, w, hl, hc⟩ := S.cell y hy
    obtain ⟨w', hc'⟩ := hcell c w (.inr ⟨y, hy, hl⟩) hc
    exact ⟨c, w', hl, hc'⟩
  cellNew := S.cellNew
  apart := S.apart
  loads := fun j y e hy hm => by
    rcases set_at hm with ⟨rfl, _⟩ | ⟨hj, hm'⟩
    · rw [hk] at hy; cases hy
      rw [up1_same]; exact hload
    · rw [up1_other _ _ hj]
      refine hother y _ ?_ (S.loads j y e hy hm')
      rintro rfl; exact hj (hu j hy)
  reads := fun j e hm => by
    have keepR : ∀ {v d as}, Rd h v d as → Rd h' v d as := fun r => r.but fun a ha ob e => hs a ob (by rintro rfl; exact S.priv_not_seq hp (r.live _ ha)) e
    rcases set_at hm with ⟨rfl, he⟩ | ⟨hj, hm'⟩
    · cases he
      rw [up1_same, up1_same]; exact keepR r
    · rw [up1_other _ _ hj, up1_other _ _ hj]; exact keepR (S.reads j e hm')
  own := fun j d' hm => by
    rcases set_at hm with ⟨rfl, he⟩ | ⟨hj, hm'⟩
    · cases he
      rw [up1_same]
      obtain ⟨o1, o2, o3⟩ := ho rfl
      refine ⟨o1, o2, fun i e hi hm'' => ?_⟩
      rcases set_at hm'' with ⟨rfl, _⟩ | ⟨hi', hmi⟩
      · exact absurd rfl hi
      · rw [up1_other _ _ hi']; exact o3 i e hi' hmi
    · rw [up1_other _ _ hj]
      obtain ⟨o1, o2, o3⟩ := S.own j d' hm'
      refine ⟨o1, o2, fun i e hi hm'' => ?_⟩
      rcases set_at hm'' with ⟨rfl, he⟩ | ⟨hi', hmi⟩
      · rw [up1_same]; exact fun a ha hb => hsh j d' hj hm' a hb ha
      · rw [up1_other _ _ hi']; exact o3 i e hi hmi

/-- the place of a name -/
def PlaceOf (env : Env) (x : Str) (b : Addr) : Prop := (env.kindOf x = some .local ∧ b = env.locals) ∨ (env.kindOf x = some .cell ∧ env.cells.lookup x = some b)
theorem PlaceOf.priv {env : Env} {x : Str} {b : Addr} (p : PlaceOf env x b) : Priv env b := by
  rcases p with ⟨_, h⟩ | ⟨h1, h2⟩
  · exact .inl h
  · exact .inr ⟨x, h1, h2⟩
/-- a name is stored -/
theorem store_name {C : Cx} {A : Around} {E : Value → Shared → Prop} {s : Shared} {Q : Unit → Shared → Prop} {k : Nat} {x : Str} {v : Value} {d : PyData} {o : Bool} {as : List Addr}
    (S : St B Kp env names m V Fp s.heap) (hkind : env.scope.kind = .function) (hk : names[k]? = some x) (hu : ∀ j, names[j]? = some x → j = k) (hx : env.kindOf x = some .local ∨ env.kindOf x = some .cell)
    (r : Rd s.heap v d as) (hsh : ∀ j d', j ≠ k → m[j]? = some (some (d', true)) → ∀ a ∈ as, a ∉ Fp j)
    (ho : o = true → as.Nodup ∧ (∀ a ∈ as, Kp a = none) ∧ ∀ j e, j ≠ k → m[j]? = some (some e) → ∀ a ∈ as, a ∉ Fp j)
    (h : ∀ s', Sh s s' → (∀ b ob, ¬ PlaceOf env x b → s.heap.get? b = some ob → s'.heap.get? b = some ob) → St B Kp env names (m.set k (some (d, o))) (up1 V k v) (up1 Fp k as) s'.heap → Q () s') : wpAny C.M A (storeName env x v) Q E s := by
  obtain ⟨mL, hn⟩ := S.ns
  rcases hx with hx | hx
  · refine wpAny_storeName_local hx hn (fun h₁ hn₁ hs₁ => ?_) (by rw [hkind]; rfl)
    refine h _ ⟨h₁, _, s.gens, rfl, id⟩ (fun b ob hb e => hs₁.extBut b ob (fun q => hb (.inl ⟨hx, q⟩)) e) ?_
    refine S.put hk hu (.inl rfl) (fun b ob hb e => hs₁.extBut b ob hb e) ⟨_, hn₁⟩ (fun c w hc hw => ⟨w, hw.sameBut hs₁ (by rintro rfl; exact ns_not_cell hn hw)⟩) (.inl ⟨hx, _, hn₁, by simp⟩) (fun y w hy l => ?_) r hsh ho
    rcases l with ⟨a, m', b, c⟩ | ⟨a, c, b, d⟩
    · refine .inl ⟨a, _, hn₁, ?_⟩
      rw [if_neg hy]
      have : m' y = mL y := by
        obtain ⟨o1, e1, p1, g1, d1, k1, f1⟩ := b
        obtain ⟨o2, e2, p2, g2, d2, k2, f2⟩ := hn
        rw [g1] at g2; cases g2
        rw [d1] at d2; cases d2
        rw [← f1 y, ← f2 y]
      rw [← this]; exact c
    · exact .inr ⟨a, c, b, d.sameBut hs₁ (by rintro rfl; exact ns_not_cell hn d)⟩
  · obtain ⟨c, w, hl, hc⟩ := S.cell x hx
    refine wpAny_storeName_cell hkind hx hl hc fun h₁ hc₁ hs₁ => ?_
    have hcL : c ≠ env.locals := by rintro rfl; exact ns_not_cell hn hc
    refine h _ ⟨h₁, _, s.gens, rfl, id⟩ (fun b ob hb e => hs₁.extBut b ob (fun q => hb (.inr ⟨hx, q ▸ hl⟩)) e) ?_
    refine S.put hk hu (.inr ⟨x, hx, hl⟩) (fun b ob hb e => hs₁.extBut b ob hb e) ⟨_, hn.sameBut hs₁ (Ne.symm hcL)⟩ (fun c' w' hc' hw' => ?_) (.inr ⟨.inl hx, c, hl, hc₁⟩) (fun y w hy l => ?_) r hsh ho
    · by_cases e : c' = c
      · subst e; exact ⟨_, hc₁⟩
      · exact ⟨w', hw'.sameBut hs₁ e⟩
    · rcases l with ⟨a, m', b, d⟩ | ⟨a, c', b, d⟩
      · exact .inl ⟨a, m', b.sameBut hs₁ (Ne.symm hcL), d⟩
      · refine .inr ⟨a, c', b, d.sameBut hs₁ ?_⟩
        rintro rfl; exact hy (S.apart y x _ b hl)

/-- an owned list is changed in place -/
theorem St.change (S : St B Kp env names m V Fp h) {k : Nat} {d d' : PyData} {as : List Addr} (hk : m[k]? = some (some (d, true)))
    (hs : ∀ b ob, b ∉ Fp k → h.get? b = some ob → h'.get? b = some ob) (r : Rd h' (V k) d' as) (hnd : as.Nodup) (hnew : ∀ a ∈ as, Kp a = none ∧ ∀ j e, j ≠ k → m[j]? = some (some e) → a ∉ Fp j) :
    St B Kp env names (m.set k (some (d', true))) V (up1 Fp k as) h' := by
  obtain ⟨o1, o2, o3⟩ := S.own k d hk
  have hlive := (S.reads k _ hk).live
  have hpriv : ∀ p, Priv env p → p ∉ Fp k := fun p hp hm => S.priv_not_seq hp (hlive p hm)
  refine ⟨S.base, fun a ob e => hs a ob (fun hm => by rw [o2 a hm] at e; cases e) (S.keep a ob e), ?_, S.nsNew, ?_, S.cellNew, S.apart, ?_, ?_, ?_⟩
  · obtain ⟨mL, hn⟩ := S.ns
    exact ⟨mL, hn.at' fun o e => hs _ o (hpriv _ (.inl rfl)) e⟩
  · intro x hx
    obtain ⟨c, v, hl, o, ho, hd⟩ := S.cell x hx
    exact ⟨c, v, hl, o, hs c o (hpriv c (.inr ⟨x, hx, hl⟩)) ho, hd⟩
  · intro j y e hy hm
    have : ∃ e', m[j]? = some (some e') := by
      rcases set_at hm with ⟨rfl, _⟩ | ⟨_, hm'⟩
      · exact ⟨_, hk⟩
      · exact ⟨_, hm'⟩
    obtain ⟨e', hm'⟩ := this
    rcases S.loads j y e' hy hm' with ⟨a, mL, b, c⟩ | ⟨a, c, b, d⟩
    · exact .inl ⟨a, mL, b.at' fun o e => hs _ o (hpriv _ (.inl rfl)) e, c⟩
    · refine .inr ⟨a, c, b, ?_⟩
      obtain ⟨o, ho, hd⟩ := d
      exact ⟨o, hs c o (fun hm => cell_not_seq ⟨o, ho, hd⟩ (hlive c hm)) ho, hd⟩
  · intro j e hm
    rcases set_at hm with ⟨rfl, he⟩ | ⟨hj, hm'⟩
    · cases he; rw [up1_same]; exact r
    · rw [up1_other _ _ hj]
      exact (S.reads j e hm').but fun a ha o e' => hs a o (fun hm => o3 j e hj hm' a hm ha) e'
  · intro j d'' hm
    rcases set_at hm with ⟨rfl, he⟩ | ⟨hj, hm'⟩
    · cases he
      rw [up1_same]
      refine ⟨hnd, fun a ha => (hnew a ha).1, fun i e hi hm'' => ?_⟩
      rcases set_at hm'' with ⟨rfl, _⟩ | ⟨hi', hmi⟩
      · exact absurd rfl hi
      · rw [up1_other _ _ hi']; exact fun a ha => (hnew a ha).2 i e hi' hmi
    · rw [up1_other _ _ hj]
      obtain ⟨p1, p2, p3⟩ := S.own j d'' hm'
      refine ⟨p1, p2, fun i e hi hm'' => ?_⟩
      rcases set_at hm'' with ⟨rfl, he⟩ | ⟨hi', hmi⟩
      · rw [up1_same]; exact fun a ha hb => (hnew a hb).2 j _ hj hm' ha
      · rw [up1_other _ _ hi']; exact p3 i e hi hmi

/-- less is known -/
def Weak (m m' : MM) : Prop := ∀ (k : Nat) d o, m'[k]? = some (some (d, o)) → ∃ o', m[k]? = some (some (d, o')) ∧ (o = true → o' = true)
theorem Weak.refl (m : MM) : Weak m m := fun k d o e => ⟨o, e, id⟩
theorem St.weak (S : St B Kp env names m V Fp h) {m' : MM} (w : Weak m m') : St B Kp env names m' V Fp h where
  base := S.base
  keep := S.keep
  ns := S.ns
  nsNew := S.nsNew
  cell := S.cell
  cellNew := S.cellNew
  apart := S.apart
  loads := fun k x e hx hm => let ⟨o', h1, _⟩ := w k e.1 e.2 hm; S.loads k x _ hx h1
  reads := fun k e hm => let ⟨o', h1, _⟩ := w k e.1 e.2 hm; (S.reads k (e.1, o') h1 :)
  own := fun k d hm => by
    obtain ⟨o', h1, h2⟩ := w k d true hm
    have := h2 rfl; subst this
    obtain ⟨a, b, c⟩ := S.own k d h1
    exact ⟨a, b, fun j e hj hm' => let ⟨o'', h3, _⟩ := w j e.1 e.2 hm'; c j _ hj h3⟩
theorem St.less (S : St B Kp env names m V Fp h) {Kp' : Addr → Option Obj} (hb : ∀ a o, B.get? a = some o → Kp' a = some o) (hk : ∀ a o, Kp' a = some o → Kp a = some o) : St B Kp' env names m V Fp h where
  base := hb
  keep := fun a o e => S.keep a o (hk a o e)
  ns := S.ns
  nsNew := by
    cases e : Kp' env.locals with
    | none => rfl
    | some o => have := hk _ _ e; rw [S.nsNew] at this; cases this
  cell := S.cell
  cellNew := fun x c h1 h2 => by
    cases e : Kp' c with
    | none => rfl
    | some o => have := hk _ _ e; rw [S.cellNew x c h1 h2] at this; cases this
  apart := S.apart
  loads := S.loads
  reads := S.reads
  own := fun k d hm => by
    obtain ⟨a, b, c⟩ := S.own k d hm
    refine ⟨a, fun x hx => ?_, c⟩
    cases e : Kp' x with
    | none => rfl
    | some o => have := hk _ _ e; rw [b x hx] at this; cases this

/-- what the frame may change -/
def Wr (env : Env) (m : MM) (Fp : Nat → List Addr) (a : Addr) : Prop := Priv env a ∨ ∃ k d, m[k]? = some (some (d, true)) ∧ a ∈ Fp k
open Classical in
/-- all the rest is to stay; the iterator's places as they are now -/
noncomputable def froz (env : Env) (m : MM) (Fp : Nat → List Addr) (h₁ : Heap) (wr : List Addr) (h : Heap) (a : Addr) : Option Obj :=
  if a ∈ wr then h.get? a else if Wr env m Fp a then none else h₁.get? a

theorem froz_in {env m Fp h₁ wr h a} (hw : a ∈ wr) : froz env m Fp h₁ wr h a = h.get? a := if_pos hw
theorem froz_wr {env m Fp h₁ wr h a} (hw : a ∉ wr) (hx : Wr env m Fp a) : froz env m Fp h₁ wr h a = none := by unfold froz; rw [if_neg hw, if_pos hx]
theorem froz_out {env m Fp h₁ wr h a} (hw : a ∉ wr) (hx : ¬ Wr env m Fp a) : froz env m Fp h₁ wr h a = h₁.get? a := by unfold froz; rw [if_neg hw, if_neg hx]

theorem St.wr_kp (S : St B Kp env names m V Fp h) {a : Addr} {o : Obj} (e : Kp a = some o) : ¬ Wr env m Fp a := by
  rintro ((rfl | ⟨x, h1, h2⟩) | ⟨k, d, h1, h2⟩)
  · rw [S.nsNew] at e; cases e
  · rw [S.cellNew x a h1 h2] at e; cases e
  · rw [(S.own k d h1).2.1 a h2] at e; cases e
theorem St.wr_live (S : St B Kp env names m V Fp h) {a : Addr} (w : Wr env m Fp a) : ∃ o, h.get? a = some o := by
  rcases w with (rfl | ⟨x, h1, h2⟩) | ⟨k, d, h1, h2⟩
  · obtain ⟨mL, o, _, _, e, _⟩ := S.ns; exact ⟨o, e⟩
  · obtain ⟨c, v, hl, o, e, _⟩ := S.cell x h1
    rw [h2] at hl; cases hl; exact ⟨o, e⟩
  · obtain ⟨o, _, _, e, _⟩ := (S.reads k _ h1).live a h2
    exact ⟨o, e⟩

theorem St.freeze (S : St B Kp env names m V Fp h) {wr : List Addr} (hwr : ∀ a ∈ wr, ¬ Wr env m Fp a) (hB : ∀ a ∈ wr, B.get? a = none) : St B (froz env m Fp h wr h) env names m V Fp h where
  base := fun a o e => by
    have hw : a ∉ wr := fun hw => by rw [hB a hw] at e; cases e
    have hk := S.base a o e
    rw [froz_out hw (S.wr_kp hk)]
    exact S.keep a o hk
  keep := fun a o e => by
    by_cases hw : a ∈ wr
    · rw [froz_in hw] at e; exact e
    · by_cases hx : Wr env m Fp a
      · rw [froz_wr hw hx] at e; cases e
      · rw [froz_out hw hx] at e; exact e
  ns := S.ns
  nsNew := froz_wr (fun hw => hwr _ hw (.inl (.inl rfl))) (.inl (.inl rfl))
  cell := S.cell
  cellNew := fun x c h1 h2 => froz_wr (fun hw => hwr _ hw (.inl (.inr ⟨x, h1, h2⟩))) (.inl (.inr ⟨x, h1, h2⟩))
  apart := S.apart
  loads := S.loads
  reads := S.reads
  own := fun k d hm => by
    obtain ⟨a, b, c⟩ := S.own k d hm
    exact ⟨a, fun x hx => froz_wr (fun hw => hwr _ hw (.inr ⟨k, d, hm, hx⟩)) (.inr ⟨k, d, hm, hx⟩), c⟩

/-- the iterator goes on by a step -/
theorem St.walked {m₀ : MM} {Fp₀ : Nat → List Addr} {h₁ : Heap} {wr : List Addr} (S : St B (froz env m₀ Fp₀ h₁ wr h) env names m V Fp h) (hk : ∀ b o, b ∉ wr → h.get? b = some o → h'.get? b = some o)
    (hav : ∀ k d, m[k]? = some (some (d, false)) → ∀ a ∈ Fp k, a ∉ wr) (hB : ∀ a ∈ wr, B.get? a = none) (hwc : ∀ a ∈ wr, ∀ v, ¬ h.IsCell a v) :
    St B (froz env m₀ Fp₀ h₁ wr h') env names m V Fp h' := by
  have out : ∀ {a o}, h.get? a = some o → froz env m₀ Fp₀ h₁ wr h a = none → a ∉ wr := fun e f hw => by
    rw [froz_in hw, e] at f; cases f
  have none' : ∀ {a o}, h.get? a = some o → froz env m₀ Fp₀ h₁ wr h a = none → froz env m₀ Fp₀ h₁ wr h' a = none := fun {a o} e f => by
    have hw := out e f
    by_cases hx : Wr env m₀ Fp₀ a
    · exact froz_wr hw hx
    · rw [froz_out hw hx] at f ⊢; exact f
  obtain ⟨mL, hn⟩ := S.ns
  obtain ⟨oL, esL, epL, eL, rL⟩ := id hn
  have hL : env.locals ∉ wr := out eL S.nsNew
  have hav' : ∀ k e, m[k]? = some (some e) → ∀ a ∈ Fp k, a ∉ wr := fun k e hm a ha => by
    obtain ⟨d, o⟩ := e
    cases o with
    | false => exact hav k d hm a ha
    | true =>
      obtain ⟨o, vs, n, e1, _⟩ := (S.reads k _ hm).live a ha
      exact out e1 ((S.own k d hm).2.1 a ha)
  have cellOut : ∀ x c v, env.kindOf x = some .cell → env.cells.lookup x = some c → h.IsCell c v → c ∉ wr := fun x c v h1 h2 h3 => by
    obtain ⟨o, e, _⟩ := h3
    exact out e (S.cellNew x c h1 h2)
  refine ⟨fun a o e => ?_, fun a o e => ?_, ⟨mL, hn.at' fun o e => hk _ o hL e⟩, none' eL S.nsNew, fun x hx => ?_, fun x c h1 h2 => ?_, S.apart, fun k x e hx hm => ?_, fun k e hm => ?_, fun k d hm => ?_⟩
  · have hw : a ∉ wr := fun hw => by rw [hB a hw] at e; cases e
    have hf := S.base a o e
    by_cases hx : Wr env m₀ Fp₀ a
    · rw [froz_wr hw hx] at hf; cases hf
    · rw [froz_out hw hx] at hf ⊢; exact hf
  · by_cases hw : a ∈ wr
    · rw [froz_in hw] at e; exact e
    · by_cases hx : Wr env m₀ Fp₀ a
      · rw [froz_wr hw hx] at e; cases e
      · refine hk a o hw (S.keep a o ?_)
        rw [froz_out hw hx] at e ⊢; exact e
  · obtain ⟨c, v, hl, hc⟩ := S.cell x hx
    obtain ⟨o, ho, hd⟩ := id hc
    exact ⟨c, v, hl, o, hk c o (cellOut x c v hx hl hc) ho, hd⟩
  · obtain ⟨c', v, hl, hc⟩ := S.cell x h1
    rw [h2] at hl; cases hl
    obtain ⟨o, ho, hd⟩ := id hc
    exact none' ho (S.cellNew x c h1 h2)
  · rcases S.loads k x e hx hm with ⟨a, m', b, c⟩ | ⟨a, c, b, d⟩
    · exact .inl ⟨a, m', b.at' fun o e => hk _ o hL e, c⟩
    · obtain ⟨o, ho, hd⟩ := id d
      exact .inr ⟨a, c, b, o, hk c o (fun hw => hwc c hw _ d) ho, hd⟩
  · exact (S.reads k e hm).but fun a ha o e' => hk a o (hav' k e hm a ha) e'
  · obtain ⟨p1, p2, p3⟩ := S.own k d hm
    refine ⟨p1, fun a ha => ?_, p3⟩
    obtain ⟨o, vs, n, e1, _⟩ := (S.reads k _ hm).live a ha
    exact none' e1 (p2 a ha)
end
end Mine
end

/-! text ME -/
section
open PySem PySem.Spec PySem.Calls PyProof.Rows
set_option linter.unusedVariables false
namespace Mine

/-- an iterator's own place -/
def WrOk (h : Heap) (b : Addr) : Prop := ∃ o, h.get? b = some o ∧ ((∃ vs, o.data = .fields vs) ∨ ∃ vs n, o.data = .seq vs n)
theorem WrOk.not_cell {h : Heap} {b : Addr} (w : WrOk h b) (v : Option Value) : ¬ h.IsCell b v := fun ⟨o', e', d'⟩ => by
  obtain ⟨o, e, d⟩ := w
  rw [e] at e'; cases e'
  rcases d with ⟨vs, d⟩ | ⟨vs, n, d⟩ <;> (rw [d] at d'; cases d')
theorem WrOk.not_ns {h : Heap} {b : Addr} (w : WrOk h b) (m : Str → Option Value) : ¬ h.Ns b m := fun ⟨o', es, ep, e', d', _⟩ => by
  obtain ⟨o, e, d⟩ := w
  rw [e] at e'; cases e'
  rcases d with ⟨vs, d⟩ | ⟨vs, n, d⟩ <;> (rw [d] at d'; cases d')
def FieldsAt (h : Heap) (b : Addr) : Prop := ∃ o vs, h.get? b = some o ∧ o.data = .fields vs
theorem FieldsAt.wrOk {h : Heap} {b : Addr} (f : FieldsAt h b) : WrOk h b := let ⟨o, vs, e, d⟩ := f; ⟨o, e, .inl ⟨vs, d⟩⟩
theorem FieldsAt.not_seq {h : Heap} {b : Addr} (f : FieldsAt h b) : ¬ SeqAt h b := fun ⟨o', vs, n, e', d'⟩ => by
  obtain ⟨o, ws, e, d⟩ := f
  rw [e] at e'; cases e'; rw [d] at d'; cases d'

structure StepPost (C : Cx) (env : Env) (names : List Str) (K : Heap → Addr → Option Obj) (W : Nat → Heap → Prop) (wr : List Addr) (pl : Addr → Prop) (i : Nat) (m' : MM) (s s₂ : Shared) : Prop where
  sh : Sh s s₂
  w : W (i + 1) s₂.heap
  keep : ∀ b o, b ∉ wr → ¬ pl b → s.heap.get? b = some o → s₂.heap.get? b = some o
  st : ∃ V' Fp', St C.B (K s₂.heap) env names m' V' Fp' s₂.heap
structure StopPost (C : Cx) (env : Env) (names : List Str) (K : Heap → Addr → Option Obj) (wr : List Addr) (m : MM) (V : Nat → Value) (Fp : Nat → List Addr) (s : Shared) (r : Option Value) (s₁ : Shared) : Prop where
  r : r = none
  sh : Sh s s₁
  keep : ∀ b o, b ∉ wr → s.heap.get? b = some o → s₁.heap.get? b = some o
  st : St C.B (K s₁.heap) env names m V Fp s₁.heap
/-- what is known of a source of items for the places that a frame (or a comprehension) stores -/
structure Running (C : Cx) (A : Around) (env : Env) (names : List Str) (target : Expr) (it : Value) (K : Heap → Addr → Option Obj) (W : Nat → Heap → Prop) (N : Nat) (put : Nat → MM → MM) (okm : MM → Prop)
    (wr : List Addr) (pl : Addr → Prop) : Prop where
  step : ∀ (i : Nat) (s : Shared) (m : MM) (V : Nat → Value) (Fp : Nat → List Addr) (E : Value → Shared → Prop), i < N → W i s.heap → okm m → St C.B (K s.heap) env names m V Fp s.heap →
    wpAny C.M A (pyNext it) (fun r s₁ => match r with
      | none => False
      | some v => wpAny C.M A (letOwnedTupleGo target it v) (fun _ s₁' => wpAny C.M A (assign target env v) (fun _ s₂ => StepPost C env names K W wr pl i (put i m) s s₂) E s₁') E s₁) E s
  stop : ∀ (s : Shared) (m : MM) (V : Nat → Value) (Fp : Nat → List Addr) (E : Value → Shared → Prop), W N s.heap → okm m → St C.B (K s.heap) env names m V Fp s.heap →
    wpAny C.M A (pyNext it) (StopPost C env names K wr m V Fp s) E s
  frame : ∀ (i : Nat) (h h' : Heap), W i h → (∀ a o, K h a = some o → h.get? a = some o) → (∀ a o, K h a = some o → h'.get? a = some o) → W i h' ∧ ∀ a o, K h' a = some o → K h a = some o

/-- the facts of a source -/
structure Src (C : Cx) (A : Around) (env : Env) (m₀ : MM) (Fp₀ : Nat → List Addr) (h₁ h₂ : Heap) (wr fp : List Addr) : Prop where
  up : Up h₁ h₂
  base : Up C.B h₁
  fps : ∀ b ∈ fp, (∃ o, h₂.get? b = some o) ∧ ¬ Wr env m₀ Fp₀ b
  sub : ∀ b ∈ wr, b ∈ fp
  wrNew : ∀ b ∈ wr, h₁.get? b = none

theorem Src.wrB {C A env m₀ Fp₀ h₁ h₂ wr fp} (R : Src C A env m₀ Fp₀ h₁ h₂ wr fp) : ∀ b ∈ wr, C.B.get? b = none := fun b hb => by
  cases e : C.B.get? b with
  | none => rfl
  | some o => have := R.wrNew b hb; rw [R.base b o e] at this; cases this

theorem froz_frame {C A env m₀ Fp₀ h₁ h₂ wr fp} (R : Src C A env m₀ Fp₀ h₁ h₂ wr fp) {h h' : Heap} (hw : ∀ b ∈ wr, ∃ o, h.get? b = some o) (hk : ∀ a o, froz env m₀ Fp₀ h₂ wr h a = some o → h'.get? a = some o) :
    (∀ b ∈ fp, ∀ o, froz env m₀ Fp₀ h₂ wr h b = some o → h'.get? b = some o) ∧ ∀ a o, froz env m₀ Fp₀ h₂ wr h' a = some o → froz env m₀ Fp₀ h₂ wr h a = some o := by
  refine ⟨fun b _ o e => hk b o e, fun a o e => ?_⟩
  by_cases ha : a ∈ wr
  · obtain ⟨o', e'⟩ := hw a ha
    have e1 : froz env m₀ Fp₀ h₂ wr h a = some o' := by rw [froz_in ha]; exact e'
    have := hk a o' e1
    rw [froz_in ha] at e
    rw [e1, ← e, this]
  · by_cases hx : Wr env m₀ Fp₀ a
    · rw [froz_wr ha hx] at e; cases e
    · rw [froz_out ha hx] at e ⊢; exact e

theorem uniq_of {names : List Str} (hn : names.Nodup) {k j : Nat} {x : Str} (h1 : names[k]? = some x) (h2 : names[j]? = some x) : j = k := by
  have hk : k < names.length := (List.getElem?_eq_some_iff.mp h1).1
  have hj : j < names.length := (List.getElem?_eq_some_iff.mp h2).1
  have e1 := (List.getElem?_eq_some_iff.mp h1).2
  have e2 := (List.getElem?_eq_some_iff.mp h2).2
  exact (List.getElem_inj hn).mp (e2.trans e1.symm)

section
variable {C : Cx} {A : Around} {env : Env} {names : List Str} {m₀ : MM} {Fp₀ : Nat → List Addr} {h₁ h₂ : Heap} {wr fp : List Addr}

/-- data that stood ahead of the loop stands in it -/
theorem Src.rd (R : Src C A env m₀ Fp₀ h₁ h₂ wr fp) {h : Heap} {m V Fp} (S : St C.B (froz env m₀ Fp₀ h₂ wr h) env names m V Fp h) {v : Value} {d : PyData} {as : List Addr} (r : Rd h₁ v d as) (ha : ∀ a ∈ as, ¬ Wr env m₀ Fp₀ a) :
    Rd h v d as ∧ ∀ a ∈ as, ∃ o, froz env m₀ Fp₀ h₂ wr h a = some o := by
  have key : ∀ a ∈ as, ∀ o, h₁.get? a = some o → froz env m₀ Fp₀ h₂ wr h a = some o := fun a hm o e => by
    have hw : a ∉ wr := fun hw => by rw [R.wrNew a hw] at e; cases e
    rw [froz_out hw (ha a hm)]; exact R.up a o e
  exact ⟨r.but fun a hm o e => S.keep a o (key a hm o e), fun a hm => by
    obtain ⟨o, _, _, e, _⟩ := r.live a hm
    exact ⟨o, key a hm o e⟩⟩

theorem putName_ok {m : MM} {V : Nat → Value} {Fp : Nat → List Addr} {h : Heap} {Kp : Addr → Option Obj} (S : St C.B Kp env names m V Fp h) {as : List Addr} (hk : ∀ a ∈ as, ∃ o, Kp a = some o) (k : Nat) :
    ∀ j d', j ≠ k → m[j]? = some (some (d', true)) → ∀ a ∈ as, a ∉ Fp j := fun j d' _ hm a ha hf => by
  obtain ⟨o, e⟩ := hk a ha
  rw [(S.own j d' hm).2.1 a hf] at e; cases e

theorem running_name {x : Str} {px : Pos} {k : Nat} {I : Addr} {N : Nat} {P : Nat → Value → Prop} {W : Nat → Heap → Prop} {items : List PyData} (hkind : env.scope.kind = .function)
    (hk : names[k]? = some x) (hnd : names.Nodup) (hx : env.kindOf x = some .local ∨ env.kindOf x = some .cell)
    (Wk : Walks C.prog C.w A I fp wr N P W) (R : Src C A env m₀ Fp₀ h₁ h₂ wr fp) (hwr : ∀ i h, W i h → ∀ b ∈ wr, FieldsAt h b)
    (hit : ∀ i v, P i v → ∃ d as, items[i]? = some d ∧ Rd h₁ v d as ∧ ∀ a ∈ as, ¬ Wr env m₀ Fp₀ a) :
    Running C A env names (.Name x px) (.ref I) (fun h => froz env m₀ Fp₀ h₂ wr h) W N (fun i m => m.set k (items[i]?.map fun d => (d, false))) (fun _ => True) wr (PlaceOf env x) where
  step := fun i s m V Fp E hi hW _ S => by
    refine Wk.item i s _ E hi hW fun v h' tk hP hW' hk' => ?_
    show wpAny C.M A (letOwnedTupleGo (.Name x px) (.ref I) v) _ E _
    refine wpAny_of_eq (a := ()) rfl ?_
    have S' := S.walked hk' (fun j d hm a ha hw => (hwr i _ hW a hw).not_seq ((S.reads j _ hm).live a ha)) R.wrB (fun a ha v => (hwr i _ hW a ha).wrOk.not_cell v)
    obtain ⟨d, as, e1, r, hw⟩ := hit i v hP
    obtain ⟨r', hkp⟩ := R.rd S' r hw
    refine wpAny_assign_Name (store_name (C := C) (s := { s with heap := h', toks := tk }) (o := false) S' hkind hk (fun j hj => uniq_of hnd hk hj) hx r' (putName_ok S' hkp k) (fun e => by cases e) fun s₂ sh keep S₂ => ?_)
    have hf := froz_frame R (h := h') (h' := s₂.heap) (fun b hb => let ⟨o, _, e, _⟩ := hwr _ _ hW' b hb; ⟨o, e⟩) (fun a o e => S₂.keep a o e)
    refine ⟨Sh.trans ⟨h', tk, s.gens, rfl, id⟩ sh, ?_, fun b o hb hp e => keep b o hp (hk' b o hb e), up1 V k v, up1 Fp k as, ?_⟩
    · refine Wk.frame _ _ _ hW' fun b hb o e => ?_
      have : ¬ PlaceOf env x b := fun hp => by
        replace hp := hp.priv
        by_cases hbw : b ∈ wr
        · rcases hp with rfl | ⟨y, hy, hl⟩
          · obtain ⟨mL, hn⟩ := S'.ns; exact (hwr _ _ hW' _ hbw).wrOk.not_ns _ hn
          · obtain ⟨c, w, hl', hc⟩ := S'.cell y hy
            rw [hl] at hl'; cases hl'
            exact (hwr _ _ hW' _ hbw).wrOk.not_cell _ hc
        · exact (R.fps b hb).2 (.inl hp)
      exact keep b o this e
    · rw [e1]
      exact S₂.less (fun a o e => by
        have := S'.base a o e
        have e2 := (S'.wr_kp this)
        by_cases ha : a ∈ wr
        · rw [R.wrB a ha] at e; cases e
        · by_cases hx : Wr env m₀ Fp₀ a
          · rw [froz_wr ha hx] at this; cases this
          · rw [froz_out ha hx] at this ⊢; exact this) hf.2
  stop := fun s m V Fp E hW _ S => by
    refine Wk.done s _ E hW fun h' tk hk' => ?_
    have S' := S.walked hk' (fun j d hm a ha hw => (hwr _ _ hW a hw).not_seq ((S.reads j _ hm).live a ha)) R.wrB (fun a ha v => (hwr _ _ hW a ha).wrOk.not_cell v)
    exact ⟨rfl, ⟨h', tk, s.gens, rfl, id⟩, hk', S'⟩
  frame := fun i h h' hW hk0 hk' => by
    have hal : ∀ b ∈ wr, ∃ o, h.get? b = some o := fun b hb => let ⟨o, _, e, _⟩ := hwr _ _ hW b hb; ⟨o, e⟩
    have hf := froz_frame R hal hk'
    refine ⟨Wk.frame _ _ _ hW fun b hb o e => ?_, hf.2⟩
    by_cases hbw : b ∈ wr
    · exact hk' b o (by rw [froz_in hbw]; exact e)
    · obtain ⟨⟨o₂, e₂⟩, hnw⟩ := R.fps b hb
      have e3 : froz env m₀ Fp₀ h₂ wr h b = some o₂ := by rw [froz_out hbw hnw]; exact e₂
      have := hk0 b o₂ e3
      rw [e] at this; cases this
      exact hk' b _ e3

theorem froz_base (R : Src C A env m₀ Fp₀ h₁ h₂ wr fp) {h h' : Heap} (hb : ∀ a o, C.B.get? a = some o → froz env m₀ Fp₀ h₂ wr h a = some o) : ∀ a o, C.B.get? a = some o → froz env m₀ Fp₀ h₂ wr h' a = some o := fun a o e => by
  have := hb a o e
  by_cases ha : a ∈ wr
  · rw [R.wrB a ha] at e; cases e
  · by_cases hx : Wr env m₀ Fp₀ a
    · rw [froz_wr ha hx] at this; cases this
    · rw [froz_out ha hx] at this ⊢; exact this

theorem priv_not_wr {m : MM} {V : Nat → Value} {Fp : Nat → List Addr} {h : Heap} {Kp : Addr → Option Obj} (S : St C.B Kp env names m V Fp h) {b : Addr} (w : WrOk h b) : ¬ Priv env b := fun hp => by
  rcases hp with rfl | ⟨y, hy, hl⟩
  · obtain ⟨mL, hn⟩ := S.ns; exact w.not_ns _ hn
  · obtain ⟨c, v, hl', hc⟩ := S.cell y hy
    rw [hl] at hl'; cases hl'
    exact w.not_cell _ hc

theorem running_pair {x y : Str} {px py pt : Pos} {c : Nat} {k j : Nat} {I : Addr} {N : Nat} {Pt : Nat → Array Value → Prop} {W : Nat → Heap → Prop} {Mid : Nat → Addr → Heap → Prop} {items : List (PyData × PyData)} {okm : MM → Prop} (hh : A.handled = none) (hkind : env.scope.kind = .function)
    (hk : names[k]? = some x) (hj : names[j]? = some y) (hnd : names.Nodup) (hx : env.kindOf x = some .local ∨ env.kindOf x = some .cell) (hy : env.kindOf y = some .local ∨ env.kindOf y = some .cell)
    (Wk : WalksT C.prog C.w A I fp wr N Pt W Mid) (R : Src C A env m₀ Fp₀ h₁ h₂ wr fp) (hwr : ∀ i h, W i h → ∀ b ∈ wr, WrOk h b) (hmid : ∀ i T h, Mid i T h → ∀ b ∈ wr, WrOk h b)
    (hsf : ((∀ i h, W i h → ∀ b ∈ wr, ¬ SeqAt h b) ∧ ∀ i T h, Mid i T h → ∀ b ∈ wr, ¬ SeqAt h b) ∨ ∀ m, okm m → ∀ (k : Nat) d, m[k]? = some (some (d, false)) → Mine.atom d = true)
    (hit : ∀ i vs, Pt i vs → ∃ v₁ v₂ d₁ d₂ as bs, vs = #[v₁, v₂] ∧ items[i]? = some (d₁, d₂) ∧ Rd h₁ v₁ d₁ as ∧ Rd h₁ v₂ d₂ bs ∧ (∀ a ∈ as, ¬ Wr env m₀ Fp₀ a) ∧ ∀ a ∈ bs, ¬ Wr env m₀ Fp₀ a) :
    Running C A env names (.Tuple [.Name x px, .Name y py] c pt) (.ref I) (fun h => froz env m₀ Fp₀ h₂ wr h) W N
      (fun i m => (m.set k (items[i]?.map fun d => (d.1, false))).set j (items[i]?.map fun d => (d.2, false))) okm wr (fun b => PlaceOf env x b ∨ PlaceOf env y b) where
  step := fun i s m V Fp E hi hW hok S => by
    have hav : ∀ {h : Heap}, (∀ b ∈ wr, WrOk h b) → ((∀ b ∈ wr, ¬ SeqAt h b) ∨ ∀ (k : Nat) d, m[k]? = some (some (d, false)) → Mine.atom d = true) → St C.B (froz env m₀ Fp₀ h₂ wr h) env names m V Fp h →
        ∀ k d, m[k]? = some (some (d, false)) → ∀ a ∈ Fp k, a ∉ wr := fun hw0 hc S k d hm a ha hw => by
      rcases hc with hc | hc
      · exact hc a hw ((S.reads k _ hm).live a ha)
      · have e := (S.reads k _ hm).atom (hc k d hm)
        rw [e] at ha; cases ha
    refine Wk.item i s _ E hi hW fun T vs h' tk hP _ hT hM hk' => ?_
    have S' := S.walked hk' (hav (hwr _ _ hW) (hsf.imp (fun q => q.1 i _ hW) fun q => q m hok) S) R.wrB (fun a ha v => (hwr i _ hW a ha).not_cell v)
    refine Wk.go _ _ _ i T _ _ _ hM fun h'' hW'' hk'' => ?_
    have S'' := S'.walked hk'' (hav (hmid _ _ _ hM) (hsf.imp (fun q => q.2 i T _ hM) fun q => q m hok) S') R.wrB (fun a ha v => (hmid _ _ _ hM a ha).not_cell v)
    obtain ⟨v₁, v₂, d₁, d₂, as, bs, rfl, e1, r₁, r₂, w₁, w₂⟩ := hit i vs hP
    have hTw := Wk.apart i T _ hM
    have hT'' : h''.IsTuple T #[v₁, v₂] := let ⟨o, e, q⟩ := hT; ⟨o, hk'' T o hTw e, q⟩
    refine wpAny_assign_Tuple hh hT'' rfl rfl fun h3 hx3 => ?_
    have hx3' : Up h'' h3 := fun b o e => hx3 b o (Nat.ne_of_lt (Heap.lt_size e)) e
    have S3 := S''.up hx3'
    obtain ⟨r1', k1⟩ := R.rd S'' r₁ w₁
    obtain ⟨r2', k2⟩ := R.rd S'' r₂ w₂
    show wpAny C.M A (do holding [v₂] (assign (.Name x px) env v₁); do holding [] (assign (.Name y py) env v₂); pure ()) _ E _
    refine wpAny_bind (wpAny_holding (wpAny_assign_Name (store_name (C := C) (o := false) S3 hkind hk (fun j hj => uniq_of hnd hk hj) hx (r1'.up hx3') (putName_ok S3 k1 k) (fun e => by cases e) fun s4 sh4 keep4 S4 => ?_)))
    have r2'' : Rd s4.heap v₂ d₂ bs := (r2'.up hx3').but fun a ha o e => by
      obtain ⟨o', e'⟩ := k2 a ha
      have := S4.keep a o' e'
      have e3 := S3.keep a o' e'
      rw [e] at e3; cases e3
      exact this
    refine wpAny_bind (wpAny_holding (wpAny_assign_Name (store_name (C := C) (o := false) S4 hkind hj (fun i hi => uniq_of hnd hj hi) hy r2'' (putName_ok S4 k2 j) (fun e => by cases e) fun s5 sh5 keep5 S5 => wpAny_pure ?_)))
    have keep : ∀ b o, ¬ (PlaceOf env x b ∨ PlaceOf env y b) → h''.get? b = some o → s5.heap.get? b = some o := fun b o hp e => keep5 b o (fun q => hp (.inr q)) (keep4 b o (fun q => hp (.inl q)) (hx3' b o e))
    have hwr'' : ∀ b ∈ wr, WrOk h'' b := hwr _ _ hW''
    have hf := froz_frame R (h := h'') (h' := s5.heap) (fun b hb => let ⟨o, e, _⟩ := hwr'' b hb; ⟨o, e⟩) (fun a o e => S5.keep a o e)
    refine ⟨Sh.trans (Sh.trans ⟨h3, tk, s.gens, rfl, id⟩ sh4) sh5, ?_, fun b o hb hp e => keep b o hp (hk'' b o hb (hk' b o hb e)), up1 (up1 V k v₁) j v₂, up1 (up1 Fp k as) j bs, ?_⟩
    · refine Wk.frame _ _ _ hW'' fun b hb o e => keep b o ?_ e
      have hpv : (PlaceOf env x b ∨ PlaceOf env y b) → Priv env b := fun q => q.elim PlaceOf.priv PlaceOf.priv
      by_cases hbw : b ∈ wr
      · exact fun hp => priv_not_wr S'' (hwr'' b hbw) (hpv hp)
      · exact fun hp => (R.fps b hb).2 (.inl (hpv hp))
    · rw [e1]
      exact S5.less (froz_base R S5.base) hf.2
  stop := fun s m V Fp E hW hok S => by
    refine Wk.done s _ E hW fun h' tk hk' => ?_
    have S' := S.walked hk' (fun k d hm a ha hw => by
      rcases hsf with hc | hc
      · exact hc.1 _ _ hW a hw ((S.reads k _ hm).live a ha)
      · have e := (S.reads k _ hm).atom (hc m hok k d hm)
        rw [e] at ha; cases ha) R.wrB (fun a ha v => (hwr _ _ hW a ha).not_cell v)
    exact ⟨rfl, ⟨h', tk, s.gens, rfl, id⟩, hk', S'⟩
  frame := fun i h h' hW hk0 hk' => by
    have hal : ∀ b ∈ wr, ∃ o, h.get? b = some o := fun b hb => let ⟨o, e, _⟩ := hwr _ _ hW b hb; ⟨o, e⟩
    have hf := froz_frame R hal hk'
    refine ⟨Wk.frame _ _ _ hW fun b hb o e => ?_, hf.2⟩
    by_cases hbw : b ∈ wr
    · exact hk' b o (by rw [froz_in hbw]; exact e)
    · obtain ⟨⟨o₂, e₂⟩, hnw⟩ := R.fps b hb
      have e3 : froz env m₀ Fp₀ h₂ wr h b = some o₂ := by rw [froz_out hbw hnw]; exact e₂
      have := hk0 b o₂ e3
      rw [e] at this; cases this
      exact hk' b _ e3
end

/-! statements -/
def SxOK (C : Cx) (sc : Scope) (names : List Str) (n : Nat) (m : MM) (st : Stmt) (m' : MM) : Prop :=
  ∀ (A : Around) (E : Value → Shared → Prop) (s : Shared) (env : Env) (Kp : Addr → Option Obj) (V : Nat → Value) (Fp : Nat → List Addr),
    Room A n → EnvOf env sc → St C.B Kp env names m V Fp s.heap →
    wpAny C.M A (exec st env) (fun f s' => f = .next ∧ Sh s s' ∧ ∃ V' Fp', St C.B Kp env names m' V' Fp' s'.heap) E s
def SsOK (C : Cx) (sc : Scope) (names : List Str) (n : Nat) (m : MM) (ss : List Stmt) (m' : MM) : Prop :=
  ∀ (A : Around) (E : Value → Shared → Prop) (s : Shared) (env : Env) (Kp : Addr → Option Obj) (V : Nat → Value) (Fp : Nat → List Addr),
    Room A n → EnvOf env sc → St C.B Kp env names m V Fp s.heap →
    wpAny C.M A (execs ss env) (fun f s' => f = .next ∧ Sh s s' ∧ ∃ V' Fp', St C.B Kp env names m' V' Fp' s'.heap) E s

inductive IterPost (C : Cx) (A : Around) (env : Env) (names : List Str) (target : Expr) (N : Nat) (put : Nat → MM → MM) (okm : MM → Prop) (Kp : Addr → Option Obj) (m : MM) (V : Nat → Value) (Fp : Nat → List Addr) (s : Shared) (it : Value) (s₂ : Shared) : Prop
  | mk (x : Ext s s₂) (K : Heap → Addr → Option Obj) (W : Nat → Heap → Prop) (wr : List Addr) (pl : Addr → Prop) (rn : Running C A env names target it K W N put okm wr pl) (w0 : W 0 s₂.heap) (st : St C.B (K s₂.heap) env names m V Fp s₂.heap)
      (sub : ∀ h a o, Kp a = some o → K h a = some o) : IterPost C A env names target N put okm Kp m V Fp s it s₂
/-- a source of items ahead of a loop with this target -/
def IterOK (C : Cx) (sc : Scope) (names : List Str) (n : Nat) (m : MM) (target : Expr) (e : Expr) (N : Nat) (put : Nat → MM → MM) (okm : MM → Prop) : Prop :=
  ∀ (A : Around) (E : Value → Shared → Prop) (s : Shared) (env : Env) (Kp : Addr → Option Obj) (V : Nat → Value) (Fp : Nat → List Addr),
    Room A n → EnvOf env sc → St C.B Kp env names m V Fp s.heap →
    wpAny C.M A (eval e env) (fun x s₁ => wpAny C.M A (pyIter x) (IterPost C A env names target N put okm Kp m V Fp s) E s₁) E s

section
variable {C : Cx} {sc : Scope} {names : List Str} {n : Nat} {m m' m'' : MM}

theorem ss_nil : SsOK C sc names n m [] m := fun A E s env Kp V Fp hR hE S => wpAny_execs_nil ⟨rfl, .refl s, V, Fp, S⟩
theorem ss_cons {st : Stmt} {ss : List Stmt} (h1 : SxOK C sc names n m st m') (h2 : SsOK C sc names n m' ss m'') : SsOK C sc names n m (st :: ss) m'' := fun A E s env Kp V Fp hR hE S =>
  wpAny_execs_cons (wpAny_mono (h1 A E s env Kp V Fp hR hE S) (fun f s₁ h => by
    obtain ⟨rfl, sh, V', Fp', S'⟩ := h
    exact wpAny_mono (h2 A E s₁ env Kp V' Fp' hR hE S') (fun f s₂ h => ⟨h.1, sh.trans h.2.1, h.2.2⟩) fun _ _ h => h) fun _ _ h => h)
theorem SxOK.weak {st : Stmt} (h : SxOK C sc names n m' st m'') (w : Weak m m') : SxOK C sc names n m st m'' := fun A E s env Kp V Fp hR hE S => h A E s env Kp V Fp hR hE (S.weak w)
theorem SsOK.weak' {ss : List Stmt} (h : SsOK C sc names n m ss m') (w : Weak m' m'') : SsOK C sc names n m ss m'' := fun A E s env Kp V Fp hR hE S =>
  wpAny_mono (h A E s env Kp V Fp hR hE S) (fun f s₁ ⟨a, b, V', Fp', S'⟩ => ⟨a, b, V', Fp', S'.weak w⟩) fun _ _ h => h

end
end Mine
end

/-! text MF -/
section
open PySem PySem.Spec PySem.Calls PyProof.Rows
set_option linter.unusedVariables false
namespace Mine
section
variable {C : Cx} {sc : Scope} {names : List Str} {n : Nat} {m m' m'' : MM} {d : PyData}

theorem sx_while {test : Expr} {body : List Stmt} {pos : Pos} (N : Nat) (mi : Nat → MM) (ht : ∀ i, i < N → TsOK C sc names n (mi i) test true) (hf : TsOK C sc names n (mi N) test false)
    (hb : ∀ i, i < N → SsOK C sc names n (mi i) body (mi (i + 1))) : SxOK C sc names n (mi 0) (.While test body [] pos) (mi N) := by
  intro A E s env Kp V Fp hR hE S
  refine wpAny_While (codeAny_whileLoop (fun k s' => ∃ i V' Fp', k = N + 1 - i ∧ i ≤ N ∧ Sh s s' ∧ St C.B Kp env names (mi i) V' Fp' s'.heap) ?_ (N + 1) ⟨0, V, Fp, rfl, Nat.zero_le _, .refl s, S⟩)
  rintro k s' ⟨i, V', Fp', rfl, hi, sh, Si⟩
  by_cases hlt : i < N
  · refine wpAny_mono (ht i hlt A _ s' env Kp V' Fp' hR hE Si) (fun b s₂ h₂ => ?_) fun _ _ h => h
    obtain ⟨x2, rfl⟩ := h₂
    simp only [if_true]
    refine wpAny_mono (hb i hlt A _ s₂ env Kp V' Fp' hR hE (Si.up x2.up)) (fun f s₃ h₃ => ?_) fun _ _ h => h
    obtain ⟨rfl, sh3, V3, Fp3, S3⟩ := h₃
    exact ⟨N + 1 - (i + 1), by lia, i + 1, V3, Fp3, rfl, hlt, (sh.trans x2.sh).trans sh3, S3⟩
  · have hin : i = N := by lia
    subst hin
    refine wpAny_mono (hf A _ s' env Kp V' Fp' hR hE Si) (fun b s₂ h₂ => ?_) fun _ _ h => h
    obtain ⟨x2, rfl⟩ := h₂
    simp only [Bool.false_eq_true, if_false]
    exact wpAny_execs_nil ⟨rfl, sh.trans x2.sh, V', Fp', Si.up x2.up⟩

theorem sx_if {test : Expr} {body orelse : List Stmt} {pos : Pos} {b : Bool} (ht : TsOK C sc names n m test b) (h1 : b = true → SsOK C sc names n m body m') (h2 : b = false → SsOK C sc names n m orelse m') :
    SxOK C sc names n m (.If test body orelse pos) m' := by
  intro A E s env Kp V Fp hR hE S
  refine wpAny_If (wpAny_mono (ht A E s env Kp V Fp hR hE S) (fun c s₁ h₁ => ?_) fun _ _ h => h)
  obtain ⟨x1, rfl⟩ := h₁
  have fin : ∀ {ss : List Stmt}, SsOK C sc names n m ss m' → wpAny C.M A (execs ss env) (fun f s' => f = .next ∧ Sh s s' ∧ ∃ V' Fp', St C.B Kp env names m' V' Fp' s'.heap) E s₁ := fun h =>
    wpAny_mono (h A E s₁ env Kp V Fp hR hE (S.up x1.up)) (fun f s₂ h₂ => ⟨h₂.1, x1.sh.trans h₂.2.1, h₂.2.2⟩) fun _ _ h => h
  cases c
  · exact fin (h2 rfl)
  · exact fin (h1 rfl)

theorem kinds {env : Env} {x : Str} (hE : EnvOf env sc) (hx : sc.names.lookup x = some .local ∨ sc.names.lookup x = some .cell) : env.kindOf x = some .local ∨ env.kindOf x = some .cell := by
  unfold Env.kindOf; rw [hE.scope]; exact hx

theorem fresh_ok {Kp : Addr → Option Obj} {env : Env} {V Fp} {h : Heap} (S : St C.B Kp env names m V Fp h) {as : List Addr} (hf : ∀ a ∈ as, h.get? a = none) :
    (∀ a ∈ as, Kp a = none) ∧ ∀ (j : Nat) e, m[j]? = some (some e) → ∀ a ∈ as, a ∉ Fp j :=
  ⟨fun a ha => by
    cases e : Kp a with
    | none => rfl
    | some o => (have := S.keep a o e; rw [hf a ha] at this; cases this),
   fun j e hm a ha hj => by
    obtain ⟨o, _, _, e', _⟩ := (S.reads j e hm).live a hj
    rw [hf a ha] at e'; cases e'⟩

theorem sx_own {e : Expr} {x : Str} {px pos : Pos} {k : Nat} (he : EvOK C sc names n m e d .fresh) (hk : names[k]? = some x) (hn : names.Nodup) (hx : sc.names.lookup x = some .local ∨ sc.names.lookup x = some .cell)
    (hs : ∀ env, EnvOf env sc → swapsWith e (some (.Name x px)) pos.line env = pure false := by exact fun _ _ => rfl) : SxOK C sc names n m (.Assign [.Name x px] e pos) (m.set k (some (d, true))) := by
  intro A E s env Kp V Fp hR hE S
  refine wpAny_Assign_Name (wpAny_mono (he A E s env Kp V Fp hR hE S) (fun v s₁ h₁ => ?_) fun _ _ h => h) (hs env hE)
  obtain ⟨x1, as, r, h2, h3⟩ := h₁
  obtain ⟨f1, f2⟩ := fresh_ok S h3
  exact store_name (S.up x1.up) (by rw [hE.scope]; exact hE.kind) hk (fun j hj => uniq_of hn hk hj) (kinds hE hx) r (fun j d' _ hm => f2 j _ hm) (fun _ => ⟨h2, f1, fun j e _ hm => f2 j e hm⟩)
    fun s₂ sh _ S₂ => ⟨rfl, x1.sh.trans sh, _, _, S₂⟩
theorem sx_sh {e : Expr} {x : Str} {px pos : Pos} {k : Nat} (he : EvOK C sc names n m e d .shared) (hk : names[k]? = some x) (hn : names.Nodup) (hx : sc.names.lookup x = some .local ∨ sc.names.lookup x = some .cell)
    (hs : ∀ env, EnvOf env sc → swapsWith e (some (.Name x px)) pos.line env = pure false := by exact fun _ _ => rfl) : SxOK C sc names n m (.Assign [.Name x px] e pos) (m.set k (some (d, false))) := by
  intro A E s env Kp V Fp hR hE S
  refine wpAny_Assign_Name (wpAny_mono (he A E s env Kp V Fp hR hE S) (fun v s₁ h₁ => ?_) fun _ _ h => h) (hs env hE)
  obtain ⟨x1, as, r, h3⟩ := h₁
  exact store_name (S.up x1.up) (by rw [hE.scope]; exact hE.kind) hk (fun j hj => uniq_of hn hk hj) (kinds hE hx) r (fun j d' _ hm => h3 j d' hm) (fun e => by cases e)
    fun s₂ sh _ S₂ => ⟨rfl, x1.sh.trans sh, _, _, S₂⟩

/-- several stores, one after the other -/
structure StoreIt where
  k : Nat
  x : Str
  p : Pos
  v : Value
  d : PyData
  o : Bool
  as : List Addr
def setAll (m : MM) : List StoreIt → MM
  | [] => m
  | t :: r => setAll (m.set t.k (some (t.d, t.o))) r

theorem stores {A : Around} {E : Value → Shared → Prop} {env : Env} {Kp : Addr → Option Obj} {act : StoreIt → Value → Sem Unit} (hact : ∀ t v Q s, wpAny C.M A (storeName env t.x v) Q E s → wpAny C.M A (act t v) Q E s)
    (hkind : env.scope.kind = .function) (hn : names.Nodup) :
    ∀ (L : List StoreIt) (m : MM) (V : Nat → Value) (Fp : Nat → List Addr) (s : Shared) (Q : Unit → Shared → Prop), St C.B Kp env names m V Fp s.heap →
      (∀ t ∈ L, names[t.k]? = some t.x ∧ (env.kindOf t.x = some .local ∨ env.kindOf t.x = some .cell) ∧ Rd s.heap t.v t.d t.as ∧ (∀ j d', m[j]? = some (some (d', true)) → ∀ a ∈ t.as, a ∉ Fp j) ∧
        (t.o = true → t.as.Nodup ∧ (∀ a ∈ t.as, Kp a = none) ∧ ∀ j e, m[j]? = some (some e) → ∀ a ∈ t.as, a ∉ Fp j)) →
      L.Pairwise (fun t u => (t.o = true ∨ u.o = true) → ∀ a ∈ t.as, a ∉ u.as) →
      (∀ s' V' Fp', Sh s s' → St C.B Kp env names (setAll m L) V' Fp' s'.heap → Q () s') →
      wpAny C.M A (assignInOrder (L.map act) (L.map (·.v))) Q E s
  | [], m, V, Fp, s, Q, S, _, _, h => wpAny_pure (h s V Fp (.refl s) S)
  | t :: L, m, V, Fp, s, Q, S, hL, hP, h => by
    obtain ⟨h1, h2, h3, h4, h5⟩ := hL t (List.mem_cons_self ..)
    obtain ⟨p1, p2⟩ := List.pairwise_cons.mp hP
    show wpAny C.M A (do holding (L.map (·.v)) (act t t.v); assignInOrder (L.map act) (L.map (·.v))) Q E s
    refine wpAny_bind (wpAny_holding (hact t _ _ _ (store_name S hkind h1 (fun j hj => uniq_of hn h1 hj) h2 h3 (fun j d' _ hm => h4 j d' hm) (fun e => ⟨(h5 e).1, (h5 e).2.1, fun j e' _ hm => (h5 e).2.2 j e' hm⟩) fun s₁ sh keep S₁ => ?_)))
    refine stores hact hkind hn L _ _ _ s₁ Q S₁ (fun u hu => ?_) p2 fun s' V' Fp' sh' S' => h s' V' Fp' (sh.trans sh') S'
    obtain ⟨u1, u2, u3, u4, u5⟩ := hL u (List.mem_cons_of_mem _ hu)
    have up : Rd s₁.heap u.v u.d u.as := u3.but fun a ha o e => keep a o (fun hp => S.priv_not_seq hp.priv (u3.live a ha)) e
    refine ⟨u1, u2, up, fun j d' hm a ha => ?_, fun e => ⟨(u5 e).1, (u5 e).2.1, fun j e' hm a ha => ?_⟩⟩
    · rcases set_at hm with ⟨rfl, he⟩ | ⟨hj, hm'⟩
      · rw [up1_same]
        have := Option.some.inj he
        exact fun hb => p1 u hu (.inl (congrArg Prod.snd this)) a hb ha
      · rw [up1_other _ _ hj]; exact u4 j d' hm' a ha
    · rcases set_at hm with ⟨rfl, he⟩ | ⟨hj, hm'⟩
      · rw [up1_same]
        exact fun hb => p1 u hu (.inr e) a hb ha
      · rw [up1_other _ _ hj]; exact (u5 e).2.2 j e' hm' a ha

theorem exec_Assign_tup (ts : List Expr) (kt : Nat) (pt : Pos) (value : Expr) (pos : Pos) (env : Env) (hsw : swapsWith value (some (.Tuple ts kt pt)) pos.line env = pure false) : exec (.Assign [.Tuple ts kt pt] value pos) env = (do
    standAt pos
    let v ← eval value env
    assignStores env v (← swappedStores [.Tuple ts kt pt] value env) ((assignEach [.Tuple ts kt pt] env).map (·.2))) := by
  rw [exec_Assign_arm]
  have : swapsWithSole [.Tuple ts kt pt] value pos.line env = pure false := hsw
  rw [this]; rfl

theorem pair_rd {h : Heap} {vs : Array Value} {d₁ d₂ : PyData} {as : List Addr} (r : RdL h vs.toList [d₁, d₂] as) : ∃ v₁ v₂ bs cs, vs = #[v₁, v₂] ∧ Rd h v₁ d₁ bs ∧ Rd h v₂ d₂ cs ∧ as = bs ++ cs := by
  obtain ⟨l⟩ := vs
  cases r with
  | cons r1 r2 => cases r2 with
    | cons r2 r3 => cases r3; exact ⟨_, _, _, _, rfl, r1, r2, by simp⟩
theorem triple_rd {h : Heap} {vs : Array Value} {d₁ d₂ d₃ : PyData} {as : List Addr} (r : RdL h vs.toList [d₁, d₂, d₃] as) : ∃ v₁ v₂ v₃ bs cs ds, vs = #[v₁, v₂, v₃] ∧ Rd h v₁ d₁ bs ∧ Rd h v₂ d₂ cs ∧ Rd h v₃ d₃ ds ∧ as = bs ++ (cs ++ ds) := by
  obtain ⟨l⟩ := vs
  cases r with
  | cons r1 r2 => cases r2 with
    | cons r2 r3 => cases r3 with
      | cons r3 r4 => cases r4; exact ⟨_, _, _, _, _, _, rfl, r1, r2, r3, by simp⟩

theorem assignEach_names (env : Env) : ∀ L : List StoreIt, assignEach (L.map fun t => Expr.Name t.x t.p) env = L.map fun t => (false, assign (.Name t.x t.p) env)
  | [] => rfl
  | t :: L => by
    show (false, assign (.Name t.x t.p) env) :: assignEach (L.map fun t => Expr.Name t.x t.p) env = _
    rw [assignEach_names env L]; rfl
/-- the stores of an unpacked tuple, in either order -/
theorem unpack_stores {A : Around} {E : Value → Shared → Prop} {env : Env} {Kp : Addr → Option Obj} {V Fp} {s : Shared} {T : Addr} {L : List StoreIt} {ts : List Expr} {kt : Nat} {pt : Pos} {sw : Option (List Str)} {Q : Flow → Shared → Prop}
    (hR : Room A n) (hkind : env.scope.kind = .function) (hn : names.Nodup) (S : St C.B Kp env names m V Fp s.heap) (hT : s.heap.IsTuple T (L.map (·.v)).toArray)
    (hts : ts = L.map fun t => Expr.Name t.x t.p)
    (hsw : sw = none ∨ sw = some (L.map (·.x)))
    (hL : ∀ t ∈ L, names[t.k]? = some t.x ∧ (env.kindOf t.x = some .local ∨ env.kindOf t.x = some .cell) ∧ Rd s.heap t.v t.d t.as ∧ (∀ j d', m[j]? = some (some (d', true)) → ∀ a ∈ t.as, a ∉ Fp j) ∧
        (t.o = true → t.as.Nodup ∧ (∀ a ∈ t.as, Kp a = none) ∧ ∀ j e, m[j]? = some (some e) → ∀ a ∈ t.as, a ∉ Fp j))
    (hP : L.Pairwise (fun t u => (t.o = true ∨ u.o = true) → ∀ a ∈ t.as, a ∉ u.as))
    (h : ∀ s' V' Fp' m', (m' = setAll m L ∨ m' = setAll m L.reverse) → Sh s s' → St C.B Kp env names m' V' Fp' s'.heap → Q .next s') :
    wpAny C.M A (assignStores env (.ref T) sw ((assignEach [.Tuple ts kt pt] env).map (·.2))) Q E s := by
  rcases hsw with rfl | rfl
  · show wpAny C.M A (do assignAll (.ref T) [assign (.Tuple ts kt pt) env]; pure Flow.next) Q E s
    refine wpAny_bind ?_
    show wpAny C.M A (assign (.Tuple ts kt pt) env (.ref T)) _ E s
    subst hts
    refine wpAny_assign_Tuple hR.hh hT (by rw [assignEach_names]; simp) (by rw [assignEach_names]; simp) fun h' hx => ?_
    have hx' : Up s.heap h' := fun b o e => hx b o (Nat.ne_of_lt (Heap.lt_size e)) e
    have e0 : (assignEach (L.map fun t => Expr.Name t.x t.p) env).map (·.2) = L.map fun t => assign (.Name t.x t.p) env := by rw [assignEach_names]; simp
    rw [e0]
    refine stores (act := fun t => assign (.Name t.x t.p) env) (fun t v Q s hq => wpAny_assign_Name hq) hkind hn L m V Fp _ _ (S.up hx') (fun t ht => ?_) hP fun s' V' Fp' sh S' => wpAny_pure (h s' V' Fp' _ (.inl rfl) (Sh.trans ⟨h', s.toks, s.gens, rfl, id⟩ sh) S')
    obtain ⟨u1, u2, u3, u4⟩ := hL t ht
    exact ⟨u1, u2, u3.up hx', u4⟩
  · unfold assignStores
    refine wpAny_bind (wpAny_rule (wpAny_bind ?_))
    have e1 : (L.map (·.x)).length = (L.map (·.v)).toArray.size := by simp
    rw [e1]
    refine wpAny_unpackItems_tuple (Q := fun items s₁ => wpAny C.M A (assignInOrder ((L.map (·.x)).reverse.map fun n => bindName env n) items.reverse >>= fun _ => pure Flow.next) Q E s₁) hR.hh hT fun h' hx => ?_
    have hx' : Up s.heap h' := fun b o e => hx b o (Nat.ne_of_lt (Heap.lt_size e)) e
    refine wpAny_bind ?_
    have e2 : (L.map (·.x)).reverse.map (fun n => bindName env n) = L.reverse.map fun t => bindName env t.x := by simp [List.map_reverse]
    have e3 : (L.map (·.v)).toArray.toList.reverse = L.reverse.map (·.v) := by simp [List.map_reverse]
    rw [e2, e3]
    refine stores (act := fun t => bindName env t.x) (fun t v Q s hq => wpAny_bindName hq) hkind hn L.reverse m V Fp _ _ (S.up hx') (fun t ht => ?_) ?_ fun s' V' Fp' sh S' => wpAny_pure (h s' V' Fp' _ (.inr rfl) (Sh.trans ⟨h', s.toks, s.gens, rfl, id⟩ sh) S')
    · obtain ⟨u1, u2, u3, u4⟩ := hL t (List.mem_reverse.mp ht)
      exact ⟨u1, u2, u3.up hx', u4⟩
    · rw [List.pairwise_reverse]
      exact hP.imp fun {t u} q hq a ha hb => q hq.symm a hb ha

/-- the stores' side of a tuple display -/
def SwapOK (sc : Scope) (ts : List Expr) (kt : Nat) (pt : Pos) (value : Expr) (xs : List Str) : Prop :=
  ∀ env, EnvOf env sc → swappedStores [.Tuple ts kt pt] value env = pure none ∨ swappedStores [.Tuple ts kt pt] value env = pure (some xs)

theorem sx_tup3 {e₁ e₂ e₃ : Expr} {x y z : Str} {px py pz pt p2 pos : Pos} {kt k2 : Nat} {k j i : Nat} {d₁ d₂ d₃ : PyData} (he : EvsOK C sc names n m [e₁, e₂, e₃] [d₁, d₂, d₃] .fresh)
    (hk : names[k]? = some x) (hj : names[j]? = some y) (hi : names[i]? = some z) (hn : names.Nodup)
    (hx : sc.names.lookup x = some .local ∨ sc.names.lookup x = some .cell) (hy : sc.names.lookup y = some .local ∨ sc.names.lookup y = some .cell) (hz : sc.names.lookup z = some .local ∨ sc.names.lookup z = some .cell)
    (hsw : SwapOK sc [.Name x px, .Name y py, .Name z pz] kt pt (.Tuple [e₁, e₂, e₃] k2 p2) [x, y, z])
    (hm1 : ((m.set k (some (d₁, true))).set j (some (d₂, true))).set i (some (d₃, true)) = m') (hm2 : ((m.set i (some (d₃, true))).set j (some (d₂, true))).set k (some (d₁, true)) = m') :
    SxOK C sc names n m (.Assign [.Tuple [.Name x px, .Name y py, .Name z pz] kt pt] (.Tuple [e₁, e₂, e₃] k2 p2) pos) m' := by
  intro A E s env Kp V Fp hR hE S
  have hkind : env.scope.kind = .function := by rw [hE.scope]; exact hE.kind
  rw [exec_Assign_tup _ _ _ _ _ _ rfl]
  refine wpAny_bind (wpAny_standAt (wpAny_bind (wpAny_Tuple (wpAny_mono (he A E s env Kp V Fp p2 hR hE S) (fun vs s₁ h₁ => ?_) fun _ _ h => h))))
  obtain ⟨x1, as, r, q, _⟩ := h₁
  obtain ⟨q1, q2⟩ := q rfl
  have r' : RdL s₁.heap vs.toArray.toList [d₁, d₂, d₃] as := r
  obtain ⟨v₁, v₂, v₃, bs, cs, ds, e0, r1, r2, r3, rfl⟩ := triple_rd r'
  have e0' : vs = [v₁, v₂, v₃] := by simpa using congrArg Array.toList e0
  subst e0'
  obtain ⟨f1, f2⟩ := fresh_ok S q2
  obtain ⟨n1, n23, n3⟩ := List.nodup_append.mp q1
  obtain ⟨n2, n4, n5⟩ := List.nodup_append.mp n23
  have up : Up s₁.heap (s₁.heap.push { cls := .type "tuple", data := .seq #[v₁, v₂, v₃] }) := .push _ _
  refine ⟨by rw [sizeLine_eq]; simp, ?_⟩
  have S1 : St C.B Kp env names m V Fp (s₁.heap.push { cls := .type "tuple", data := .seq #[v₁, v₂, v₃] }) := (S.up x1.up).up up
  have fin : ∀ sw, (sw = none ∨ sw = some [x, y, z]) → wpAny C.M A (assignStores env (.ref s₁.heap.objs.size) sw ((assignEach [.Tuple [.Name x px, .Name y py, .Name z pz] kt pt] env).map (·.2)))
      (fun f s' => f = .next ∧ Sh s s' ∧ ∃ V' Fp', St C.B Kp env names m' V' Fp' s'.heap) E { s₁ with heap := s₁.heap.push { cls := .type "tuple", data := .seq #[v₁, v₂, v₃] } } := fun sw hsw => by
    refine unpack_stores (n := n) (L := [⟨k, x, px, v₁, d₁, true, bs⟩, ⟨j, y, py, v₂, d₂, true, cs⟩, ⟨i, z, pz, v₃, d₃, true, ds⟩]) hR hkind hn S1 ⟨_, Heap.get?_push_size _ rfl, rfl, _, rfl⟩ rfl hsw ?_ ?_ fun s' V' Fp' m2 hm sh S' => ?_
    · intro t ht
      have m1 : ∀ a ∈ bs, a ∈ bs ++ (cs ++ ds) := fun a ha => List.mem_append_left _ ha
      have m2 : ∀ a ∈ cs, a ∈ bs ++ (cs ++ ds) := fun a ha => List.mem_append_right _ (List.mem_append_left _ ha)
      have m3 : ∀ a ∈ ds, a ∈ bs ++ (cs ++ ds) := fun a ha => List.mem_append_right _ (List.mem_append_right _ ha)
      rcases List.mem_cons.mp ht with rfl | ht
      · exact ⟨hk, kinds hE hx, r1.up up, fun j d' hm a ha => f2 j _ hm a (m1 a ha), fun _ => ⟨n1, fun a ha => f1 a (m1 a ha), fun j e hm a ha => f2 j e hm a (m1 a ha)⟩⟩
      · rcases List.mem_cons.mp ht with rfl | ht
        · exact ⟨hj, kinds hE hy, r2.up up, fun j d' hm a ha => f2 j _ hm a (m2 a ha), fun _ => ⟨n2, fun a ha => f1 a (m2 a ha), fun j e hm a ha => f2 j e hm a (m2 a ha)⟩⟩
        · rw [List.mem_singleton] at ht; subst ht
          exact ⟨hi, kinds hE hz, r3.up up, fun j d' hm a ha => f2 j _ hm a (m3 a ha), fun _ => ⟨n4, fun a ha => f1 a (m3 a ha), fun j e hm a ha => f2 j e hm a (m3 a ha)⟩⟩
    · refine List.pairwise_cons.mpr ⟨fun u hu _ a ha hb => ?_, List.pairwise_cons.mpr ⟨fun u hu _ a ha hb => ?_, List.pairwise_cons.mpr ⟨fun u hu => (by cases hu), .nil⟩⟩⟩
      · rcases List.mem_cons.mp hu with rfl | hu
        · exact n3 a ha a (List.mem_append_left _ hb) rfl
        · rw [List.mem_singleton] at hu; subst hu
          exact n3 a ha a (List.mem_append_right _ hb) rfl
      · rw [List.mem_singleton] at hu; subst hu
        exact n5 a ha a hb rfl
    · refine ⟨rfl, (x1.sh.trans ⟨_, _, _, rfl, id⟩).trans sh, V', Fp', ?_⟩
      rcases hm with rfl | rfl
      · rw [← hm1]; exact S'
      · rw [← hm2]; exact S'
  rcases hsw env hE with e | e
  · rw [e]; exact wpAny_bind (wpAny_pure (fin _ (.inl rfl)))
  · rw [e]; exact wpAny_bind (wpAny_pure (fin _ (.inr rfl)))

/-- two names from a pair, where nothing is owned -/
theorem sx_unpack2 {e : Expr} {x y : Str} {px py pt pos : Pos} {kt : Nat} {k j : Nat} {d₁ d₂ : PyData} {md : Md} (he : EvOK C sc names n m e (.tuple [d₁, d₂]) md) (hfree : ∀ (k : Nat) d', m[k]? ≠ some (some (d', true)))
    (hk : names[k]? = some x) (hj : names[j]? = some y) (hn : names.Nodup) (hx : sc.names.lookup x = some .local ∨ sc.names.lookup x = some .cell) (hy : sc.names.lookup y = some .local ∨ sc.names.lookup y = some .cell)
    (hsw : SwapOK sc [.Name x px, .Name y py] kt pt e [x, y]) (hm1 : (m.set k (some (d₁, false))).set j (some (d₂, false)) = m') (hm2 : (m.set j (some (d₂, false))).set k (some (d₁, false)) = m')
    (hs : ∀ env, swapsWith e (some (.Tuple [.Name x px, .Name y py] kt pt)) pos.line env = pure false := by exact fun _ => rfl) :
    SxOK C sc names n m (.Assign [.Tuple [.Name x px, .Name y py] kt pt] e pos) m' := by
  intro A E s env Kp V Fp hR hE S
  have hkind : env.scope.kind = .function := by rw [hE.scope]; exact hE.kind
  rw [exec_Assign_tup _ _ _ _ _ _ (hs env)]
  refine wpAny_bind (wpAny_standAt (wpAny_bind (wpAny_mono (he A E s env Kp V Fp hR hE S) (fun v s₁ h₁ => ?_) fun _ _ h => h)))
  obtain ⟨x1, as, r, _⟩ := h₁
  obtain ⟨T, vs, bs, rfl, hT, rl, rfl⟩ := r.tuple_inv
  obtain ⟨v₁, v₂, b1, b2, rfl, r1, r2, rfl⟩ := pair_rd rl
  have S1 : St C.B Kp env names m V Fp s₁.heap := S.up x1.up
  have fin : ∀ sw, (sw = none ∨ sw = some [x, y]) → wpAny C.M A (assignStores env (.ref T) sw ((assignEach [.Tuple [.Name x px, .Name y py] kt pt] env).map (·.2)))
      (fun f s' => f = .next ∧ Sh s s' ∧ ∃ V' Fp', St C.B Kp env names m' V' Fp' s'.heap) E s₁ := fun sw hsw => by
    refine unpack_stores (n := n) (L := [⟨k, x, px, v₁, d₁, false, b1⟩, ⟨j, y, py, v₂, d₂, false, b2⟩]) hR hkind hn S1 hT rfl hsw ?_ ?_ fun s' V' Fp' m2 hm sh S' => ?_
    · intro t ht
      rcases List.mem_cons.mp ht with rfl | ht
      · exact ⟨hk, kinds hE hx, r1, fun j d' hm => absurd hm (hfree j d'), fun e => by cases e⟩
      · rw [List.mem_singleton] at ht; subst ht
        exact ⟨hj, kinds hE hy, r2, fun j d' hm => absurd hm (hfree j d'), fun e => by cases e⟩
    · simp
    · refine ⟨rfl, x1.sh.trans sh, V', Fp', ?_⟩
      rcases hm with rfl | rfl
      · rw [← hm1]; exact S'
      · rw [← hm2]; exact S'
  rcases hsw env hE with e | e
  · rw [e]; exact wpAny_bind (wpAny_pure (fin _ (.inl rfl)))
  · rw [e]; exact wpAny_bind (wpAny_pure (fin _ (.inr rfl)))

/-- two names from a written pair, where nothing is owned -/
theorem sx_pair2 {e₁ e₂ : Expr} {x y : Str} {px py pt p2 pos : Pos} {kt k2 : Nat} {k j : Nat} {d₁ d₂ : PyData} (he : EvsOK C sc names n m [e₁, e₂] [d₁, d₂] .any) (hfree : ∀ (k : Nat) d', m[k]? ≠ some (some (d', true)))
    (hk : names[k]? = some x) (hj : names[j]? = some y) (hn : names.Nodup) (hx : sc.names.lookup x = some .local ∨ sc.names.lookup x = some .cell) (hy : sc.names.lookup y = some .local ∨ sc.names.lookup y = some .cell)
    (hsw : SwapOK sc [.Name x px, .Name y py] kt pt (.Tuple [e₁, e₂] k2 p2) [x, y]) (hm1 : (m.set k (some (d₁, false))).set j (some (d₂, false)) = m') (hm2 : (m.set j (some (d₂, false))).set k (some (d₁, false)) = m') :
    SxOK C sc names n m (.Assign [.Tuple [.Name x px, .Name y py] kt pt] (.Tuple [e₁, e₂] k2 p2) pos) m' :=
  sx_unpack2 (ev_tuple he (by simp)) hfree hk hj hn hx hy hsw hm1 hm2
end
end Mine
end

/-! text MG -/
section
open PySem PySem.Spec PySem.Calls PyProof.Rows
set_option linter.unusedVariables false
namespace Mine

theorem upd_self {h : Heap} {a : Addr} {vs : Array Value} {c : Nat} (f : Array Value → Array Value) (e : h.get? a = some (lst vs c)) : ∃ c', (h.update a (Obj.mapSeq f)).get? a = some (lst (f vs) c') :=
  ⟨_, PySem.IsL.update e f⟩
theorem upd_other {h : Heap} {a b : Addr} {f : Obj → Obj} {o : Obj} (hb : b ≠ a) (e : h.get? b = some o) : (h.update a f).get? b = some o := (Heap.get?_update_other h f (Ne.symm hb)).trans e

section
variable {C : Cx} {sc : Scope} {names : List Str} {n : Nat} {m m' m'' : MM} {d : PyData}

theorem interactive_fn {env : Env} (hE : EnvOf env sc) : interactive env = false := by
  unfold interactive
  rw [hE.scope, hE.kind]; rfl

theorem slotList {Kp : Addr → Option Obj} {env : Env} {V Fp} {h : Heap} (S : St C.B Kp env names m V Fp h) {k : Nat} {xs : List PyData} (hm : m[k]? = some (some (.list xs, true))) :
    ∃ a vs c as, V k = .ref a ∧ h.get? a = some (lst vs c) ∧ RdL h vs.toList xs as ∧ Fp k = a :: as ∧ a ∉ as ∧ as.Nodup ∧ vs.size = xs.length := by
  obtain ⟨a, vs, c, as, e1, e2, e3, e4⟩ := (S.reads k _ hm).list_inv
  have := (S.own k _ hm).1
  rw [e4] at this
  obtain ⟨n1, n2⟩ := List.nodup_cons.mp this
  exact ⟨a, vs, c, as, e1, e2, e3, e4, n1, n2, by simpa using e3.length⟩

/-- the contents of an owned list change -/
theorem St.mutate {Kp : Addr → Option Obj} {env : Env} {V Fp} {h : Heap} (S : St C.B Kp env names m V Fp h) {k : Nat} {xs ys : List PyData} (hm : m[k]? = some (some (.list xs, true))) {a : Addr} {vs ws : Array Value} {c : Nat} {as bs : List Addr}
    {f : Array Value → Array Value} (hv : V k = .ref a) (hl : h.get? a = some (lst vs c)) (hF : Fp k = a :: as) (hf : f vs = ws) (r : RdL h ws.toList ys bs) (hnd : bs.Nodup) (ha : a ∉ bs)
    (hnew : ∀ x ∈ bs, x ∈ as ∨ (Kp x = none ∧ ∀ j e, m[j]? = some (some e) → x ∉ Fp j)) :
    St C.B Kp env names (m.set k (some (.list ys, true))) V (up1 Fp k (a :: bs)) (h.update a (Obj.mapSeq f)) := by
  obtain ⟨c', e'⟩ := upd_self f hl
  rw [hf] at e'
  refine S.change hm (fun b ob hb e => upd_other (fun q => hb (by rw [hF, q]; exact List.mem_cons_self ..)) e) ?_ (List.nodup_cons.mpr ⟨ha, hnd⟩) (fun x hx => ?_)
  · rw [hv]
    exact .list e' (r.but fun b hb o e => upd_other (fun q => ha (q ▸ hb)) e)
  · obtain ⟨o1, o2, o3⟩ := S.own k _ hm
    have old : x ∈ Fp k → Kp x = none ∧ ∀ j e, j ≠ k → m[j]? = some (some e) → x ∉ Fp j := fun hx => ⟨o2 x hx, fun j e hj hm' => o3 j e hj hm' x hx⟩
    rcases List.mem_cons.mp hx with rfl | hx
    · exact old (by rw [hF]; exact List.mem_cons_self ..)
    · rcases hnew x hx with hx | ⟨h1, h2⟩
      · exact old (by rw [hF]; exact List.mem_cons_of_mem _ hx)
      · exact ⟨h1, fun j e _ hm' => h2 j e hm'⟩

theorem list_method {A : Around} {E : Value → Shared → Prop} {s : Shared} {a : Addr} {vs : Array Value} {c : Nat} {name : Str} {id : String} {pos : Pos} {args : List (Bool × Sem Value)} {Q : Value → Shared → Prop}
    (slot : Slot "list" name id) (hty : typeOf (.builtin id) = pure (.type "method_descriptor")) (hl : s.heap.get? a = some (lst vs c)) (h : wpAny C.M A (callWith pos (.builtin id) [.ref a] args []) Q E s) :
    MethodOnS C.prog C.w A E name (.ref a) pos args Q s :=
  ⟨"list", id, PySem.F.plainAttrs_list, slot, hty, ⟨_, hl, rfl⟩, fun b e => by cases e; exact ⟨_, hl, rfl⟩, h⟩

theorem ld_slot {A : Around} {E : Value → Shared → Prop} {s : Shared} {env : Env} {Kp : Addr → Option Obj} {V Fp} {Q : Value → Shared → Prop} {x : Str} {px : Pos} {k : Nat} {e : Ent} (hE : EnvOf env sc) (S : St C.B Kp env names m V Fp s.heap)
    (hk : names[k]? = some x) (hm : m[k]? = some (some e)) (h : Q (V k) s) (hd : (x == ("__debug__" : Str)) = false := by decide) (hcl : (x == ("__classdict__" : Str)) = false := by decide) : wpAny C.M A (eval (.Name x px) env) Q E s := by
  have hkind : env.scope.kind = .function := by rw [hE.scope]; exact hE.kind
  refine wpAny_Name ?_ hd
  rcases S.loads k x _ hk hm with ⟨a, mL, b, c⟩ | ⟨a | a, c, b, e⟩
  · exact wpAny_loadName_local hkind a b c h
  · exact wpAny_loadName_cell hkind a b e h
  · exact wpAny_loadName_free hkind a b e h hcl

/-- x.append(e) -/
theorem sx_append {e : Expr} {x : Str} {px ap pos p2 : Pos} {k : Nat} {xs : List PyData} (he : EvOK C sc names n m e d .fresh) (hk : names[k]? = some x) (hm : m[k]? = some (some (.list xs, true))) (hsz : xs.length ≤ 1000)
    (hline : (ap.endLine == pos.line) = true := by rfl) (hs : ∀ env, starEach [e] env = [(false, eval e env)] := by intro _; rfl) (hd : (x == ("__debug__" : Str)) = false := by decide) (hcl : (x == ("__classdict__" : Str)) = false := by decide) :
    SxOK C sc names n m (.Expr (.Call (.Attribute (.Name x px) "append" ap) [e] [] pos) p2) (m.set k (some (.list (xs ++ [d]), true))) := by
  intro A E s env Kp V Fp hR hE S
  obtain ⟨a, vs, c, as, hv, hl, r, hF, hna, hnd, hsize⟩ := slotList S hm
  refine wpAny_Expr (Call_method1 rfl (hs env) hline (ld_slot hE S hk hm (hv ▸ list_method PySem.F.slot_list_append PySem.F.type_list_append hl (PySem.P.append_list (wpAny_mono (he A E s env Kp V Fp hR hE S) (fun v s₁ h₁ => ?_) fun _ _ h => h))) hd hcl)) (interactive_fn hE) rfl
  obtain ⟨x1, bs, rv, q1, q2⟩ := h₁
  obtain ⟨f1, f2⟩ := fresh_ok S q2
  have hl1 := x1.up a _ hl
  refine ⟨vs, c, by rw [sizeLine_eq]; lia, hl1, rfl, x1.sh.trans ⟨_, s₁.toks, s₁.gens, rfl, id⟩, V, up1 Fp k (a :: (as ++ bs)), ?_⟩
  have r' : RdL s₁.heap (vs.push v).toList (xs ++ [d]) (as ++ bs) := by
    rw [Array.toList_push]
    exact (r.up x1.up).snoc rv
  refine (S.up x1.up).mutate hm hv hl1 hF rfl r' (List.nodup_append.mpr ⟨hnd, q1, fun y hy z hz e => ?_⟩) (fun hb => ?_) (fun y hy => ?_)
  · subst e
    exact f2 k _ hm y hz (by rw [hF]; exact List.mem_cons_of_mem _ hy)
  · rcases List.mem_append.mp hb with hb | hb
    · exact hna hb
    · exact f2 k _ hm a hb (by rw [hF]; exact List.mem_cons_self ..)
  · rcases List.mem_append.mp hy with hy | hy
    · exact .inl hy
    · exact .inr ⟨f1 y hy, fun j e hm' => f2 j e hm' y hy⟩

/-- x.append(y) where y holds an owned list: from there on y is not known -/
theorem sx_append_move {x y : Str} {px py ap pos p2 : Pos} {k j : Nat} {xs : List PyData} (hk : names[k]? = some x) (hm : m[k]? = some (some (.list xs, true))) (hj : names[j]? = some y) (hmj : m[j]? = some (some (d, true))) (hkj : j ≠ k) (hsz : xs.length ≤ 1000)
    (hline : (ap.endLine == pos.line) = true := by rfl) (hd : (x == ("__debug__" : Str)) = false := by decide) (hcl : (x == ("__classdict__" : Str)) = false := by decide) (hd2 : (y == ("__debug__" : Str)) = false := by decide) (hcl2 : (y == ("__classdict__" : Str)) = false := by decide) :
    SxOK C sc names n m (.Expr (.Call (.Attribute (.Name x px) "append" ap) [.Name y py] [] pos) p2) ((m.set j none).set k (some (.list (xs ++ [d]), true))) := by
  intro A E s env Kp V Fp hR hE S
  obtain ⟨a, vs, c, as, hv, hl, r, hF, hna, hnd, hsize⟩ := slotList S hm
  refine wpAny_Expr (Call_method1 rfl rfl hline (ld_slot hE S hk hm (hv ▸ list_method PySem.F.slot_list_append PySem.F.type_list_append hl (PySem.P.append_list (ld_slot hE S hj hmj ?_ hd2 hcl2))) hd hcl)) (interactive_fn hE) rfl
  obtain ⟨o1, o2, o3⟩ := S.own j d hmj
  have rv := S.reads j _ hmj
  have w : Weak m (m.set j none) := fun i d' o' e => by
    rcases set_at e with ⟨_, q⟩ | ⟨_, q⟩
    · cases q
    · exact ⟨o', q, id⟩
  have S' := S.weak w
  have hm' : (m.set j none)[k]? = some (some (.list xs, true)) := by rw [List.getElem?_set_ne hkj]; exact hm
  refine ⟨vs, c, by rw [sizeLine_eq]; lia, hl, rfl, ⟨_, s.toks, s.gens, rfl, id⟩, V, up1 Fp k (a :: (as ++ Fp j)), ?_⟩
  have r' : RdL s.heap (vs.push (V j)).toList (xs ++ [d]) (as ++ Fp j) := by
    rw [Array.toList_push]
    exact r.snoc rv
  have dis : ∀ z ∈ Fp j, z ∉ Fp k := fun z hz => o3 k _ (Ne.symm hkj) hm z hz
  refine S'.mutate hm' hv hl hF rfl r' (List.nodup_append.mpr ⟨hnd, o1, fun y hy z hz e => ?_⟩) (fun hb => ?_) (fun y hy => ?_)
  · subst e
    exact dis y hz (by rw [hF]; exact List.mem_cons_of_mem _ hy)
  · rcases List.mem_append.mp hb with hb | hb
    · exact hna hb
    · exact dis a hb (by rw [hF]; exact List.mem_cons_self ..)
  · rcases List.mem_append.mp hy with hy | hy
    · exact .inl hy
    · refine .inr ⟨o2 y hy, fun i e hm'' => ?_⟩
      rcases set_at hm'' with ⟨_, q⟩ | ⟨q1, q2⟩
      · cases q
      · exact o3 i e q1 q2 y hy

theorem seqIndex_bounds {i : Int} {n t : Nat} (h : seqIndex? i n = some t) : -(n : Int) ≤ i ∧ i < n := by
  unfold seqIndex? at h
  by_cases h0 : i < 0
  · simp only [h0, if_true] at h
    split at h
    · rename_i hc
      simp only [Bool.and_eq_true, decide_eq_true_eq] at hc
      lia
    · cases h
  · simp only [h0, if_false] at h
    split at h
    · rename_i hc
      simp only [Bool.and_eq_true, decide_eq_true_eq] at hc
      lia
    · cases h
theorem RdL.eraseAt {h : Heap} : ∀ {vs : List Value} {ds : List PyData} {as : List Addr} (i : Nat), RdL h vs ds as → ∃ bs, RdL h (vs.eraseIdx i) (ds.eraseIdx i) bs ∧ bs.Sublist as
  | _, _, _, i, .nil => ⟨[], by simpa using RdL.nil, List.nil_sublist _⟩
  | _, _, _, 0, .cons h1 h2 => ⟨_, by simpa using h2, List.sublist_append_right _ _⟩
  | _, _, _, i + 1, .cons h1 h2 => by
    obtain ⟨bs, r, s⟩ := RdL.eraseAt i h2
    exact ⟨_, by simpa using RdL.cons h1 r, List.Sublist.append (List.Sublist.refl _) s⟩

theorem erase_toList {vs : Array Value} {i : Nat} (h : i < vs.size) : (vs.eraseIdxIfInBounds i).toList = vs.toList.eraseIdx i := by
  unfold Array.eraseIdxIfInBounds
  rw [dif_pos h]
  simp

/-- x.pop() of an atom, its value dropped -/
theorem sx_pop {x : Str} {px ap pos p2 : Pos} {k : Nat} {xs : List PyData} (hk : names[k]? = some x) (hm : m[k]? = some (some (.list (xs ++ [d]), true))) (hsz : xs.length ≤ 1000) (hat : Mine.atom d = true)
    (hline : (ap.endLine == pos.line) = true := by rfl) (hd : (x == ("__debug__" : Str)) = false := by decide) (hcl : (x == ("__classdict__" : Str)) = false := by decide) :
    SxOK C sc names n m (.Expr (.Call (.Attribute (.Name x px) "pop" ap) [] [] pos) p2) (m.set k (some (.list xs, true))) := by
  intro A E s env Kp V Fp hR hE S
  obtain ⟨a, vs, c, as, hv, hl, r, hF, hna, hnd, hsize⟩ := slotList S hm
  have hs2 : vs.size = xs.length + 1 := by simpa using hsize
  obtain ⟨v, bs, e1, r1, _⟩ := r.get (i := xs.length) (d := d) (by simp)
  have hne : ∀ b, v ≠ .ref b := by rintro b rfl; cases r1 <;> cases hat
  have hy : vs[vs.size - 1]? = some v := by rw [hs2]; simpa using e1
  obtain ⟨cs, r2, sub⟩ := r.eraseAt (vs.size - 1)
  have e2 : (xs ++ [d]).eraseIdx (vs.size - 1) = xs := by rw [hs2]; simp [List.eraseIdx_append_of_length_le]
  rw [e2] at r2
  refine wpAny_Expr (Call_method0 rfl hline (ld_slot hE S hk hm (hv ▸ list_method PySem.F.slot_list_pop PySem.F.type_list_pop hl (PySem.P.pop_list hl hy ?_ (by rw [sizeLine_eq]; lia))) hd hcl)) (interactive_fn hE) rfl
  have fin : (Flow.next = Flow.next ∧ Sh s { s with heap := s.heap.update a (Obj.mapSeq fun xs => xs.eraseIdxIfInBounds (vs.size - 1)) } ∧ ∃ V' Fp', St C.B Kp env names (m.set k (some (.list xs, true))) V' Fp' (s.heap.update a (Obj.mapSeq fun xs => xs.eraseIdxIfInBounds (vs.size - 1)))) := by
    refine ⟨rfl, ⟨_, s.toks, s.gens, rfl, id⟩, V, up1 Fp k (a :: cs), ?_⟩
    exact S.mutate hm hv hl hF rfl (by rw [erase_toList (by lia)]; exact r2) (sub.nodup hnd) (fun h => hna (sub.subset h)) (fun y hy => .inl (sub.subset hy))
  cases v <;> first | exact fin | exact absurd rfl (hne _)

/-- y.append(x.pop(i)) of an atom -/
theorem sx_append_pop {e : Expr} {x y : Str} {px py ap bp pos q1 q2 : Pos} {k j : Nat} {xs ys : List PyData} {i : Int} {t : Nat} {md : Md} (he : EvOK C sc names n m e (.int i) md) (hk : names[k]? = some x) (hm : m[k]? = some (some (.list xs, true)))
    (hj : names[j]? = some y) (hmj : m[j]? = some (some (.list ys, true))) (hkj : j ≠ k) (hsx : xs.length ≤ 1000) (hsy : ys.length ≤ 1000) (hi : seqIndex? i xs.length = some t) (hx : xs[t]? = some d) (hat : Mine.atom d = true)
    (hl1 : (ap.endLine == q1.line) = true := by rfl) (hl2 : (bp.endLine == pos.line) = true := by rfl) (hs : ∀ env, starEach [e] env = [(false, eval e env)] := by intro _; rfl)
    (hd : (x == ("__debug__" : Str)) = false := by decide) (hcl : (x == ("__classdict__" : Str)) = false := by decide) (hd2 : (y == ("__debug__" : Str)) = false := by decide) (hcl2 : (y == ("__classdict__" : Str)) = false := by decide) :
    SxOK C sc names n m (.Expr (.Call (.Attribute (.Name y py) "append" bp) [.Call (.Attribute (.Name x px) "pop" ap) [e] [] q1] [] pos) q2)
      ((m.set k (some (.list (xs.eraseIdx t), true))).set j (some (.list (ys ++ [d]), true))) := by
  intro A E s env Kp V Fp hR hE S
  obtain ⟨a, vs, c, as, hv, hl, r, hF, hna, hnd, hsize⟩ := slotList S hm
  obtain ⟨a', vs', c', as', hv', hl', r', hF', hna', hnd', hsize'⟩ := slotList S hmj
  refine wpAny_Expr (Call_method1 rfl rfl hl2 (ld_slot hE S hj hmj (hv' ▸ list_method PySem.F.slot_list_append PySem.F.type_list_append hl' (PySem.P.append_list
    (Call_method1 rfl (hs env) hl1 (ld_slot hE S hk hm (hv ▸ list_method PySem.F.slot_list_pop PySem.F.type_list_pop hl (PySem.P.pop_at_list (wpAny_mono (he A E s env Kp V Fp hR hE S) (fun v s₁ h₁ => ?_) fun _ _ h => h))) hd hcl)))) hd2 hcl2)) (interactive_fn hE) rfl
  obtain ⟨x1, bs, rv, _⟩ := h₁
  obtain ⟨u, rfl, _⟩ := rv.int_inv
  have S1 := S.up x1.up
  have h1 := x1.up a _ hl
  have h1' := x1.up a' _ hl'
  obtain ⟨w, ws, e1, r1, _⟩ := (r.up x1.up).get hx
  have ews : ws = [] := r1.atom hat
  subst ews
  have ht : t < vs.size := by
    have := (List.getElem?_eq_some_iff.mp e1).1; simpa using this
  have hfit : Builtin.List.listFitsIndex i = true := by
    have hb := seqIndex_bounds hi
    unfold Builtin.List.listFitsIndex
    simp only [Bool.and_eq_true, decide_eq_true_eq]
    lia
  obtain ⟨cs, r2, sub⟩ := (r.up x1.up).eraseAt t
  have S2 : St C.B Kp env names (m.set k (some (.list (xs.eraseIdx t), true))) V (up1 Fp k (a :: cs)) (s₁.heap.update a (Obj.mapSeq fun xs => xs.eraseIdxIfInBounds t)) :=
    S1.mutate hm hv h1 hF rfl (by rw [erase_toList ht]; exact r2) (sub.nodup hnd) (fun h => hna (sub.subset h)) (fun y hy => .inl (sub.subset hy))
  have haa : a' ≠ a := by
    rintro rfl
    exact (S.own k _ hm).2.2 j _ hkj hmj a' (by rw [hF]; exact List.mem_cons_self ..) (by rw [hF']; exact List.mem_cons_self ..)
  have hmj2 : (m.set k (some (.list (xs.eraseIdx t), true)))[j]? = some (some (.list ys, true)) := by rw [List.getElem?_set_ne (Ne.symm hkj)]; exact hmj
  have h2' := upd_other (f := Obj.mapSeq fun xs => xs.eraseIdxIfInBounds t) haa h1'
  have r3 : RdL (s₁.heap.update a (Obj.mapSeq fun xs => xs.eraseIdxIfInBounds t)) vs'.toList ys as' := (r'.up x1.up).but fun b hb o e => upd_other (fun q => by
    subst q
    exact (S.own k _ hm).2.2 j _ hkj hmj b (by rw [hF]; exact List.mem_cons_self ..) (by rw [hF']; exact List.mem_cons_of_mem _ hb)) e
  refine ⟨vs, c, i, u, t, w, by rw [sizeLine_eq]; lia, rfl, h1, hfit, by rw [hsize]; exact hi, by simpa using e1, vs', c', by rw [sizeLine_eq]; lia, h2', rfl, x1.sh.trans ⟨_, s₁.toks, s₁.gens, rfl, id⟩, V, up1 (up1 Fp k (a :: cs)) j (a' :: as'), ?_⟩
  have hw : ∀ (h : Heap), Rd h w d [] := fun h => by cases r1 <;> first | exact .none | exact .bool _ | exact .int _ _ | exact .str _ _ | cases hat
  refine S2.mutate hmj2 hv' h2' (by rw [up1_other _ _ hkj]; exact hF') rfl ?_ hnd' hna' (fun y hy => .inl hy)
  rw [Array.toList_push]
  simpa using r3.snoc (hw _)

/-- x.insert(0, e) of an atom -/
theorem sx_insert0 {e : Expr} {x : Str} {px ap pos p2 pz : Pos} {kz : Option Str} {k : Nat} {xs : List PyData} {kk} {md : Md} (he : EvOK C sc names n m e d md) (hk : names[k]? = some x) (hm : m[k]? = some (some (.list xs, true))) (hsz : xs.length ≤ 1000) (hat : Mine.atom d = true)
    (hline : (ap.endLine == pos.line) = true := by rfl) (hs : ∀ env, starEach [.Constant (.int 0) kk pz, e] env = [(false, eval (.Constant (.int 0) kk pz) env), (false, eval e env)] := by intro _; rfl) (hd : (x == ("__debug__" : Str)) = false := by decide) (hcl : (x == ("__classdict__" : Str)) = false := by decide) :
    SxOK C sc names n m (.Expr (.Call (.Attribute (.Name x px) "insert" ap) [.Constant (.int 0) kk pz, e] [] pos) p2) (m.set k (some (.list (d :: xs), true))) := by
  intro A E s env Kp V Fp hR hE S
  obtain ⟨a, vs, c, as, hv, hl, r, hF, hna, hnd, hsize⟩ := slotList S hm
  refine wpAny_Expr (Call_method2 rfl (hs env) hline (ld_slot hE S hk hm (hv ▸ list_method PySem.F.slot_list_insert PySem.F.type_list_insert hl ?_) hd hcl)) (interactive_fn hE) rfl
  refine method_meets PySem.F.slot_list_insert PySem.F.entry_list_insert rfl (Calls.evalArgs_plain (Calls.spliced_cons (wpAny_Constant_int (Calls.spliced_cons (wpAny_mono (he A E _ env Kp V Fp hR hE S) (fun v s₁ h₁ => ?_) fun _ _ h => h)))))
  obtain ⟨x1, bs, rv, _⟩ := h₁
  have eb : bs = [] := rv.atom hat
  subst eb
  have hl1 := x1.up a _ hl
  refine Calls.spliced_nil ⟨rfl, ⟨_, hl1, rfl⟩, PySem.F.args_list_insert_3 _ _ _, _, AutoSeq1.list_insert_list_int_val_1 a vs c 0 _ v (by decide) (by rw [sizeLine_eq]; lia), hl1, ?_⟩
  refine ⟨rfl, Sh.trans ⟨s.heap, s.toks + 1, s.gens, rfl, id⟩ (x1.sh.trans ⟨_, s₁.toks, s₁.gens, rfl, id⟩), V, up1 Fp k (a :: as), ?_⟩
  refine (S.up x1.up).mutate hm hv hl1 hF rfl ?_ hnd hna (fun y hy => .inl hy)
  have : ((fun xs : Array Value => have k := if (0 : Int) < 0 then ((0 : Int) + (xs.size : Int)).toNat else min (0 : Int).toNat xs.size; (xs.extract 0 k).push v ++ xs.extract k) vs).toList = v :: vs.toList := by simp
  rw [this]
  simpa using RdL.cons rv (r.up x1.up)

theorem RdL.setAt {h : Heap} : ∀ {vs : List Value} {ds : List PyData} {as : List Addr} {v : Value} {d : PyData} (i : Nat), RdL h vs ds as → Rd h v d [] → ∃ bs, RdL h (vs.set i v) (ds.set i d) bs ∧ bs.Sublist as
  | _, _, _, v, d, i, .nil, q => ⟨[], by simpa using RdL.nil, List.nil_sublist _⟩
  | _, _, _, v, d, 0, .cons h1 h2, q => ⟨_, by simpa using RdL.cons q h2, List.sublist_append_right _ _⟩
  | _, _, _, v, d, i + 1, .cons h1 h2, q => by
    obtain ⟨bs, r, s⟩ := RdL.setAt i h2 q
    exact ⟨_, by simpa using RdL.cons h1 r, List.Sublist.append (List.Sublist.refl _) s⟩

/-- x[i] = v of an atom -/
theorem sx_setitem {i e : Expr} {x : Str} {px ps pos : Pos} {k : Nat} {xs : List PyData} {t : Int} {md mi : Md} (he : EvOK C sc names n m e d md) (hi : EvOK C sc names n m i (.int t) mi) (hk : names[k]? = some x) (hm : m[k]? = some (some (.list xs, true))) (hsz : xs.length ≤ 1000)
    (h0 : 0 ≤ t) (h1 : t < xs.length) (hat : Mine.atom d = true) (hs : ∀ env, swapsWith e (some (.Subscript (.Name x px) i ps)) pos.line env = pure false := by intro _; rfl)
    (hd : (x == ("__debug__" : Str)) = false := by decide) (hcl : (x == ("__classdict__" : Str)) = false := by decide) : SxOK C sc names n m (.Assign [.Subscript (.Name x px) i ps] e pos) (m.set k (some (.list (xs.set t.toNat d), true))) := by
  intro A E s env Kp V Fp hR hE S
  refine wpAny_Assign_Subscript (wpAny_mono (he A E s env Kp V Fp hR hE S) (fun v s₁ h₁ => ?_) fun _ _ h => h) (hs env)
  obtain ⟨x1, bs, rv, _⟩ := h₁
  have eb : bs = [] := rv.atom hat
  subst eb
  have S1 := S.up x1.up
  refine ld_slot hE S1 hk hm (wpAny_mono (hi A E s₁ env Kp V Fp hR hE S1) (fun w s₂ h₂ => ?_) fun _ _ h => h) hd hcl
  obtain ⟨x2, cs, rw', _⟩ := h₂
  obtain ⟨u, rfl, _⟩ := rw'.int_inv
  have S2 := S1.up x2.up
  obtain ⟨a, vs, c, as, hv, hl, r, hF, hna, hnd, hsize⟩ := slotList S2 hm
  rw [hv]
  refine PySem.W.ki_setAt hl h0 (by lia) (by lia) ⟨rfl, (x1.sh.trans x2.sh).trans ⟨_, s₂.toks, s₂.gens, rfl, id⟩, ?_⟩
  obtain ⟨ds, r2, sub⟩ := r.setAt t.toNat (rv.up x2.up)
  refine ⟨V, up1 Fp k (a :: ds), S2.mutate hm hv hl hF rfl ?_ (sub.nodup hnd) (fun h => hna (sub.subset h)) (fun y hy => .inl (sub.subset hy))⟩
  rw [Array.toList_setIfInBounds]
  exact r2
end
end Mine
end

/-! text MH -/
section
open PySem PySem.Spec PySem.Calls PyProof.Rows
set_option linter.unusedVariables false
namespace Mine

/-- a source of single items -/
inductive Src1 (C : Cx) (A : Around) (env : Env) (m : MM) (Fp : Nat → List Addr) (items : List PyData) (s : Shared) (it : Value) (s₂ : Shared) : Prop
  | mk (x : Ext s s₂) (h₁ : Heap) (I : Addr) (fp wr : List Addr) (P : Nat → Value → Prop) (W : Nat → Heap → Prop) (up : Up s.heap h₁) (e : it = .ref I) (wk : Walks C.prog C.w A I fp wr items.length P W) (w0 : W 0 s₂.heap) (r : Src C A env m Fp h₁ s₂.heap wr fp)
      (hwr : ∀ i h, W i h → ∀ b ∈ wr, FieldsAt h b) (hit : ∀ i v, P i v → ∃ d as, items[i]? = some d ∧ Rd h₁ v d as ∧ ∀ a ∈ as, ¬ Wr env m Fp a) : Src1 C A env m Fp items s it s₂
/-- a source of pairs -/
inductive Src2 (C : Cx) (A : Around) (env : Env) (m : MM) (Fp : Nat → List Addr) (zip : Bool) (items : List (PyData × PyData)) (s : Shared) (it : Value) (s₂ : Shared) : Prop
  | mk (x : Ext s s₂) (h₁ : Heap) (I : Addr) (fp wr : List Addr) (P : Nat → Array Value → Prop) (W : Nat → Heap → Prop) (Mid : Nat → Addr → Heap → Prop) (up : Up s.heap h₁) (e : it = .ref I) (wk : WalksT C.prog C.w A I fp wr items.length P W Mid) (w0 : W 0 s₂.heap)
      (r : Src C A env m Fp h₁ s₂.heap wr fp) (hwr : ∀ i h, W i h → ∀ b ∈ wr, WrOk h b) (hmid : ∀ i T h, Mid i T h → ∀ b ∈ wr, WrOk h b) (hz : zip = false → (∀ i h, W i h → ∀ b ∈ wr, ¬ SeqAt h b) ∧ ∀ i T h, Mid i T h → ∀ b ∈ wr, ¬ SeqAt h b)
      (hit : ∀ i vs, P i vs → ∃ v₁ v₂ d₁ d₂ as bs, vs = #[v₁, v₂] ∧ items[i]? = some (d₁, d₂) ∧ Rd h₁ v₁ d₁ as ∧ Rd h₁ v₂ d₂ bs ∧ (∀ a ∈ as, ¬ Wr env m Fp a) ∧ ∀ a ∈ bs, ¬ Wr env m Fp a) : Src2 C A env m Fp zip items s it s₂

def It1 (C : Cx) (sc : Scope) (names : List Str) (n : Nat) (m : MM) (e : Expr) (items : List PyData) : Prop :=
  ∀ (A : Around) (E : Value → Shared → Prop) (s : Shared) (env : Env) (Kp : Addr → Option Obj) (V : Nat → Value) (Fp : Nat → List Addr),
    Room A n → EnvOf env sc → St C.B Kp env names m V Fp s.heap →
    wpAny C.M A (eval e env) (fun x s₁ => wpAny C.M A (pyIter x) (fun it s₂ => Src1 C A env m Fp items s it s₂) E s₁) E s
def It2 (C : Cx) (sc : Scope) (names : List Str) (n : Nat) (m : MM) (zip : Bool) (e : Expr) (items : List (PyData × PyData)) : Prop :=
  ∀ (A : Around) (E : Value → Shared → Prop) (s : Shared) (env : Env) (Kp : Addr → Option Obj) (V : Nat → Value) (Fp : Nat → List Addr),
    Room A n → EnvOf env sc → St C.B Kp env names m V Fp s.heap →
    wpAny C.M A (eval e env) (fun x s₁ => wpAny C.M A (pyIter x) (fun it s₂ => Src2 C A env m Fp zip items s it s₂) E s₁) E s

section
variable {C : Cx} {sc : Scope} {names : List Str} {n : Nat} {m m' m'' : MM} {d : PyData} {e : Expr}

theorem Src.froz_sub {A env m Fp h₁ s₂} {wr fp : List Addr} (R : Src C A env m Fp h₁ s₂ wr fp) {Kp V h} (S : St C.B Kp env names m V Fp h) (u : Up h h₁) : ∀ h' a o, Kp a = some o → froz env m Fp s₂ wr h' a = some o := fun h' a o e => by
  have hk := u a o (S.keep a o e)
  have hw : a ∉ wr := fun hw => by rw [R.wrNew a hw] at hk; cases hk
  rw [froz_out hw (S.wr_kp e)]; exact R.up a o hk
theorem Src.not_wr {A env m Fp h₁ s₂} {wr fp : List Addr} (R : Src C A env m Fp h₁ s₂ wr fp) : ∀ b ∈ wr, ¬ Wr env m Fp b := fun b hb => (R.fps b (R.sub b hb)).2

theorem It1.iter {x : Str} {px : Pos} {k : Nat} {items : List PyData} (h : It1 C sc names n m e items) (hk : names[k]? = some x) (hn : names.Nodup) (hx : sc.names.lookup x = some .local ∨ sc.names.lookup x = some .cell) :
    IterOK C sc names n m (.Name x px) e items.length (fun i m => m.set k (items[i]?.map fun d => (d, false))) (fun _ => True) := fun A E s env Kp V Fp hR hE S =>
  wpAny_mono (h A E s env Kp V Fp hR hE S) (fun x s₁ h₁ => wpAny_mono h₁ (fun it s₂ h₂ => by
    obtain ⟨x2, h₁, I, fp, wr, P, W, u1, rfl, Wk, hW, R, hwr, hit⟩ := h₂
    refine ⟨x2, _, W, wr, _, running_name (by rw [hE.scope]; exact hE.kind) hk hn (kinds hE hx) Wk R hwr hit, hW, (S.up x2.up).freeze R.not_wr R.wrB, R.froz_sub S u1⟩) fun _ _ h => h) fun _ _ h => h
theorem It2.iter {x y : Str} {px py pt : Pos} {c k j : Nat} {zip : Bool} {items : List (PyData × PyData)} (h : It2 C sc names n m zip e items) (hk : names[k]? = some x) (hj : names[j]? = some y) (hn : names.Nodup)
    (hx : sc.names.lookup x = some .local ∨ sc.names.lookup x = some .cell) (hy : sc.names.lookup y = some .local ∨ sc.names.lookup y = some .cell) :
    IterOK C sc names n m (.Tuple [.Name x px, .Name y py] c pt) e items.length (fun i m => (m.set k (items[i]?.map fun d => (d.1, false))).set j (items[i]?.map fun d => (d.2, false)))
      (fun m => zip = true → ∀ (k : Nat) d, m[k]? = some (some (d, false)) → Mine.atom d = true) := fun A E s env Kp V Fp hR hE S =>
  wpAny_mono (h A E s env Kp V Fp hR hE S) (fun x s₁ h₁ => wpAny_mono h₁ (fun it s₂ h₂ => by
    obtain ⟨x2, h₁, I, fp, wr, P, W, Mid, u1, rfl, Wk, hW, R, hwr, hmid, hz, hit⟩ := h₂
    refine ⟨x2, _, W, wr, _, running_pair hR.hh (by rw [hE.scope]; exact hE.kind) hk hj hn (kinds hE hx) (kinds hE hy) Wk R hwr hmid ?_ hit, hW, (S.up x2.up).freeze R.not_wr R.wrB, R.froz_sub S u1⟩
    cases zip with
    | false => exact .inl (hz rfl)
    | true => exact .inr fun m hm => hm rfl) fun _ _ h => h) fun _ _ h => h

/-- a list as a source -/
theorem list_src {A : Around} {E : Value → Shared → Prop} {env : Env} {Kp V Fp} {s s₁ : Shared} {v : Value} {items : List PyData} {as : List Addr} (hh : A.handled = none) (S : St C.B Kp env names m V Fp s.heap) (x1 : Ext s s₁)
    (r : Rd s₁.heap v (.list items) as) (hw : ∀ a ∈ as, ¬ Wr env m Fp a) : wpAny C.M A (pyIter v) (fun it s₂ => Src1 C A env m Fp items s it s₂) E s₁ := by
  obtain ⟨l, vs, c, bs, rfl, hl, q, rfl⟩ := r.list_inv
  have hlen : vs.size = items.length := by simpa using q.length
  refine wpAny_pyIter_list (isList_lst hl) ?_
  have hne : l ≠ s₁.heap.objs.size := Nat.ne_of_lt (Heap.lt_size hl)
  have u := Up.push s₁.heap { cls := .type "list_iterator", data := .fields #[.ref l, .int 0 0] }
  have hI : s₁.heap.get? s₁.heap.objs.size = none := by
    cases e : s₁.heap.get? s₁.heap.objs.size with
    | none => rfl
    | some o => exact absurd (Heap.lt_size e) (Nat.lt_irrefl _)
  have hnew : ¬ Wr env m Fp s₁.heap.objs.size := fun w => by
    obtain ⟨o, e⟩ := (S.up x1.up).wr_live w
    rw [hI] at e; cases e
  refine ⟨x1.trans (.heap u), s₁.heap, s₁.heap.objs.size, [s₁.heap.objs.size, l], [s₁.heap.objs.size], _, _, x1.up, rfl, hlen ▸ Walks.list hh _ l hne vs, ⟨⟨_, Heap.get?_push_size _ rfl, rfl, rfl⟩, isList_lst (u _ _ hl)⟩,
    ⟨u, (S.up x1.up).baseUp, fun b hb => ?_, fun b hb => by simp at hb; simp [hb], fun b hb => by rw [List.mem_singleton] at hb; subst hb; exact hI⟩, fun i h hW b hb => ?_, fun i v hP => ?_⟩
  · rcases List.mem_cons.mp hb with rfl | hb
    · exact ⟨⟨_, Heap.get?_push_size _ rfl⟩, hnew⟩
    · rw [List.mem_singleton] at hb; subst hb
      exact ⟨⟨_, u _ _ hl⟩, hw _ (List.mem_cons_self ..)⟩
  · rw [List.mem_singleton] at hb; subst hb
    obtain ⟨⟨o, e, _, dd⟩, _⟩ := hW
    exact ⟨o, _, e, dd⟩
  · obtain ⟨d, cs, e1, r1, sub⟩ := q.getV (by simpa using hP)
    exact ⟨d, cs, e1, r1, fun a ha => hw a (List.mem_cons_of_mem _ (sub a ha))⟩

theorem not_wr_of {Kp : Addr → Option Obj} {env : Env} {V Fp} {s s₁ : Shared} {v : Value} {d : PyData} {as : List Addr} {md : Md} (S : St C.B Kp env names m V Fp s.heap) (x1 : Ext s s₁) (r : Rd s₁.heap v d as)
    (q : match md with | .any => True | .fresh => as.Nodup ∧ ∀ a ∈ as, s.heap.get? a = none | .new => ∀ a ∈ as, s.heap.get? a = none | .mine => ∀ a ∈ as, Kp a = none | .shared => ∀ k d', m[k]? = some (some (d', true)) → ∀ a ∈ as, a ∉ Fp k)
    (hmd : md = .shared ∨ md = .new ∨ md = .fresh) : ∀ a ∈ as, ¬ Wr env m Fp a := fun a ha w => by
  have new : s.heap.get? a = none → False := fun e => by
    obtain ⟨o, e'⟩ := S.wr_live w
    rw [e] at e'; cases e'
  rcases hmd with rfl | rfl | rfl
  · rcases w with p | ⟨k, d', hm, hf⟩
    · exact (S.up x1.up).priv_not_seq p (r.live a ha)
    · exact q k d' hm a ha hf
  · exact new (q a ha)
  · exact new (q.2 a ha)

theorem it_list {items : List PyData} {md : Md} (h : EvOK C sc names n m e (.list items) md) (hmd : md = .shared ∨ md = .new ∨ md = .fresh) : It1 C sc names n m e items := fun A E s env Kp V Fp hR hE S =>
  wpAny_mono (h A E s env Kp V Fp hR hE S) (fun v s₁ h₁ => by
    obtain ⟨x1, as, r, q⟩ := h₁
    exact list_src hR.hh S x1 r (not_wr_of S x1 r q hmd)) fun _ _ h => h

/-- a range -/
def rangeItems (a c : Int) (k : Nat) : List PyData := (List.range k).map fun i => .int (a + (i : Nat) * c)
theorem range_src {A : Around} {E : Value → Shared → Prop} {env : Env} {Kp V Fp} {s s₁ : Shared} {rg : Addr} {a b c : Int} {t u v : Tok} (hh : A.handled = none) (S : St C.B Kp env names m V Fp s.heap) (x1 : Ext s s₁)
    (hr : IsRange s₁.heap rg a b c t u v) (hsmall : Builtin.Range.small a b c = true) {k : Nat} (hk : Builtin.Range.rangeSize a b c = k) : wpAny C.M A (pyIter (.ref rg)) (fun it s₂ => Src1 C A env m Fp (rangeItems a c k) s it s₂) E s₁ := by
  refine wpAny_pyIter_range hr hsmall ?_
  have u := Up.push s₁.heap { cls := .type "range_iterator", data := .fields #[rawInt a, rawInt (Builtin.Range.rangeSize a b c), rawInt c] }
  have hI : s₁.heap.get? s₁.heap.objs.size = none := by
    cases e : s₁.heap.get? s₁.heap.objs.size with
    | none => rfl
    | some o => exact absurd (Heap.lt_size e) (Nat.lt_irrefl _)
  have hnew : ¬ Wr env m Fp s₁.heap.objs.size := fun w => by
    obtain ⟨o, e⟩ := (S.up x1.up).wr_live w
    rw [hI] at e; cases e
  have hl : (rangeItems a c k).length = k := by simp [rangeItems]
  refine ⟨x1.trans (.heap u), s₁.heap, s₁.heap.objs.size, [s₁.heap.objs.size], [s₁.heap.objs.size], _, _, x1.up, rfl, hl.symm ▸ (Walks.range hh _ a c k).bound, ?_,
    ⟨u, (S.up x1.up).baseUp, fun b hb => ?_, fun b hb => hb, fun b hb => by rw [List.mem_singleton] at hb; subst hb; exact hI⟩, fun i h hW b hb => ?_, fun i v hP => ?_⟩
  · have := Heap.get?_push_size s₁.heap (o := { cls := .type "range_iterator", data := .fields #[rawInt a, rawInt (Builtin.Range.rangeSize a b c), rawInt c] }) rfl
    rw [hk] at this ⊢
    simpa [hl] using this
  · rw [List.mem_singleton] at hb; subst hb
    exact ⟨⟨_, Heap.get?_push_size _ rfl⟩, hnew⟩
  · rw [List.mem_singleton] at hb; subst hb
    exact ⟨_, _, hW, rfl⟩
  · obtain ⟨hi, tk, rfl⟩ := hP
    exact ⟨.int (a + i * c), [], by
      unfold rangeItems
      rw [List.getElem?_map, List.getElem?_range (by lia)]; rfl, .int _ _, fun _ h => nomatch h⟩
end
end Mine
end

/-! text MI -/
section
open PySem PySem.Spec PySem.Calls PyProof.Rows
set_option linter.unusedVariables false
namespace Mine
section
variable {C : Cx} {sc : Scope} {names : List Str} {n : Nat} {m m' m'' : MM} {d : PyData} {e : Expr}

/-- a call of a built-in by its name: the arguments, then the call itself -/
theorem call_named {A : Around} {E : Value → Shared → Prop} {s : Shared} {env : Env} {Kp V Fp} {x : Str} {p pos : Pos} {e₁ : Expr} {es : List Expr} {ds : List PyData} {f : Value} {ma : Md} {Q : Value → Shared → Prop}
    (G : C.Good) (g : GlobIs C x f) (hf : Callee f) (hx : sc.names.lookup x = some .globalImplicit) (hR : Room A n) (hE : EnvOf env sc) (S : St C.B Kp env names m V Fp s.heap)
    (hargs : EvsOK C sc names n m (e₁ :: es) ds ma)
    (hop : ∀ vs s₁ as, Ext s s₁ → RdL s₁.heap vs ds as → (ma = .fresh → as.Nodup ∧ ∀ a ∈ as, s.heap.get? a = none) → wpAny C.M A (call f vs) Q E s₁)
    (hd : (x == ("__debug__" : Str)) = false := by decide) (he : ∀ env, starEach (e₁ :: es) env = (false, eval e₁ env) :: starEach es env := by intro _; rfl)
    (hplain : ∀ env pos, (backTo pos (starEach es env)).any (·.1) = false := by intro _ _; rfl) : wpAny C.M A (eval (.Call (.Name x p) (e₁ :: es) [] pos) env) Q E s := by
  refine Call_ (ld_glob G g hE S.baseUp hx ?_ hd)
  have fin : wpAny C.M A (spliced (backTo pos (starEach (e₁ :: es) env))) (fun vs s₁ => wpAny C.M A (call f vs) Q E s₁) E s :=
    wpAny_mono (hargs A E s env Kp V Fp pos hR hE S) (fun vs s₁ h₁ => by
      obtain ⟨x1, as, r, q, _⟩ := h₁
      exact hop vs s₁ as x1 r q) fun _ _ h => h
  cases hf with
  | bi id => exact callWith_builtin1 fin (he env) (hplain env pos)
  | ty T => exact callWith_type1 fin (he env) (hplain env pos)

theorem it_range1 {x : Str} {p pos : Pos} {b : Int} {k : Nat} {mb : Md} (G : C.Good) (g : GlobIs C x (.type "range")) (hx : sc.names.lookup x = some .globalImplicit) (h : EvOK C sc names n m e (.int b) mb)
    (hb : -(2 ^ 62) ≤ b) (hb' : b < 2 ^ 62) (hk : Builtin.Range.rangeSize 0 b 1 = k) (hd : (x == ("__debug__" : Str)) = false := by decide) (he : ∀ env, starEach [e] env = [(false, eval e env)] := by intro _; rfl) :
    It1 C sc names n m (.Call (.Name x p) [e] [] pos) (rangeItems 0 1 k) := fun A E s env Kp V Fp hR hE S =>
  call_named (ma := .any) G g (.ty _) hx hR hE S (evs_cons h.any evs_nil he) (fun vs s₁ as x1 r _ => by
    cases r with
    | cons r1 r2 =>
      cases r2
      obtain ⟨t, rfl, _⟩ := r1.int_inv
      refine call_range_1 ?_
      exact range_src hR.hh S (x1.trans (.of (.push _ _))) (IsRange.new ..) (small_one (by lia) (by lia) hb hb') hk) hd he (fun _ _ => rfl)
theorem it_range2 {x : Str} {p pos : Pos} {e₂ : Expr} {a b : Int} {k : Nat} {ma mb : Md} (G : C.Good) (g : GlobIs C x (.type "range")) (hx : sc.names.lookup x = some .globalImplicit) (h : EvOK C sc names n m e (.int a) ma) (h2 : EvOK C sc names n m e₂ (.int b) mb)
    (ha : -(2 ^ 62) ≤ a) (ha' : a < 2 ^ 62) (hb : -(2 ^ 62) ≤ b) (hb' : b < 2 ^ 62) (hk : Builtin.Range.rangeSize a b 1 = k) (hd : (x == ("__debug__" : Str)) = false := by decide)
    (he : ∀ env, starEach [e, e₂] env = (false, eval e env) :: starEach [e₂] env := by intro _; rfl) (he2 : ∀ env, starEach [e₂] env = [(false, eval e₂ env)] := by intro _; rfl) :
    It1 C sc names n m (.Call (.Name x p) [e, e₂] [] pos) (rangeItems a 1 k) := fun A E s env Kp V Fp hR hE S =>
  call_named (ma := .any) G g (.ty _) hx hR hE S (evs_cons h.any (evs_cons h2.any evs_nil he2) he) (fun vs s₁ as x1 r _ => by
    cases r with
    | cons r1 r2 =>
      cases r2 with
      | cons r2 r3 =>
        cases r3
        obtain ⟨t, rfl, _⟩ := r1.int_inv
        obtain ⟨u, rfl, _⟩ := r2.int_inv
        refine call_range_2 ?_
        exact range_src hR.hh S (x1.trans (.of (.push _ _))) (IsRange.new ..) (small_one ha ha' hb hb') hk) hd he (fun env pos => by rw [he2]; rfl)
theorem it_range3 {x : Str} {p pos : Pos} {e₂ e₃ : Expr} {a b c : Int} {k : Nat} {ma mb mc : Md} (G : C.Good) (g : GlobIs C x (.type "range")) (hx : sc.names.lookup x = some .globalImplicit) (h : EvOK C sc names n m e (.int a) ma) (h2 : EvOK C sc names n m e₂ (.int b) mb)
    (h3 : EvOK C sc names n m e₃ (.int c) mc) (hc : c ≠ 0) (hcs : c.natAbs < 1073741824) (hsmall : Builtin.Range.small a b c = true) (hk : Builtin.Range.rangeSize a b c = k) (hd : (x == ("__debug__" : Str)) = false := by decide)
    (he : ∀ env, starEach [e, e₂, e₃] env = (false, eval e env) :: starEach [e₂, e₃] env := by intro _; rfl) (he2 : ∀ env, starEach [e₂, e₃] env = (false, eval e₂ env) :: starEach [e₃] env := by intro _; rfl) (he3 : ∀ env, starEach [e₃] env = [(false, eval e₃ env)] := by intro _; rfl) :
    It1 C sc names n m (.Call (.Name x p) [e, e₂, e₃] [] pos) (rangeItems a c k) := fun A E s env Kp V Fp hR hE S =>
  call_named (ma := .any) G g (.ty _) hx hR hE S (evs_cons h.any (evs_cons h2.any (evs_cons h3.any evs_nil he3) he2) he) (fun vs s₁ as x1 r _ => by
    cases r with
    | cons r1 r2 =>
      cases r2 with
      | cons r2 r3 =>
        cases r3 with
        | cons r3 r4 =>
          cases r4
          obtain ⟨t, rfl, _⟩ := r1.int_inv
          obtain ⟨u, rfl, _⟩ := r2.int_inv
          obtain ⟨v, rfl, _⟩ := r3.int_inv
          refine call_range_3 hc ?_ (.inl (PyProof.noPylong_small hcs))
          exact range_src hR.hh S (x1.trans (.of (.push _ _))) (IsRange.new ..) hsmall hk) hd he (fun env pos => by rw [he2, he3]; rfl)

/-- list(range(b)) -/
theorem ev_list_range {x y : Str} {p q pos pos2 : Pos} {b : Int} {k : Nat} {mb : Md} (G : C.Good) (gl : GlobIs C y (.type "list")) (hy : sc.names.lookup y = some .globalImplicit) (g : GlobIs C x (.type "range")) (hx : sc.names.lookup x = some .globalImplicit)
    (h : EvOK C sc names n m e (.int b) mb) (hb : -(2 ^ 62) ≤ b) (hb' : b < 2 ^ 62) (hk : Builtin.Range.rangeSize 0 b 1 = k) (hk' : k ≤ 1000) (hd : (x == ("__debug__" : Str)) = false := by decide) (hd2 : (y == ("__debug__" : Str)) = false := by decide) (he : ∀ env, starEach [e] env = [(false, eval e env)] := by intro _; rfl) :
    EvOK C sc names n m (.Call (.Name y q) [.Call (.Name x p) [e] [] pos] [] pos2) (.list (rangeItems 0 1 k)) .fresh := by
  intro A E s env Kp V Fp hR hE S
  refine Call_ (ld_glob G gl hE S.baseUp hy ?_ hd2)
  refine callWith_type1 (wpAny_items_cons (call_named (ma := .any) G g (.ty _) hx hR hE S (evs_cons h.any evs_nil he) (fun vs s₁ as x1 r _ => ?_) hd he (fun _ _ => rfl)) rfl) rfl rfl
  cases r with
  | cons r1 r2 =>
    cases r2
    obtain ⟨t, rfl, _⟩ := r1.int_inv
    refine call_range_1 (wpAny_items_nil ?_)
    refine call_list_range hR.hh (IsRange.new ..) (small_one (by lia) (by lia) hb hb') hk (by lia) fun h' tk acc c hk2 hl hacc => ?_
    obtain ⟨hsz, hget⟩ := hacc
    have up : Up s₁.heap h' := (Up.push s₁.heap _).trans hk2
    refine ⟨x1.trans (.of up), _, .list hl (as := []) ?_, by simp, fun y hy => ?_⟩
    · have key : ∀ (l : List Value) (i : Nat), l.length = k - i → i ≤ k → (∀ (j : Nat) (v : Value), l[j]? = some v → ∃ t, v = Value.int (0 + ((i + j : Nat) : Int) * 1) t) → RdL h' l ((List.range' i (k - i)).map fun (j : Nat) => PyData.int (0 + (j : Int) * 1)) [] := by
        intro l
        induction l with
        | nil =>
          intro i hl _ _
          have : k - i = 0 := by simpa using hl.symm
          rw [this]; exact .nil
        | cons v l ih =>
          intro i hl hi hv
          have h1 : k - i = (k - (i + 1)) + 1 := by simp at hl; lia
          rw [h1, List.range'_succ, List.map_cons]
          obtain ⟨t, rfl⟩ := hv 0 v rfl
          refine .cons (as := []) (.int _ _) (ih (i + 1) (by simp at hl; lia) (by simp at hl; lia) fun j w hw => ?_)
          obtain ⟨t, e⟩ := hv (j + 1) w (by simpa using hw)
          exact ⟨t, by rw [e, show i + (j + 1) = i + 1 + j by lia]⟩
      have := key acc.toList 0 (by simpa using hsz) (Nat.zero_le _) fun j v hv => by
        obtain ⟨t, e⟩ := hget j v (by simpa using hv)
        exact ⟨t, by simpa using e⟩
      simpa [rangeItems, List.range_eq_range'] using this
    · rw [List.mem_singleton] at hy; subst hy
      have hsize : (s₁.heap.push { cls := .type "range", data := .fields #[.int 0 s₁.toks, .int b t, .int 1 (s₁.toks + 1)] }).objs.size = s₁.heap.objs.size + 1 := Heap.size_push ..
      show s.heap.get? (s₁.heap.push { cls := .type "range", data := .fields #[.int 0 s₁.toks, .int b t, .int 1 (s₁.toks + 1)] }).objs.size = none
      rw [hsize]
      cases e0 : s.heap.get? (s₁.heap.objs.size + 1) with
      | none => rfl
      | some o =>
        have := Heap.lt_size (x1.up _ o e0)
        exact absurd this (by show ¬ (s₁.heap.objs.size + 1 < s₁.heap.objs.size); lia)

/-- enumerate(list) -/
def enumItems : Nat → List PyData → List (PyData × PyData)
  | _, [] => []
  | i, d :: ds => (.int i, d) :: enumItems (i + 1) ds
theorem enumItems_at : ∀ (ds : List PyData) (i j : Nat) {d : PyData}, ds[j]? = some d → (enumItems i ds)[j]? = some (.int ((i + j : Nat) : Int), d)
  | [], _, _, _, h => by simp at h
  | d :: ds, i, 0, _, h => by simp at h; subst h; rfl
  | d :: ds, i, j + 1, _, h => by
    have := enumItems_at ds (i + 1) j (by simpa using h)
    rw [show i + 1 + j = i + (j + 1) by lia] at this
    simpa [enumItems] using this
theorem enumItems_length : ∀ (ds : List PyData) (i : Nat), (enumItems i ds).length = ds.length
  | [], _ => rfl
  | d :: ds, i => by simp [enumItems, enumItems_length ds (i + 1)]

theorem it_enum {x : Str} {p pos : Pos} {items : List PyData} {md : Md} (G : C.Good) (g : GlobIs C x (.type "enumerate")) (hx : sc.names.lookup x = some .globalImplicit) (h : EvOK C sc names n m e (.list items) md) (hmd : md = .shared ∨ md = .new ∨ md = .fresh)
    (hd : (x == ("__debug__" : Str)) = false := by decide) (he : ∀ env, starEach [e] env = [(false, eval e env)] := by intro _; rfl) :
    It2 C sc names n m false (.Call (.Name x p) [e] [] pos) (enumItems 0 items) := by
  intro A E s env Kp V Fp hR hE S
  refine Call_ (ld_glob G g hE S.baseUp hx ?_ hd)
  refine callWith_type1 (wpAny_items_cons (wpAny_mono (h A E s env Kp V Fp hR hE S) (fun v s₁ h₁ => wpAny_items_nil ?_) fun _ _ h => h) (he env)) (he env) rfl
  obtain ⟨x1, as, r, q⟩ := h₁
  have hw := not_wr_of S x1 r q hmd
  obtain ⟨l, vs, c, bs, rfl, hl, ql, rfl⟩ := r.list_inv
  have hlen : vs.size = items.length := by simpa using ql.length
  refine call_enumerate_list (isList_lst hl) fun h' hEn hIt hsz hk => ?_
  refine wpAny_pyIter_enum hEn ?_
  have hL := isList_lst (hk _ _ hl)
  have hlt := Heap.lt_size hl
  have dead : ∀ b, s₁.heap.objs.size ≤ b → s₁.heap.get? b = none := fun b hb => by
    cases e : s₁.heap.get? b with
    | none => rfl
    | some o => exact absurd (Heap.lt_size e) (Nat.not_lt.mpr hb)
  have hnew : ∀ b, s₁.heap.objs.size ≤ b → ¬ Wr env m Fp b := fun b hb w => by
    obtain ⟨o, e⟩ := (S.up x1.up).wr_live w
    rw [dead b hb] at e; cases e
  refine ⟨x1.trans (.heap hk), s₁.heap, s₁.heap.objs.size + 1, _, _, _, _, _, x1.up, rfl,
    (enumItems_length items 0).trans hlen.symm ▸ WalksT.enumerate hR.hh _ _ l (Nat.succ_ne_self _) (Nat.ne_of_lt (Nat.lt_succ_of_lt hlt)) (Nat.ne_of_lt hlt) vs, ⟨⟨_, hEn⟩, hIt, hL⟩,
    ⟨hk, (S.up x1.up).baseUp, fun b hb => ?_, fun b hb => ?_, fun b hb => ?_⟩, fun i h hW b hb => ?_, fun i T h hM b hb => ?_, fun _ => ⟨fun i h hW b hb => ?_, fun i T h hM b hb => ?_⟩, fun i vals hP => ?_⟩
  · rcases List.mem_cons.mp hb with rfl | hb
    · exact ⟨⟨_, hEn⟩, hnew _ (Nat.le_succ _)⟩
    · rcases List.mem_cons.mp hb with rfl | hb
      · obtain ⟨o, e, _⟩ := hIt
        exact ⟨⟨_, e⟩, hnew _ (Nat.le_refl _)⟩
      · rw [List.mem_singleton] at hb; subst hb
        exact ⟨⟨_, hk _ _ hl⟩, hw _ (List.mem_cons_self ..)⟩
  · rcases List.mem_cons.mp hb with rfl | hb
    · exact List.mem_cons_self ..
    · rw [List.mem_singleton] at hb; subst hb; simp
  · rcases List.mem_cons.mp hb with rfl | hb
    · exact dead _ (Nat.le_succ _)
    · rw [List.mem_singleton] at hb; subst hb; exact dead _ (Nat.le_refl _)
  · obtain ⟨⟨old, h1⟩, ⟨o, h2, _, h3⟩, _⟩ := hW
    rcases List.mem_cons.mp hb with rfl | hb
    · exact ⟨_, h1, .inl ⟨_, rfl⟩⟩
    · rw [List.mem_singleton] at hb; subst hb; exact ⟨o, h2, .inl ⟨_, h3⟩⟩
  · obtain ⟨⟨old, h1⟩, ⟨o, h2, _, h3⟩, _⟩ := hM
    rcases List.mem_cons.mp hb with rfl | hb
    · exact ⟨_, h1, .inl ⟨_, rfl⟩⟩
    · rw [List.mem_singleton] at hb; subst hb; exact ⟨o, h2, .inl ⟨_, h3⟩⟩
  · obtain ⟨⟨old, h1⟩, ⟨o, h2, _, h3⟩, _⟩ := hW
    rcases List.mem_cons.mp hb with rfl | hb
    · exact FieldsAt.not_seq ⟨_, _, h1, rfl⟩
    · rw [List.mem_singleton] at hb; subst hb; exact FieldsAt.not_seq ⟨o, _, h2, h3⟩
  · obtain ⟨⟨old, h1⟩, ⟨o, h2, _, h3⟩, _⟩ := hM
    rcases List.mem_cons.mp hb with rfl | hb
    · exact FieldsAt.not_seq ⟨_, _, h1, rfl⟩
    · rw [List.mem_singleton] at hb; subst hb; exact FieldsAt.not_seq ⟨o, _, h2, h3⟩
  · obtain ⟨t, y, hy, rfl⟩ := hP
    obtain ⟨d, cs, e1, r1, sub⟩ := ql.getV (by simpa using hy)
    exact ⟨_, _, _, _, [], cs, rfl, by have := enumItems_at items 0 i e1; simpa using this, .int _ _, r1, (fun _ h => by cases h), fun a ha => hw a (List.mem_cons_of_mem _ (sub a ha))⟩
end
end Mine
end

/-! text MJ -/
section
open PySem PySem.Spec PySem.Calls PyProof.Rows
set_option linter.unusedVariables false
namespace Mine
section
variable {C : Cx} {sc : Scope} {names : List Str} {n : Nat} {m m' m'' : MM} {d : PyData} {e : Expr}

theorem it_zip {x : Str} {p pos : Pos} {e₂ : Expr} {xs ys : List PyData} {md m2 : Md} (G : C.Good) (g : GlobIs C x (.type "zip")) (hx : sc.names.lookup x = some .globalImplicit) (h : EvOK C sc names n m e (.list xs) md) (hmd : md = .shared ∨ md = .new ∨ md = .fresh)
    (h2 : EvOK C sc names n m e₂ (.list ys) m2) (hm2 : m2 = .shared ∨ m2 = .new ∨ m2 = .fresh)
    (hd : (x == ("__debug__" : Str)) = false := by decide) (he : ∀ env, starEach [e, e₂] env = (false, eval e env) :: starEach [e₂] env := by intro _; rfl) (he2 : ∀ env, starEach [e₂] env = [(false, eval e₂ env)] := by intro _; rfl) :
    It2 C sc names n m true (.Call (.Name x p) [e, e₂] [] pos) (xs.zip ys) := by
  intro A E s env Kp V Fp hR hE S
  refine Call_ (ld_glob G g hE S.baseUp hx ?_ hd)
  refine callWith_type1 (wpAny_items_cons (wpAny_mono (h A E s env Kp V Fp hR hE S) (fun v s₁ h₁ => ?_) fun _ _ h => h) (he env)) (he env) (by rw [he2]; rfl)
  obtain ⟨x1, as, r, q⟩ := h₁
  have S1 := S.up x1.up
  refine wpAny_items_cons (wpAny_mono (h2 A E s₁ env Kp V Fp hR hE S1) (fun v2 s₂ h₂ => wpAny_items_nil ?_) fun _ _ h => h) (he2 env)
  obtain ⟨x2, as2, r2, q2⟩ := h₂
  have hw := not_wr_of S x1 r q hmd
  have hw2 := not_wr_of S1 x2 r2 q2 hm2
  have S2 := S1.up x2.up
  obtain ⟨l, vs, c, bs, rfl, hl, ql, rfl⟩ := (r.up x2.up).list_inv
  obtain ⟨l2, vs2, c2, bs2, rfl, hl2, ql2, rfl⟩ := r2.list_inv
  have hlen : vs.size = xs.length := by simpa using ql.length
  have hlen2 : vs2.size = ys.length := by simpa using ql2.length
  refine call_zip_2 (isList_lst hl) (isList_lst hl2) fun h' hz hTI hTO hi1 hi2 hsz hk => ?_
  refine wpAny_pyIter_zip hz ?_
  have hlt := Heap.lt_size hl
  have hlt2 := Heap.lt_size hl2
  have dead : ∀ b, s₂.heap.objs.size ≤ b → s₂.heap.get? b = none := fun b hb => by
    cases e : s₂.heap.get? b with
    | none => rfl
    | some o => exact absurd (Heap.lt_size e) (Nat.not_lt.mpr hb)
  have hnew : ∀ b, s₂.heap.objs.size ≤ b → ¬ Wr env m Fp b := fun b hb w => by
    obtain ⟨o, e⟩ := S2.wr_live w
    rw [dead b hb] at e; cases e
  generalize hk0 : s₂.heap.objs.size = k at *
  have ne : ∀ a b : Nat, a < b → a ≠ b := fun a b => Nat.ne_of_lt
  have D : ZipApart (k + 4) (k + 2) (k + 3) k (k + 1) l l2 := by
    have hlt' : @LT.lt Nat _ l k := hlt
    have hlt2' : @LT.lt Nat _ l2 k := hlt2
    constructor <;> (intro q; have q' : @Eq Nat _ _ := q; lia)
  have W := WalksT.zip2 (prog := C.prog) (w := C.w) hR.hh _ _ _ _ _ _ _ D vs vs2
  have hN : min vs.size vs2.size = (xs.zip ys).length := by rw [List.length_zip]; lia
  rw [hN] at W
  have okW : ∀ {h : Heap} {z TI TO i1 i2 l1 l2 : Addr} {f0 : Value} {k1 k2 : Nat}, IsZip h z TI TO f0 → (∃ a b, IsPair h TO a b) → h.IsListIter i1 l1 k1 → h.IsListIter i2 l2 k2 → ∀ b ∈ [z, TO, i1, i2], WrOk h b := fun h1 ⟨a, b', h2⟩ ⟨o3, e3, _, d3⟩ ⟨o4, e4, _, d4⟩ b hb => by
    rcases List.mem_cons.mp hb with rfl | hb
    · exact ⟨_, h1, .inl ⟨_, rfl⟩⟩
    · rcases List.mem_cons.mp hb with rfl | hb
      · exact ⟨_, h2, .inr ⟨_, _, rfl⟩⟩
      · rcases List.mem_cons.mp hb with rfl | hb
        · exact ⟨o3, e3, .inl ⟨_, d3⟩⟩
        · rw [List.mem_singleton] at hb; subst hb
          exact ⟨o4, e4, .inl ⟨_, d4⟩⟩
  refine ⟨(x1.trans x2).trans (.heap hk), s₂.heap, _, _, _, _, _, _, (x1.trans x2).up, rfl, W, ⟨hz, hTI, ⟨_, _, hTO⟩, hi1, hi2, isList_lst (hk _ _ hl), isList_lst (hk _ _ hl2)⟩,
    ⟨hk, S2.baseUp, fun b hb => ?_, fun b hb => ?_, fun b hb => ?_⟩, fun i h hW => okW hW.1 hW.2.2.1 hW.2.2.2.1 hW.2.2.2.2.1, fun i T h hM => okW hM.1 hM.2.2.1 hM.2.2.2.1 hM.2.2.2.2.1, (by intro e; cases e), fun i vals hP => ?_⟩
  · simp only [List.mem_cons, List.not_mem_nil, or_false] at hb
    have up : ∀ j : Nat, ¬ Wr env m Fp (k + j) := fun j => hnew _ (Nat.le_add_right _ _)
    rcases hb with rfl | rfl | rfl | rfl | rfl | rfl | rfl
    · exact ⟨⟨_, hz⟩, up 4⟩
    · exact ⟨⟨_, hTI⟩, up 2⟩
    · exact ⟨⟨_, hTO⟩, up 3⟩
    · obtain ⟨o, e, _⟩ := hi1; exact ⟨⟨o, e⟩, up 0⟩
    · obtain ⟨o, e, _⟩ := hi2; exact ⟨⟨o, e⟩, up 1⟩
    · exact ⟨⟨_, hk _ _ hl⟩, hw _ (List.mem_cons_self ..)⟩
    · exact ⟨⟨_, hk _ _ hl2⟩, hw2 _ (List.mem_cons_self ..)⟩
  · simp only [List.mem_cons, List.not_mem_nil, or_false] at hb ⊢
    rcases hb with rfl | rfl | rfl | rfl <;> simp
  · simp only [List.mem_cons, List.not_mem_nil, or_false] at hb
    rcases hb with rfl | rfl | rfl | rfl
    · exact dead _ (Nat.le_add_right _ _)
    · exact dead _ (Nat.le_add_right _ _)
    · exact dead _ (Nat.le_refl _)
    · exact dead _ (Nat.le_add_right _ _)
  · obtain ⟨y, z, hy, hz', rfl⟩ := hP
    obtain ⟨d, cs, e1, r1, sub⟩ := ql.getV (by simpa using hy)
    obtain ⟨d2, cs2, e2, r2', sub2⟩ := ql2.getV (by simpa using hz')
    refine ⟨_, _, d, d2, cs, cs2, rfl, by rw [List.getElem?_zip_eq_some]; exact ⟨e1, e2⟩, r1, r2', (fun a ha => hw a (List.mem_cons_of_mem _ (sub a ha))), fun a ha => hw2 a (List.mem_cons_of_mem _ (sub2 a ha))⟩

/-! comprehensions -/
def relK (sc : Scope) (x : Str) (k : NameKind) : NameKind := if (k == .free && sc.kind == .function && sc.names.lookup x == some .cell) then .cell else k
def relabelS (scope sc : Scope) : Scope := { scope with names := scope.names.map fun p => (p.1, relK sc p.1 p.2) }
theorem relabel_eq {env : Env} (hE : EnvOf env sc) (scope : Scope) : relabel scope env = relabelS scope sc := by
  unfold relabel relabelS Env.kindOf
  rw [hE.scope]
  congr 1
  apply List.map_congr_left
  rintro ⟨x, k⟩ _
  unfold relK
  dsimp only
  split <;> rfl
theorem lookup_mapk (g : Str → NameKind → NameKind) (x : Str) : ∀ l : List (Str × NameKind), (l.map fun p => (p.1, g p.1 p.2)).lookup x = (l.lookup x).map (g x)
  | [] => rfl
  | (y, k) :: r => by
    rw [List.map_cons, List.lookup_cons, List.lookup_cons]
    cases hx : x == y with
    | true =>
      have e : x = y := by simpa using hx
      subst e; rfl
    | false => exact lookup_mapk g x r
theorem relabelS_lookup {scope sc : Scope} {x : Str} {k : NameKind} (h : scope.names.lookup x = some k) : (relabelS scope sc).names.lookup x = some (relK sc x k) := by
  show (scope.names.map fun p => (p.1, relK sc p.1 p.2)).lookup x = _
  rw [lookup_mapk, h]; rfl
theorem relabelS_local {scope sc : Scope} {x : Str} (h : scope.names.lookup x = some .local) : (relabelS scope sc).names.lookup x = some .local := relabelS_lookup h
theorem relabelS_cap {scope sc : Scope} {x : Str} (hk : sc.kind = .function) (h : scope.names.lookup x = some .free) (hc : sc.names.lookup x = some .cell) : (relabelS scope sc).names.lookup x = some .cell := by
  rw [relabelS_lookup h]; unfold relK; rw [hk, hc]; rfl
theorem relabelS_cell_inv {scope sc : Scope} {x : Str} (hno : ∀ p ∈ scope.names, p.2 ≠ .cell) (h : (relabelS scope sc).names.lookup x = some .cell) : scope.names.lookup x = some .free ∧ sc.names.lookup x = some .cell := by
  have h' : (scope.names.map fun p => (p.1, relK sc p.1 p.2)).lookup x = some .cell := h
  rw [lookup_mapk] at h'
  cases e : scope.names.lookup x with
  | none => rw [e] at h'; cases h'
  | some k =>
    rw [e] at h'
    have h2 : relK sc x k = .cell := Option.some.inj h'
    unfold relK at h2
    split at h2
    · rename_i hc
      simp only [Bool.and_eq_true, beq_iff_eq] at hc
      exact ⟨by rw [hc.1.1], hc.2⟩
    · subst h2
      exact absurd rfl (hno _ (PySem.mem_of_lookup e))

theorem closureFor_caps {scope : Scope} {env : Env} {cf : Str → Addr} (h : ∀ p ∈ scope.names, p.2 = .free → env.cells.lookup p.1 = some (cf p.1)) :
    closureFor scope env = pure ((scope.names.filter (·.2 == .free)).reverse.map fun p => (p.1, cf p.1)) := by
  have key : ∀ (l : List (Str × NameKind)) (acc : List (Str × Addr)), (∀ p ∈ l, p.2 = .free → env.cells.lookup p.1 = some (cf p.1)) →
      (forIn l acc fun (x : Str × NameKind) (r : List (Str × Addr)) => (if x.2 == NameKind.free then (do let c ← cellOf env x.1; pure (ForInStep.yield ((x.1, c) :: r))) else pure (ForInStep.yield r) : Sem (ForInStep (List (Str × Addr))))) =
        pure ((l.filter (·.2 == .free)).reverse.map (fun p => (p.1, cf p.1)) ++ acc) := by
    intro l
    induction l with
    | nil => intro acc _; rfl
    | cons p r ih =>
      intro acc hp
      rw [List.forIn_cons]
      have hr : ∀ q ∈ r, q.2 = .free → env.cells.lookup q.1 = some (cf q.1) := fun q hq => hp q (List.mem_cons_of_mem _ hq)
      by_cases hf : (p.2 == NameKind.free) = true
      · have e := hp p (List.mem_cons_self ..) (by simpa using hf)
        simp only [hf, if_true]
        have : cellOf env p.1 = pure (cf p.1) := by unfold cellOf; rw [e]
        rw [this]
        simp only [pure_bind]
        rw [ih _ hr]
        simp [List.filter_cons, hf]
      · simp only [hf, if_false, pure_bind, Bool.false_eq_true]
        rw [ih _ hr]
        simp [List.filter_cons, hf]
  have := key scope.names [] h
  unfold closureFor
  simp only [List.append_nil] at this
  exact (congrArg (fun (t : Sem (List (Str × Addr))) => t >>= fun cs => pure cs) this).trans rfl
end
end Mine
end

/-! text MK -/
section
open PySem PySem.Spec PySem.Calls PyProof.Rows
set_option linter.unusedVariables false
namespace Mine

structure CompSc (scope sc : Scope) : Prop where
  kind : scope.kind = .function
  nocell : ∀ p ∈ scope.names, p.2 ≠ .cell
  locals : ∀ p ∈ scope.names, p.2 = .local → scope.names.lookup p.1 = some .local
  caps : ∀ p ∈ scope.names, p.2 = .free → sc.names.lookup p.1 = some .cell

def Capt (scope : Scope) (names names' : List Str) (m mc : MM) (J : Nat → Nat) : Prop :=
  ∀ (k : Nat) d o, mc[k]? = some (some (d, o)) → o = false ∧ ∃ x o', names'[k]? = some x ∧ names[J k]? = some x ∧ m[J k]? = some (some (d, o')) ∧ scope.names.lookup x = some .free

theorem capt2 {scope : Scope} {names names' : List Str} {m : MM} {J : Nat → Nat}   : Capt scope names names' m [none, none] J := by
  intro k d o h
  rcases k with _ | _ | k
  · cases h
  · cases h
  · cases h
theorem capt21 {scope : Scope} {names names' : List Str} {m : MM} {J : Nat → Nat} {d2 : PyData} {x2 : Str} {o2 : Bool} (a2 : names'[2]? = some x2) (b2 : names[J 2]? = some x2) (c2 : m[J 2]? = some (some (d2, o2))) (e2 : scope.names.lookup x2 = some .free) : Capt scope names names' m [none, none, some (d2, false)] J := by
  intro k d o h
  rcases k with _ | _ | _ | k
  · cases h
  · cases h
  · cases h; exact ⟨rfl, x2, o2, a2, b2, c2, e2⟩
  · cases h
theorem capt31 {scope : Scope} {names names' : List Str} {m : MM} {J : Nat → Nat} {d3 : PyData} {x3 : Str} {o3 : Bool} (a3 : names'[3]? = some x3) (b3 : names[J 3]? = some x3) (c3 : m[J 3]? = some (some (d3, o3))) (e3 : scope.names.lookup x3 = some .free) : Capt scope names names' m [none, none, none, some (d3, false)] J := by
  intro k d o h
  rcases k with _ | _ | _ | _ | k
  · cases h
  · cases h
  · cases h
  · cases h; exact ⟨rfl, x3, o3, a3, b3, c3, e3⟩
  · cases h
theorem capt22 {scope : Scope} {names names' : List Str} {m : MM} {J : Nat → Nat} {d2 : PyData} {x2 : Str} {o2 : Bool} {d3 : PyData} {x3 : Str} {o3 : Bool} (a2 : names'[2]? = some x2) (b2 : names[J 2]? = some x2) (c2 : m[J 2]? = some (some (d2, o2))) (e2 : scope.names.lookup x2 = some .free) (a3 : names'[3]? = some x3) (b3 : names[J 3]? = some x3) (c3 : m[J 3]? = some (some (d3, o3))) (e3 : scope.names.lookup x3 = some .free) : Capt scope names names' m [none, none, some (d2, false), some (d3, false)] J := by
  intro k d o h
  rcases k with _ | _ | _ | _ | k
  · cases h
  · cases h
  · cases h; exact ⟨rfl, x2, o2, a2, b2, c2, e2⟩
  · cases h; exact ⟨rfl, x3, o3, a3, b3, c3, e3⟩
  · cases h
theorem capt32 {scope : Scope} {names names' : List Str} {m : MM} {J : Nat → Nat} {d3 : PyData} {x3 : Str} {o3 : Bool} {d4 : PyData} {x4 : Str} {o4 : Bool} (a3 : names'[3]? = some x3) (b3 : names[J 3]? = some x3) (c3 : m[J 3]? = some (some (d3, o3))) (e3 : scope.names.lookup x3 = some .free) (a4 : names'[4]? = some x4) (b4 : names[J 4]? = some x4) (c4 : m[J 4]? = some (some (d4, o4))) (e4 : scope.names.lookup x4 = some .free) : Capt scope names names' m [none, none, none, some (d3, false), some (d4, false)] J := by
  intro k d o h
  rcases k with _ | _ | _ | _ | _ | k
  · cases h
  · cases h
  · cases h
  · cases h; exact ⟨rfl, x3, o3, a3, b3, c3, e3⟩
  · cases h; exact ⟨rfl, x4, o4, a4, b4, c4, e4⟩
  · cases h
def capCells (scope : Scope) (env : Env) : List (Str × Addr) := (scope.names.filter (·.2 == .free)).reverse.map fun p => (p.1, (env.cells.lookup p.1).getD 0)

theorem lookup_map_mem {cf : Str → Addr} {x : Str} : ∀ {l : List (Str × NameKind)}, (∃ p ∈ l, p.1 = x) → (l.map fun p => (p.1, cf p.1)).lookup x = some (cf x)
  | [], h => by obtain ⟨p, hp, _⟩ := h; cases hp
  | q :: r, h => by
    rw [List.map_cons, List.lookup_cons]
    cases hx : x == q.1 with
    | true =>
      have e : x = q.1 := by simpa using hx
      subst e; rfl
    | false =>
      refine lookup_map_mem ?_
      obtain ⟨p, hp, e⟩ := h
      rcases List.mem_cons.mp hp with rfl | hp
      · subst e; simp at hx
      · exact ⟨p, hp, e⟩
theorem lookup_map_inv {cf : Str → Addr} {x : Str} {c : Addr} {l : List (Str × NameKind)} (h : (l.map fun p => (p.1, cf p.1)).lookup x = some c) : (∃ p ∈ l, p.1 = x) ∧ c = cf x := by
  have := PySem.mem_of_lookup h
  obtain ⟨p, hp, e⟩ := List.mem_map.mp this
  have e1 := (Prod.mk.inj e).1
  have e2 := (Prod.mk.inj e).2
  exact ⟨⟨p, hp, e1⟩, by rw [← e2, e1]⟩

section
variable {C : Cx} {sc scope : Scope} {names names' : List Str} {n : Nat} {m mc m' m'' : MM} {d : PyData} {e : Expr} {J : Nat → Nat}

theorem cap_lookup {env : Env} {x : Str} (h : scope.names.lookup x = some .free) : (capCells scope env).lookup x = some ((env.cells.lookup x).getD 0) :=
  lookup_map_mem (cf := fun x => (env.cells.lookup x).getD 0) ⟨(x, .free), List.mem_reverse.mpr (List.mem_filter.mpr ⟨PySem.mem_of_lookup h, rfl⟩), rfl⟩
theorem cap_inv {env : Env} {x : Str} {c : Addr} (h : (capCells scope env).lookup x = some c) : (x, NameKind.free) ∈ scope.names ∧ c = (env.cells.lookup x).getD 0 := by
  obtain ⟨⟨p, hp, e1⟩, e2⟩ := lookup_map_inv (cf := fun x => (env.cells.lookup x).getD 0) h
  obtain ⟨h1, h2⟩ := List.mem_filter.mp (List.mem_reverse.mp hp)
  refine ⟨?_, e2⟩
  obtain ⟨y, k⟩ := p
  have e3 : k = .free := by simpa using h2
  subst e3; subst e1; exact h1

theorem cap_closure {env : Env} {Kp V Fp h} (hE : EnvOf env sc) (hc : CompSc scope sc) (S : St C.B Kp env names m V Fp h) : closureFor scope env = pure (capCells scope env) :=
  closureFor_caps (cf := fun x => (env.cells.lookup x).getD 0) fun p hp hf => by
    have := hc.caps p hp hf
    obtain ⟨c, v, hl, _⟩ := S.cell p.1 (by unfold Env.kindOf; rw [hE.scope]; exact this)
    rw [hl]; rfl

/-- the comprehension's block -/
theorem comp_envOf {env : Env} {c : Addr} (hE : EnvOf env sc) (hc : CompSc scope sc) : EnvOf (compEnvC scope (capCells scope env) c env) (relabelS scope sc) where
  scope := relabel_eq hE scope
  kind := hc.kind
  glob := hE.glob
  bi := hE.bi

theorem comp_priv {env : Env} {c a : Addr} {Kp V Fp h} (hE : EnvOf env sc) (hc : CompSc scope sc) (S : St C.B Kp env names m V Fp h) (p : Priv (compEnvC scope (capCells scope env) c env) a) : a = c ∨ Priv env a := by
  rcases p with h | ⟨x, h1, h2⟩
  · exact .inl h
  · have h1' : (relabelS scope sc).names.lookup x = some .cell := by rw [← (comp_envOf hE hc (c := c)).scope]; exact h1
    obtain ⟨q1, q2⟩ := relabelS_cell_inv hc.nocell h1'
    have hk : env.kindOf x = some .cell := by unfold Env.kindOf; rw [hE.scope]; exact q2
    have h2' : (capCells scope env).lookup x = some a := h2
    rw [cap_lookup q1] at h2'
    obtain ⟨c', v, hl, _⟩ := S.cell x hk
    rw [hl] at h2'
    exact .inr (.inr ⟨x, hk, by rw [hl]; exact h2'⟩)

theorem comp_st {env : Env} {c : Addr} {Kp V Fp} {h₀ h₁ h₂ h : Heap} {wr fp : List Addr} {A : Around} (hE : EnvOf env sc) (hc : CompSc scope sc) (hJ : Capt scope names names' m mc J) (S : St C.B Kp env names m V Fp h₀) (u₁ : Up h₀ h₁) (R : Src C A env m Fp h₁ h₂ wr fp)
    (hcn : h₂.get? c = none) (hcw : c ∉ wr) (hns : ∃ mC, h.Ns c mC) (up : ∀ b o, b ∉ wr → h₂.get? b = some o → h.get? b = some o) :
    St C.B (froz (compEnvC scope (capCells scope env) c env) [] (Fp ∘ J) h₂ wr h) (compEnvC scope (capCells scope env) c env) names' mc (V ∘ J) (Fp ∘ J) h := by
  have hE' := comp_envOf (c := c) hE hc
  have old : ∀ b o, h₀.get? b = some o → b ∉ wr ∧ h₂.get? b = some o ∧ h.get? b = some o := fun b o e => by
    have e1 := u₁ b o e
    have hw : b ∉ wr := fun hw => by rw [R.wrNew b hw] at e1; cases e1
    have e2 := R.up b o e1
    exact ⟨hw, e2, up b o hw e2⟩
  have cl : ∀ x a, (capCells scope env).lookup x = some a → env.kindOf x = some .cell ∧ env.cells.lookup x = some a ∧ ∃ v, h₀.IsCell a v := fun x a hl => by
    obtain ⟨q1, q2⟩ := cap_inv hl
    have hk : env.kindOf x = some .cell := by unfold Env.kindOf; rw [hE.scope]; exact hc.caps _ q1 rfl
    obtain ⟨c', v, hl', hv⟩ := S.cell x hk
    have : a = c' := by rw [q2, hl']; rfl
    subst this
    exact ⟨hk, hl', v, hv⟩
  have privOld : ∀ a, Priv (compEnvC scope (capCells scope env) c env) a → a ≠ c → Priv env a := fun a p hne => (comp_priv hE hc S p).resolve_left hne
  refine ⟨fun a o ea => ?_, fun a o ea => ?_, hns, ?_, fun x hx => ?_, fun x a hx hl => ?_, fun x y a h1 h2 => ?_, fun k x en hx hm => ?_, fun k en hm => ?_, fun k d' hm => ?_⟩
  · have hk := S.base a o ea
    obtain ⟨hw, e2, e3⟩ := old a o (S.keep a o hk)
    have hne : a ≠ c := by rintro rfl; rw [hcn] at e2; cases e2
    have : ¬ Wr (compEnvC scope (capCells scope env) c env) [] (Fp ∘ J) a := by
      rintro (p | ⟨k, d, hm, _⟩)
      · exact S.wr_kp hk (.inl (privOld a p hne))
      · simp at hm
    rw [froz_out hw this]; exact e2
  · by_cases hw : a ∈ wr
    · rw [froz_in hw] at ea; exact ea
    · by_cases hx : Wr (compEnvC scope (capCells scope env) c env) [] (Fp ∘ J) a
      · rw [froz_wr hw hx] at ea; cases ea
      · rw [froz_out hw hx] at ea; exact up a o hw ea
  · exact froz_wr hcw (.inl (.inl rfl))
  · have hx' : (relabelS scope sc).names.lookup x = some .cell := by rw [← hE'.scope]; exact hx
    obtain ⟨q1, q2⟩ := relabelS_cell_inv hc.nocell hx'
    have hl := cap_lookup (env := env) q1
    obtain ⟨_, _, v, o, ho, hd⟩ := cl x _ hl
    exact ⟨_, v, hl, o, (old _ o ho).2.2, hd⟩
  · have hl' : (capCells scope env).lookup x = some a := hl
    obtain ⟨_, _, v, o, ho, hd⟩ := cl x a hl'
    exact froz_wr (old _ o ho).1 (.inl (.inr ⟨x, hx, hl⟩))
  · have h1' : (capCells scope env).lookup x = some a := h1
    have h2' : (capCells scope env).lookup y = some a := h2
    exact S.apart x y a (cl x a h1').2.1 (cl y a h2').2.1
  · obtain ⟨d', o⟩ := en
    obtain ⟨_, x', o', g1, g2, g3, g4⟩ := hJ k d' o hm
    rw [hx] at g1; cases g1
    have hkc : sc.names.lookup x = some .cell := hc.caps _ (PySem.mem_of_lookup g4) rfl
    have hko : env.kindOf x = some .cell := by unfold Env.kindOf; rw [hE.scope]; exact hkc
    have hkn : (compEnvC scope (capCells scope env) c env).kindOf x = some .cell := by
      unfold Env.kindOf; rw [hE'.scope]; exact relabelS_cap hE.kind g4 hkc
    have hl := cap_lookup (env := env) g4
    rcases S.loads (J k) x _ g2 g3 with ⟨a, _⟩ | ⟨_, a, b, o2, ho, hd⟩
    · exact absurd (hko.symm.trans a) (by decide)
    · refine .inr ⟨.inl hkn, a, ?_, o2, (old _ o2 ho).2.2, hd⟩
      have : (capCells scope env).lookup x = some a := by rw [hl, b]; rfl
      exact this
  · obtain ⟨d', o⟩ := en
    obtain ⟨_, x', o', g1, g2, g3, g4⟩ := hJ k d' o hm
    exact ((S.reads (J k) _ g3).but fun a _ o e => (old a o e).2.2 : Rd h (V (J k)) d' (Fp (J k)))
  · obtain ⟨q, _⟩ := hJ k d' true hm
    cases q
end

/-- a turn of a comprehension, whatever its target and its tests -/
theorem codeAny_compLoop_any {prog : Program} {w : World} {A : Around} {R : Result → Shared → Prop} {s : Shared} {elt target iter : Expr} {ifs : List Expr} {scope : Scope} {pos : Pos} {it acc : Value} {env : Env} (I : Nat → Shared → Prop)
    (turn : ∀ n s, I n s → wpAny (model prog w) A (pyNext it) (fun r s₁ => match r with
      | none => R (.ok .next) s₁
      | some v => wpAny (model prog w) A (letOwnedTupleGo target it v) (fun _ s₁' => wpAny (model prog w) A (assign target env v) (fun _ s₂ =>
          wpAny (model prog w) A (forIn ifs true fun c r => if r = true then do let ok ← isTrue c env (eval c env); pure (ForInStep.yield ok) else pure (ForInStep.yield r)) (fun ok s₃ =>
            if ok = true then wpAny (model prog w) A (eval elt env) (fun x s₄ =>
              wpAny (model prog w) A (call (.builtin "list.append") [acc, x]) (fun _ s₅ => ∃ m, m < n ∧ I m s₅) (notedBy (model prog w) A env fun e s' => R (.error e) s') s₄) (notedBy (model prog w) A env fun e s' => R (.error e) s') s₃
            else ∃ m, m < n ∧ I m s₃) (notedBy (model prog w) A env fun e s' => R (.error e) s') s₂) (notedBy (model prog w) A env fun e s' => R (.error e) s') s₁') (notedBy (model prog w) A env fun e s' => R (.error e) s') s₁)
        (notedBy (model prog w) A env fun e s' => R (.error e) s') s)
    (n : Nat) (h : I n s) : codeAny (model prog w) A (.compLoop (.ListComp elt [⟨target, iter, ifs, 0⟩] scope pos) 0 it acc env) R s := by
  refine codeAny_loop rfl I (fun n s hI => ?_) n h
  show wpAny _ A ((compTurn (.ListComp elt [⟨target, iter, ifs, 0⟩] scope pos) 0 it acc env).onRaise (fun x => do noteFrame x env; theTreesLotGoes x)) _ _ s
  refine wpAny_noted ?_
  rw [compTurn_list]
  refine wpAny_bind (wpAny_standAt (wpAny_bind (wpAny_mono (turn n s hI) (fun r s₁ h₁ => ?_) fun _ _ h' => h')))
  cases r with
  | none => exact wpAny_pure h₁
  | some v =>
    refine wpAny_bind (wpAny_mono h₁ (fun _ s₁' h₁' => ?_) fun _ _ h' => h')
    refine wpAny_bind (wpAny_mono h₁' (fun _ s₂ h₂ => wpAny_bind (wpAny_mono h₂ (fun ok s₃ h₃ => ?_) fun _ _ h' => h')) fun _ _ h' => h')
    cases ok with
    | false => exact wpAny_pure ⟨rfl, h₃⟩
    | true =>
      exact wpAny_bind (wpAny_bind (wpAny_mono h₃ (fun x s₄ h₄ => wpAny_bind (wpAny_mono h₄ (fun _ s₅ h₅ => wpAny_pure (wpAny_pure ⟨rfl, h₅⟩)) fun _ _ h' => h')) fun _ _ h' => h'))
end Mine
end

/-! text ML -/
section
open PySem PySem.Spec PySem.Calls PyProof.Rows
set_option linter.unusedVariables false
namespace Mine

/-- the tests of a comprehension come out as b -/
def CTests (C : Cx) (sc : Scope) (names : List Str) (n : Nat) (m : MM) (ifs : List Expr) (b : Bool) : Prop := (ifs = [] ∧ b = true) ∨ ∃ c, ifs = [c] ∧ TsOK C sc names n m c b

def picked (p : Nat → Bool) (f : Nat → PyData) (N : Nat) : List PyData := ((List.range N).filter p).map f
theorem picked_succ (p : Nat → Bool) (f : Nat → PyData) (N : Nat) : picked p f (N + 1) = picked p f N ++ if p N then [f N] else [] := by
  unfold picked
  rw [List.range_succ, List.filter_append, List.map_append]
  cases hp : p N <;> simp [List.filter_cons, hp]

section
variable {C : Cx} {sc scope : Scope} {names names' : List Str} {n : Nat} {m mc m' m'' : MM} {d : PyData} {e : Expr} {J : Nat → Nat}

inductive CompInv (C : Cx) (p : Nat → Bool) (f : Nat → PyData) (fr : Bool) (W : Nat → Heap → Prop) (N : Nat) (wr : List Addr) (D c : Addr) (s₂ : Shared) (k : Nat) (s' : Shared) : Prop
  | mk (i : Nat) (ys : Array Value) (kk : Nat) (as : List Addr) (hk : k = N + 1 - i) (hi : i ≤ N) (sh : Sh s₂ s') (w : W i s'.heap) (keep : ∀ b o, b ∉ wr → s₂.heap.get? b = some o → s'.heap.get? b = some o) (ns : ∃ mC, s'.heap.Ns c mC)
      (hD : s'.heap.get? D = some (lst ys kk)) (rl : RdL s'.heap ys.toList (picked p f i) as) (hnew : ∀ a ∈ as, s₂.heap.get? a = none ∧ a ≠ D) (hnd : fr = true → as.Nodup) (hsz : ys.size ≤ i) : CompInv C p f fr W N wr D c s₂ k s'
theorem comp_core {A : Around} {E : Value → Shared → Prop} {env : Env} {Kp V Fp} {h₁ : Heap} {s s₂ : Shared} {wr fp : List Addr} {target elt iter : Expr} {ifs : List Expr} {pos : Pos} {it : Value} {W : Nat → Heap → Prop} {N : Nat} {put : Nat → MM → MM} {okm : MM → Prop}
    {p : Nat → Bool} {f : Nat → PyData} {fr : Bool} {RR : Value → Addr → Result → Shared → Prop}
    (hR : Room A n) (hE : EnvOf env sc) (hc : CompSc scope sc) (hJ : Capt scope names names' m mc J) (S : St C.B Kp env names m V Fp s.heap) (x2 : Ext s s₂) (u₁ : Up s.heap h₁) (R : Src C A env m Fp h₁ s₂.heap wr fp)
    (hrun : ∀ c, s₂.heap.get? c = none → c ∉ wr → Running C A (compEnvC scope (capCells scope env) c env) names' target it (fun h => froz (compEnvC scope (capCells scope env) c env) [] (Fp ∘ J) s₂.heap wr h) W N put okm wr (fun b => b = c))
    (hself : ∀ (s : Shared) (Q : Value → Shared → Prop) (E : Value → Shared → Prop), W 0 s.heap → Q it s → wpAny C.M A (pyIter it) Q E s)
    (hfr : ∀ i h h', W i h → (∀ b ∈ fp, ∀ o, h.get? b = some o → h'.get? b = some o) → W i h')
    (hW : W 0 s₂.heap) (hwr : ∀ i h, W i h → ∀ b ∈ wr, FieldsAt h b) (hok : okm mc) (hN : N ≤ 1000)
    (ht : ∀ i, i < N → CTests C (relabelS scope sc) names' n (put i mc) ifs (p i))
    (he : ∀ i, i < N → p i = true → EvOK C (relabelS scope sc) names' n (put i mc) elt (f i) (if fr then .fresh else .new))
    (hRR : ∀ (D c : Addr) (s' : Shared) (as : List Addr), s₂.heap.get? D = none → s₂.heap.get? c = none → D ≠ c → Sh s₂ s' → (∀ b o, b ∉ wr → s₂.heap.get? b = some o → s'.heap.get? b = some o) → (∃ mC, s'.heap.Ns c mC) →
      Rd s'.heap (.ref D) (.list (picked p f N)) (D :: as) → (∀ a ∈ as, s₂.heap.get? a = none) → (fr = true → (D :: as).Nodup) → RR (.ref D) c (.ok .next) s') :
    wpAny C.M A (newList []) (fun acc s₃ => wpAny C.M A (newFunctionEnv scope env.globals (capCells scope env) [] env.qual none .none (some env)) (fun cenv s₄ =>
      codeAny C.M A (.compStart (.ListComp elt [⟨target, iter, ifs, 0⟩] scope pos) 0 it acc { cenv with scope := relabel scope env }) (RR acc cenv.locals) s₄) E s₃) E s₂ := by
  refine wpAny_newObj_type (wpAny_newFunctionEnv hc.nocell (by intro y hy; simp at hy) (fun h₃ hns₃ hsb₃ => ?_) hc.kind)
  dsimp only at hns₃ hsb₃ ⊢
  generalize hH2 : s₂.heap.push { cls := .type "list", dict := none, data := .seq ([] : List Value).toArray } = H2 at hns₃ hsb₃ ⊢
  generalize hDk : s₂.heap.objs.size = D at *
  have hC : H2.objs.size = D + 1 := by rw [← hH2, Heap.size_push, hDk]
  generalize hCk : H2.objs.size = c at *
  have hDC : D ≠ c := by rw [hC]; exact Nat.ne_of_lt (Nat.lt_succ_self _)
  have dead : ∀ a, D ≤ a → s₂.heap.get? a = none := fun a ha => by
    cases e : s₂.heap.get? a with
    | none => rfl
    | some o' => exact absurd (Heap.lt_size e) (Nat.not_lt.mpr (by rw [hDk]; exact ha))
  have hD2 := dead D (Nat.le_refl _)
  have hc2 := dead c (by rw [hC]; exact Nat.le_succ _)
  have ltD : ∀ b o, s₂.heap.get? b = some o → b ≠ D ∧ b ≠ c := fun b o e => ⟨(by intro q; rw [q, hD2] at e; cases e), (by intro q; rw [q, hc2] at e; cases e)⟩
  have hDw : D ∉ wr := fun hw => by
    obtain ⟨⟨o, e⟩, _⟩ := R.fps D (R.sub D hw)
    rw [hD2] at e; cases e
  have hcw : c ∉ wr := fun hw => by
    obtain ⟨⟨o, e⟩, _⟩ := R.fps c (R.sub c hw)
    rw [hc2] at e; cases e
  have old : ∀ b o, s₂.heap.get? b = some o → h₃.get? b = some o := fun b o e => hsb₃.extBut b o (ltD b o e).2 (by rw [← hH2]; exact Heap.get?_push_of_some _ (Heap.get?_push_of_some _ e))
  have hD3 : h₃.get? D = some (lst #[] 0) := hsb₃.extBut D _ hDC (by rw [← hH2, ← hDk]; exact Heap.get?_push_of_some _ <| Heap.get?_push_size s₂.heap (o := { cls := .type "list", dict := none, data := .seq ([] : List Value).toArray }) rfl)
  have hW3 : W 0 h₃ := hfr 0 _ _ hW fun b hb o e => old b o e
  have Rn := hrun c hc2 hcw
  have hE' := comp_envOf (c := c) hE hc
  have loop : ∀ s₄ : Shared, s₄.heap = h₃ → Sh s₂ s₄ → codeAny C.M A (.compLoop (.ListComp elt [⟨target, iter, ifs, 0⟩] scope pos) 0 it (.ref D) (compEnvC scope (capCells scope env) c env)) (RR (.ref D) c) s₄ := by
    intro s₄ hs4 sh4
    refine codeAny_compLoop_any (CompInv C p f fr W N wr D c s₂) ?_ (N + 1)
      ⟨0, #[], 0, [], rfl, Nat.zero_le _, sh4, hs4 ▸ hW3, fun b o _ e => hs4 ▸ old b o e, ⟨_, hs4 ▸ hns₃⟩, hs4 ▸ hD3, by simpa [picked] using RdL.nil, (fun _ h => by cases h), fun _ => List.nodup_nil, Nat.le_refl _⟩
    rintro k s' ⟨i, ys, kk, as, rfl, hi, sh, hWi, keep, ⟨mC, hns⟩, hDl, rl, hnew, hnd, hsz⟩
    have Si := comp_st hE hc hJ S u₁ R hc2 hcw ⟨mC, hns⟩ keep
    have asw : ∀ a ∈ as, a ∉ wr := fun a ha hw => (hwr i _ hWi a hw).not_seq (rl.live a ha)
    by_cases hlt : i < N
    · refine wpAny_mono (Rn.step i s' mc _ _ _ hlt hWi hok Si) (fun r s₅ h₅ => ?_) fun _ _ h => h
      cases r with
      | none => exact h₅.elim
      | some v =>
        refine wpAny_mono h₅ (fun _ s₆ h₆ => wpAny_mono h₆ (fun _ s₇ h₇ => ?_) fun _ _ h => h) fun _ _ h => h
        obtain ⟨sh7, hW7, keep7, V7, Fp7, S7⟩ := h₇
        have hns7 := S7.ns
        have asc : ∀ a ∈ as, a ≠ c := fun a ha q => by
          subst q
          obtain ⟨o, vs, nn, e1, d1⟩ := rl.live a ha
          exact ns_not_seq hns ⟨o, vs, nn, e1, d1⟩
        have rl7 : RdL s₇.heap ys.toList (picked p f i) as := rl.but fun a ha o e => keep7 a o (asw a ha) (asc a ha) e
        have hD7 := keep7 D _ hDw hDC hDl
        have keep7' : ∀ b o, b ∉ wr → s₂.heap.get? b = some o → s₇.heap.get? b = some o := fun b o hw e => keep7 b o hw (ltD b o e).2 (keep b o hw e)
        have frame7 : ∀ (h' : Heap), (∀ b o, b ≠ D → s₇.heap.get? b = some o → h'.get? b = some o) → W (i + 1) h' := fun h' hh => by
          refine (Rn.frame _ _ h' hW7 (fun a o ea => S7.keep a o ea) (fun a o ea => hh a o (fun q => ?_) (S7.keep a o ea))).1
          subst q
          by_cases hx : Wr (compEnvC scope (capCells scope env) c env) [] (Fp ∘ J) a
          · rw [froz_wr hDw hx] at ea; cases ea
          · rw [froz_out hDw hx, hD2] at ea; cases ea
        have testOK : wpAny C.M A (forIn ifs true fun c' r => if r = true then do let ok ← isTrue c' (compEnvC scope (capCells scope env) c env) (eval c' (compEnvC scope (capCells scope env) c env)); pure (ForInStep.yield ok) else pure (ForInStep.yield r))
            (fun ok s₈ => Ext s₇ s₈ ∧ ok = p i) (notedBy C.M A (compEnvC scope (capCells scope env) c env) fun e s' => RR (.ref D) c (.error e) s') s₇ := by
          rcases ht i hlt with ⟨e1, e2⟩ | ⟨c', e1, e2⟩
          · subst e1
            exact wpAny_tests_nil ⟨.refl _, e2.symm⟩
          · subst e1
            exact wpAny_tests_one (e2 A _ s₇ _ _ V7 Fp7 hR hE' S7)
        refine wpAny_mono testOK (fun ok s₈ h₈ => ?_) fun _ _ h => h
        obtain ⟨x8, rfl⟩ := h₈
        cases hp : p i with
        | false =>
          simp only [Bool.false_eq_true, if_false]
          refine ⟨N + 1 - (i + 1), by lia, i + 1, ys, kk, as, rfl, hlt, (sh.trans sh7).trans x8.sh, frame7 _ (fun b o _ e => x8.up b o e), fun b o hw e => x8.up b o (keep7' b o hw e), ?_, x8.up _ _ hD7, ?_, hnew, hnd, by lia⟩
          · obtain ⟨q, hq⟩ := hns7; exact ⟨q, hq.keeps x8.up⟩
          · rw [picked_succ, hp]; simpa using rl7.up x8.up
        | true =>
          simp only [if_true]
          refine wpAny_mono (he i hlt hp A _ s₈ _ _ V7 Fp7 hR hE' (S7.up x8.up)) (fun y s₉ h₉ => ?_) fun _ _ h => h
          obtain ⟨x9, bs, ry, qy⟩ := h₉
          have qn : (∀ a ∈ bs, s₈.heap.get? a = none) ∧ (fr = true → bs.Nodup) := by
            cases fr
            · exact ⟨qy, fun e => by cases e⟩
            · exact ⟨qy.2, fun _ => qy.1⟩
          have up9 : Up s₇.heap s₉.heap := x8.up.trans x9.up
          have hD9 := up9 _ _ hD7
          have bsD : ∀ a ∈ bs, a ≠ D := fun a ha q => by
            subst q
            have := qn.1 a ha
            rw [x8.up _ _ hD7] at this; cases this
          have bs2 : ∀ a ∈ bs, s₂.heap.get? a = none := fun a ha => by
            cases e2 : s₂.heap.get? a with
            | none => rfl
            | some o =>
              have h8 := qn.1 a ha
              by_cases hw : a ∈ wr
              · obtain ⟨o', _, e', _⟩ := hwr _ _ hW7 a hw
                rw [x8.up _ _ e'] at h8; cases h8
              · rw [x8.up _ _ (keep7' a o hw e2)] at h8; cases h8
          refine wpAny_list_append_plain (l := D) (items := ys) ⟨kk, hD9⟩ (fun h10 hpl hsb => ?_) (by rw [sizeLine_eq]; lia)
          obtain ⟨k10, hl10⟩ := hpl
          have up10 : ∀ b o, b ≠ D → s₉.heap.get? b = some o → h10.get? b = some o := fun b o hb e => hsb.extBut b o hb e
          have asD : ∀ a ∈ as ++ bs, a ≠ D := fun a ha => (List.mem_append.mp ha).elim (fun h => (hnew a h).2) (fun h => bsD a h)
          refine ⟨N + 1 - (i + 1), by lia, i + 1, ys.push y, k10, as ++ bs, rfl, hlt, ((sh.trans sh7).trans (x8.sh.trans x9.sh)).trans ⟨h10, s₉.toks, s₉.gens, rfl, id⟩, frame7 _ (fun b o hb e => up10 b o hb (up9 b o e)),
            fun b o hw e => up10 b o (ltD b o e).1 (up9 b o (keep7' b o hw e)), ?_, hl10, ?_, fun a ha => ?_, fun hf => ?_, by rw [Array.size_push]; lia⟩
          · obtain ⟨q, hq⟩ := hns7
            have hq9 := hq.keeps up9
            obtain ⟨o, es, ep, e1, r1⟩ := id hq9
            exact ⟨q, hq9.sameBut hsb (Ne.symm hDC)⟩
          · rw [picked_succ, hp, Array.toList_push]
            exact ((rl7.up up9).snoc ry).but fun a ha o e => up10 a o (asD a ha) e
          · exact ⟨(List.mem_append.mp ha).elim (fun h => (hnew a h).1) (fun h => bs2 a h), asD a ha⟩
          · refine List.nodup_append.mpr ⟨hnd hf, qn.2 hf, fun a ha b hb q => ?_⟩
            subst q
            obtain ⟨o, vs, nn, e1, _⟩ := rl7.live a ha
            have := qn.1 a hb
            rw [x8.up _ _ e1] at this; cases this
    · have hin : i = N := by lia
      subst hin
      refine wpAny_mono (Rn.stop s' mc _ _ _ hWi hok Si) (fun r s₅ h₅ => ?_) fun _ _ h => h
      obtain ⟨rfl, sh5, keep5, S5⟩ := h₅
      have rl5 : RdL s₅.heap ys.toList (picked p f i) as := rl.but fun a ha o e => keep5 a o (asw a ha) e
      refine hRR D c s₅ as hD2 hc2 hDC (sh.trans sh5) (fun b o hw e => keep5 b o hw (keep b o hw e)) S5.ns (.list (keep5 D _ hDw hDl) rl5) (fun a ha => (hnew a ha).1) (fun hf => List.nodup_cons.mpr ⟨fun hm => (hnew D hm).2 rfl, hnd hf⟩)
  have envEq : ({ (newEnv scope c env.globals (capCells scope env) env.qual none .none (some env) 0) with scope := relabel scope env } : Env) = compEnvC scope (capCells scope env) c env := rfl
  refine codeAny_compStart_list (loop _ rfl ⟨_, _, _, rfl, id⟩) (hself _ _ _ hW3 (loop _ rfl ⟨_, _, _, rfl, id⟩))
end
end Mine
end

/-! text MM -/
section
open PySem PySem.Spec PySem.Calls PyProof.Rows
set_option linter.unusedVariables false
namespace Mine

theorem Running.pl_mono {C : Cx} {A : Around} {env : Env} {names : List Str} {target : Expr} {it : Value} {K W N put okm wr} {pl pl' : Addr → Prop} (h : Running C A env names target it K W N put okm wr pl) (hp : ∀ b, pl b → pl' b) :
    Running C A env names target it K W N put okm wr pl' where
  step := fun i s m V Fp E hi hW hok S => wpAny_mono (h.step i s m V Fp E hi hW hok S) (fun r s₁ h₁ => by
    cases r with
    | none => exact h₁
    | some v => exact wpAny_mono h₁ (fun _ s₂ h₂ => wpAny_mono h₂ (fun _ s₃ ⟨a, b, c, d⟩ => ⟨a, b, fun x o hx hn e => c x o hx (fun q => hn (hp x q)) e, d⟩) fun _ _ h => h) fun _ _ h => h) fun _ _ h => h
  stop := h.stop
  frame := h.frame

/-- a frame outlives a change at a place that is not its own -/
theorem St.off {B : Heap} {Kp : Addr → Option Obj} {env : Env} {names : List Str} {m : MM} {V Fp} {h h' : Heap} (S : St B Kp env names m V Fp h) {c : Addr} (hns : ∃ mC, h.Ns c mC) (hK : Kp c = none) (hL : c ≠ env.locals)
    (hk : ∀ b o, b ≠ c → h.get? b = some o → h'.get? b = some o) : St B Kp env names m V Fp h' := by
  obtain ⟨mC, hn⟩ := hns
  have seqNe : ∀ a, SeqAt h a → a ≠ c := fun a q e => ns_not_seq (e ▸ hn) q
  have cellNe : ∀ a v, h.IsCell a v → a ≠ c := fun a v q e => ns_not_cell (e ▸ hn) q
  refine ⟨S.base, fun a o e => hk a o (fun q => by rw [q, hK] at e; cases e) (S.keep a o e), ?_, S.nsNew, ?_, S.cellNew, S.apart, ?_, ?_, S.own⟩
  · obtain ⟨mL, hl⟩ := S.ns
    exact ⟨mL, hl.at' fun o e => hk _ o (Ne.symm hL) e⟩
  · intro x hx
    obtain ⟨a, v, hl, hc⟩ := S.cell x hx
    have ne := cellNe _ _ hc
    obtain ⟨o, ho, hd⟩ := hc
    exact ⟨a, v, hl, o, hk a o ne ho, hd⟩
  · intro k x e hx hm
    rcases S.loads k x e hx hm with ⟨a, mL, b, q⟩ | ⟨a, a', b, d⟩
    · exact .inl ⟨a, mL, b.at' fun o e => hk _ o (Ne.symm hL) e, q⟩
    · have ne := cellNe _ _ d
      obtain ⟨o, ho, hd⟩ := d
      exact .inr ⟨a, a', b, o, hk a' o ne ho, hd⟩
  · intro k e hm
    exact (S.reads k e hm).but fun a ha o e' => hk a o (seqNe a ((S.reads k e hm).live a ha)) e'

inductive CompPost (C : Cx) (A : Around) (env : Env) (scope : Scope) (names' : List Str) (target : Expr) (N : Nat) (put : Nat → MM → MM) (J : Nat → Nat) (m : MM) (Fp : Nat → List Addr) (s : Shared) (it : Value) (s₂ : Shared) : Prop
  | mk (x : Ext s s₂) (h₁ : Heap) (W : Nat → Heap → Prop) (wr fp : List Addr) (okm : MM → Prop) (up : Up s.heap h₁) (r : Src C A env m Fp h₁ s₂.heap wr fp) (ok : ∀ m, okm m)
      (rn : ∀ c, s₂.heap.get? c = none → c ∉ wr → Running C A (compEnvC scope (capCells scope env) c env) names' target it (fun h => froz (compEnvC scope (capCells scope env) c env) [] (Fp ∘ J) s₂.heap wr h) W N put okm wr (fun b => b = c))
      (self : ∀ (s : Shared) (Q : Value → Shared → Prop) (E : Value → Shared → Prop), W 0 s.heap → Q it s → wpAny C.M A (pyIter it) Q E s)
      (fr : ∀ i h h', W i h → (∀ b ∈ fp, ∀ o, h.get? b = some o → h'.get? b = some o) → W i h') (w0 : W 0 s₂.heap) (hwr : ∀ i h, W i h → ∀ b ∈ wr, FieldsAt h b) : CompPost C A env scope names' target N put J m Fp s it s₂
/-- a source of items for a comprehension -/
def CompIt (C : Cx) (sc scope : Scope) (names names' : List Str) (n : Nat) (m : MM) (J : Nat → Nat) (target e : Expr) (N : Nat) (put : Nat → MM → MM) : Prop :=
  ∀ (A : Around) (E : Value → Shared → Prop) (s : Shared) (env : Env) (Kp : Addr → Option Obj) (V : Nat → Value) (Fp : Nat → List Addr),
    Room A n → EnvOf env sc → St C.B Kp env names m V Fp s.heap →
    wpAny C.M A (eval e env) (fun x s₁ => wpAny C.M A (pyIter x) (CompPost C A env scope names' target N put J m Fp s) E s₁) E s

section
variable {C : Cx} {sc scope : Scope} {names names' : List Str} {n : Nat} {m mc m' m'' : MM} {d : PyData} {e : Expr} {J : Nat → Nat}

theorem comp_src {A : Around} {env : Env} {c : Addr} {Kp V Fp} {h₀ h₁ h₂ : Heap} {wr fp : List Addr} (hE : EnvOf env sc) (hc : CompSc scope sc) (S : St C.B Kp env names m V Fp h₀) (R : Src C A env m Fp h₁ h₂ wr fp) (hcn : h₂.get? c = none) :
    Src C A (compEnvC scope (capCells scope env) c env) [] (Fp ∘ J) h₁ h₂ wr fp where
  up := R.up
  base := R.base
  fps := fun b hb => by
    obtain ⟨⟨o, e⟩, hn⟩ := R.fps b hb
    refine ⟨⟨o, e⟩, ?_⟩
    rintro (p | ⟨k, d, hm, _⟩)
    · rcases comp_priv hE hc S p with rfl | p
      · rw [hcn] at e; cases e
      · exact hn (.inl p)
    · simp at hm
  sub := R.sub
  wrNew := R.wrNew

theorem comp_notwr {A : Around} {env : Env} {c : Addr} {Kp V Fp} {h₀ h₁ h₂ : Heap} {wr fp : List Addr} (hE : EnvOf env sc) (hc : CompSc scope sc) (S : St C.B Kp env names m V Fp h₀) (R : Src C A env m Fp h₁ h₂ wr fp) (hcn : h₂.get? c = none)
    {v : Value} {d : PyData} {as : List Addr} (r : Rd h₁ v d as) (hw : ∀ a ∈ as, ¬ Wr env m Fp a) : ∀ a ∈ as, ¬ Wr (compEnvC scope (capCells scope env) c env) [] (Fp ∘ J) a := fun a ha => by
  rintro (p | ⟨k, d, hm, _⟩)
  · rcases comp_priv hE hc S p with rfl | p
    · obtain ⟨o, _, _, e, _⟩ := r.live _ ha
      rw [R.up _ _ e] at hcn; cases hcn
    · exact hw a ha (.inl p)
  · simp at hm

theorem placeOf_comp {env : Env} {c b : Addr} {x : Str} (hE : EnvOf env sc) (hc : CompSc scope sc) (hx : scope.names.lookup x = some .local) (p : PlaceOf (compEnvC scope (capCells scope env) c env) x b) : b = c := by
  rcases p with ⟨_, h⟩ | ⟨h, _⟩
  · exact h
  · have h1 : (relabelS scope sc).names.lookup x = some .cell := by rw [← (comp_envOf hE hc (c := c)).scope]; exact h
    rw [relabelS_local hx] at h1; cases h1

theorem It1.comp {x : Str} {px : Pos} {k : Nat} {items : List PyData} (h : It1 C sc names n m e items) (hc : CompSc scope sc) (hk : names'[k]? = some x) (hn : names'.Nodup) (hx : scope.names.lookup x = some .local) :
    CompIt C sc scope names names' n m J (.Name x px) e items.length (fun i m => m.set k (items[i]?.map fun d => (d, false))) := fun A E s env Kp V Fp hR hE S =>
  wpAny_mono (h A E s env Kp V Fp hR hE S) (fun x s₁ h₁ => wpAny_mono h₁ (fun it s₂ h₂ => by
    obtain ⟨x2, h₁, I, fp, wr, P, W, u1, rfl, Wk, hW, R, hwr, hit⟩ := h₂
    refine ⟨x2, h₁, W, wr, fp, fun _ => True, u1, R, fun _ => trivial, fun c hcn hcw => ?_, fun s Q E hw hq => Wk.self 0 s Q E hw hq, Wk.frame, hW, hwr⟩
    have hE' := comp_envOf (c := c) hE hc
    refine (running_name (by rw [hE'.scope]; exact hE'.kind) hk hn (kinds hE' (.inl (relabelS_local hx))) Wk (comp_src hE hc S R hcn) hwr fun i v hP => ?_).pl_mono fun b => placeOf_comp hE hc hx
    obtain ⟨d, as, e1, r, hw⟩ := hit i v hP
    exact ⟨d, as, e1, r, comp_notwr hE hc S R hcn r hw⟩) fun _ _ h => h) fun _ _ h => h

theorem ev_comp {target elt iter : Expr} {ifs : List Expr} {pos : Pos} {N : Nat} {put : Nat → MM → MM} {p : Nat → Bool} {f : Nat → PyData} (fr : Bool) (hc : CompSc scope sc) (hJ : Capt scope names names' m mc J)
    (hit : CompIt C sc scope names names' n m J target iter N put) (hN : N ≤ 1000) (ht : ∀ i, i < N → CTests C (relabelS scope sc) names' n (put i mc) ifs (p i))
    (he : ∀ i, i < N → p i = true → EvOK C (relabelS scope sc) names' n (put i mc) elt (f i) (if fr then .fresh else .new))
    (hs : ∀ env x, foldedSetIterable iter env x = pure x := by intro _ _; rfl) :
    EvOK C sc names n m (.ListComp elt [⟨target, iter, ifs, 0⟩] scope pos) (.list (picked p f N)) (if fr then .fresh else .new) := by
  intro A E s env Kp V Fp hR hE S
  rw [eval_ListComp]
  refine wpAny_comprehension_free (use := none) rfl (hs env) (cap_closure hE hc S) hc.kind hc.locals (wpAny_mono (hit A E s env Kp V Fp hR hE S) (fun x s₁ h₁ => wpAny_mono h₁ (fun it s₂ h₂ => ?_) fun _ _ h => h) fun _ _ h => h)
  obtain ⟨x2, h₁, W, wr, fp, okm, u1, R, hok, hrun, hself, hfr, hW, hwr⟩ := h₂
  refine comp_core (n := n) (fr := fr) (RR := fun acc c r s' => compPost C.M A E none _ acc c r s') hR hE hc hJ S x2 u1 R hrun hself hfr hW hwr (hok mc) hN ht he fun D c s' as hD hcc hDc sh keep hns r hnew hnd => ?_
  obtain ⟨mC, hn⟩ := hns
  refine ⟨mC, hn, fun h' hsb => ?_⟩
  have upS : Up s.heap s'.heap := fun b o e => by
    have e1 := u1 b o e
    have hw : b ∉ wr := fun hw => by rw [R.wrNew b hw] at e1; cases e1
    exact keep b o hw (R.up b o e1)
  have dead : ∀ a, s₂.heap.get? a = none → s.heap.get? a = none := fun a ha => by
    cases e : s.heap.get? a with
    | none => rfl
    | some o => rw [x2.up a o e] at ha; cases ha
  have ne : ∀ a ∈ D :: as, a ≠ c := fun a ha q => by
    subst q
    obtain hq | hq := List.mem_cons.mp ha
    · exact hDc hq.symm
    · exact ns_not_seq hn (r.live _ ha)
  have nw : ∀ a ∈ D :: as, s.heap.get? a = none := fun a ha => by
    obtain hq | hq := List.mem_cons.mp ha
    · exact dead a (hq ▸ hD)
    · exact dead a (hnew a hq)
  refine ⟨⟨(x2.sh.trans sh).trans ⟨h', s'.toks, s'.gens, rfl, id⟩, fun b o e => hsb.extBut b o (fun q => by rw [q] at e; rw [dead c hcc] at e; cases e) (upS b o e)⟩, D :: as, r.but fun a ha o e => hsb.extBut a o (ne a ha) e, ?_⟩
  cases fr
  · exact nw
  · exact ⟨hnd rfl, nw⟩

/-- x = [..] where the list goes straight to the name -/
theorem sx_comp {target elt iter : Expr} {ifs : List Expr} {pos spos py : Pos} {y : Str} {k : Nat} {N : Nat} {put : Nat → MM → MM} {p : Nat → Bool} {f : Nat → PyData} (fr : Bool) (hc : CompSc scope sc) (hJ : Capt scope names names' m mc J)
    (hit : CompIt C sc scope names names' n m J target iter N put) (hN : N ≤ 1000) (ht : ∀ i, i < N → CTests C (relabelS scope sc) names' n (put i mc) ifs (p i))
    (he : ∀ i, i < N → p i = true → EvOK C (relabelS scope sc) names' n (put i mc) elt (f i) (if fr then .fresh else .new))
    (hk : names[k]? = some y) (hn : names.Nodup) (hy : sc.names.lookup y = some .local)
    (hsw : ∀ env, EnvOf env sc → swapsWith (.ListComp elt [⟨target, iter, ifs, 0⟩] scope pos) (some (.Name y py)) spos.line env = pure true)
    (hs : ∀ env x, foldedSetIterable iter env x = pure x := by intro _ _; rfl) :
    SxOK C sc names n m (.Assign [.Name y py] (.ListComp elt [⟨target, iter, ifs, 0⟩] scope pos) spos) (m.set k (some (.list (picked p f N), fr))) := by
  intro A E s env Kp V Fp hR hE S
  rw [exec_Assign_Name_used _ _ _ _ (hsw env hE)]
  refine wpAny_bind (wpAny_standAt (wpAny_bind ?_))
  show wpAny _ A (do let _ ← comprehension (.ListComp elt [⟨target, iter, ifs, 0⟩] scope pos) scope env _ (newList []) false (eval iter env) (some (assign (.Name y py) env))) _ _ s
  refine wpAny_bind (wpAny_mono (wpAny_comprehension_free (use := some (assign (.Name y py) env)) (Q := fun _ s' => Sh s s' ∧ ∃ V' Fp', St C.B Kp env names (m.set k (some (.list (picked p f N), fr))) V' Fp' s'.heap) rfl (hs env) (cap_closure hE hc S) hc.kind hc.locals
    (wpAny_mono (hit A E s env Kp V Fp hR hE S) (fun x s₁ h₁ => wpAny_mono h₁ (fun it s₂ h₂ => ?_) fun _ _ h => h) fun _ _ h => h)) (fun _ s' hq => wpAny_pure (wpAny_pure ⟨rfl, hq⟩)) fun _ _ e => e)
  obtain ⟨x2, h₁, W, wr, fp, okm, u1, R, hok, hrun, hself, hfr, hW, hwr⟩ := h₂
  refine comp_core (n := n) (fr := fr) (RR := fun acc c r s' => compPost C.M A _ (some (assign (.Name y py) env)) _ acc c r s') hR hE hc hJ S x2 u1 R hrun hself hfr hW hwr (hok mc) hN ht he fun D c s' as hD hcc hDc sh keep hns r hnew hnd => ?_
  have upS : Up s.heap s'.heap := fun b o e => by
    have e1 := u1 b o e
    have hw : b ∉ wr := fun hw => by rw [R.wrNew b hw] at e1; cases e1
    exact keep b o hw (R.up b o e1)
  have dead : ∀ a, s₂.heap.get? a = none → s.heap.get? a = none := fun a ha => by
    cases e : s.heap.get? a with
    | none => rfl
    | some o => rw [x2.up a o e] at ha; cases ha
  have nw : ∀ a ∈ D :: as, s.heap.get? a = none := fun a ha => by
    obtain hq | hq := List.mem_cons.mp ha
    · exact dead a (hq ▸ hD)
    · exact dead a (hnew a hq)
  obtain ⟨f1, f2⟩ := fresh_ok S nw
  have cNew := dead c hcc
  have hcP : ¬ Priv env c := fun q => by
    obtain ⟨o, e⟩ := S.wr_live (.inl q)
    rw [cNew] at e; cases e
  show wpAny C.M A (assign (.Name y py) env (.ref D)) _ _ s'
  refine wpAny_assign_Name (store_name (C := C) (o := fr) (S.up upS) (by rw [hE.scope]; exact hE.kind) hk (fun j hj => uniq_of hn hk hj) (kinds hE (.inl hy)) r (fun j d' _ hm => f2 j _ hm) (fun q => ⟨hnd q, f1, fun j e _ hm => f2 j e hm⟩) fun s'' sh2 keep2 S2 => ?_)
  obtain ⟨mC, hn⟩ := hns
  have hn2 : s''.heap.Ns c mC := hn.at' fun o e => keep2 c o (fun q => hcP q.priv) e
  refine ⟨mC, hn2, fun h' hsb => ⟨((x2.sh.trans sh).trans sh2).trans ⟨h', s''.toks, s''.gens, rfl, id⟩, _, _, S2.off ⟨mC, hn2⟩ ?_ (fun q => hcP (.inl q)) fun b o hb e => hsb.extBut b o hb e⟩⟩
  cases e : Kp c with
  | none => rfl
  | some o => rw [S.keep c o e] at cNew; cases cNew
end
end Mine
end

/-! text MN -/
section
open PySem PySem.Spec PySem.Calls PyProof.Rows
set_option linter.unusedVariables false
namespace Mine

theorem cellsFrom_isSome : ∀ (names : List (Str × NameKind)) (n : Nat) (acc : List (Str × Addr)) (x : Str), ((x, NameKind.cell) ∈ names ∨ (acc.lookup x).isSome = true) → ((cellsFrom n names acc).lookup x).isSome = true
  | [], _, acc, x, h => by
    rcases h with h | h
    · cases h
    · exact h
  | (y, k) :: r, n, acc, x, h => by
    unfold cellsFrom
    split
    · rename_i hk
      refine cellsFrom_isSome r _ _ x ?_
      rcases h with h | h
      · rcases List.mem_cons.mp h with e | h
        · cases e; exact .inr (by simp [List.lookup_cons])
        · exact .inl h
      · refine .inr ?_
        rw [List.lookup_cons]
        split
        · rfl
        · exact h
    · rename_i hk
      refine cellsFrom_isSome r _ _ x ?_
      rcases h with h | h
      · rcases List.mem_cons.mp h with e | h
        · cases e; exact absurd rfl hk
        · exact .inl h
      · exact .inr h

theorem bindL_other {kindOf : Str → Option NameKind} {x : Str} : ∀ (b : List (Str × Value)) (m : Str → Option Value), (∀ p ∈ b, p.1 ≠ x) → bindL kindOf b m x = m x
  | [], m, _ => rfl
  | (y, v) :: r, m, h => by
    unfold bindL
    rw [bindL_other r _ fun p hp => h p (List.mem_cons_of_mem _ hp)]
    have := h (y, v) (List.mem_cons_self ..)
    split
    · exact if_neg (Ne.symm this)
    · rfl
theorem bindC_other {kindOf : Str → Option NameKind} {x : Str} : ∀ (b : List (Str × Value)) (m : Str → Option Value), (∀ p ∈ b, p.1 ≠ x) → bindC kindOf b m x = m x
  | [], m, _ => rfl
  | (y, v) :: r, m, h => by
    unfold bindC
    rw [bindC_other r _ fun p hp => h p (List.mem_cons_of_mem _ hp)]
    have := h (y, v) (List.mem_cons_self ..)
    split
    · rfl
    · exact if_neg (Ne.symm this)
theorem zip_ne {xs : List Str} {vs : List Value} {x : Str} (h : x ∉ xs) : ∀ p ∈ xs.zip vs, p.1 ≠ x := fun p hp e => h (e ▸ (List.of_mem_zip hp).1)
theorem bindL_at {kindOf : Str → Option NameKind} : ∀ (xs : List Str) (vs : List Value) (m : Str → Option Value) (k : Nat) {x : Str} {v : Value}, xs.Nodup → xs[k]? = some x → vs[k]? = some v → kindOf x = some .local → bindL kindOf (xs.zip vs) m x = some v
  | [], _, _, k, _, _, _, h, _, _ => by simp at h
  | _ :: _, [], _, k, _, _, _, _, h, _ => by simp at h
  | y :: xs, w :: vs, m, 0, x, v, hn, h1, h2, hk => by
    simp at h1 h2; subst h1; subst h2
    rw [List.zip_cons_cons]; unfold bindL
    rw [bindL_other _ _ (zip_ne (List.nodup_cons.mp hn).1), if_pos hk, if_pos rfl]
  | y :: xs, w :: vs, m, k + 1, x, v, hn, h1, h2, hk => by
    rw [List.zip_cons_cons]; unfold bindL
    exact bindL_at xs vs _ k (List.nodup_cons.mp hn).2 (by simpa using h1) (by simpa using h2) hk
theorem bindC_at {kindOf : Str → Option NameKind} : ∀ (xs : List Str) (vs : List Value) (m : Str → Option Value) (k : Nat) {x : Str} {v : Value}, xs.Nodup → xs[k]? = some x → vs[k]? = some v → kindOf x = some .cell → bindC kindOf (xs.zip vs) m x = some v
  | [], _, _, k, _, _, _, h, _, _ => by simp at h
  | _ :: _, [], _, k, _, _, _, _, h, _ => by simp at h
  | y :: xs, w :: vs, m, 0, x, v, hn, h1, h2, hk => by
    simp at h1 h2; subst h1; subst h2
    rw [List.zip_cons_cons]; unfold bindC
    rw [bindC_other _ _ (zip_ne (List.nodup_cons.mp hn).1), if_neg (by rw [hk]; decide), if_pos rfl]
  | y :: xs, w :: vs, m, k + 1, x, v, hn, h1, h2, hk => by
    rw [List.zip_cons_cons]; unfold bindC
    exact bindC_at xs vs _ k (List.nodup_cons.mp hn).2 (by simpa using h1) (by simpa using h2) hk

/-- a call of a function of the program -/
def FnOK (C : Cx) (n : Nat) (x : Str) (ds : List PyData) (d : PyData) : Prop :=
  ∃ f fd, C.mg x = some (.ref f) ∧ (∃ o, C.B.get? f = some o ∧ o.data = .func fd) ∧ ∀ (A : Around) (E : Value → Shared → Prop) (s : Shared) (vs : List Value) (as : List Addr), Room A n → Up C.B s.heap → RdL s.heap vs ds as →
    wpAny C.M A (call (.ref f) vs) (fun v s' => Ext s s' ∧ ∃ bs, Rd s'.heap v d bs ∧ ∀ a ∈ bs, s.heap.get? a = none) E s

/-- statements that end in a return -/
def RsOK (C : Cx) (sc : Scope) (names : List Str) (n : Nat) (m : MM) (ss : List Stmt) (d : PyData) : Prop :=
  ∀ (A : Around) (E : Value → Shared → Prop) (s : Shared) (env : Env) (Kp : Addr → Option Obj) (V : Nat → Value) (Fp : Nat → List Addr),
    Room A n → EnvOf env sc → St C.B Kp env names m V Fp s.heap →
    wpAny C.M A (execs ss env) (fun f s' => Sh s s' ∧ (∀ a o, Kp a = some o → s'.heap.get? a = some o) ∧ ∃ v as, f = .ret v ∧ Rd s'.heap v d as ∧ ∀ a ∈ as, Kp a = none) E s

section
variable {C : Cx} {sc : Scope} {names : List Str} {n : Nat} {m m' m'' : MM} {d : PyData} {e : Expr}

theorem rs_cons {st : Stmt} {ss : List Stmt} (h1 : SxOK C sc names n m st m') (h2 : RsOK C sc names n m' ss d) : RsOK C sc names n m (st :: ss) d := fun A E s env Kp V Fp hR hE S =>
  wpAny_execs_cons (wpAny_mono (h1 A E s env Kp V Fp hR hE S) (fun f s₁ h => by
    obtain ⟨rfl, sh, V', Fp', S'⟩ := h
    exact wpAny_mono (h2 A E s₁ env Kp V' Fp' hR hE S') (fun f s₂ h => ⟨sh.trans h.1, h.2⟩) fun _ _ h => h) fun _ _ h => h)
theorem rs_ret {pos : Pos} {ss : List Stmt} (h : EvOK C sc names n m e d .mine) : RsOK C sc names n m (.Return (some e) pos :: ss) d := fun A E s env Kp V Fp hR hE S =>
  wpAny_execs_cons (wpAny_Return_some (wpAny_mono (h A E s env Kp V Fp hR hE S) (fun v s₁ h₁ => by
    obtain ⟨x1, as, r, q⟩ := h₁
    exact ⟨x1.sh, fun a o e => x1.up a o (S.keep a o e), v, as, rfl, r, q⟩) fun _ _ h => h))
theorem rs_if {t : Expr} {body : List Stmt} {pos : Pos} {ss : List Stmt} {b : Bool} (ht : TsOK C sc names n m t b) (h1 : b = true → RsOK C sc names n m body d) (h2 : b = false → RsOK C sc names n m ss d) :
    RsOK C sc names n m (.If t body [] pos :: ss) d := by
  intro A E s env Kp V Fp hR hE S
  refine wpAny_execs_cons (wpAny_If (wpAny_mono (ht A E s env Kp V Fp hR hE S) (fun c s₁ h₁ => ?_) fun _ _ h => h))
  obtain ⟨x1, rfl⟩ := h₁
  cases c
  · simp only [Bool.false_eq_true, if_false]
    exact wpAny_execs_nil (wpAny_mono (h2 rfl A E s₁ env Kp V Fp hR hE (S.up x1.up)) (fun f s₂ h => ⟨x1.sh.trans h.1, h.2⟩) fun _ _ h => h)
  · simp only [if_true]
    refine wpAny_mono (h1 rfl A E s₁ env Kp V Fp hR hE (S.up x1.up)) (fun f s₂ h => ?_) fun _ _ h => h
    obtain ⟨sh, kp, v, as, rfl, r, q⟩ := h
    exact ⟨x1.sh.trans sh, kp, v, as, rfl, r, q⟩
theorem RsOK.weak {ss : List Stmt} (h : RsOK C sc names n m' ss d) (w : Weak m m') : RsOK C sc names n m ss d := fun A E s env Kp V Fp hR hE S => h A E s env Kp V Fp hR hE (S.weak w)

theorem entry_st {it : DefItem} {xs : List Str} {vs : List Value} {ds : List PyData} {as : List Addr} {pm doc c : Value} {a : Addr} {k : Nat} {s s₁ : Shared} (hB : Up C.B s.heap) (r : RdL s.heap vs ds as) (hx : xs.Nodup) (hl : xs.length = ds.length)
    (hnm : names.take xs.length = xs)
    (hks : ∀ x ∈ xs, it.scope.names.lookup x = some .local ∨ it.scope.names.lookup x = some .cell)
    (x : InCallC s (callEnvC (docDef it.name it.params it.body it.scope pm c doc) s.heap.objs.size a).locals
      (bindL (callEnvC (docDef it.name it.params it.body it.scope pm c doc) s.heap.objs.size a).kindOf (xs.zip vs) fun _ => none) (callEnvC (docDef it.name it.params it.body it.scope pm c doc) s.heap.objs.size a).cells
      (bindC (callEnvC (docDef it.name it.params it.body it.scope pm c doc) s.heap.objs.size a).kindOf (xs.zip vs) fun _ => none) s₁) :
    ∃ V Fp, St C.B s.heap.get? (callEnvC (docDef it.name it.params it.body it.scope pm c doc) s.heap.objs.size a) names (ds.map (fun d => some (d, false)) ++ List.replicate k none) V Fp s₁.heap := by
  have hlen := r.length
  have ex : ∀ k : Nat, ∃ bs, ∀ d, ds[k]? = some d → Rd s.heap ((vs[k]?).getD .none) d bs := fun k => by
    cases e : ds[k]? with
    | none => exact ⟨[], fun d h => by cases h⟩
    | some d =>
      obtain ⟨v, bs, h1, h2, _⟩ := r.get e
      exact ⟨bs, fun d' h => by cases h; rw [h1]; exact h2⟩
  have dead : ∀ a, s.heap.objs.size ≤ a → s.heap.get? a = none := fun a ha => by
    cases e : s.heap.get? a with
    | none => rfl
    | some o' => exact absurd (Heap.lt_size e) (Nat.not_lt.mpr ha)
  have slot : ∀ (j : Nat) (e : Ent), (ds.map (fun d => some (d, false)) ++ List.replicate k none : MM)[j]? = some (some e) → ∃ d, ds[j]? = some d ∧ e = (d, false) := fun j e hm => by
    by_cases hj : j < ds.length
    · rw [List.getElem?_append_left (by simpa using hj), List.getElem?_map] at hm
      cases e1 : ds[j]? with
      | none => rw [e1] at hm; cases hm
      | some d => rw [e1] at hm; cases hm; exact ⟨d, rfl, rfl⟩
    · rw [List.getElem?_append_right (by simpa using hj), List.getElem?_replicate] at hm
      split at hm <;> cases hm
  refine ⟨fun k => (vs[k]?).getD .none, fun k => Classical.choose (ex k), ⟨hB, x.toInCall.keep, ⟨_, x.toInCall.ns⟩, dead _ (Nat.le_refl _), fun y hy => ?_, fun y c hy hl => ?_, fun y z c h1 h2 => name_of_addr x.apart (PySem.mem_of_lookup h1) (PySem.mem_of_lookup h2), fun j y e hy hm => ?_, fun j e hm => ?_, fun j d hm => ?_⟩⟩
  · have : ((cellsFrom (s.heap.objs.size + 1) it.scope.names []).lookup y).isSome = true := cellsFrom_isSome _ _ _ _ (.inl (PySem.mem_of_lookup hy))
    obtain ⟨c, hc⟩ := Option.isSome_iff_exists.mp this
    exact ⟨c, _, hc, x.cell y c hc⟩
  · have := x.above y c (PySem.mem_of_lookup hl)
    exact dead c (Nat.le_of_lt this)
  · obtain ⟨d, e1, rfl⟩ := slot j e hm
    obtain ⟨v, bs, h1, h2, _⟩ := r.get e1
    have hj : j < xs.length := by rw [hl]; exact (List.getElem?_eq_some_iff.mp e1).1
    have hxj : xs[j]? = some y := by rw [← hnm, List.getElem?_take_of_lt hj]; exact hy
    rw [h1]
    rcases hks y (List.mem_of_getElem? hxj) with hk | hk
    · exact .inl ⟨hk, _, x.toInCall.ns, bindL_at xs vs _ j hx hxj h1 hk⟩
    · have : ((cellsFrom (s.heap.objs.size + 1) it.scope.names []).lookup y).isSome = true := cellsFrom_isSome _ _ _ _ (.inl (PySem.mem_of_lookup hk))
      obtain ⟨c, hc⟩ := Option.isSome_iff_exists.mp this
      refine .inr ⟨.inl hk, c, hc, ?_⟩
      have := x.cell y c hc
      rw [bindC_at xs vs _ j hx hxj h1 hk] at this
      exact this
  · obtain ⟨d, e1, rfl⟩ := slot j e hm
    exact (Classical.choose_spec (ex j) d e1).up x.toInCall.keep
  · obtain ⟨d', _, e⟩ := slot j _ hm
    cases e

theorem fn_call {it : DefItem} {xs : List Str} {ds : List PyData} {k : Nat} (G : C.Good) (hat : it.At C.mg C.B) (hbind : ∀ pm c doc vs, vs.length = xs.length → bindArgs (docDef it.name it.params it.body it.scope pm c doc) ⟨vs, []⟩ = pure (xs.zip vs))
    (hl : xs.length = ds.length) (hx : xs.Nodup) (hnm : names.take xs.length = xs) (hks : ∀ x ∈ xs, it.scope.names.lookup x = some .local ∨ it.scope.names.lookup x = some .cell)
    (hbody : RsOK C it.scope names n (ds.map (fun d => some (d, false)) ++ List.replicate k none) it.body d)
    (hco : it.scope.isCoroutine = false := by rfl) (hgen : it.scope.isGenerator = false := by rfl) (hk : it.scope.kind = .function := by rfl) : FnOK C (n + 1) it.name ds d := by
  obtain ⟨a, c, P, o, pm, doc, h1, h2, h3, h4, _⟩ := hat
  refine ⟨a, _, h1, ⟨o, h2, h3⟩, fun A E s vs as hR hB r => ?_⟩
  have hcd : s.heap.CodeRec (.ref c) it.name := h4.keeps hB
  have hroom : A.depth < recursionLimit := by have := hR.depth; have e : recursionLimit = 1000 := rfl; lia
  refine wpAny_call (codeAny_call_cells (fd := docDef it.name it.params it.body it.scope pm (.ref c) doc) (body := it.body) (binds := xs.zip vs) hroom (hB a o h2) h3 (G.lim.keeps hB) hcd rfl (hbind _ _ _ _ (by rw [r.length, hl])) rfl (fun p hp => ?_) (fun s₁ x => ?_) hco hgen hk)
  · have hp1 := (List.of_mem_zip hp).1
    rcases hks p.1 hp1 with h | h
    · exact .inl h
    · exact .inr ⟨h, cellsFrom_isSome _ _ _ _ (.inl (PySem.mem_of_lookup h))⟩
  · obtain ⟨V, Fp, S⟩ := entry_st (C := C) (names := names) (k := k) hB r hx hl hnm hks x
    have hR' : Room (A.deeper (callEnvC (docDef it.name it.params it.body it.scope pm (.ref c) doc) s.heap.objs.size a)) n := ⟨hR.hh, by
      have := hR.depth; show A.depth + 1 + 20 * n < 900; lia, by
      have := hR.units; show A.units + 3 + 100 * n < 9000; lia⟩
    have hE : EnvOf (callEnvC (docDef it.name it.params it.body it.scope pm (.ref c) doc) s.heap.objs.size a) it.scope := ⟨rfl, hk, rfl, rfl⟩
    refine wpAny_mono (hbody _ _ s₁ _ _ V Fp hR' hE S) (fun f s₂ h => ?_) fun _ _ h => h
    obtain ⟨sh, kp, v, bs, rfl, rv, q⟩ := h
    obtain ⟨h', tk, e⟩ := x.toInCall.same
    exact ⟨⟨Sh.trans ⟨h', tk, s.gens, e, id⟩ sh, kp⟩, bs, rv, q⟩

/-- a call of a function of the program, by name -/
theorem ev_callF {x : Str} {p pos : Pos} {e₁ : Expr} {es : List Expr} {ds : List PyData} {md : Md} (hf : FnOK C n x ds d) (G : C.Good) (hx : sc.names.lookup x = some .globalImplicit) (hargs : EvsOK C sc names n m (e₁ :: es) ds md)
    (hd : (x == ("__debug__" : Str)) = false := by decide) (he : ∀ env, starEach (e₁ :: es) env = (false, eval e₁ env) :: starEach es env := by intro _; rfl) : EvOK C sc names n m (.Call (.Name x p) (e₁ :: es) [] pos) d .new := by
  intro A E s env Kp V Fp hR hE S
  obtain ⟨f, fd, hm, ⟨o, ho, hdat⟩, hcall⟩ := hf
  refine Call_ (ld_glob G (.inl hm) hE S.baseUp hx ?_ hd)
  refine callWith_def hdat (wpAny_mono (hargs A E s env Kp V Fp pos hR hE S) (fun vs s₁ h₁ => ?_) fun _ _ h => h) (he env)
  obtain ⟨x1, as, r, _⟩ := h₁
  have hB := (S.up x1.up).baseUp
  refine ⟨hB f o ho, wpAny_mono (hcall A E s₁ vs as hR hB r) (fun v s₂ h₂ => ?_) fun _ _ h => h⟩
  obtain ⟨x2, bs, rv, q⟩ := h₂
  refine ⟨x1.trans x2, bs, rv, fun a ha => ?_⟩
  cases e0 : s.heap.get? a with
  | none => rfl
  | some o => have := q a ha; rw [x1.up a o e0] at this; cases this
end
end Mine
end

/-! text MO -/
section
open PySem PySem.Spec PySem.Calls PyProof.Rows
set_option linter.unusedVariables false
namespace Mine

theorem Weak.nil {m : MM} : Weak m [] := fun k d o e => by simp at e
theorem Weak.same {m m' : MM} {a : Option Ent} (w : Weak m m') : Weak (a :: m) (a :: m') := fun k d o e => by
  cases k with
  | zero => exact ⟨o, e, id⟩
  | succ k => exact w k d o (by simpa using e)
theorem Weak.none {m m' : MM} {a : Option Ent} (w : Weak m m') : Weak (a :: m) (none :: m') := fun k d o e => by
  cases k with
  | zero => cases e
  | succ k => exact w k d o (by simpa using e)
theorem Weak.less {m m' : MM} {d : PyData} (w : Weak m m') : Weak (some (d, true) :: m) (some (d, false) :: m') := fun k d' o e => by
  cases k with
  | zero => cases e; exact ⟨true, rfl, fun e => by cases e⟩
  | succ k => exact w k d' o (by simpa using e)

section
variable {C : Cx} {sc scope : Scope} {names names' : List Str} {n : Nat} {m mc m' m'' : MM} {d : PyData} {e : Expr} {J : Nat → Nat}

/-- a loop; what the body leaves may be more than what is carried on -/
inductive ForInv (C : Cx) (env : Env) (names : List Str) (K : Heap → Addr → Option Obj) (W : Nat → Heap → Prop) (N : Nat) (mi : Nat → MM) (s : Shared) (k : Nat) (s' : Shared) : Prop
  | mk (i : Nat) (V' : Nat → Value) (Fp' : Nat → List Addr) (hk : k = N + 1 - i) (hi : i ≤ N) (sh : Sh s s') (w : W i s'.heap) (st : St C.B (K s'.heap) env names (mi i) V' Fp' s'.heap) : ForInv C env names K W N mi s k s'
theorem sx_forW {target e : Expr} {body : List Stmt} {pos : Pos} {N : Nat} {put : Nat → MM → MM} {okm : MM → Prop} (mi mo : Nat → MM) (hit : IterOK C sc names n m target e N put okm) (h0 : Weak m (mi 0)) (hN : mi N = m') (hok : ∀ i, i ≤ N → okm (mi i))
    (hbody : ∀ i, i < N → SsOK C sc names n (put i (mi i)) body (mo i)) (hw : ∀ i, i < N → Weak (mo i) (mi (i + 1)))
    (hs : ∀ env x, foldedSetIterable e env x = pure x := by intro _ _; rfl) : SxOK C sc names n m (.For target e body [] pos) m' := by
  subst hN
  intro A E s env Kp V Fp hR hE S
  refine wpAny_For (wpAny_mono (hit A E s env Kp V Fp hR hE S) (fun x s₁ h₁ => wpAny_mono h₁ (fun it s₂ h₂ => ?_) fun _ _ h => h) fun _ _ h => h) (hs env)
  obtain ⟨x2, K, W, wr, pl, Rn, hW, S₂, hsub⟩ := h₂
  refine codeAny_forLoop_any (ForInv C env names K W N mi s) ?_ (N + 1) ⟨0, V, Fp, rfl, Nat.zero_le _, x2.sh, hW, S₂.weak h0⟩
  rintro k s' ⟨i, V', Fp', rfl, hi, sh, hWi, Si⟩
  by_cases hlt : i < N
  · refine wpAny_mono (Rn.step i s' (mi i) V' Fp' _ hlt hWi (hok i hi) Si) (fun r s₃ h₃ => ?_) fun _ _ h => h
    cases r with
    | none => exact h₃.elim
    | some v =>
      refine wpAny_mono h₃ (fun _ s₄ h₄ => wpAny_mono h₄ (fun _ s₅ h₅ => ?_) fun _ _ h => h) fun _ _ h => h
      obtain ⟨sh5, hW5, _, V5, Fp5, S5⟩ := h₅
      refine wpAny_mono (hbody i hlt A _ s₅ env _ V5 Fp5 hR hE S5) (fun f s₆ h₆ => ?_) fun _ _ h => h
      obtain ⟨rfl, sh6, V6, Fp6, S6⟩ := h₆
      have hf := Rn.frame _ _ s₆.heap hW5 (fun a o e => S5.keep a o e) (fun a o e => S6.keep a o e)
      exact ⟨N + 1 - (i + 1), by lia, i + 1, V6, Fp6, rfl, hlt, (sh.trans sh5).trans sh6, hf.1, (S6.less (fun a o e => hsub _ a o (S.base a o e)) hf.2).weak (hw i hlt)⟩
  · have hin : i = N := by lia
    subst hin
    refine wpAny_mono (Rn.stop s' (mi i) V' Fp' _ hWi (hok i hi) Si) (fun r s₃ h₃ => ?_) fun _ _ h => h
    obtain ⟨rfl, sh3, _, S3⟩ := h₃
    exact wpAny_execs_nil ⟨rfl, sh.trans sh3, V', Fp', S3.less S.base (fun a o e => hsub _ a o e)⟩

theorem sx_whileW {test : Expr} {body : List Stmt} {pos : Pos} (N : Nat) (mi mo : Nat → MM) (h0 : Weak m (mi 0)) (hN : mi N = m') (ht : ∀ i, i < N → TsOK C sc names n (mi i) test true) (hf : TsOK C sc names n (mi N) test false)
    (hb : ∀ i, i < N → SsOK C sc names n (mi i) body (mo i)) (hw : ∀ i, i < N → Weak (mo i) (mi (i + 1))) : SxOK C sc names n m (.While test body [] pos) m' := by
  subst hN
  exact SxOK.weak (sx_while N mi ht hf fun i hi => (hb i hi).weak' (hw i hi)) h0

/-- an if of which either arm may know more -/
theorem sx_ifW {test : Expr} {body orelse : List Stmt} {pos : Pos} {b : Bool} {m₁ m₂ : MM} (ht : TsOK C sc names n m test b) (h1 : b = true → SsOK C sc names n m body m₁ ∧ Weak m₁ m') (h2 : b = false → SsOK C sc names n m orelse m₂ ∧ Weak m₂ m') :
    SxOK C sc names n m (.If test body orelse pos) m' := sx_if ht (fun e => (h1 e).1.weak' (h1 e).2) (fun e => (h2 e).1.weak' (h2 e).2)

/-- a name gets an atom -/
theorem sx_at {e : Expr} {x : Str} {px pos : Pos} {k : Nat} {md : Md} (he : EvOK C sc names n m e d md) (ha : Mine.atom d = true) (hk : names[k]? = some x) (hn : names.Nodup) (hx : sc.names.lookup x = some .local ∨ sc.names.lookup x = some .cell)
    (hs : ∀ env, EnvOf env sc → swapsWith e (some (.Name x px)) pos.line env = pure false := by exact fun _ _ => rfl) : SxOK C sc names n m (.Assign [.Name x px] e pos) (m.set k (some (d, false))) :=
  sx_sh (he.atom ha) hk hn hx hs

/-- x += e -/
theorem sx_ss {st : Stmt} (h : SxOK C sc names n m st m') : SsOK C sc names n m [st] m' := ss_cons h ss_nil

inductive Src2F (C : Cx) (A : Around) (env : Env) (m : MM) (Fp : Nat → List Addr) (items : List (PyData × PyData)) (s : Shared) (it : Value) (s₂ : Shared) : Prop
  | mk (x : Ext s s₂) (h₁ : Heap) (I : Addr) (fp wr : List Addr) (P : Nat → Array Value → Prop) (W : Nat → Heap → Prop) (Mid : Nat → Addr → Heap → Prop) (up : Up s.heap h₁) (e : it = .ref I) (wk : WalksT C.prog C.w A I fp wr items.length P W Mid) (w0 : W 0 s₂.heap)
      (r : Src C A env m Fp h₁ s₂.heap wr fp) (hwr : ∀ i h, W i h → ∀ b ∈ wr, FieldsAt h b) (hmid : ∀ i T h, Mid i T h → ∀ b ∈ wr, FieldsAt h b)
      (hit : ∀ i vs, P i vs → ∃ v₁ v₂ d₁ d₂ as bs, vs = #[v₁, v₂] ∧ items[i]? = some (d₁, d₂) ∧ Rd h₁ v₁ d₁ as ∧ Rd h₁ v₂ d₂ bs ∧ (∀ a ∈ as, ¬ Wr env m Fp a) ∧ ∀ a ∈ bs, ¬ Wr env m Fp a) : Src2F C A env m Fp items s it s₂
/-- enumerate, for a loop or a comprehension -/
def It2F (C : Cx) (sc : Scope) (names : List Str) (n : Nat) (m : MM) (e : Expr) (items : List (PyData × PyData)) : Prop :=
  ∀ (A : Around) (E : Value → Shared → Prop) (s : Shared) (env : Env) (Kp : Addr → Option Obj) (V : Nat → Value) (Fp : Nat → List Addr),
    Room A n → EnvOf env sc → St C.B Kp env names m V Fp s.heap →
    wpAny C.M A (eval e env) (fun x s₁ => wpAny C.M A (pyIter x) (Src2F C A env m Fp items s) E s₁) E s

theorem itF_enum {x : Str} {p pos : Pos} {items : List PyData} {md : Md} (G : C.Good) (g : GlobIs C x (.type "enumerate")) (hx : sc.names.lookup x = some .globalImplicit) (h : EvOK C sc names n m e (.list items) md) (hmd : md = .shared ∨ md = .new ∨ md = .fresh)
    (hd : (x == ("__debug__" : Str)) = false := by decide) (he : ∀ env, starEach [e] env = [(false, eval e env)] := by intro _; rfl) :
    It2F C sc names n m (.Call (.Name x p) [e] [] pos) (enumItems 0 items) := by
  intro A E s env Kp V Fp hR hE S
  refine Call_ (ld_glob G g hE S.baseUp hx ?_ hd)
  refine callWith_type1 (wpAny_items_cons (wpAny_mono (h A E s env Kp V Fp hR hE S) (fun v s₁ h₁ => wpAny_items_nil ?_) fun _ _ h => h) (he env)) (he env) rfl
  obtain ⟨x1, as, r, q⟩ := h₁
  have hw := not_wr_of S x1 r q hmd
  obtain ⟨l, vs, c, bs, rfl, hl, ql, rfl⟩ := r.list_inv
  have hlen : vs.size = items.length := by simpa using ql.length
  refine call_enumerate_list (isList_lst hl) fun h' hEn hIt hsz hk => ?_
  refine wpAny_pyIter_enum hEn ?_
  have hL := isList_lst (hk _ _ hl)
  have hlt := Heap.lt_size hl
  have dead : ∀ b, s₁.heap.objs.size ≤ b → s₁.heap.get? b = none := fun b hb => by
    cases e : s₁.heap.get? b with
    | none => rfl
    | some o => exact absurd (Heap.lt_size e) (Nat.not_lt.mpr hb)
  have hnew : ∀ b, s₁.heap.objs.size ≤ b → ¬ Wr env m Fp b := fun b hb w => by
    obtain ⟨o, e⟩ := (S.up x1.up).wr_live w
    rw [dead b hb] at e; cases e
  refine ⟨x1.trans (.heap hk), s₁.heap, s₁.heap.objs.size + 1, _, _, _, _, _, x1.up, rfl,
    (enumItems_length items 0).trans hlen.symm ▸ WalksT.enumerate hR.hh _ _ l (Nat.succ_ne_self _) (Nat.ne_of_lt (Nat.lt_succ_of_lt hlt)) (Nat.ne_of_lt hlt) vs, ⟨⟨_, hEn⟩, hIt, hL⟩,
    ⟨hk, (S.up x1.up).baseUp, fun b hb => ?_, fun b hb => ?_, fun b hb => ?_⟩, fun i h hW b hb => ?_, fun i T h hM b hb => ?_, fun i vals hP => ?_⟩
  · rcases List.mem_cons.mp hb with rfl | hb
    · exact ⟨⟨_, hEn⟩, hnew _ (Nat.le_succ _)⟩
    · rcases List.mem_cons.mp hb with rfl | hb
      · obtain ⟨o, e, _⟩ := hIt
        exact ⟨⟨_, e⟩, hnew _ (Nat.le_refl _)⟩
      · rw [List.mem_singleton] at hb; subst hb
        exact ⟨⟨_, hk _ _ hl⟩, hw _ (List.mem_cons_self ..)⟩
  · rcases List.mem_cons.mp hb with rfl | hb
    · exact List.mem_cons_self ..
    · rw [List.mem_singleton] at hb; subst hb; simp
  · rcases List.mem_cons.mp hb with rfl | hb
    · exact dead _ (Nat.le_succ _)
    · rw [List.mem_singleton] at hb; subst hb; exact dead _ (Nat.le_refl _)
  · obtain ⟨⟨old, h1⟩, ⟨o, h2, _, h3⟩, _⟩ := hW
    rcases List.mem_cons.mp hb with rfl | hb
    · exact ⟨_, _, h1, rfl⟩
    · rw [List.mem_singleton] at hb; subst hb; exact ⟨o, _, h2, h3⟩
  · obtain ⟨⟨old, h1⟩, ⟨o, h2, _, h3⟩, _⟩ := hM
    rcases List.mem_cons.mp hb with rfl | hb
    · exact ⟨_, _, h1, rfl⟩
    · rw [List.mem_singleton] at hb; subst hb; exact ⟨o, _, h2, h3⟩
  · obtain ⟨t, y, hy, rfl⟩ := hP
    obtain ⟨d, cs, e1, r1, sub⟩ := ql.getV (by simpa using hy)
    exact ⟨_, _, _, _, [], cs, rfl, by have := enumItems_at items 0 i e1; simpa using this, .int _ _, r1, (fun _ h => by cases h), fun a ha => hw a (List.mem_cons_of_mem _ (sub a ha))⟩

theorem It2F.comp {x y : Str} {px py pt : Pos} {ct k j : Nat} {items : List (PyData × PyData)} (h : It2F C sc names n m e items)
    (hc : CompSc scope sc) (hk : names'[k]? = some x) (hj : names'[j]? = some y) (hn : names'.Nodup) (hx : scope.names.lookup x = some .local) (hy : scope.names.lookup y = some .local) :
    CompIt C sc scope names names' n m J (.Tuple [.Name x px, .Name y py] ct pt) e items.length (fun i m => (m.set k (items[i]?.map fun d => (d.1, false))).set j (items[i]?.map fun d => (d.2, false))) := fun A E s env Kp V Fp hR hE S =>
  wpAny_mono (h A E s env Kp V Fp hR hE S) (fun x s₁ h₁ => wpAny_mono h₁ (fun it s₂ h₂ => by
    obtain ⟨x2, h₁, I, fp, wr, P, W, Mid, u1, rfl, Wk, hW, R, hwr, hmid, hit⟩ := h₂
    refine ⟨x2, h₁, W, wr, fp, fun _ => True, u1, R, fun _ => trivial, fun c hcn hcw => ?_, fun s Q E hw hq => Wk.self 0 s Q E hw hq, Wk.frame, hW, hwr⟩
    have hE' := comp_envOf (c := c) hE hc
    refine (running_pair hR.hh (by rw [hE'.scope]; exact hE'.kind) hk hj hn (kinds hE' (.inl (relabelS_local hx))) (kinds hE' (.inl (relabelS_local hy))) Wk (comp_src hE hc S R hcn) (fun i h hW b hb => (hwr i h hW b hb).wrOk) (fun i T h hM b hb => (hmid i T h hM b hb).wrOk)
      (.inl ⟨fun i h hW b hb => (hwr i h hW b hb).not_seq, fun i T h hM b hb => (hmid i T h hM b hb).not_seq⟩) fun i v hP => ?_).pl_mono fun b p => p.elim (placeOf_comp hE hc hx) (placeOf_comp hE hc hy)
    obtain ⟨v₁, v₂, d₁, d₂, as, bs, e0, e1, r₁, r₂, w₁, w₂⟩ := hit i v hP
    exact ⟨v₁, v₂, d₁, d₂, as, bs, e0, e1, r₁, r₂, comp_notwr hE hc S R hcn r₁ w₁, comp_notwr hE hc S R hcn r₂ w₂⟩) fun _ _ h => h) fun _ _ h => h
end
end Mine
end

/-! text MHk -/
section
open PySem PySem.W PyProof.Rows
set_option maxRecDepth 100000
namespace Mine
/-! what the walk asks of the top: the functions without defaults (the view), and five objects of the heap as it stands after the top -/
noncomputable def vw : Program := view PySem.Challenge.pw_wj0013_01 [1, 5, 6, 7, 9, 10, 11, 12, 13, 14, 15, 16, 17, 18, 19]
noncomputable def bisFd : FuncData := match PySem.Challenge.pw_wj0013_01.main.body[3]? with
  | some (Stmt.FunctionDef _ a b _ _ _ sc _ _ _) => { name := Str.ofString "bisect_right", qualname := Str.ofString "bisect_right", params := a, body := .stmts b, scope := sc, globals := mainGlobals, closure := [], defaults := .ref 22, kwdefaults := .ref 23, doc := .none, pyModule := .str (Str.ofString "cpy313.bisect") 198, code := .ref 29, builtins := builtinsNs }
  | _ => default
noncomputable def heapK (P : Params) : Frag := [
  (3, { cls := .type "dict", data := .dict #[{ hash := PyData.keyHash P (Str.ofString "__name__"), key := .str (Str.ofString "__name__") 165, val := .str (Str.ofString "law_wj0013_01") 248 },
    { hash := PyData.keyHash P (Str.ofString "__doc__"), key := .str (Str.ofString "__doc__") 166, val := .none },
    { hash := PyData.keyHash P (Str.ofString "__package__"), key := .str (Str.ofString "__package__") 167, val := .none },
    { hash := PyData.keyHash P (Str.ofString "__loader__"), key := .str (Str.ofString "__loader__") 168, val := .builtin "__main__.__loader__#opaque" },
    { hash := PyData.keyHash P (Str.ofString "__spec__"), key := .str (Str.ofString "__spec__") 169, val := .none },
    { hash := PyData.keyHash P (Str.ofString "__annotations__"), key := .str (Str.ofString "__annotations__") 170, val := .ref 6 },
    { hash := PyData.keyHash P (Str.ofString "__builtins__"), key := .str (Str.ofString "__builtins__") 171, val := .ref 4 },
    { hash := PyData.keyHash P (Str.ofString "__file__"), key := .str (Str.ofString "__file__") 173, val := .str (Str.ofString "/claim/cut.py") 172 },
    { hash := PyData.keyHash P (Str.ofString "__cached__"), key := .str (Str.ofString "__cached__") 174, val := .none },
    { hash := PyData.keyHash P (Str.ofString "_parse_varint"), key := .str (Str.ofString "_parse_varint") 197, val := .ref 21 },
    { hash := PyData.keyHash P (Str.ofString "bisect_right"), key := .str (Str.ofString "bisect_right") 213, val := .ref 30 },
    { hash := PyData.keyHash P (Str.ofString "_iter_escaped_chars"), key := .str (Str.ofString "_iter_escaped_chars") 225, val := .ref 37 },
    { hash := PyData.keyHash P (Str.ofString "_strip_quoted_realnames"), key := .str (Str.ofString "_strip_quoted_realnames") 237, val := .ref 44 },
    { hash := PyData.keyHash P (Str.ofString "_check_parenthesis"), key := .str (Str.ofString "_check_parenthesis") 247, val := .ref 51 },
    { hash := PyData.keyHash P (Str.ofString "_law_ring"), key := .str (Str.ofString "_law_ring") 263, val := .ref 58 },
    { hash := PyData.keyHash P (Str.ofString "_law_text"), key := .str (Str.ofString "_law_text") 269, val := .ref 63 },
    { hash := PyData.keyHash P (Str.ofString "_law_tree"), key := .str (Str.ofString "_law_tree") 280, val := .ref 70 },
    { hash := PyData.keyHash P (Str.ofString "_law_read"), key := .str (Str.ofString "_law_read") 289, val := .ref 77 },
    { hash := PyData.keyHash P (Str.ofString "_law_walk"), key := .str (Str.ofString "_law_walk") 302, val := .ref 84 },
    { hash := PyData.keyHash P (Str.ofString "_law_goals"), key := .str (Str.ofString "_law_goals") 308, val := .ref 89 },
    { hash := PyData.keyHash P (Str.ofString "_law_onward"), key := .str (Str.ofString "_law_onward") 314, val := .ref 94 },
    { hash := PyData.keyHash P (Str.ofString "_law_rooms"), key := .str (Str.ofString "_law_rooms") 324, val := .ref 101 },
    { hash := PyData.keyHash P (Str.ofString "_law_steps"), key := .str (Str.ofString "_law_steps") 337, val := .ref 108 },
    { hash := PyData.keyHash P (Str.ofString "_law_tie"), key := .str (Str.ofString "_law_tie") 343, val := .ref 113 },
    { hash := PyData.keyHash P (Str.ofString "law"), key := .str (Str.ofString "law") 349, val := .ref 118 }] 25 }),
  (22, { cls := .type "tuple", data := .seq #[.int 0 200, .none] }),
  (23, { cls := .type "dict", data := .dict #[{ hash := PyData.keyHash P (Str.ofString "key"), key := .str (Str.ofString "key") 201, val := .none }] 1 }),
  (29, { cls := .type "code", data := .fields #[.str (Str.ofString "bisect_right") 202, .str (Str.ofString "bisect_right") 203, .str (Str.ofString "/claim/cut.py") 204, .int 11 0, .int 4 0, .int 0 0, .int 1 0, .int 3 0, .ref 24, .bool true, .int 181 0, .ref 25, .none, .ref 26, .ref 27, .ref 28, .int 211 0, .int 11 0, .str (Str.ofString "/claim/cut.py") 212] }),
  (30, { cls := .type "function", data := .func bisFd })]
end Mine
end

/-! text MP -/
section
open PySem PySem.Spec PySem.Calls PyProof.Rows
set_option linter.unusedVariables false
namespace Mine

/-- the k-th function of the program -/
noncomputable def fnRec (k : Nat) : DefItem := (((recsOf vw).map PySem.W.itemOf)[k]?).getD ⟨default, default, default, default, default⟩

structure Gl (C : Cx) : Prop where
  good : C.Good
  fn : ∀ e ∈ (recsOf vw).map PySem.W.itemOf, e.At C.mg C.B
  range : GlobIs C "range" (.type "range")
  list : GlobIs C "list" (.type "list")
  enumerate : GlobIs C "enumerate" (.type "enumerate")
  zip : GlobIs C "zip" (.type "zip")
  int : GlobIs C "int" (.type "int")
  len : GlobIs C "len" (.builtin "len")
  sum : GlobIs C "sum" (.builtin "sum")
  min : GlobIs C "min" (.builtin "min")
  max : GlobIs C "max" (.builtin "max")
  sorted : GlobIs C "sorted" (.builtin "sorted")
  iter : GlobIs C "iter" (.builtin "iter")
  next : GlobIs C "next" (.builtin "next")

set_option maxRecDepth 100000
noncomputable def B0 : {b : List Stmt // (fnRec 0).body = b} := ⟨_, by conv => lhs; whnf⟩
noncomputable def S0 : {b : Scope // (fnRec 0).scope = b} := ⟨_, by conv => lhs; whnf⟩
noncomputable def P0 : {b : Arguments // (fnRec 0).params = b} := ⟨_, by conv => lhs; whnf⟩
noncomputable def N0 : {b : Str // (fnRec 0).name = b} := ⟨_, by conv => lhs; whnf⟩
noncomputable def B1 : {b : List Stmt // (fnRec 1).body = b} := ⟨_, by conv => lhs; whnf⟩
noncomputable def S1 : {b : Scope // (fnRec 1).scope = b} := ⟨_, by conv => lhs; whnf⟩
noncomputable def P1 : {b : Arguments // (fnRec 1).params = b} := ⟨_, by conv => lhs; whnf⟩
noncomputable def N1 : {b : Str // (fnRec 1).name = b} := ⟨_, by conv => lhs; whnf⟩
noncomputable def B2 : {b : List Stmt // (fnRec 2).body = b} := ⟨_, by conv => lhs; whnf⟩
noncomputable def S2 : {b : Scope // (fnRec 2).scope = b} := ⟨_, by conv => lhs; whnf⟩
noncomputable def P2 : {b : Arguments // (fnRec 2).params = b} := ⟨_, by conv => lhs; whnf⟩
noncomputable def N2 : {b : Str // (fnRec 2).name = b} := ⟨_, by conv => lhs; whnf⟩
noncomputable def B3 : {b : List Stmt // (fnRec 3).body = b} := ⟨_, by conv => lhs; whnf⟩
noncomputable def S3 : {b : Scope // (fnRec 3).scope = b} := ⟨_, by conv => lhs; whnf⟩
noncomputable def P3 : {b : Arguments // (fnRec 3).params = b} := ⟨_, by conv => lhs; whnf⟩
noncomputable def N3 : {b : Str // (fnRec 3).name = b} := ⟨_, by conv => lhs; whnf⟩
noncomputable def B4 : {b : List Stmt // (fnRec 4).body = b} := ⟨_, by conv => lhs; whnf⟩
noncomputable def S4 : {b : Scope // (fnRec 4).scope = b} := ⟨_, by conv => lhs; whnf⟩
noncomputable def P4 : {b : Arguments // (fnRec 4).params = b} := ⟨_, by conv => lhs; whnf⟩
noncomputable def N4 : {b : Str // (fnRec 4).name = b} := ⟨_, by conv => lhs; whnf⟩
noncomputable def B5 : {b : List Stmt // (fnRec 5).body = b} := ⟨_, by conv => lhs; whnf⟩
noncomputable def S5 : {b : Scope // (fnRec 5).scope = b} := ⟨_, by conv => lhs; whnf⟩
noncomputable def P5 : {b : Arguments // (fnRec 5).params = b} := ⟨_, by conv => lhs; whnf⟩
noncomputable def N5 : {b : Str // (fnRec 5).name = b} := ⟨_, by conv => lhs; whnf⟩
noncomputable def B6 : {b : List Stmt // (fnRec 6).body = b} := ⟨_, by conv => lhs; whnf⟩
noncomputable def S6 : {b : Scope // (fnRec 6).scope = b} := ⟨_, by conv => lhs; whnf⟩
noncomputable def P6 : {b : Arguments // (fnRec 6).params = b} := ⟨_, by conv => lhs; whnf⟩
noncomputable def N6 : {b : Str // (fnRec 6).name = b} := ⟨_, by conv => lhs; whnf⟩
noncomputable def B7 : {b : List Stmt // (fnRec 7).body = b} := ⟨_, by conv => lhs; whnf⟩
noncomputable def S7 : {b : Scope // (fnRec 7).scope = b} := ⟨_, by conv => lhs; whnf⟩
noncomputable def P7 : {b : Arguments // (fnRec 7).params = b} := ⟨_, by conv => lhs; whnf⟩
noncomputable def N7 : {b : Str // (fnRec 7).name = b} := ⟨_, by conv => lhs; whnf⟩
noncomputable def B8 : {b : List Stmt // (fnRec 8).body = b} := ⟨_, by conv => lhs; whnf⟩
noncomputable def S8 : {b : Scope // (fnRec 8).scope = b} := ⟨_, by conv => lhs; whnf⟩
noncomputable def P8 : {b : Arguments // (fnRec 8).params = b} := ⟨_, by conv => lhs; whnf⟩
noncomputable def N8 : {b : Str // (fnRec 8).name = b} := ⟨_, by conv => lhs; whnf⟩
noncomputable def B9 : {b : List Stmt // (fnRec 9).body = b} := ⟨_, by conv => lhs; whnf⟩
noncomputable def S9 : {b : Scope // (fnRec 9).scope = b} := ⟨_, by conv => lhs; whnf⟩
noncomputable def P9 : {b : Arguments // (fnRec 9).params = b} := ⟨_, by conv => lhs; whnf⟩
noncomputable def N9 : {b : Str // (fnRec 9).name = b} := ⟨_, by conv => lhs; whnf⟩
noncomputable def B10 : {b : List Stmt // (fnRec 10).body = b} := ⟨_, by conv => lhs; whnf⟩
noncomputable def S10 : {b : Scope // (fnRec 10).scope = b} := ⟨_, by conv => lhs; whnf⟩
noncomputable def P10 : {b : Arguments // (fnRec 10).params = b} := ⟨_, by conv => lhs; whnf⟩
noncomputable def N10 : {b : Str // (fnRec 10).name = b} := ⟨_, by conv => lhs; whnf⟩
noncomputable def B11 : {b : List Stmt // (fnRec 11).body = b} := ⟨_, by conv => lhs; whnf⟩
noncomputable def S11 : {b : Scope // (fnRec 11).scope = b} := ⟨_, by conv => lhs; whnf⟩
noncomputable def P11 : {b : Arguments // (fnRec 11).params = b} := ⟨_, by conv => lhs; whnf⟩
noncomputable def N11 : {b : Str // (fnRec 11).name = b} := ⟨_, by conv => lhs; whnf⟩
noncomputable def B12 : {b : List Stmt // (fnRec 12).body = b} := ⟨_, by conv => lhs; whnf⟩
noncomputable def S12 : {b : Scope // (fnRec 12).scope = b} := ⟨_, by conv => lhs; whnf⟩
noncomputable def P12 : {b : Arguments // (fnRec 12).params = b} := ⟨_, by conv => lhs; whnf⟩
noncomputable def N12 : {b : Str // (fnRec 12).name = b} := ⟨_, by conv => lhs; whnf⟩
noncomputable def B13 : {b : List Stmt // (fnRec 13).body = b} := ⟨_, by conv => lhs; whnf⟩
noncomputable def S13 : {b : Scope // (fnRec 13).scope = b} := ⟨_, by conv => lhs; whnf⟩
noncomputable def P13 : {b : Arguments // (fnRec 13).params = b} := ⟨_, by conv => lhs; whnf⟩
noncomputable def N13 : {b : Str // (fnRec 13).name = b} := ⟨_, by conv => lhs; whnf⟩
noncomputable def B14 : {b : List Stmt // (fnRec 14).body = b} := ⟨_, by conv => lhs; whnf⟩
noncomputable def S14 : {b : Scope // (fnRec 14).scope = b} := ⟨_, by conv => lhs; whnf⟩
noncomputable def P14 : {b : Arguments // (fnRec 14).params = b} := ⟨_, by conv => lhs; whnf⟩
noncomputable def N14 : {b : Str // (fnRec 14).name = b} := ⟨_, by conv => lhs; whnf⟩

theorem fn_len : ((recsOf vw).map PySem.W.itemOf).length = 15 := by rfl
theorem Gl.at {C : Cx} (H : Gl C) {k : Nat} (hk : k < 15) : (fnRec k).At C.mg C.B := by
  refine H.fn _ ?_
  have h : k < ((recsOf vw).map PySem.W.itemOf).length := by rw [fn_len]; exact hk
  unfold fnRec
  rw [List.getElem?_eq_getElem h]
  exact List.getElem_mem h
end Mine
end

/-! text MQ -/
section
open PySem PySem.Spec PySem.Calls PyProof.Rows
set_option linter.unusedVariables false
set_option maxRecDepth 100000
namespace Mine
section
variable {C : Cx} {n : Nat}

variable {sc : Scope} {names : List Str} {m m' : MM} {d : PyData}
theorem ev_nil {pos} : EvOK C sc names n m (.List [] pos) (.list []) .fresh := ev_list (md := .fresh) evs_nil (by simp)
theorem ev_listF {es : List Expr} {ds : List PyData} {pos : Pos} (h : EvsOK C sc names n m es ds .fresh) (hsz : ds.length ≤ 1000 := by simp) : EvOK C sc names n m (.List es pos) (.list ds) .fresh := ev_list (md := .fresh) h hsz
theorem ev_tupF {es : List Expr} {ds : List PyData} {k : Nat} {pos : Pos} (h : EvsOK C sc names n m es ds .fresh) (hsz : ds.length ≤ 1000 := by simp) : EvOK C sc names n m (.Tuple es k pos) (.tuple ds) .fresh := ev_tuple (md := .fresh) h hsz
theorem ev_tupM {es : List Expr} {ds : List PyData} {k : Nat} {pos : Pos} (h : EvsOK C sc names n m es ds .mine) (hsz : ds.length ≤ 1000 := by simp) : EvOK C sc names n m (.Tuple es k pos) (.tuple ds) .mine := ev_tuple (md := .mine) h hsz
/-- a name that is not owned / that is -/
theorem nm_s {x : Str} {pos : Pos} (k : Nat) (hk : names[k]? = some x) (hm : m[k]? = some (some (d, false))) (hd : (x == ("__debug__" : Str)) = false := by decide) (hcl : (x == ("__classdict__" : Str)) = false := by decide) : EvOK C sc names n m (.Name x pos) d .shared := ev_name (o := false) hk hm hd hcl
theorem nm_m {x : Str} {pos : Pos} (k : Nat) (hk : names[k]? = some x) (hm : m[k]? = some (some (d, true))) (hd : (x == ("__debug__" : Str)) = false := by decide) (hcl : (x == ("__classdict__" : Str)) = false := by decide) : EvOK C sc names n m (.Name x pos) d .mine := ev_name (o := true) hk hm hd hcl

variable {l r e : Expr} {pos : Pos} {a b : Int} {ml mr : Md}
theorem x_int {i : Int} {k pos} : EvOK C sc names n m (.Constant (.int i) k pos) (.int i) .any := ev_int
theorem x_add (hl : EvOK C sc names n m l (.int a) ml) (hr : EvOK C sc names n m r (.int b) mr) : EvOK C sc names n m (.BinOp l .Add r pos) (.int (a + b)) .any := ev_add hl hr
theorem x_sub (hl : EvOK C sc names n m l (.int a) ml) (hr : EvOK C sc names n m r (.int b) mr) : EvOK C sc names n m (.BinOp l .Sub r pos) (.int (a - b)) .any := ev_sub hl hr
theorem x_mul (hl : EvOK C sc names n m l (.int a) ml) (hr : EvOK C sc names n m r (.int b) mr) (hm : IntMulOk a b) : EvOK C sc names n m (.BinOp l .Mult r pos) (.int (a * b)) .any := ev_mul hl hr hm
theorem x_mod (hl : EvOK C sc names n m l (.int a) ml) (hr : EvOK C sc names n m r (.int b) mr) (hb : b ≠ 0 := by decide) : EvOK C sc names n m (.BinOp l .Mod r pos) (.int (a.fmod b)) .any := ev_mod hl hr hb
theorem x_div (hl : EvOK C sc names n m l (.int a) ml) (hr : EvOK C sc names n m r (.int b) mr) (hb : b ≠ 0 := by decide) (hs : b.natAbs < 1073741824 := by decide) : EvOK C sc names n m (.BinOp l .FloorDiv r pos) (.int (a.fdiv b)) .any := ev_div hl hr hb hs
theorem x_len {e₁ : Expr} {p : Pos} {xs : List PyData} {ma : Md} (H : Gl C) (hx : sc.names.lookup (Str.ofString "len") = some .globalImplicit) (h : EvOK C sc names n m e₁ (.list xs) ma) (hsz : xs.length ≤ 1000) (he : ∀ env, starEach [e₁] env = [(false, eval e₁ env)] := by intro _; rfl) :
    EvOK C sc names n m (.Call (.Name (Str.ofString "len") p) [e₁] [] pos) (.int xs.length) .any := ev_len H.good H.len hx h hsz (by decide) he
/-- an item of a list of ints -/
theorem x_idx {o i : Expr} {xs : List Int} {k : Int} {j : Nat} {c : Int} (ho : EvOK C sc names n m o (zl xs) ml) (hi : EvOK C sc names n m i (.int k) mr)
    (hsz : xs.length ≤ 1000) (hj : seqIndex? k xs.length = some j) (hx : xs[j]? = some c)
    (hs : ∀ o v, subscripted i false o v = operate [o, v] (getItem o v) := by intro _ _; rfl) : EvOK C sc names n m (.Subscript o i pos) (.int c) .any :=
  (ev_index ho hi (by simpa using hsz) (by simpa using hj) (by rw [List.getElem?_map, hx]; rfl) hs).any
theorem seq_nn {k : Int} {n : Nat} (h0 : 0 ≤ k) (h1 : k < n) : seqIndex? k n = some k.toNat := by
  unfold seqIndex?
  simp only [show ¬ k < 0 by lia, if_false]
  rw [if_pos (by simp only [Bool.and_eq_true, decide_eq_true_eq]; lia)]
theorem seq_neg {k : Int} {n : Nat} (h0 : k < 0) (h1 : -(n : Int) ≤ k) : seqIndex? k n = some (k + n).toNat := by
  unfold seqIndex?
  simp only [h0, if_true]
  rw [if_pos (by simp only [Bool.and_eq_true, decide_eq_true_eq]; lia)]

theorem IterOK.put {target : Expr} {N : Nat} {put put' : Nat → MM → MM} {okm : MM → Prop} (h : IterOK C sc names n m target e N put okm) (hp : ∀ i, i < N → ∀ m, put i m = put' i m) : IterOK C sc names n m target e N put' okm := fun A E s env Kp V Fp hR hE S =>
  wpAny_mono (h A E s env Kp V Fp hR hE S) (fun x s₁ h₁ => wpAny_mono h₁ (fun it s₂ h₂ => by
    obtain ⟨x2, K, W, wr, pl, Rn, w0, st, sub⟩ := h₂
    refine ⟨x2, K, W, wr, pl, ⟨fun i s m V Fp E hi hW hok S => wpAny_mono (Rn.step i s m V Fp E hi hW hok S) (fun r s₁ h₁ => ?_) fun _ _ h => h, Rn.stop, Rn.frame⟩, w0, st, sub⟩
    rw [← hp i hi m]; exact h₁) fun _ _ h => h) fun _ _ h => h
theorem CompIt.put {scope : Scope} {names' : List Str} {J : Nat → Nat} {target : Expr} {N : Nat} {put put' : Nat → MM → MM} (h : CompIt C sc scope names names' n m J target e N put) (hp : ∀ i, i < N → ∀ m, put i m = put' i m) : CompIt C sc scope names names' n m J target e N put' := fun A E s env Kp V Fp hR hE S =>
  wpAny_mono (h A E s env Kp V Fp hR hE S) (fun x s₁ h₁ => wpAny_mono h₁ (fun it s₂ h₂ => by
    obtain ⟨x2, h₁, W, wr, fp, okm, u1, R, hok, hrun, sf, fr, w0, hw⟩ := h₂
    refine ⟨x2, h₁, W, wr, fp, okm, u1, R, hok, fun c h1 h2 => ⟨fun i s m V Fp E hi hW hok S => wpAny_mono ((hrun c h1 h2).step i s m V Fp E hi hW hok S) (fun r s₁ h₁ => ?_) fun _ _ h => h, (hrun c h1 h2).stop, (hrun c h1 h2).frame⟩, sf, fr, w0, hw⟩
    rw [← hp i hi m]; exact h₁) fun _ _ h => h) fun _ _ h => h

theorem zl_at {xs : List Int} {i : Nat} (h : i < xs.length) : (xs.map PyData.int)[i]? = some (.int (xs.getD i 0)) := by
  rw [List.getElem?_map, List.getElem?_eq_getElem h, List.getD_eq_getElem?_getD, List.getElem?_eq_getElem h]; rfl
theorem range_at {a c : Int} {k i : Nat} (h : i < k) : (rangeItems a c k)[i]? = some (.int (a + (i : Nat) * c)) := by
  unfold rangeItems
  rw [List.getElem?_map, List.getElem?_range h]; rfl
theorem range_len {a c : Int} {k : Nat} : (rangeItems a c k).length = k := by simp [rangeItems]
theorem enum_at {xs : List Int} {i : Nat} (h : i < xs.length) : (enumItems 0 (xs.map PyData.int))[i]? = some (.int (i : Int), .int (xs.getD i 0)) := by
  have := enumItems_at (xs.map PyData.int) 0 i (zl_at h)
  simpa using this

/-- for x in (list of ints) -/
theorem for_ints {x : Str} {px : Pos} {k : Nat} {xs : List Int} {md : Md} (h : EvOK C sc names n m e (zl xs) md) (hmd : md = .shared ∨ md = .new ∨ md = .fresh) (hk : names[k]? = some x) (hn : names.Nodup) (hx : sc.names.lookup x = some .local ∨ sc.names.lookup x = some .cell) :
    IterOK C sc names n m (.Name x px) e xs.length (fun i m => m.set k (some (.int (xs.getD i 0), false))) (fun _ => True) := by
  have := It1.iter (px := px) (it_list h hmd) hk hn hx
  rw [List.length_map] at this
  exact this.put fun i hi m => by rw [zl_at hi]; rfl
theorem for_range {x y : Str} {px p q : Pos} {k K : Nat} {b : Int} {mb : Md} {e₁ : Expr} (G : C.Good) (g : GlobIs C y (.type "range")) (hy : sc.names.lookup y = some .globalImplicit) (h : EvOK C sc names n m e₁ (.int b) mb) (hb : -(2 ^ 62) ≤ b) (hb' : b < 2 ^ 62) (hK : Builtin.Range.rangeSize 0 b 1 = K)
    (hk : names[k]? = some x) (hn : names.Nodup) (hx : sc.names.lookup x = some .local ∨ sc.names.lookup x = some .cell) (hd : (y == ("__debug__" : Str)) = false := by decide) (he : ∀ env, starEach [e₁] env = [(false, eval e₁ env)] := by intro _; rfl) :
    IterOK C sc names n m (.Name x px) (.Call (.Name y p) [e₁] [] q) K (fun i m => m.set k (some (.int (i : Int), false))) (fun _ => True) := by
  have := It1.iter (px := px) (it_range1 (p := p) (pos := q) G g hy h hb hb' hK hd he) hk hn hx
  rw [range_len] at this
  exact this.put fun i hi m => by rw [range_at hi]; simp
theorem comp_ints {scope : Scope} {names' : List Str} {J : Nat → Nat} {x : Str} {px : Pos} {k : Nat} {xs : List Int} {md : Md} (h : EvOK C sc names n m e (zl xs) md) (hmd : md = .shared ∨ md = .new ∨ md = .fresh) (hc : CompSc scope sc) (hk : names'[k]? = some x) (hn : names'.Nodup) (hx : scope.names.lookup x = some .local) :
    CompIt C sc scope names names' n m J (.Name x px) e xs.length (fun i m => m.set k (some (.int (xs.getD i 0), false))) := by
  have := It1.comp (px := px) (J := J) (it_list h hmd) hc hk hn hx
  rw [List.length_map] at this
  exact this.put fun i hi m => by rw [zl_at hi]; rfl
theorem comp_range {scope : Scope} {names' : List Str} {J : Nat → Nat} {x y : Str} {px p q : Pos} {k K : Nat} {b : Int} {mb : Md} {e₁ : Expr} (G : C.Good) (g : GlobIs C y (.type "range")) (hy : sc.names.lookup y = some .globalImplicit) (h : EvOK C sc names n m e₁ (.int b) mb) (hb : -(2 ^ 62) ≤ b) (hb' : b < 2 ^ 62) (hK : Builtin.Range.rangeSize 0 b 1 = K)
    (hc : CompSc scope sc) (hk : names'[k]? = some x) (hn : names'.Nodup) (hx : scope.names.lookup x = some .local) (hd : (y == ("__debug__" : Str)) = false := by decide) (he : ∀ env, starEach [e₁] env = [(false, eval e₁ env)] := by intro _; rfl) :
    CompIt C sc scope names names' n m J (.Name x px) (.Call (.Name y p) [e₁] [] q) K (fun i m => m.set k (some (.int (i : Int), false))) := by
  have := It1.comp (px := px) (J := J) (it_range1 (p := p) (pos := q) G g hy h hb hb' hK hd he) hc hk hn hx
  rw [range_len] at this
  exact this.put fun i hi m => by rw [range_at hi]; simp
theorem comp_enum {scope : Scope} {names' : List Str} {J : Nat → Nat} {x y z : Str} {px py p pt pos : Pos} {ct k j : Nat} {xs : List Int} {md : Md} (G : C.Good) (g : GlobIs C z (.type "enumerate")) (hz : sc.names.lookup z = some .globalImplicit) (h : EvOK C sc names n m e (zl xs) md) (hmd : md = .shared ∨ md = .new ∨ md = .fresh)
    (hc : CompSc scope sc) (hk : names'[k]? = some x) (hj : names'[j]? = some y) (hn : names'.Nodup) (hx : scope.names.lookup x = some .local) (hy : scope.names.lookup y = some .local)
    (hd : (z == ("__debug__" : Str)) = false := by decide) (he : ∀ env, starEach [e] env = [(false, eval e env)] := by intro _; rfl) :
    CompIt C sc scope names names' n m J (.Tuple [.Name x px, .Name y py] ct pt) (.Call (.Name z p) [e] [] pos) xs.length (fun i m => (m.set k (some (.int (i : Int), false))).set j (some (.int (xs.getD i 0), false))) := by
  have := It2F.comp (px := px) (py := py) (pt := pt) (ct := ct) (J := J) (itF_enum (p := p) (pos := pos) G g hz h hmd hd he) hc hk hj hn hx hy
  rw [enumItems_length, List.length_map] at this
  exact this.put fun i hi m => by rw [enum_at hi]; rfl
theorem for_enum {x y z : Str} {px py p pt pos : Pos} {ct k j : Nat} {xs : List Int} {md : Md} (G : C.Good) (g : GlobIs C z (.type "enumerate")) (hz : sc.names.lookup z = some .globalImplicit) (h : EvOK C sc names n m e (zl xs) md) (hmd : md = .shared ∨ md = .new ∨ md = .fresh)
    (hk : names[k]? = some x) (hj : names[j]? = some y) (hn : names.Nodup) (hx : sc.names.lookup x = some .local ∨ sc.names.lookup x = some .cell) (hy : sc.names.lookup y = some .local ∨ sc.names.lookup y = some .cell)
    (hd : (z == ("__debug__" : Str)) = false := by decide) (he : ∀ env, starEach [e] env = [(false, eval e env)] := by intro _; rfl) :
    IterOK C sc names n m (.Tuple [.Name x px, .Name y py] ct pt) (.Call (.Name z p) [e] [] pos) xs.length (fun i m => (m.set k (some (.int (i : Int), false))).set j (some (.int (xs.getD i 0), false))) (fun m => false = true → ∀ (k : Nat) d, m[k]? = some (some (d, false)) → Mine.atom d = true) := by
  have := It2.iter (px := px) (py := py) (pt := pt) (c := ct) (it_enum (p := p) (pos := pos) G g hz h hmd hd he) hk hj hn hx hy
  rw [enumItems_length, List.length_map] at this
  exact this.put fun i hi m => by rw [enum_at hi]; rfl
theorem sx_forE {target e : Expr} {body : List Stmt} {pos : Pos} {N : Nat} {put : Nat → MM → MM} {okm : MM → Prop} (mi : Nat → MM) (hit : IterOK C sc names n m target e N put okm) (h0 : Weak m (mi 0)) (hok : ∀ i, i ≤ N → okm (mi i)) (hN : mi N = m')
    (hbody : ∀ i, i < N → SsOK C sc names n (put i (mi i)) body (mi (i + 1)))
    (hs : ∀ env x, foldedSetIterable e env x = pure x := by intro _ _; rfl) : SxOK C sc names n m (.For target e body [] pos) m' :=
  sx_forW mi (fun i => mi (i + 1)) hit h0 hN hok hbody (fun i _ => Weak.refl _) hs
theorem sx_whileE {test : Expr} {body : List Stmt} {pos : Pos} (N : Nat) (mi : Nat → MM) (h0 : Weak m (mi 0)) (hN : mi N = m') (ht : ∀ i, i < N → TsOK C sc names n (mi i) test true) (hf : TsOK C sc names n (mi N) test false)
    (hb : ∀ i, i < N → SsOK C sc names n (mi i) body (mi (i + 1))) : SxOK C sc names n m (.While test body [] pos) m' :=
  sx_whileW N mi (fun i => mi (i + 1)) h0 hN ht hf hb fun i _ => Weak.refl _
theorem swap_ok {ts : List Expr} {kt : Nat} {pt : Pos} {value : Expr} {xs : List Str} (h : ∀ locals globals cells qual func code frame builtins, (∀ env : Env, env = { scope := sc, locals := locals, globals := globals, cells := cells, qual := qual, func := func, code := code, frame := frame, builtins := builtins } →
    (swappedStores [.Tuple ts kt pt] value env = pure none ∨ swappedStores [.Tuple ts kt pt] value env = pure (some xs)))) : SwapOK sc ts kt pt value xs := fun env hE => by
  obtain ⟨⟩ := env
  obtain ⟨h1, _, _, _⟩ := hE
  dsimp only at h1; subst h1
  exact h _ _ _ _ _ _ _ _ _ rfl
theorem foldl_range_succ {α : Type} (f : α → Nat → α) (a : α) (i : Nat) : (List.range (i + 1)).foldl f a = f ((List.range i).foldl f a) i := by
  rw [List.range_succ, List.foldl_append]; rfl
theorem getD_of {xs : List Int} {i : Nat} (h : i < xs.length) : xs[i]? = some (xs.getD i 0) := by
  rw [List.getD_eq_getElem?_getD, List.getElem?_eq_getElem h]; rfl
theorem fmod_bd {a : Int} {k : Nat} (hk : 0 < k) : 0 ≤ a.fmod k ∧ a.fmod k < k := ⟨Int.fmod_nonneg_of_pos a (by lia), Int.fmod_lt_of_pos a (by lia)⟩
theorem map_erase : ∀ (l : List Int) (i : Nat), (l.eraseIdx i).map PyData.int = (l.map PyData.int).eraseIdx i
  | [], _ => rfl
  | a :: l, 0 => rfl
  | a :: l, i + 1 => by simp [map_erase l i]
def minL : List Int → Int
  | [] => 0
  | [a] => a
  | a :: b :: l => min a (minL (b :: l))
theorem minL_ok : ∀ {l : List Int}, l ≠ [] → minL l ∈ l ∧ ∀ a ∈ l, minL l ≤ a
  | [], h => absurd rfl h
  | [a], _ => by simp [minL]
  | a :: b :: l, _ => by
    obtain ⟨h1, h2⟩ := minL_ok (l := b :: l) (by simp)
    show min a (minL (b :: l)) ∈ _ ∧ ∀ c ∈ _, min a (minL (b :: l)) ≤ c
    refine ⟨?_, fun c hc => ?_⟩
    · rcases Int.le_total a (minL (b :: l)) with h | h
      · rw [Int.min_eq_left h]; exact List.mem_cons_self ..
      · rw [Int.min_eq_right h]; exact List.mem_cons_of_mem _ h1
    · rcases List.mem_cons.mp hc with rfl | hc
      · exact Int.min_le_left ..
      · exact Int.le_trans (Int.min_le_right ..) (h2 c hc)
def maxL : List Int → Int
  | [] => 0
  | [a] => a
  | a :: b :: l => max a (maxL (b :: l))
theorem maxL_ok : ∀ {l : List Int}, l ≠ [] → maxL l ∈ l ∧ ∀ a ∈ l, a ≤ maxL l
  | [], h => absurd rfl h
  | [a], _ => by simp [maxL]
  | a :: b :: l, _ => by
    obtain ⟨h1, h2⟩ := maxL_ok (l := b :: l) (by simp)
    show max a (maxL (b :: l)) ∈ _ ∧ ∀ c ∈ _, c ≤ max a (maxL (b :: l))
    refine ⟨?_, fun c hc => ?_⟩
    · rcases Int.le_total a (maxL (b :: l)) with h | h
      · rw [Int.max_eq_right h]; exact List.mem_cons_of_mem _ h1
      · rw [Int.max_eq_left h]; exact List.mem_cons_self ..
    · rcases List.mem_cons.mp hc with rfl | hc
      · exact Int.le_max_left ..
      · exact Int.le_trans (h2 c hc) (Int.le_max_right ..)
theorem TsOK.as {t : Expr} {b c : Bool} (h : TsOK C sc names n m t b) (e : b = c) : TsOK C sc names n m t c := e ▸ h
theorem EvOK.as {t : Expr} {d d' : PyData} {md : Md} (h : EvOK C sc names n m t d md) (e : d = d') : EvOK C sc names n m t d' md := e ▸ h
theorem x_neg {x : Expr} (hx : EvOK C sc names n m x (.int a) ml) : EvOK C sc names n m (.UnaryOp .USub x pos) (.int (-a)) .any := ev_neg hx
/-- the last item of a list of ints -/
theorem x_last {o i : Expr} {xs : List Int} {c : Int} (ho : EvOK C sc names n m o (zl xs) ml) (hi : EvOK C sc names n m i (.int (-1)) mr)
    (hsz : xs.length ≤ 1000) (hx : xs.getLast? = some c)
    (hs : ∀ o v, subscripted i false o v = operate [o, v] (getItem o v) := by intro _ _; rfl) : EvOK C sc names n m (.Subscript o i pos) (.int c) .any := by
  have h0 : xs ≠ [] := by rintro rfl; cases hx
  have hp := List.length_pos_iff.mpr h0
  refine x_idx (j := xs.length - 1) ho hi hsz ?_ ?_ hs
  · rw [seq_neg (by lia) (by lia)]; congr 1; lia
  · rw [List.getLast?_eq_getElem?] at hx; exact hx
theorem x_min {e₁ : Expr} {p : Pos} {xs : List Int} {ma : Md} (H : Gl C) (hx : sc.names.lookup (Str.ofString "min") = some .globalImplicit) (h : EvOK C sc names n m e₁ (zl xs) ma) (h0 : xs ≠ []) (he : ∀ env, starEach [e₁] env = [(false, eval e₁ env)] := by intro _; rfl) :
    EvOK C sc names n m (.Call (.Name (Str.ofString "min") p) [e₁] [] pos) (.int (minL xs)) .any := ev_min H.good H.min hx h (minL_ok h0).1 (minL_ok h0).2 (by decide) he
theorem x_max {e₁ : Expr} {p : Pos} {xs : List Int} {ma : Md} (H : Gl C) (hx : sc.names.lookup (Str.ofString "max") = some .globalImplicit) (h : EvOK C sc names n m e₁ (zl xs) ma) (h0 : xs ≠ []) (he : ∀ env, starEach [e₁] env = [(false, eval e₁ env)] := by intro _; rfl) :
    EvOK C sc names n m (.Call (.Name (Str.ofString "max") p) [e₁] [] pos) (.int (maxL xs)) .any := ev_max H.good H.max hx h (maxL_ok h0).1 (maxL_ok h0).2 (by decide) he
theorem x_sum {e₁ : Expr} {p : Pos} {xs : List Int} {ma : Md} (H : Gl C) (hx : sc.names.lookup (Str.ofString "sum") = some .globalImplicit) (h : EvOK C sc names n m e₁ (zl xs) ma) (he : ∀ env, starEach [e₁] env = [(false, eval e₁ env)] := by intro _; rfl) :
    EvOK C sc names n m (.Call (.Name (Str.ofString "sum") p) [e₁] [] pos) (.int xs.sum) .any := ev_sum H.good H.sum hx h (by decide) he
theorem rs_size (k : Nat) : Builtin.Range.rangeSize 0 (k : Int) 1 = k := by
  simp [Builtin.Range.rangeSize]; lia
theorem x_min2 {e₁ e₂ : Expr} {p : Pos} {m1 m2 : Md} (H : Gl C) (hx : sc.names.lookup (Str.ofString "min") = some .globalImplicit) (h1 : EvOK C sc names n m e₁ (.int a) m1) (h2 : EvOK C sc names n m e₂ (.int b) m2)
    (he : ∀ env, starEach [e₁, e₂] env = (false, eval e₁ env) :: starEach [e₂] env := by intro _; rfl) (he2 : ∀ env, starEach [e₂] env = [(false, eval e₂ env)] := by intro _; rfl) :
    EvOK C sc names n m (.Call (.Name (Str.ofString "min") p) [e₁, e₂] [] pos) (.int (min a b)) .any :=
  ev_callB H.good H.min (.bi _) hx (evs_cons h1.any (evs_cons h2.any evs_nil he2) he) (fun A E s s₁ Kp Fp vs as hR u r => by
    cases r with
    | cons r1 r2 => cases r2 with
      | cons r2 r3 =>
        cases r3
        obtain ⟨t, rfl, _⟩ := r1.int_inv
        obtain ⟨u, rfl, _⟩ := r2.int_inv
        refine min_two_ints hR.hh fun h' tk hk => ⟨.of hk, [], ?_, trivial⟩
        by_cases hc : b < a
        · rw [if_pos hc, Int.min_eq_right (by lia)]; exact .int _ _
        · rw [if_neg hc, Int.min_eq_left (by lia)]; exact .int _ _) (by decide) he (fun env pos => by rw [he2]; rfl)
theorem x_max2 {e₁ e₂ : Expr} {p : Pos} {m1 m2 : Md} (H : Gl C) (hx : sc.names.lookup (Str.ofString "max") = some .globalImplicit) (h1 : EvOK C sc names n m e₁ (.int a) m1) (h2 : EvOK C sc names n m e₂ (.int b) m2)
    (he : ∀ env, starEach [e₁, e₂] env = (false, eval e₁ env) :: starEach [e₂] env := by intro _; rfl) (he2 : ∀ env, starEach [e₂] env = [(false, eval e₂ env)] := by intro _; rfl) :
    EvOK C sc names n m (.Call (.Name (Str.ofString "max") p) [e₁, e₂] [] pos) (.int (max a b)) .any :=
  ev_callB H.good H.max (.bi _) hx (evs_cons h1.any (evs_cons h2.any evs_nil he2) he) (fun A E s s₁ Kp Fp vs as hR u r => by
    cases r with
    | cons r1 r2 => cases r2 with
      | cons r2 r3 =>
        cases r3
        obtain ⟨t, rfl, _⟩ := r1.int_inv
        obtain ⟨u, rfl, _⟩ := r2.int_inv
        refine max_two_ints hR.hh fun h' tk hk => ⟨.of hk, [], ?_, trivial⟩
        by_cases hc : b > a
        · rw [if_pos hc, Int.max_eq_right (by lia)]; exact .int _ _
        · rw [if_neg hc, Int.max_eq_left (by lia)]; exact .int _ _) (by decide) he (fun env pos => by rw [he2]; rfl)
/-- x.index(e) -/
theorem x_index {e : Expr} {x : Str} {px ap : Pos} {k : Nat} {o : Bool} {ns : List Int} {c : Int} {md : Md} (hk : names[k]? = some x) (hm : m[k]? = some (some (zl ns, o))) (he : EvOK C sc names n m e (.int c) md) (hc : c ∈ ns) (hsz : ns.length ≤ 1000)
    (hline : (ap.endLine == pos.line) = true := by rfl) (hs : ∀ env, starEach [e] env = [(false, eval e env)] := by intro _; rfl) (hd : (x == ("__debug__" : Str)) = false := by decide) (hcl : (x == ("__classdict__" : Str)) = false := by decide) :
    EvOK C sc names n m (.Call (.Attribute (.Name x px) (Str.ofString "index") ap) [e] [] pos) (.int (ns.idxOf c : Nat)) .any := by
  intro A E s env Kp V Fp hR hE S
  obtain ⟨l, vs, q, hv, hl, hi, hlen, _⟩ := (S.reads k _ hm).ints_inv
  refine Call_method1 rfl (hs env) hline (ld_slot hE S hk hm (hv ▸ list_method PySem.F.slot_list_index PySem.F.type_list_index hl (PySem.P.index_list (wpAny_mono (he A E s env Kp V Fp hR hE S) (fun v s₁ h₁ => ?_) fun _ _ h => h))) hd hcl)
  obtain ⟨x1, bs, rv, _⟩ := h₁
  obtain ⟨t, rfl, _⟩ := rv.int_inv
  have hj : ns.idxOf c < ns.length := List.idxOf_lt_length_iff.mpr hc
  refine ⟨vs, q, isInt c, ns.idxOf c, by lia, x1.up _ _ hl, fun y hy => eq_isInt c t hi y (by simpa using hy), by lia, ?_, fun j hjs hlt => ?_, x1.trans (.tok _ _), [], .int _ _, trivial⟩
  · have := isInt_at c hi (ns.idxOf c) (by simpa using hlen.symm ▸ hj) hj
    simp only [Array.getElem_toList] at this
    rw [this]
    simpa using List.getElem_idxOf hj
  · have := isInt_at c hi j (by simpa using hjs) (by lia)
    simp only [Array.getElem_toList] at this
    rw [this]
    exact ne_of_lt_idxOf hlt _
theorem pick_run {α : Type} (xs : List α) (a : Nat) : ∀ k, ((List.range k).map (a + ·)).filterMap (xs[·]?) = (xs.drop a).take k
  | 0 => by simp
  | k + 1 => by
    rw [List.range_succ, List.map_append, List.filterMap_append, pick_run xs a k, List.take_add_one, List.getElem?_drop]
    congr 1
theorem spick_from {α : Type} (xs : List α) {a : Int} (h0 : 0 ≤ a) (h1 : a ≤ xs.length) : spick xs (some a) none none = xs.drop a.toNat := by
  unfold spick sliceBounds
  have e : max (0 : Int) (min a xs.length) = (a.toNat : Int) := by lia
  simp only [Option.getD_none, show (1 : Int) > 0 by decide, if_true, show ¬ a < 0 by lia, if_false, e]
  rw [sliceRange_one, pick_run, List.take_of_length_le (by rw [List.length_drop]; lia)]
theorem spick_upto {α : Type} (xs : List α) {b : Int} (h0 : 0 ≤ b) : spick xs none (some b) none = xs.take b.toNat := by
  unfold spick sliceBounds
  have e : max (0 : Int) (min b xs.length) = ((min b.toNat xs.length : Nat) : Int) := by lia
  simp only [Option.getD_none, show (1 : Int) > 0 by decide, if_true, show ¬ b < 0 by lia, if_false, e]
  rw [show (0 : Int) = ((0 : Nat) : Int) from rfl, sliceRange_one, pick_run, List.drop_zero]
  rcases Nat.le_total b.toNat xs.length with h | h
  · rw [Nat.min_eq_left h]; rfl
  · rw [Nat.min_eq_right h, List.take_of_length_le (by lia), List.take_of_length_le h]
theorem spick_last {α : Type} (xs : List α) : spick xs none (some (-1)) none = xs.dropLast := by
  unfold spick sliceBounds
  have e : max (0 : Int) (min (-1 + xs.length) xs.length) = ((xs.length - 1 : Nat) : Int) := by lia
  simp only [Option.getD_none, show (1 : Int) > 0 by decide, if_true, show (-1 : Int) < 0 by decide, e]
  rw [show (0 : Int) = ((0 : Nat) : Int) from rfl, sliceRange_one, pick_run, List.drop_zero, List.dropLast_eq_take]; rfl
theorem zl_pick {xs : List Int} {a b c : Option Int} : spick (xs.map PyData.int) a b c = (spick xs a b c).map PyData.int := by
  unfold spick
  rw [List.length_map, List.map_filterMap]
  congr 1
  funext i
  rw [List.getElem?_map]
theorem zl_atoms {xs : List Int} : (xs.map PyData.int).all Mine.atom = true := by simp [Mine.atom]
theorem x_slice {o : Expr} {lo hi st : Option Expr} {p pos : Pos} {xs : List Int} {a b c : Option Int} {ml : Md} (ho : EvOK C sc names n m o (zl xs) ml)
    (hlo : PartOK C sc names n m lo a) (hhi : PartOK C sc names n m hi b) (hst : PartOK C sc names n m st c) (h0 : c ≠ some 0) (hsz : xs.length ≤ 1000)
    (hs : ∀ o v, ∃ ops, subscripted (.Slice lo hi st p) false o v = operate ops (getItem o v) := by exact fun _ _ => ⟨_, rfl⟩) : EvOK C sc names n m (.Subscript o (.Slice lo hi st p) pos) (zl (spick xs a b c)) .fresh :=
  (ev_slice ho hlo hhi hst h0 (by simpa using hsz) zl_atoms hs).as (by rw [zl_pick])
end
end Mine
end

/-! text MS0 -/
section
open PySem PySem.Spec PySem.Calls PyProof.Rows PySem.W
set_option linter.unusedVariables false
set_option maxRecDepth 100000
namespace Mine
abbrev IP := Int × Int
def ltP (p q : IP) : Bool := if p.1 == q.1 then (if p.2 == q.2 then false else decide (p.2 < q.2)) else decide (p.1 < q.1)
abbrev dP (p : IP) : PyData := .tuple [.int p.1, .int p.2]
def runK {α : Type} (lt : Nat → Nat → Bool) : KasT α → α
  | .ret a => a
  | .ask i j k => runK lt (k (lt i j))
def ordP (l : List IP) : Array Nat := runK (fun i j => ltP (l.getD i (0, 0)) (l.getD j (0, 0))) (kas_sort l.length)
def sortP (l : List IP) : List IP := (ordP l).toList.map fun i => l.getD i (0, 0)
def goodK (n : Nat) : KasT (Array Nat) → Bool
  | .ret p => p.size == n && p.toList.all fun i => decide (i < n)
  | .ask i j k => decide (i < n) && decide (j < n) && goodK n (k true) && goodK n (k false)
theorem goodK_run {n : Nat} {lt : Nat → Nat → Bool} : ∀ t : KasT (Array Nat), goodK n t = true → (runK lt t).size = n ∧ ∀ i ∈ (runK lt t).toList, i < n
  | .ret p, h => by
    simp only [goodK, Bool.and_eq_true, beq_iff_eq, List.all_eq_true, decide_eq_true_eq] at h
    exact h
  | .ask i j k, h => by
    simp only [goodK, Bool.and_eq_true, decide_eq_true_eq] at h
    unfold runK
    cases lt i j
    · exact goodK_run (k false) h.2
    · exact goodK_run (k true) h.1.2
theorem goodK_wp {n : Nat} {cmp : Nat → Nat → (Bool → Shared → Prop) → Shared → Prop} {lt : Nat → Nat → Bool} {s : Shared} (hc : ∀ i j (C : Bool → Shared → Prop), i < n → j < n → C (lt i j) s → cmp i j C s) {Q : Array Nat → Shared → Prop} : ∀ t : KasT (Array Nat), goodK n t = true → Q (runK lt t) s → t.kasWp cmp Q s
  | .ret a, _, h => h
  | .ask i j k, g, h => by
    simp only [goodK, Bool.and_eq_true, decide_eq_true_eq] at g
    refine hc i j _ g.1.1.1 g.1.1.2 ?_
    refine goodK_wp hc (k (lt i j)) ?_ h
    cases lt i j
    · exact g.2
    · exact g.1.2
theorem good5 : goodK 5 (kas_sort 5) = true := by decide +kernel
theorem ordP_ok {l : List IP} (h : goodK l.length (kas_sort l.length) = true) : (ordP l).size = l.length ∧ ∀ i ∈ (ordP l).toList, i < l.length := goodK_run _ h
section
variable {prog : Program} {w : World} {A : Around} {E : Value → Shared → Prop} {s : Shared}
theorem pair_inv {h : Heap} {v : Value} {p : IP} {as : List Addr} (r : Rd h v (dP p) as) : ∃ a o n t u, v = .ref a ∧ h.get? a = some o ∧ o.cls = .type "tuple" ∧ o.data = .seq #[.int p.1 t, .int p.2 u] n := by
  generalize hd : dP p = d at r
  cases r with
  | tuple h1 h2 h3 h4 =>
    injection hd with hd
    subst hd
    rename_i a o vs n as
    generalize hv : vs.toList = l at h4
    cases h4 with
    | cons r1 r2 =>
      cases r2 with
      | cons r2 r3 =>
        cases r3
        obtain ⟨t, rfl, _⟩ := r1.int_inv
        obtain ⟨u, rfl, _⟩ := r2.int_inv
        refine ⟨_, _, n, t, u, rfl, h1, h2, ?_⟩
        rw [h3, show vs = #[.int p.1 t, .int p.2 u] from Array.toList_inj.mp (by rw [hv])]
  | _ => cases hd
theorem lt_pair {v1 v2 : Value} {p q : IP} {as bs : List Addr} {Q : Bool → Shared → Prop} (r1 : Rd s.heap v1 (dP p) as) (r2 : Rd s.heap v2 (dP q) bs) (h : Q (ltP p q) s) : wpAny (model prog w) A (keyLt' (tuples' true) v1 v2) Q E s := by
  obtain ⟨a, o, n, t, u, rfl, e1, _, e2⟩ := pair_inv r1
  obtain ⟨a', o', n', t', u', rfl, f1, _, f2⟩ := pair_inv r2
  refine kat_lt e1 e2 f1 f2 ?_
  show KatLex prog w A true false Q [(.int p.1 t, .int q.1 t'), (.int p.2 u, .int q.2 u')] 0 s
  refine kat_cons (wpAny_eqBool_int (kat_go (fun h1 => kat_yes ?_) (fun h1 => kat_no ?_)))
  · refine kat_cons (wpAny_eqBool_int (kat_go (fun h2 => kat_yes (kat_nil ?_)) (fun h2 => kat_no ?_)))
    · rw [show ltP p q = false by unfold ltP; rw [h1, h2]; rfl] at h
      exact h
    · rw [show ltP p q = decide (p.2 < q.2) by unfold ltP; rw [h1, h2]; rfl] at h
      show wpAny (model prog w) A (oneLt' false (.int p.2 u) (.int q.2 u')) Q (fun _ _ => False) s
      exact kat_one _ _ (PyProof.Rows.lt_int h)
  · rw [show ltP p q = decide (p.1 < q.1) by unfold ltP; rw [h1]; rfl] at h
    exact oneLt_int h
theorem pairs_tups {h : Heap} : ∀ {vs : List Value} {l : List IP} {as : List Addr}, RdL h vs (l.map dP) as → ∃ fs, fs.length = l.length ∧ KatTups h vs fs ∧ ∀ v ∈ fs, ∃ i t, v = .int i t
  | _, [], _, r => by cases r; exact ⟨[], rfl, KatTups.nil, fun v hv => by cases hv⟩
  | _, p :: l, _, r => by
    cases r with
    | cons r1 r2 =>
      obtain ⟨a, o, n, t, u, rfl, e1, e2, e3⟩ := pair_inv r1
      obtain ⟨fs, h1, h2, h3⟩ := pairs_tups r2
      refine ⟨.int p.1 t :: fs, by simp [h1], KatTups.cons e1 e2 e3 rfl h2, fun v hv => ?_⟩
      rcases List.mem_cons.mp hv with rfl | hv
      · exact ⟨_, _, rfl⟩
      · exact h3 v hv
theorem RdL.getDp {h : Heap} {vs : List Value} {l : List IP} {as : List Addr} (r : RdL h vs (l.map dP) as) {i : Nat} (hi : i < l.length) : ∃ bs, Rd h (vs.getD i .none) (dP (l.getD i (0, 0))) bs := by
  obtain ⟨v, bs, h1, h2, _⟩ := r.get (i := i) (d := dP (l.getD i (0, 0))) (by simp [hi])
  refine ⟨bs, ?_⟩
  rw [show vs.getD i .none = v by rw [List.getD_eq_getElem?_getD, h1]; rfl]
  exact h2
theorem RdL.ofMap {h : Heap} {vs : List Value} {l : List IP} {as : List Addr} (r : RdL h vs (l.map dP) as) : ∀ (p : List Nat), (∀ i ∈ p, i < l.length) → ∃ bs, RdL h (p.map fun i => vs.getD i .none) ((p.map fun i => l.getD i (0, 0)).map dP) bs
  | [], _ => ⟨[], .nil⟩
  | i :: p, hp => by
    obtain ⟨bs, h1⟩ := r.getDp (hp i (List.mem_cons_self ..))
    obtain ⟨cs, h2⟩ := RdL.ofMap r p fun j hj => hp j (List.mem_cons_of_mem _ hj)
    exact ⟨_, .cons h1 h2⟩
theorem up_update {h h' : Heap} {a : Addr} {f : Obj → Obj} (u : Up h h') (ha : h.objs.size ≤ a) : Up h (h'.update a f) := fun b o e => by
  have := Heap.lt_size e
  rw [Heap.get?_update_ne _ _ _ _ (Nat.ne_of_lt (Nat.lt_of_lt_of_le this ha))]
  exact u b o e
theorem up_sorted (h : Heap) (vs : List Value) (out : Array Value) : Up h (sortedAll h vs out) := by
  unfold sortedAll sortedHeap
  refine up_update (.trans (.trans (up_update (.trans (up_update (.push _ _) (Nat.le_refl _)) (.push _ _)) (Nat.le_succ _)) (.push _ _)) (.push _ _)) (Nat.le_succ _)
theorem sort_pairs {a : Addr} {vs : List Value} {l : List IP} {n : Nat} {as : List Addr} {P : PySem.Fin → Shared → Prop} (ho : s.heap.get? a = some (seqObj "list" vs.toArray n)) (r : RdL s.heap vs (l.map dP) as) (haS : ∀ b ∈ as, b ≠ a) (h2 : 2 ≤ vs.length) (h64 : vs.length < 64)
    (hg : goodK l.length (kas_sort l.length) = true)
    (h : P (.done (.ret .none)) { s with heap := sortedHeap s.heap a vs (List.toArray ((ordP l).toList.map fun i => vs.getD i .none)) }) :
    wpAny (model prog w) A (Builtin.«list.sort» ⟨[.ref a], []⟩) P E s := by
  rw [list_sort_plain]
  have ha : a < s.heap.objs.size := Heap.lt_size ho
  have hl : vs.length = l.length := by simpa using r.length
  refine wpAny_bind (listItems_at ho rfl ?_)
  refine wpAny_bind (listUpdate_at ho rfl ?_ (by rw [List.size_toArray, sizeLine_eq]; lia) (Nat.zero_le _))
  obtain ⟨e1, ho1⟩ : ∃ e1, (s.heap.update a (Obj.mapSeq fun _ => #[])).get? a = some (seqObj "list" #[] e1) := ⟨_, get?_update_seq ho (fun _ => #[])⟩
  refine wpAny_bind (seqEpoch_at ho1 rfl ?_)
  refine wpAny_bind (wpAny_newTuple ?_ (by show vs.length ≤ _; rw [sizeLine_eq]; lia))
  refine wpAny_bind (wpAny_newList ?_ (Nat.zero_le _))
  refine wpAny_holding ?_
  have ho6 : (((s.heap.update a (Obj.mapSeq fun _ => #[])).push (seqObj "tuple" vs.toArray 0)).push (seqObj "list" #[] 0)).get? a = some (seqObj "list" #[] e1) :=
    Heap.get?_push_of_some _ (Heap.get?_push_of_some _ ho1)
  have r6 : RdL (((s.heap.update a (Obj.mapSeq fun _ => #[])).push (seqObj "tuple" vs.toArray 0)).push (seqObj "list" #[] 0)) vs (l.map dP) as := r.but fun b hb o e =>
    Heap.get?_push_of_some _ (Heap.get?_push_of_some _ (by rw [Heap.get?_update_ne _ _ _ _ (haS b hb)]; exact e))
  show wpAny (model prog w) A _ P E { s with heap := ((s.heap.update a (Obj.mapSeq fun _ => #[])).push (seqObj "tuple" vs.toArray 0)).push (seqObj "list" #[] 0) }
  dsimp only
  have hn2 : ¬ vs.toArray.size < 2 := by rw [List.size_toArray]; lia
  rw [if_neg hn2, if_neg hn2]
  obtain ⟨fs, f1, f2, f3⟩ := pairs_tups r6
  refine wpAny_bind (kat_kind (T := .type "int") f2 (by lia) (fun v hv => ?_) (by decide) ?_)
  · obtain ⟨i, t, rfl⟩ := f3 v hv
    exact Looks.of_pure rfl
  rw [show (Value.type "int" != Value.type "tuple") = true by decide]
  refine wpAny_bind (wpAny_mono (kat_run (Q := fun st' s' => s' = { s with heap := ((s.heap.update a (Obj.mapSeq fun _ => #[])).push (seqObj "tuple" vs.toArray 0)).push (seqObj "list" #[] 0) } ∧ (arrOf st').map (·.2) = List.toArray ((ordP l).toList.map fun i => vs.getD i .none) ∧ failedOf st' = none)
    (G := fun p s' => p = ordP l ∧ s' = { s with heap := ((s.heap.update a (Obj.mapSeq fun _ => #[])).push (seqObj "tuple" vs.toArray 0)).push (seqObj "list" #[] 0) }) rfl h2 h64 (fun p st' s' a1 a2 a3 a4 => ?_) ?_) ?_ fun _ _ x => x)
  · obtain ⟨rfl, rfl⟩ := a4
    exact ⟨rfl, kat_snds rfl a2, a3⟩
  · rw [hl]
    refine goodK_wp (lt := fun i j => ltP (l.getD i (0, 0)) (l.getD j (0, 0))) (fun i j C hi hj hC => ?_) _ hg ⟨rfl, rfl⟩
    obtain ⟨b1, q1⟩ := r6.getDp hi
    obtain ⟨b2, q2⟩ := r6.getDp hj
    exact lt_pair q1 q2 hC
  · rintro ⟨⟨⟩, st'⟩ s' ⟨rfl, hs, hf⟩
    dsimp only
    refine wpAny_bind (seqEpoch_at ho6 rfl ?_)
    rw [hs]
    refine wpAny_bind (listUpdate_at ho6 rfl ?_ (Nat.zero_le _) (by show (List.toArray ((ordP l).toList.map fun i => vs.getD i .none)).size ≤ _; rw [List.size_toArray, List.length_map, Array.length_toList, (ordP_ok hg).1, sizeLine_eq]; lia))
    rw [hf]
    simp only [bne_self_eq_false, Bool.false_eq_true, if_false]
    exact wpAny_pure h
theorem call_sorted {A : Around} {vs : List Value} {n : Nat} {a : Addr} {l : List IP} {as : List Addr} {Q : Value → Shared → Prop} (ho : s.heap.get? a = some (lst vs.toArray n)) (r : RdL s.heap vs (l.map dP) as) (h2 : 2 ≤ vs.length) (h64 : vs.length < 64) (hg : goodK l.length (kas_sort l.length) = true)
    (h : ∀ b s' bs, Ext s s' → Rd s'.heap (.ref b) (.list ((sortP l).map dP)) bs → Q (.ref b) s') : wpAny (model prog w) A (call (.builtin "sorted") [.ref a]) Q E s := by
  refine Calls.call_function_entry kind_sorted plain_sorted entry_sorted (args_sorted1 _) ?_
  unfold Builtin.«sorted»
  refine wpAny_bind (m := checkCount "sorted" 1 1 _) (wpAny_pure ?_)
  refine wpAny_bind (collect_list (isList_lst ho) ?_ (by rw [sizeLine_eq]; lia))
  refine wpAny_bind (wpAny_newList ?_ (by rw [sizeLine_eq]; lia))
  have hsz : ((s.heap.push (seqObj "list" #[] 0)).update s.heap.objs.size (Obj.mapSeq (· ++ vs.toArray))).objs.size = s.heap.objs.size + 1 := by
    rw [Heap.size_update, size_push']
  have hoL : (((s.heap.push (seqObj "list" #[] 0)).update s.heap.objs.size (Obj.mapSeq (· ++ vs.toArray))).push (seqObj "list" vs.toArray 0)).get? (s.heap.objs.size + 1) = some (seqObj "list" vs.toArray 0) := by
    rw [← hsz]; exact Heap.get?_push_size _ rfl
  have u : Up s.heap (((s.heap.push (seqObj "list" #[] 0)).update s.heap.objs.size (Obj.mapSeq (· ++ vs.toArray))).push (seqObj "list" vs.toArray 0)) := .trans (up_update (.push _ _) (Nat.le_refl _)) (.push _ _)
  show wpAny _ _ _ _ _ { s with heap := ((s.heap.push (seqObj "list" #[] 0)).update s.heap.objs.size (Obj.mapSeq (· ++ vs.toArray))).push (seqObj "list" vs.toArray 0) }
  rw [hsz]
  have hlive : ∀ b ∈ as, b < s.heap.objs.size := fun b hb => by
    obtain ⟨o, xs, k, e, _⟩ := r.live b hb
    exact Heap.lt_size e
  refine wpAny_bind (wpAny_holding (wpAny_call_entry slot_list_sort ⟨_, hoL, rfl⟩ entry_list_sort (sort_pairs hoL (r.up u) (fun b hb e => by have := hlive b hb; rw [e] at this; exact absurd this (Nat.not_lt.mpr (Nat.le_succ _))) h2 h64 hg ⟨_, rfl, ?_⟩) (args_list_sort _)))
  have hs : Up s.heap (sortedAll s.heap vs (List.toArray ((ordP l).toList.map fun i => vs.getD i .none))) := up_sorted _ _ _
  obtain ⟨bs, hbs⟩ := r.ofMap (ordP l).toList (ordP_ok hg).2
  have hget : ∃ k, (sortedAll s.heap vs (List.toArray ((ordP l).toList.map fun i => vs.getD i .none))).get? (s.heap.objs.size + 1) = some (seqObj "list" (List.toArray ((ordP l).toList.map fun i => vs.getD i .none)) k) := by
    unfold sortedAll sortedHeap
    exact ⟨_, get?_update_seq (Heap.get?_push_of_some _ (Heap.get?_push_of_some _ (get?_update_seq hoL fun _ => #[]))) _⟩
  obtain ⟨k, hk⟩ := hget
  have e := h (s.heap.objs.size + 1) { s with heap := sortedAll s.heap vs (List.toArray ((ordP l).toList.map fun i => vs.getD i .none)) } _ (.heap hs) (.list hk (RdL.up hs hbs))
  exact wpAny_pure ⟨_, rfl, e⟩
end
section
variable {C : Cx} {sc : Scope} {names : List Str} {n : Nat} {m : MM}
theorem ev_sorted {x : Str} {p pos : Pos} {e₁ : Expr} {l : List IP} {ma : Md} (G : C.Good) (g : GlobIs C x (.builtin "sorted")) (hx : sc.names.lookup x = some .globalImplicit)
    (h : EvOK C sc names n m e₁ (.list (l.map dP)) ma) (h5 : l.length = 5) (hd : (x == ("__debug__" : Str)) = false := by decide) (he : ∀ env, starEach [e₁] env = [(false, eval e₁ env)] := by intro _; rfl) :
    EvOK C sc names n m (.Call (.Name x p) [e₁] [] pos) (.list ((sortP l).map dP)) .any :=
  ev_callB G g (.bi _) hx (evs_cons h.any evs_nil he) (fun A E s s₁ Kp Fp vs as hR u r => by
    cases r with
    | cons r1 r2 =>
      cases r2
      obtain ⟨a, ws, k, bs, rfl, ha, q, _⟩ := r1.list_inv
      have hl : ws.toList.length = l.length := by simpa using q.length
      refine call_sorted (vs := ws.toList) (by rw [Array.toArray_toList]; exact ha) q (by lia) (by lia) (by rw [h5]; exact good5) fun b s' cs hx hr => ⟨hx, ⟨cs, hr, trivial⟩⟩) hd he (fun _ _ => rfl)
end
end Mine
end

/-! text MS0b -/
section
open PySem PySem.Spec PySem.Calls PyProof.Rows
namespace Mine
theorem lay_zl : ∀ xs : List Int, PyData.canLayAll0 (xs.map PyData.int) = true
  | [] => rfl
  | a :: l => by
    show (PyData.canLay0 (.int a) && PyData.canLayAll0 (l.map PyData.int)) = true
    rw [lay_zl l]; rfl
theorem lay_dp : ∀ xs : List IP, PyData.canLayAll0 (xs.map dP) = true
  | [] => rfl
  | a :: l => by
    show (PyData.canLay0 (dP a) && PyData.canLayAll0 (l.map dP)) = true
    rw [lay_dp l]; rfl
theorem dep_zl : ∀ xs : List Int, PyData.depthAll (xs.map PyData.int) = 0
  | [] => rfl
  | a :: l => by
    show max (PyData.depth (.int a)) (PyData.depthAll (l.map PyData.int)) = 0
    rw [dep_zl l]; rfl
theorem dep_dp : ∀ xs : List IP, PyData.depthAll (xs.map dP) ≤ 1
  | [] => by decide
  | a :: l => by
    show max (PyData.depth (dP a)) (PyData.depthAll (l.map dP)) ≤ 1
    have := dep_dp l
    rw [show PyData.depth (dP a) = 1 from rfl]; lia
theorem picked_ints {p : Nat → Bool} {f : Nat → Int} {N : Nat} : picked p (fun i => .int (f i)) N = (((List.range N).filter p).map f).map PyData.int := by
  unfold picked
  rw [List.map_map]; rfl
theorem zl_lay {xs : List Int} : (zl xs).canLay0 = true := lay_zl xs
theorem zl_dep {xs : List Int} : (zl xs).depth ≤ 100 := by
  show PyData.depthAll (xs.map PyData.int) + 1 ≤ 100
  rw [dep_zl]; decide
theorem pk_lay {p : Nat → Bool} {f : Nat → Int} {N : Nat} : (PyData.list (picked p (fun i => .int (f i)) N)).canLay0 = true := by rw [picked_ints]; exact zl_lay
theorem pk_dep {p : Nat → Bool} {f : Nat → Int} {N : Nat} : (PyData.list (picked p (fun i => .int (f i)) N)).depth ≤ 100 := by rw [picked_ints]; exact zl_dep
theorem dp_lay {xs : List IP} : (PyData.list (xs.map dP)).canLay0 = true := lay_dp xs
theorem dp_dep {xs : List IP} : (PyData.list (xs.map dP)).depth ≤ 100 := by
  show PyData.depthAll (xs.map dP) + 1 ≤ 100
  have := dep_dp xs; lia
theorem getD_mem {α : Type} {l : List α} {d : α} {i : Nat} (h : i < l.length) : l.getD i d ∈ l := by
  rw [List.getD_eq_getElem?_getD, List.getElem?_eq_getElem h]
  exact List.getElem_mem _
theorem getD_mapd {α β : Type} {l : List α} {f : α → β} {d : α} {e : β} {i : Nat} (h : i < l.length) : (l.map f).getD i e = f (l.getD i d) := by
  rw [List.getD_eq_getElem?_getD, List.getElem?_map, List.getElem?_eq_getElem h, List.getD_eq_getElem?_getD, List.getElem?_eq_getElem h]; rfl
theorem ne_self {d : PyData} (h : d.canLay0 = true) : (!PyData.eqv d d) = false := by rw [SeqAt.eqv_refl d h]; rfl
end Mine
end

/-! text MR12 -/
section
open PySem PySem.Spec PySem.Calls PyProof.Rows
set_option linter.unusedVariables false
set_option maxRecDepth 100000
namespace Mine
section
variable {C : Cx} {n : Nat}
/-! _law_steps -/
def mateOf (h : Nat) : Nat := h + 1 - 2 * (h % 2)
def stepIn (nodes : List Int) (turn : Nat) (steps : List Int) (h : Nat) : List Int :=
  if (steps.getD (nodes.getD h 0).toNat 0 == (turn : Int) && decide (steps.getD (nodes.getD (mateOf h) 0).toNat 0 < 0)) = true then steps.set (nodes.getD (mateOf h) 0).toNat (turn + 1) else steps
def stepTurn (nodes : List Int) (steps : List Int) (turn : Nat) : List Int := (List.range nodes.length).foldl (stepIn nodes turn) steps
def stepsOf (nodes : List Int) (pole : Nat) : List Int := (List.range pole).foldl (stepTurn nodes) (List.replicate pole (-1) ++ [0])

theorem stepIn_len {nodes steps : List Int} {turn h : Nat} : (stepIn nodes turn steps h).length = steps.length := by
  unfold stepIn; split <;> simp
theorem stepTurn_len {nodes : List Int} {turn : Nat} (steps : List Int) (k : Nat) : ((List.range k).foldl (stepIn nodes turn) steps).length = steps.length := by
  induction k with
  | zero => rfl
  | succ k ih => rw [foldl_range_succ, stepIn_len, ih]
theorem steps_len {nodes : List Int} {pole : Nat} (k : Nat) : ((List.range k).foldl (stepTurn nodes) (List.replicate pole (-1) ++ [0])).length = pole + 1 := by
  induction k with
  | zero => simp
  | succ k ih => rw [foldl_range_succ]; show ((List.range nodes.length).foldl (stepIn nodes k) _).length = _; rw [stepTurn_len, ih]

theorem steps_body (H : Gl C) {nodes : List Int} {pole : Nat} (hp : pole ≤ 900) (hl : nodes.length ≤ 900) (he : nodes.length % 2 = 0) (hb : ∀ i, i < nodes.length → 0 ≤ nodes.getD i 0 ∧ nodes.getD i 0 ≤ pole) :
    RsOK C S12.1 (S12.1.names.map (·.1)) n (some (zl nodes, false) :: some (.int pole, false) :: List.replicate 7 none) B12.1 (zl (stepsOf nodes pole)) := by
  have hn : (S12.1.names.map (·.1)).Nodup := by decide +kernel
  refine rs_cons (sx_own (k := 2) (d := zl (List.replicate pole (-1) ++ [0])) ?_ rfl hn (.inl rfl)) ?_
  · rw [show zl (List.replicate pole (-1) ++ [0]) = .list (List.replicate (pole : Int).toNat (.int (-1)) ++ [.int 0]) by simp [zl]]
    exact (ev_cat (ev_rep (d := .int (-1)) (ev_listF (evs_cons ((ev_neg (md := .any) x_int).atom rfl) evs_nil)) (nm_s 1 rfl rfl) (by lia) (by lia) rfl) (ev_listF (evs_cons (x_int.atom rfl) evs_nil)) (by simp; lia) (by simp [Mine.atom]) (by simp [Mine.atom]))
  refine rs_cons (sx_forE (fun i => [some (zl nodes, false), some (.int pole, false), some (zl ((List.range i).foldl (stepTurn nodes) (List.replicate pole (-1) ++ [0])), true), none, none, none, none, none, none])
    (for_range (k := 3) (K := pole) H.good H.range rfl (nm_s 1 rfl rfl) (by lia) (by lia) (by simp [Builtin.Range.rangeSize]; lia) rfl hn (.inl rfl)) ?_ (fun _ _ => trivial) rfl fun i hi => ?_) (rs_ret (nm_m 2 rfl rfl))
  · repeat first | exact Weak.nil | apply Weak.same | apply Weak.none
  have hlen := steps_len (nodes := nodes) (pole := pole) i
  refine SsOK.weak' (sx_ss (sx_forE (fun j => [some (zl nodes, false), some (.int pole, false), some (zl ((List.range j).foldl (stepIn nodes i) ((List.range i).foldl (stepTurn nodes) (List.replicate pole (-1) ++ [0]))), true), some (.int (i : Int), false), none, none, none, none, none])
    (for_enum (k := 4) (j := 5) H.good H.enumerate rfl (nm_s 0 rfl rfl) (.inl rfl) rfl rfl hn (.inl rfl) (.inl rfl)) ?_ (fun _ _ h => by cases h) rfl fun j hj => ?_)) ?_
  · repeat first | exact Weak.nil | apply Weak.same | apply Weak.none
  · have hlj := stepTurn_len (nodes := nodes) (turn := i) ((List.range i).foldl (stepTurn nodes) (List.replicate pole (-1) ++ [0])) j
    rw [hlen] at hlj
    rw [foldl_range_succ]
    generalize (List.range j).foldl (stepIn nodes i) ((List.range i).foldl (stepTurn nodes) (List.replicate pole (-1) ++ [0])) = st at *
    have e1 : (j : Int) + 1 - 2 * ((j : Int).fmod 2) = (mateOf j : Nat) := by
      rw [Int.fmod_eq_emod_of_nonneg _ (by lia)]; unfold mateOf; lia
    have hm : mateOf j < nodes.length := by unfold mateOf; lia
    obtain ⟨b1, b2⟩ := hb j hj
    obtain ⟨b3, b4⟩ := hb (mateOf j) hm
    refine ss_cons (sx_at (k := 6) (d := .int (nodes.getD (mateOf j) 0)) (x_idx (j := mateOf j) (nm_s 0 rfl rfl) (x_sub (x_add (nm_s 4 rfl rfl) x_int) (x_mul x_int (x_mod (nm_s 4 rfl rfl) x_int) (IntMulOk.of_left (by decide)))) (by lia) (by rw [e1]; exact seq_nn (by lia) (by lia)) (getD_of hm)) rfl rfl hn (.inl rfl))
      (sx_ss (sx_ifW (b := (st.getD (nodes.getD j 0).toNat 0 == (i : Int) && decide (st.getD (nodes.getD (mateOf j) 0).toNat 0 < 0)))
        (ts_and (ts_cmp (x_idx (nm_m 2 rfl rfl) (nm_s 5 rfl rfl) (by lia) (seq_nn (by lia) (by lia)) (getD_of (by lia))) (nm_s 3 rfl rfl) cmp_eq_int) fun _ => ts_cmp (x_idx (nm_m 2 rfl rfl) (nm_s 6 rfl rfl) (by lia) (seq_nn (by lia) (by lia)) (getD_of (by lia))) x_int cmp_lt)
        (fun hc => ⟨sx_ss (sx_setitem (k := 2) (x_add (nm_s 3 rfl rfl) x_int) (nm_s 6 rfl rfl) rfl rfl (by simp only [List.length_map]; lia) (by lia) (by simp only [List.length_map]; lia) rfl), ?_⟩) (fun hc => ⟨ss_nil, ?_⟩)))
    · rw [show stepIn nodes i st j = _ from if_pos hc]
      simp only [zl, List.map_set]
      repeat first | exact Weak.nil | apply Weak.same | apply Weak.none
    · rw [show stepIn nodes i st j = _ from if_neg (by rw [hc]; decide)]
      repeat first | exact Weak.nil | apply Weak.same | apply Weak.none
  · rw [foldl_range_succ]
    repeat first | exact Weak.nil | apply Weak.same | apply Weak.none
end
end Mine
end

/-! text MB0 -/
section
open PySem PySem.Spec PySem.Calls PyProof.Rows
set_option linter.unusedVariables false
set_option maxRecDepth 100000
namespace Mine

/-- the function object of bisect_right -/
noncomputable def FB : {fd : FuncData // ∀ P, (heapK P).lookup 30 = some ⟨.type "function", none, .func fd, #[]⟩} := ⟨_, fun P => by conv => lhs; whnf⟩
noncomputable def BB : {b : List Stmt // FB.1.body = .stmts b} := ⟨_, by conv => lhs; whnf⟩
noncomputable def SB : {b : Scope // FB.1.scope = b} := ⟨_, by conv => lhs; whnf⟩

section
variable {C : Cx} {n : Nat}
/-! bisect_right -/
def bisStep (a : List Int) (x : Int) (s : Nat × Nat) : Nat × Nat :=
  if decide (x < a.getD ((s.1 + s.2) / 2) 0) = true then (s.1, (s.1 + s.2) / 2) else ((s.1 + s.2) / 2 + 1, s.2)
def bisAt (a : List Int) (x : Int) (s : Nat × Nat) : Nat → Nat × Nat
  | 0 => s
  | k + 1 => bisStep a x (bisAt a x s k)
theorem bisAt_shift (a : List Int) (x : Int) (s : Nat × Nat) : ∀ k, bisAt a x (bisStep a x s) k = bisAt a x s (k + 1)
  | 0 => rfl
  | k + 1 => by
    show bisStep a x (bisAt a x (bisStep a x s) k) = bisStep a x (bisAt a x s (k + 1))
    rw [bisAt_shift a x s k]
theorem bis_ends (a : List Int) (x : Int) : ∀ d (s : Nat × Nat), s.2 - s.1 ≤ d → ∃ N, (∀ i, i < N → (bisAt a x s i).1 < (bisAt a x s i).2) ∧ ¬ (bisAt a x s N).1 < (bisAt a x s N).2
  | 0, s, h => ⟨0, fun i hi => by lia, by show ¬ s.1 < s.2; lia⟩
  | d + 1, s, h => by
    by_cases hlt : s.1 < s.2
    · have h2 : (bisStep a x s).2 - (bisStep a x s).1 ≤ d := by
        unfold bisStep
        split <;> dsimp only <;> lia
      obtain ⟨N, h3, h4⟩ := bis_ends a x d _ h2
      refine ⟨N + 1, fun i hi => ?_, by rw [← bisAt_shift]; exact h4⟩
      cases i with
      | zero => exact hlt
      | succ i => rw [← bisAt_shift]; exact h3 i (by lia)
    · exact ⟨0, fun i hi => by lia, hlt⟩
/-- what the bounds say -/
structure BisOk (a : List Int) (x : Int) (s : Nat × Nat) : Prop where
  le : s.1 ≤ s.2
  hi : s.2 ≤ a.length
  low : ∀ i, i < s.1 → a.getD i 0 ≤ x
  up : ∀ i, s.2 ≤ i → i < a.length → x < a.getD i 0
theorem BisOk.step {a : List Int} {x : Int} {s : Nat × Nat} (hs : ∀ i j, i ≤ j → j < a.length → a.getD i 0 ≤ a.getD j 0) (h : BisOk a x s) (hlt : s.1 < s.2) : BisOk a x (bisStep a x s) := by
  obtain ⟨le, hi, low, up⟩ := h
  unfold bisStep
  split
  · rename_i hx
    rw [decide_eq_true_eq] at hx
    exact ⟨by dsimp only; lia, by dsimp only; lia, low, fun i h1 h2 => by have := hs _ _ h1 h2; dsimp only at *; lia⟩
  · rename_i hx
    rw [decide_eq_true_eq] at hx
    exact ⟨by dsimp only; lia, hi, fun i h1 => by have := hs i ((s.1 + s.2) / 2) (by dsimp only at h1; lia) (by lia); lia, up⟩
theorem bisAt_ok {a : List Int} {x : Int} {s : Nat × Nat} (hs : ∀ i j, i ≤ j → j < a.length → a.getD i 0 ≤ a.getD j 0) (h : BisOk a x s) {N : Nat} (hN : ∀ i, i < N → (bisAt a x s i).1 < (bisAt a x s i).2) : ∀ i, i ≤ N → BisOk a x (bisAt a x s i)
  | 0, _ => h
  | i + 1, hi => (bisAt_ok hs h hN i (by lia)).step hs (hN i (by lia))
theorem count_of {a : List Int} {x : Int} : ∀ (a : List Int) (r : Nat), r ≤ a.length → (∀ i, i < r → a.getD i 0 ≤ x) → (∀ i, r ≤ i → i < a.length → x < a.getD i 0) → a.countP (fun y => decide (y ≤ x)) = r
  | [], r, h, _, _ => by simp at h; simp [h]
  | y :: a, 0, h, h1, h2 => by
    have ih := count_of (a := a) (x := x) a 0 (by lia) (fun i hi => by lia) (fun i _ hi => by have := h2 (i + 1) (by lia) (by simp; lia); simpa using this)
    rw [List.countP_cons, ih]
    have := h2 0 (by lia) (by simp)
    simp at this ⊢; lia
  | y :: a, r + 1, h, h1, h2 => by
    have ih := count_of (a := a) (x := x) a r (by simpa using h) (fun i hi => by have := h1 (i + 1) (by lia); simpa using this) (fun i hr hi => by have := h2 (i + 1) (by lia) (by simp; lia); simpa using this)
    rw [List.countP_cons, ih]
    have := h1 0 (by lia)
    simp at this ⊢; lia

theorem bis_body (H : Gl C) {a : List Int} {x : Int} (hl : a.length ≤ 900) (hs : ∀ i j, i ≤ j → j < a.length → a.getD i 0 ≤ a.getD j 0) :
    RsOK C SB.1 (SB.1.names.map (·.1)) n (some (zl a, false) :: some (.int x, false) :: some (.int 0, false) :: some (.none, false) :: some (.none, false) :: List.replicate 3 none) BB.1 (.int (a.countP (fun y => decide (y ≤ x)) : Nat)) := by
  have hn : (SB.1.names.map (·.1)).Nodup := by decide +kernel
  obtain ⟨N, hN, hE⟩ := bis_ends a x a.length (0, a.length) (by simp)
  have ok := bisAt_ok hs (s := (0, a.length)) ⟨by simp, by simp, fun i hi => by simp at hi, fun i h1 h2 => by dsimp only at h1; lia⟩ hN
  have okN := ok N (Nat.le_refl _)
  refine rs_cons (sx_if (b := false) (m' := some (zl a, false) :: some (.int x, false) :: some (.int 0, false) :: some (.none, false) :: some (.none, false) :: List.replicate 3 none) (TsOK.as (ts_cmp (nm_s 2 rfl rfl) x_int cmp_lt) (by decide)) (fun e => by cases e) (fun _ => ss_nil)) ?_
  refine rs_cons (sx_if (b := true) (m' := [some (zl a, false), some (.int x, false), some (.int 0, false), some (.int a.length, false), some (.none, false), none, none, none]) (TsOK.as (ts_cmp (nm_s 3 rfl rfl) (ev_none (md := .any)) cmp_is_none) rfl) (fun e => sx_ss (sx_at (k := 3) (EvOK.as (x_len H rfl (nm_s 0 rfl rfl) (by simp; lia)) (by simp)) rfl rfl hn (.inl rfl))) (fun e => by cases e)) ?_
  refine rs_cons (sx_if (b := true) (m' := [some (zl a, false), some (.int x, false), some (.int (bisAt a x (0, a.length) N).1, false), some (.int (bisAt a x (0, a.length) N).2, false), some (.none, false), none, none, none]) (TsOK.as (ts_cmp (nm_s 4 rfl rfl) (ev_none (md := .any)) cmp_is_none) rfl) (fun e => ?_) (fun e => by cases e)) (rs_ret ((EvOK.as (nm_s 2 rfl rfl) ?_).atom rfl))
  · refine sx_ss (sx_whileE N (fun i => [some (zl a, false), some (.int x, false), some (.int (bisAt a x (0, a.length) i).1, false), some (.int (bisAt a x (0, a.length) i).2, false), some (.none, false), none, none, none]) (Weak.refl _) rfl (fun i hi => ?_) ?_ fun i hi => ?_)
    · exact TsOK.as (ts_cmp (nm_s 2 rfl rfl) (nm_s 3 rfl rfl) cmp_lt) (by have := hN i hi; simp; lia)
    · exact TsOK.as (ts_cmp (nm_s 2 rfl rfl) (nm_s 3 rfl rfl) cmp_lt) (by simp; lia)
    · have h1 := hN i hi
      have oki := ok i (by lia)
      show SsOK C _ _ n _ _ [some (zl a, false), some (.int x, false), some (.int (bisStep a x (bisAt a x (0, a.length) i)).1, false), some (.int (bisStep a x (bisAt a x (0, a.length) i)).2, false), some (.none, false), none, none, none]
      generalize bisAt a x (0, a.length) i = s at *
      obtain ⟨le, hi2, _, _⟩ := oki
      have e1 : ((s.1 : Int) + s.2).fdiv 2 = ((s.1 + s.2) / 2 : Nat) := by
        rw [Int.fdiv_eq_ediv_of_nonneg _ (by decide)]; lia
      have hmid : (s.1 + s.2) / 2 < a.length := by lia
      refine ss_cons (sx_at (k := 5) (d := .int ((s.1 + s.2) / 2 : Nat)) (EvOK.as (x_div (x_add (nm_s 2 rfl rfl) (nm_s 3 rfl rfl)) x_int) (by rw [e1])) rfl rfl hn (.inl rfl)) (sx_ss (sx_if (b := decide (x < a.getD ((s.1 + s.2) / 2) 0)) (ts_cmp (nm_s 1 rfl rfl) (x_idx (j := (s.1 + s.2) / 2) (nm_s 0 rfl rfl) (nm_s 5 rfl rfl) (by lia) (seq_nn (by lia) (by lia)) (getD_of hmid)) cmp_lt) (fun hc => ?_) (fun hc => ?_)))
      · rw [show bisStep a x s = _ from if_pos hc]
        refine SsOK.weak' (sx_ss (sx_at (k := 3) (nm_s 5 rfl rfl) rfl rfl hn (.inl rfl))) ?_
        repeat first | exact Weak.nil | apply Weak.same | apply Weak.none
      · rw [show bisStep a x s = _ from if_neg (by rw [hc]; decide)]
        refine SsOK.weak' (sx_ss (sx_at (k := 2) (d := .int ((s.1 + s.2) / 2 + 1 : Nat)) (EvOK.as (x_add (nm_s 5 rfl rfl) x_int) (by simp)) rfl rfl hn (.inl rfl))) ?_
        repeat first | exact Weak.nil | apply Weak.same | apply Weak.none
  · have : (bisAt a x (0, a.length) N).1 = (bisAt a x (0, a.length) N).2 := by have := okN.le; lia
    rw [count_of (a := a) (x := x) a _ (by have := okN.hi; lia) okN.low fun i h1 h2 => okN.up i (by lia) h2]

structure Fg (C : Cx) : Prop where
  frag : ∃ P, PySem.W.Frag.In (heapK P) C.B
  bis : C.mg (Str.ofString "bisect_right") = some (.ref 30)

theorem bis_binds {P : Params} {s : Shared} (X : PySem.W.Frag.In (heapK P) s.heap) (v1 v2 : Value) : BindsTo s FB.1 ⟨[v1, v2], []⟩ ([Str.ofString "a", Str.ofString "x", Str.ofString "lo", Str.ofString "hi", Str.ofString "key"].zip [v1, v2, .int 0 200, .none, .none]) := by
  exact PySem.W.kp_binds X fun _ => rfl

theorem entry_stF {names : List Str} {fd : FuncData} {xs : List Str} {vs : List Value} {ds : List PyData} {as : List Addr} {a : Addr} {k : Nat} {s s₁ : Shared} (hB : Up C.B s.heap) (r : RdL s.heap vs ds as) (hx : xs.Nodup) (hl : xs.length = ds.length)
    (hnm : names.take xs.length = xs)
    (hks : ∀ x ∈ xs, fd.scope.names.lookup x = some .local ∨ fd.scope.names.lookup x = some .cell)
    (x : InCallC s (callEnvC fd s.heap.objs.size a).locals (bindL (callEnvC fd s.heap.objs.size a).kindOf (xs.zip vs) fun _ => none) (callEnvC fd s.heap.objs.size a).cells (bindC (callEnvC fd s.heap.objs.size a).kindOf (xs.zip vs) fun _ => none) s₁) :
    ∃ V Fp, St C.B s.heap.get? (callEnvC fd s.heap.objs.size a) names (ds.map (fun d => some (d, false)) ++ List.replicate k none) V Fp s₁.heap := by
  have ex : ∀ k : Nat, ∃ bs, ∀ d, ds[k]? = some d → Rd s.heap ((vs[k]?).getD .none) d bs := fun k => by
    cases e : ds[k]? with
    | none => exact ⟨[], fun d h => by cases h⟩
    | some d =>
      obtain ⟨v, bs, h1, h2, _⟩ := r.get e
      exact ⟨bs, fun d' h => by cases h; rw [h1]; exact h2⟩
  have dead : ∀ a, s.heap.objs.size ≤ a → s.heap.get? a = none := fun a ha => by
    cases e : s.heap.get? a with
    | none => rfl
    | some o' => exact absurd (Heap.lt_size e) (Nat.not_lt.mpr ha)
  have slot : ∀ (j : Nat) (e : Ent), (ds.map (fun d => some (d, false)) ++ List.replicate k none : MM)[j]? = some (some e) → ∃ d, ds[j]? = some d ∧ e = (d, false) := fun j e hm => by
    by_cases hj : j < ds.length
    · rw [List.getElem?_append_left (by simpa using hj), List.getElem?_map] at hm
      cases e1 : ds[j]? with
      | none => rw [e1] at hm; cases hm
      | some d => rw [e1] at hm; cases hm; exact ⟨d, rfl, rfl⟩
    · rw [List.getElem?_append_right (by simpa using hj), List.getElem?_replicate] at hm
      split at hm <;> cases hm
  refine ⟨fun k => (vs[k]?).getD .none, fun k => Classical.choose (ex k), ⟨hB, x.toInCall.keep, ⟨_, x.toInCall.ns⟩, dead _ (Nat.le_refl _), fun y hy => ?_, fun y c hy hl => ?_, fun y z c h1 h2 => name_of_addr x.apart (PySem.mem_of_lookup h1) (PySem.mem_of_lookup h2), fun j y e hy hm => ?_, fun j e hm => ?_, fun j d hm => ?_⟩⟩
  · have : ((cellsFrom (s.heap.objs.size + 1) fd.scope.names []).lookup y).isSome = true := cellsFrom_isSome _ _ _ _ (.inl (PySem.mem_of_lookup hy))
    obtain ⟨c, hc⟩ := Option.isSome_iff_exists.mp this
    exact ⟨c, _, hc, x.cell y c hc⟩
  · have := x.above y c (PySem.mem_of_lookup hl)
    exact dead c (Nat.le_of_lt this)
  · obtain ⟨d, e1, rfl⟩ := slot j e hm
    obtain ⟨v, bs, h1, h2, _⟩ := r.get e1
    have hj : j < xs.length := by rw [hl]; exact (List.getElem?_eq_some_iff.mp e1).1
    have hxj : xs[j]? = some y := by rw [← hnm, List.getElem?_take_of_lt hj]; exact hy
    rw [h1]
    rcases hks y (List.mem_of_getElem? hxj) with hk | hk
    · exact .inl ⟨hk, _, x.toInCall.ns, bindL_at xs vs _ j hx hxj h1 hk⟩
    · have : ((cellsFrom (s.heap.objs.size + 1) fd.scope.names []).lookup y).isSome = true := cellsFrom_isSome _ _ _ _ (.inl (PySem.mem_of_lookup hk))
      obtain ⟨c, hc⟩ := Option.isSome_iff_exists.mp this
      refine .inr ⟨.inl hk, c, hc, ?_⟩
      have := x.cell y c hc
      rw [bindC_at xs vs _ j hx hxj h1 hk] at this
      exact this
  · obtain ⟨d, e1, rfl⟩ := slot j e hm
    exact (Classical.choose_spec (ex j) d e1).up x.toInCall.keep
  · obtain ⟨d', _, e⟩ := slot j _ hm
    cases e

theorem bis_fn (H : Gl C) (F : Fg C) {a : List Int} {x : Int} (hl : a.length ≤ 900) (hs : ∀ i j, i ≤ j → j < a.length → a.getD i 0 ≤ a.getD j 0) : FnOK C (n + 1) (Str.ofString "bisect_right") [zl a, .int x] (.int (a.countP (fun y => decide (y ≤ x)) : Nat)) := by
  obtain ⟨P, X⟩ := F.frag
  refine ⟨30, FB.1, F.bis, ⟨_, X 30 _ (FB.2 P), rfl⟩, fun A E s vs as hR hB r => ?_⟩
  have X' := X.keeps hB
  obtain ⟨v1, v2, rfl⟩ := len2 r.length
  · have hroom : A.depth < recursionLimit := by have := hR.depth; have e : recursionLimit = 1000 := rfl; lia
    refine wpAny_call (codeAny_call_function (fd := FB.1) (body := BB.1) hroom (X' 30 _ (FB.2 P)) rfl rfl rfl BB.2 ⟨29, _, _, _, rfl, X' 29 _ rfl, rfl, rfl⟩ (bis_binds X' v1 v2 _ _ _ _ ?_))
    have hloc : ∀ y ∈ [Str.ofString "a", Str.ofString "x", Str.ofString "lo", Str.ofString "hi", Str.ofString "key"], FB.1.scope.names.lookup y = some .local := by decide +kernel
    refine wpAny_newFunctionEnv_cells rfl (fun p hp => .inl (hloc _ (List.of_mem_zip hp).1)) fun env he s₁ xi => ?_
    subst he
    refine ⟨(H.good.lim.keeps hB).keeps xi.toInCall.keep, codeAny_func ?_⟩
    have r5 : RdL s.heap [v1, v2, .int 0 200, .none, .none] [zl a, .int x, .int 0, .none, .none] as := by
      have := r.append (.cons (.int 0 200) (.cons .none (.cons .none .nil)) : RdL s.heap [.int 0 200, .none, .none] [.int 0, .none, .none] _)
      simpa using this
    obtain ⟨V, Fp, S⟩ := entry_stF (C := C) (names := SB.1.names.map (·.1)) (fd := FB.1) (k := 3) hB r5 (xs := [Str.ofString "a", Str.ofString "x", Str.ofString "lo", Str.ofString "hi", Str.ofString "key"]) (by decide +kernel) rfl rfl (fun y hy => .inl (hloc y hy)) xi
    have hR' : Room (A.deeper (callEnvC FB.1 s.heap.objs.size 30)) n := ⟨hR.hh, by
      have := hR.depth; show A.depth + 1 + 20 * n < 900; lia, by
      have := hR.units; show A.units + 3 + 100 * n < 9000; lia⟩
    refine wpAny_mono (bis_body H hl hs _ _ s₁ (callEnvC FB.1 s.heap.objs.size 30) _ V Fp hR' ⟨rfl, rfl, rfl, rfl⟩ S) (fun f s₂ h => ?_) fun _ _ h => h
    obtain ⟨sh, kp, v, bs, rfl, rv, q⟩ := h
    obtain ⟨h', tk, e⟩ := xi.toInCall.same
    exact ⟨⟨Sh.trans ⟨h', tk, s.gens, e, id⟩ sh, kp⟩, bs, rv, q⟩
end
end Mine
end

/-! text MV0 -/
section
open PySem PySem.Spec PySem.Calls PyProof.Rows
set_option linter.unusedVariables false
set_option maxRecDepth 100000
namespace Mine
section
variable {prog : Program} {w : World} {A : Around} {E : Value → Shared → Prop} {s : Shared}

theorem call_iter_list {l : Addr} {items : Array Value} {Q : Value → Shared → Prop} (hl : s.heap.IsList l items)
    (h : Q (.ref s.heap.objs.size) { s with heap := s.heap.push { cls := .type "list_iterator", data := .fields #[.ref l, .int 0 0] } }) :
    wpAny (model prog w) A (call (.builtin "iter") [.ref l]) Q E s := by
  refine call_function_entry (by decide +kernel) (by decide +kernel) PySem.W.kdk_entry_iter (PySem.W.kdk_args_iter _) ?_
  unfold Builtin.«iter»
  refine wpAny_bind (m := someArgs "iter" 1 2 _) (wpAny_of_eq (a := [Value.ref l]) (by first | rfl | kernel_rfl!) ?_)
  show wpAny _ _ (pyIter (.ref l) >>= _) _ _ _
  refine wpAny_bind (wpAny_pyIter_list hl ?_)
  exact wpAny_pure ⟨_, rfl, h⟩

theorem next_item {it l : Addr} {i : Nat} {items : Array Value} {x : Value} {Q : Value → Shared → Prop} (hit : s.heap.IsListIter it l i) (hl : s.heap.IsList l items) (hx : items[i]? = some x)
    (hQ : ∀ h', h'.IsListIter it l (i + 1) → Heap.SameBut it s.heap h' → Q x { s with heap := h' }) : wpAny (model prog w) A (call (.builtin "next") [.ref it]) Q E s := by
  refine call_function_entry (by decide +kernel) (by decide +kernel) PySem.W.kdk_entry_next (PySem.W.kdk_args_next _) ?_
  unfold Builtin.«next»
  refine wpAny_bind (m := someArgs "next" 1 2 _) (wpAny_of_eq (a := [Value.ref it]) (by first | rfl | kernel_rfl!) ?_)
  dsimp only
  refine wpAny_bind (wpAny_specialOf (name := Str.ofString "__next__") hit.typeIs slot_listiter_next.lookup ?_)
  refine wpAny_ite_split (fun hab => absurd hab (by decide)) (fun _ => ?_)
  obtain ⟨o, ho, hc, hd⟩ := id hit
  obtain ⟨ol, hol, _, nl, hdl⟩ := hl
  refine wpAny_bind (wpAny_callSpecial?_slot (name := Str.ofString "__next__") hit.typeIs slot_listiter_next
    (wpAny_call_entry slot_listiter_next hit.typeIs entry_listiter_next ?_ (args_listiter_next _)))
  show wpAny _ _ (field (.ref it) 0 >>= _) _ _ s
  refine wpAny_bind (wpAny_field ho hd (x := .ref l) rfl ?_)
  show wpAny _ _ (if (Value.ref l == Value.none) = true then _ else _) _ _ s
  rw [if_neg (show ¬ ((Value.ref l == Value.none) = true) from Bool.false_ne_true)]
  show wpAny _ _ (field (.ref it) 1 >>= _) _ _ s
  refine wpAny_bind (wpAny_field ho hd (x := .int i 0) rfl ?_)
  show wpAny _ _ (seqItems? (.ref l) >>= _) _ _ s
  refine wpAny_bind (wpAny_seqItems hol hdl ?_)
  simp only [Int.toNat_natCast, hx]
  refine wpAny_bind (wpAny_setField ho hd (by simp) (wpAny_pure ⟨x, rfl, wpAny_pure ⟨_, rfl, hQ _ ?_ (Heap.SameBut.update ..)⟩⟩))
  exact ⟨_, Heap.get?_update_self _ ho (Obj.isFreed_of_fields (Obj.data_mapFields hd _)), (Obj.cls_mapFields ..).trans hc, by
    rw [Obj.data_mapFields hd]; simp [rawInt]⟩

theorem next_end {it l : Addr} {i : Nat} {items : Array Value} {Q : Value → Shared → Prop} (hh : A.handled = none) (hit : s.heap.IsListIter it l i) (hl : s.heap.IsList l items) (hx : items[i]? = none)
    (hE : ∀ h₁ h' e oe, Heap.SameBut it s.heap h₁ → (∀ b o, h₁.get? b = some o → h'.get? b = some o) → h₁.get? e = none → h'.get? e = some oe → oe.cls = .type "StopIteration" → (∃ vs a0, oe.data = .fields vs ∧ vs[1]? = some .none ∧ vs[0]? = some a0) → E (.ref e) { s with heap := h' }) :
    wpAny (model prog w) A (call (.builtin "next") [.ref it]) Q E s := by
  refine call_function_entry (by decide +kernel) (by decide +kernel) PySem.W.kdk_entry_next (PySem.W.kdk_args_next _) ?_
  unfold Builtin.«next»
  refine wpAny_bind (m := someArgs "next" 1 2 _) (wpAny_of_eq (a := [Value.ref it]) (by first | rfl | kernel_rfl!) ?_)
  dsimp only
  refine wpAny_bind (wpAny_specialOf (name := Str.ofString "__next__") hit.typeIs slot_listiter_next.lookup ?_)
  refine wpAny_ite_split (fun hab => absurd hab (by decide)) (fun _ => ?_)
  obtain ⟨o, ho, hc, hd⟩ := id hit
  obtain ⟨ol, hol, _, nl, hdl⟩ := hl
  refine wpAny_bind (wpAny_callSpecial?_slot (name := Str.ofString "__next__") hit.typeIs slot_listiter_next
    (wpAny_call_entry slot_listiter_next hit.typeIs entry_listiter_next ?_ (args_listiter_next _)))
  show wpAny _ _ (field (.ref it) 0 >>= _) _ _ s
  refine wpAny_bind (wpAny_field ho hd (x := .ref l) rfl ?_)
  show wpAny _ _ (if (Value.ref l == Value.none) = true then _ else _) _ _ s
  rw [if_neg (show ¬ ((Value.ref l == Value.none) = true) from Bool.false_ne_true)]
  show wpAny _ _ (field (.ref it) 1 >>= _) _ _ s
  refine wpAny_bind (wpAny_field ho hd (x := .int i 0) rfl ?_)
  show wpAny _ _ (seqItems? (.ref l) >>= _) _ _ s
  refine wpAny_bind (wpAny_seqItems hol hdl ?_)
  simp only [Int.toNat_natCast, hx]
  refine wpAny_bind (wpAny_rule (wpAny_bind (wpAny_setField ho hd (by simp) ?_)))
  show wpAny _ _ (newExc (.type "StopIteration") [] >>= _) _ _ _
  refine wpAny_bind ?_
  simp only [newExc, newTuple]
  refine wpAny_bind (wpAny_newObj_type ?_ (by size_fits))
  refine wpAny_bind (m := firstArgMember _ _) (wpAny_of_eq (a := Value.none) (by first | rfl | (simp only [firstArgMember]; rfl)) ?_)
  refine wpAny_newObj_type ?_ (by size_fits)
  simp only [raiseNew]
  refine wpAny_bind (wpAny_handled ?_)
  rw [show A.in1.in1.handled = none from hh]
  refine wpAny_bind (wpAny_pure (wpAny_throw ?_))
  refine hE _ _ _ _ (Heap.SameBut.update ..) (fun b o e => Heap.get?_push_of_some _ (Heap.get?_push_of_some _ e)) ?_ (Heap.get?_push_size _ rfl) rfl ⟨_, _, rfl, rfl, rfl⟩
  rw [Heap.size_push]
  generalize hh2 : s.heap.update it _ = hu
  cases e : hu.get? (hu.objs.size + 1) with
  | none => rfl
  | some o => exact absurd (Heap.lt_size e) (by show ¬ (hu.objs.size + 1 < hu.objs.size); lia)
end
end Mine
end

/-! text MV1 -/
section
open PySem PySem.Spec PySem.Calls PyProof.Rows
set_option linter.unusedVariables false
set_option maxRecDepth 100000
namespace Mine

/-- the frame of _parse_varint, between two steps -/
structure VJ (C : Cx) (s₀ : Shared) (L I l : Addr) (vs : Array Value) (m : Str → Option Value) (i : Nat) (s : Shared) : Prop where
  sh : Sh s₀ s
  ns : s.heap.Ns L m
  it : s.heap.IsListIter I l i
  li : s.heap.IsList l vs
  keep : ∀ b o, b ≠ I → s₀.heap.get? b = some o → s.heap.get? b = some o
  lI : l ≠ I
  LI : L ≠ I
  lL : l ≠ L
  new : s₀.heap.get? L = none
  hB : Up C.B s₀.heap
  IB : C.B.get? I = none

section
variable {C : Cx} {s₀ s : Shared} {L I l : Addr} {vs : Array Value} {m : Str → Option Value} {i : Nat}
theorem VJ.base (J : VJ C s₀ L I l vs m i s) : Up C.B s.heap := fun b o e => J.keep b o (by rintro rfl; rw [J.IB] at e; cases e) (J.hB b o e)
theorem VJ.tok (J : VJ C s₀ L I l vs m i s) (t : Nat) : VJ C s₀ L I l vs m i { s with toks := t } := ⟨J.sh.trans ⟨s.heap, t, s.gens, rfl, id⟩, J.ns, J.it, J.li, J.keep, J.lI, J.LI, J.lL, J.new, J.hB, J.IB⟩
theorem VJ.put (J : VJ C s₀ L I l vs m i s) {h' : Heap} {t : Nat} {m' : Str → Option Value} (hn : h'.Ns L m') (hs : Heap.SameBut L s.heap h') : VJ C s₀ L I l vs m' i { s with heap := h', toks := t } :=
  ⟨J.sh.trans ⟨h', t, s.gens, rfl, id⟩, hn, J.it.extBut hs.extBut (Ne.symm J.LI), J.li.extBut hs.extBut J.lL, fun b o hb e => hs.extBut b o (by rintro rfl; rw [J.new] at e; cases e) (J.keep b o hb e), J.lI, J.LI, J.lL, J.new, J.hB, J.IB⟩
theorem VJ.next (J : VJ C s₀ L I l vs m i s) {h' : Heap} {j : Nat} (hi : h'.IsListIter I l j) (hs : Heap.SameBut I s.heap h') : VJ C s₀ L I l vs m j { s with heap := h' } :=
  ⟨J.sh.trans ⟨h', s.toks, s.gens, rfl, id⟩, J.ns.sameBut hs J.LI, hi, J.li.extBut hs.extBut J.lI, fun b o hb e => hs.extBut b o hb (J.keep b o hb e), J.lI, J.LI, J.lL, J.new, J.hB, J.IB⟩
end

section
variable {C : Cx} {A : Around} {E : Value → Shared → Prop} {s₀ s : Shared} {env : Env} {I l : Addr} {vs : Array Value} {m : Str → Option Value} {i : Nat} {sc : Scope}
theorem v_name {x : Str} {p : Pos} {v : Value} {Q : Value → Shared → Prop} (hE : EnvOf env sc) (J : VJ C s₀ env.locals I l vs m i s) (hx : sc.names.lookup x = some .local) (hm : m x = some v) (h : Q v s) (hd : (x == ("__debug__" : Str)) = false := by decide) :
    wpAny C.M A (eval (.Name x p) env) Q E s :=
  wpAny_Name (wpAny_loadName_local (by rw [hE.scope]; exact hE.kind) (by unfold Env.kindOf; rw [hE.scope]; exact hx) J.ns hm h) hd
theorem v_store {x : Str} {v : Value} {Q : Unit → Shared → Prop} (hE : EnvOf env sc) (J : VJ C s₀ env.locals I l vs m i s) (hx : sc.names.lookup x = some .local)
    (h : ∀ s', VJ C s₀ env.locals I l vs (fun y => if y = x then some v else m y) i s' → Q () s') : wpAny C.M A (storeName env x v) Q E s :=
  wpAny_storeName_local (by unfold Env.kindOf; rw [hE.scope]; exact hx) J.ns (fun h₁ hn₁ hs₁ => h _ (J.put hn₁ hs₁)) (by rw [hE.scope, hE.kind]; rfl)

theorem v_next {b it : Str} {px p p2 pos pos2 : Pos} {o : Int} {t : Tok} {Q : Flow → Shared → Prop} (H : Gl C) (hE : EnvOf env sc) (J : VJ C s₀ env.locals I l vs m i s) (hb : sc.names.lookup b = some .local) (hit : sc.names.lookup it = some .local) (hnx : sc.names.lookup (Str.ofString "next") = some .globalImplicit)
    (hm : m it = some (.ref I)) (ho : vs[i]? = some (.int o t)) (h : ∀ s', VJ C s₀ env.locals I l vs (fun y => if y = b then some (.int o t) else m y) (i + 1) s' → Q .next s') (hd : (it == ("__debug__" : Str)) = false := by decide) :
    wpAny C.M A (exec (.Assign [.Name b px] (.Call (.Name (Str.ofString "next") p) [.Name it p2] [] pos) pos2) env) Q E s := by
  refine wpAny_Assign_Name ?_ rfl
  refine Call_ (ld_glob H.good H.next hE J.base hnx ?_ (by decide))
  refine callWith_builtin1 (args_cons (v_name hE J hit hm (args_nil ?_) hd) rfl) rfl rfl
  exact next_item J.it J.li ho fun h' hi hs => v_store hE (J.next hi hs) hb h

theorem ints_at : ∀ {vs : List Value} {xs : List Int} {i : Nat}, IntsAre vs xs → i < xs.length → ∃ t, vs[i]? = some (.int (xs.getD i 0) t)
  | _, _, i, .nil, h => by simp at h
  | _, _, 0, .cons n t r, h => ⟨t, rfl⟩
  | _, _, i + 1, .cons n t r, h => by
    obtain ⟨u, e⟩ := ints_at (i := i) r (by simpa using h)
    exact ⟨u, by simpa using e⟩

def vAt (xs : List Int) (i : Nat) : Nat → Int
  | 0 => Builtin.bitAnd (xs.getD i 0) 63
  | k + 1 => Builtin.bitOr (vAt xs i k * 2 ^ 6) (Builtin.bitAnd (xs.getD (i + k + 1) 0) 63)

theorem var_walk {xs : List Int} {K : Nat} (H : Gl C) (hE : EnvOf env S0.1) (J : VJ C s₀ env.locals I l vs m i s) (hm : m (Str.ofString "iterator") = some (.ref I)) (hx : IntsAre vs.toList xs)
    (hK : i + K < xs.length) (hgo : ∀ k, k < K → Builtin.bitAnd (xs.getD (i + k) 0) 64 ≠ 0) (hst : Builtin.bitAnd (xs.getD (i + K) 0) 64 = 0) (hsm : ∀ k, k ≤ K → (vAt xs i k).natAbs < 2 ^ 64) :
    wpAny C.M A (execs B0.1 env) (fun f s' => ∃ t, f = .ret (.int (vAt xs i K) t) ∧ ∃ m', VJ C s₀ env.locals I l vs m' (i + K + 1) s') E s := by
  have at' : ∀ j, j < xs.length → ∃ t, vs[j]? = some (.int (xs.getD j 0) t) := fun j hj => by
    obtain ⟨t, e⟩ := ints_at hx hj
    exact ⟨t, by simpa using e⟩
  obtain ⟨t0, e0⟩ := at' i (by lia)
  refine wpAny_execs_cons (v_next H hE J rfl rfl rfl hm e0 fun s₁ J₁ => ?_)
  refine wpAny_execs_cons (wpAny_Assign_Name (wpAny_BinOp (v_name hE J₁ rfl rfl (wpAny_Constant_int (and_int (v_store hE ((J₁.tok _).tok _) rfl fun s₂ J₂ => ?_))))) rfl)
  refine wpAny_execs_cons (wpAny_While (codeAny_whileLoop (fun n s' => ∃ k m' t u, n = K + 1 - k ∧ k ≤ K ∧ VJ C s₀ env.locals I l vs m' (i + k + 1) s' ∧ m' (Str.ofString "iterator") = some (.ref I) ∧ m' (Str.ofString "b") = some (.int (xs.getD (i + k) 0) t) ∧ m' (Str.ofString "val") = some (.int (vAt xs i k) u)) ?_ (K + 1)
    ⟨0, _, t0, s₁.toks + 1, rfl, Nat.zero_le _, J₂, ?_, ?_, ?_⟩))
  · rintro n s₃ ⟨k, m', t, u, rfl, hk, J₃, g1, g2, g3⟩
    refine wpAny_isTrue_value (wpAny_BinOp (v_name hE J₃ rfl g2 (wpAny_Constant_int (and_int (P.truthy_int ?_)))))
    by_cases hlt : k < K
    · have hne : (Builtin.bitAnd (xs.getD (i + k) 0) 64 != 0) = true := by simpa using hgo k hlt
      rw [hne]
      simp only [if_true]
      have J₃' := (J₃.tok (s₃.toks + 1)).tok (s₃.toks + 1 + 1)
      obtain ⟨t1, e1⟩ := at' (i + k + 1) (by lia)
      refine wpAny_execs_cons (wpAny_AugAssign_Name (wpAny_loadName_local (by rw [hE.scope]; exact hE.kind) (by unfold Env.kindOf; rw [hE.scope]; rfl) J₃'.ns g3 (wpAny_Constant_int (ilshift_int_small (by decide) (by decide) (hsm k hk) (v_store hE ((J₃'.tok _).tok _) rfl fun s₄ J₄ => ?_)))))
      refine wpAny_execs_cons (v_next H hE J₄ rfl rfl rfl g1 e1 fun s₅ J₅ => ?_)
      refine wpAny_execs_cons (wpAny_AugAssign_Name (wpAny_loadName_local (by rw [hE.scope]; exact hE.kind) (by unfold Env.kindOf; rw [hE.scope]; rfl) J₅.ns rfl (wpAny_BinOp (v_name hE J₅ rfl rfl (wpAny_Constant_int (and_int (ior_int (v_store hE (((J₅.tok _).tok _).tok _) rfl fun s₆ J₆ => wpAny_execs_nil ?_))))))))
      exact ⟨K + 1 - (k + 1), by lia, k + 1, _, _, _, rfl, hlt, J₆, g1, rfl, rfl⟩
    · have hin : k = K := by lia
      subst hin
      rw [show (Builtin.bitAnd (xs.getD (i + k) 0) 64 != 0) = false by simpa using hst]
      simp only [Bool.false_eq_true, if_false]
      exact wpAny_execs_nil (wpAny_execs_cons (wpAny_Return_some (v_name hE ((J₃.tok _).tok _) rfl g3 ⟨u, rfl, m', (J₃.tok _).tok _⟩)))
  · exact hm
  · rfl
  · rfl
end
end Mine
end

/-! text MV2 -/
section
open PySem PySem.Spec PySem.Calls PyProof.Rows
set_option linter.unusedVariables false
set_option maxRecDepth 100000
namespace Mine

/-- the frames below are there -/
def OutOK (h : Heap) (outer : List Env) : Prop := ∀ env ∈ outer, env.scope.kind ≠ .module ∧ ∃ L o, env.frame = some L ∧ h.get? L = some o ∧ ∀ vs, o.data ≠ .fields vs
theorem OutOK.fun {h base : Heap} : ∀ {outer : List Env}, OutOK h outer → (∀ a ∈ outer.filterMap (·.frame), base.get? a = none) → h.FunFrames base outer
  | [], _, _ => trivial
  | env :: r, ok, hb => by
    obtain ⟨hk, L, o, hf, ho, hd⟩ := ok env (List.mem_cons_self ..)
    refine ⟨hk, ⟨L, o, hf, hb L (by simp [List.filterMap_cons, hf]), ho, hd⟩, OutOK.fun (fun e he => ok e (List.mem_cons_of_mem _ he)) fun a ha => hb a ?_⟩
    simp only [List.filterMap_cons, hf]
    exact List.mem_cons_of_mem _ ha
theorem OutOK.up {h h' : Heap} {outer : List Env} (ok : OutOK h outer) (k : ∀ b o, (∀ vs, o.data ≠ .fields vs) → h.get? b = some o → h'.get? b = some o) : OutOK h' outer := fun env he => by
  obtain ⟨hk, L, o, hf, ho, hd⟩ := ok env he
  exact ⟨hk, L, o, hf, k L o hd ho, hd⟩

/-- what the frames and the iterator leave alone -/
def Fallen (outer : List Env) (I : Addr) (h : Heap) (e : Addr) (h' : Heap) : Prop :=
  ∃ base a0, (∀ b o, b ∉ outer.filterMap (·.frame) → b ≠ I → h.get? b = some o → base.get? b = some o) ∧ Heap.FlyingW base outer e (.type "StopIteration") a0 h' ∧ h.UpToSlots h'

section
variable {C : Cx} {A : Around} {E : Value → Shared → Prop} {s : Shared} {I l f : Addr} {vs : Array Value} {i : Nat} {n : Nat}

theorem var_entry {P : Prop} (H : Gl C) (hf : C.mg (Str.ofString "_parse_varint") = some (.ref f)) (hR : Room A (n + 1)) (hB : Up C.B s.heap) (hIB : C.B.get? I = none) (hit : s.heap.IsListIter I l i) (hl : s.heap.IsList l vs) {Q : Value → Shared → Prop}
    (h : ∀ env s₁ m, EnvOf env S0.1 → env.frame = some env.locals → env.scope.kind ≠ .module → VJ C s env.locals I l vs m i s₁ → m (Str.ofString "iterator") = some (.ref I) →
      wpAny C.M (A.deeper env) (execs B0.1 env) (fun f s' => Q (match f with | .ret v => v | _ => .none) s') (fun e s' => wpAny C.M (A.deeper env) (leaving env e) (fun _ s'' => E e s'') (fun e' s'' => E e' s'') s') s₁) :
    wpAny C.M A (call (.ref f) [.ref I]) Q E s := by
  obtain ⟨a, c, P, o, pm, doc, h1, h2, h3, h4, _⟩ := H.at (k := 0) (by decide)
  have hn : (fnRec 0).name = Str.ofString "_parse_varint" := N0.2
  rw [hn, hf] at h1
  obtain rfl : f = a := by injection h1 with h1; injection h1
  have hroom : A.depth < recursionLimit := by have := hR.depth; have e : recursionLimit = 1000 := rfl; lia
  have hk : (fnRec 0).scope.kind = .function := by rw [S0.2]; rfl
  have hloc : (fnRec 0).scope.names.lookup (Str.ofString "iterator") = some .local := by rw [S0.2]; rfl
  have hbind : bindArgs (docDef (fnRec 0).name (fnRec 0).params (fnRec 0).body (fnRec 0).scope pm (.ref c) doc) ⟨[.ref I], []⟩ = pure ([Str.ofString "iterator"].zip [.ref I]) := by rw [P0.2]; rfl
  refine wpAny_call (codeAny_call_cells (fd := docDef (fnRec 0).name (fnRec 0).params (fnRec 0).body (fnRec 0).scope pm (.ref c) doc) (body := (fnRec 0).body) (binds := [Str.ofString "iterator"].zip [.ref I]) hroom (hB f o h2) h3 (H.good.lim.keeps hB) (h4.keeps hB) rfl hbind rfl (fun p hp => ?_) (fun s₁ x => ?_) (by rw [S0.2]; rfl) (by rw [S0.2]; rfl) hk)
  · simp only [List.zip_cons_cons, List.zip_nil_right, List.mem_singleton] at hp
    subst hp; exact .inl hloc
  · have hB0 : (fnRec 0).body = B0.1 := B0.2
    have hIlt : s.heap.objs.size ≠ I := by obtain ⟨o, e, _⟩ := hit; exact fun q => absurd (Heap.lt_size e) (by rw [← q]; exact Nat.lt_irrefl _)
    have hllt : l ≠ s.heap.objs.size := by obtain ⟨o, e, _⟩ := hl; exact Nat.ne_of_lt (Heap.lt_size e)
    have hlI : l ≠ I := by
      rintro rfl
      obtain ⟨o, e, c, _⟩ := hit
      obtain ⟨o', e', c', _⟩ := hl
      rw [e] at e'; cases e'; rw [c] at c'; exact absurd c' (by decide)
    have dead : s.heap.get? s.heap.objs.size = none := by
      cases e : s.heap.get? s.heap.objs.size with
      | none => rfl
      | some o' => exact absurd (Heap.lt_size e) (Nat.lt_irrefl _)
    obtain ⟨h', tk, e⟩ := x.toInCall.same
    rw [hB0]
    refine h _ s₁ _ ⟨S0.2, by rw [← S0.2]; exact hk, rfl, rfl⟩ rfl (by show (fnRec 0).scope.kind ≠ _; rw [hk]; decide) ⟨⟨h', tk, s.gens, e, id⟩, x.toInCall.ns, ?_, ?_, fun b o _ e => x.toInCall.keep b o e, hlI, hIlt, hllt, dead, hB, hIB⟩ ?_
    · obtain ⟨o, e, r⟩ := hit; exact ⟨o, x.toInCall.keep _ _ e, r⟩
    · obtain ⟨o, e, r⟩ := hl; exact ⟨o, x.toInCall.keep _ _ e, r⟩
    · exact bindL_at [Str.ofString "iterator"] [.ref I] _ 0 (by simp) rfl rfl hloc

theorem var_item (H : Gl C) (hf : C.mg (Str.ofString "_parse_varint") = some (.ref f)) (hR : Room A (n + 1)) (hB : Up C.B s.heap) (hIB : C.B.get? I = none) (hit : s.heap.IsListIter I l i) (hl : s.heap.IsList l vs) {xs : List Int} {K : Nat} (hx : IntsAre vs.toList xs)
    (hK : i + K < xs.length) (hgo : ∀ k, k < K → Builtin.bitAnd (xs.getD (i + k) 0) 64 ≠ 0) (hst : Builtin.bitAnd (xs.getD (i + K) 0) 64 = 0) (hsm : ∀ k, k ≤ K → (vAt xs i k).natAbs < 2 ^ 64) :
    wpAny C.M A (call (.ref f) [.ref I]) (fun v s' => (∃ t, v = .int (vAt xs i K) t) ∧ Sh s s' ∧ s'.heap.IsListIter I l (i + K + 1) ∧ ∀ b o, b ≠ I → s.heap.get? b = some o → s'.heap.get? b = some o) E s := by
  refine var_entry (P := True) H hf hR hB hIB hit hl fun env s₁ m hE hfr hkm J hm => ?_
  refine wpAny_mono (var_walk H hE J hm hx hK hgo hst hsm) (fun fl s₂ h₂ => ?_) fun _ _ h => h
  obtain ⟨t, rfl, m', J'⟩ := h₂
  exact ⟨⟨t, rfl⟩, J'.sh, J'.it, J'.keep⟩

theorem var_end (H : Gl C) (hf : C.mg (Str.ofString "_parse_varint") = some (.ref f)) (hR : Room A (n + 1)) (hB : Up C.B s.heap) (hIB : C.B.get? I = none) (hit : s.heap.IsListIter I l i) (hl : s.heap.IsList l vs) (hend : vs[i]? = none) {outer : List Env} (hfr : A.frames = some outer) (hout : OutOK s.heap outer)
    {Q : Value → Shared → Prop} (hQ : ∀ e s', Sh s s' → Fallen outer I s.heap e s'.heap → E (.ref e) s') : wpAny C.M A (call (.ref f) [.ref I]) Q E s := by
  refine var_entry (P := True) H hf hR hB hIB hit hl fun env s₁ m hE hfe hkm J hm => ?_
  show wpAny C.M (A.deeper env) (execs B0.1 env) _ _ s₁
  refine wpAny_execs_cons (wpAny_Assign_Name ?_ rfl)
  refine Call_ (ld_glob H.good H.next hE J.base rfl ?_ (by decide))
  refine callWith_builtin1 (args_cons (v_name hE J rfl hm (args_nil ?_)) rfl) rfl rfl
  refine next_end hR.hh J.it J.li hend fun h₁ h₂ e oe hsb hup hen he hcls hdat => ?_
  obtain ⟨ws, a0, hd, hw1, hw0⟩ := hdat
  -- the heap that stays
  have hIf : ∀ o, s₁.heap.get? I = some o → ∃ vs, o.data = .fields vs := fun o e => by
    obtain ⟨o', e', _, d⟩ := J.it
    rw [e] at e'; cases e'; exact ⟨_, d⟩
  have nr : ∀ b o, (∀ vs, o.data ≠ .fields vs) → s.heap.get? b = some o → b ≠ I := fun b o hn e q => by
    subst q
    obtain ⟨o', e', _, d⟩ := hit
    rw [e] at e'; cases e'; exact hn _ d
  have s1 : ∀ b o, b ≠ I → s.heap.get? b = some o → h₁.get? b = some o := fun b o hb e => hsb.extBut b o hb (J.keep b o hb e)
  have hns1 := J.ns.sameBut hsb J.LI
  have hns2 := hns1.keeps hup
  let base := PySem.W.hideAll h₁ (env.locals :: outer.filterMap (·.frame))
  have hbn : ∀ a ∈ env.locals :: outer.filterMap (·.frame), base.get? a = none := fun a ha => PySem.W.hideAll_none _ ha
  have hst : base.StaysIn h₂ := fun b o e => hup b o (PySem.W.of_hideAll _ e)
  have heb : base.get? e = none := by
    cases q : base.get? e with
    | none => rfl
    | some o => rw [PySem.W.of_hideAll _ q] at hen; cases hen
  have hff : h₂.FunFrames base (env :: outer) := Heap.FunFrames.cons hkm hfe hns2 (hbn _ (List.mem_cons_self ..)) ((hout.up fun b o hn e => hup b o (s1 b o (nr b o hn e) e)).fun fun a ha => hbn a (List.mem_cons_of_mem _ ha))
  refine wpAny_leaving_firstW (base := base) (Around.frames_deeper hfr) hff hfe he hst heb hd hw1 hw0 fun h₃ hL => ?_
  obtain ⟨k1, ⟨_, _, k2⟩, k3, k4⟩ := hL
  refine hQ e _ (J.sh.trans ⟨h₃, s₁.toks, s₁.gens, rfl, id⟩) ⟨base, a0, fun b o hb hbI e => PySem.W.hideAll_get _ (s1 b o hbI e) ?_, ⟨k1, heb, k2, hcls ▸ k3⟩, ?_⟩
  · intro hm
    rcases List.mem_cons.mp hm with rfl | hm
    · rw [J.new] at e; cases e
    · exact hb hm
  · intro b o e hn
    exact k4 b o (hup b o (s1 b o (nr b o hn e) e)) hn
end
end Mine
end

/-! text MV3 -/
section
open PySem PySem.Spec PySem.Calls PyProof.Rows
set_option linter.unusedVariables false
set_option maxRecDepth 100000
namespace Mine
section
variable {M : Model} {A : Around} {E : Value → Shared → Prop} {s : Shared}
/-- coming back into the same activation -/
theorem cameBack_held {base : Heap} {env : Env} {l : List Env} {e L : Addr} {cls a0 : Value} {E' : Value → Shared → Prop} (hf : env.frame = some L) (R : Heap.HeldW base l e cls a0 L s.heap)
    (h : ∀ h', Heap.HeldW base l e cls a0 L h' → s.heap.UpToSlots h' → E' (.ref e) { s with heap := h' }) : cameBackBy M A env E' (.ref e) s := by
  obtain ⟨hkb, hen, hl, oe, vs, T, oT, ts, he, hcls, hd, h1, hnT, hTe, hT, hdT, h3⟩ := R
  have hsz3 : 3 < ts.size := (Array.getElem?_eq_some_iff.mp h3).1
  have other : ∀ b, b ≠ T → (s.heap.update T (Obj.mapFields (·.setIfInBounds 3 ((some L).elim Value.none fun f => rawInt f)))).get? b = s.heap.get? b :=
    fun b hb => Heap.get?_update_other _ _ (Ne.symm hb)
  have noRecord : ∀ b o, s.heap.get? b = some o → (∀ vs, o.data ≠ .fields vs) → b ≠ T := fun b o hb hnf q => by
    rw [q, hT] at hb; injection hb with hb; subst hb; exact hnf ts hdT
  unfold cameBackBy
  rw [hf]
  refine wpAny_bind (wpAny_field he hd h1 ?_)
  rw [if_neg (show ¬ ((Value.ref T == Value.none) = true) from by simp)]
  try unfold setFlight
  refine wpAny_bind (wpAny_field he hd h1 ?_)
  rw [if_pos (show (Value.ref T != Value.none) = true from by simp)]
  refine wpAny_setField hT hdT hsz3 (h _ ⟨fun b o hbo => (other b fun q => by rw [q, hnT] at hbo; cases hbo).trans (hkb b o hbo), hen,
    hl.of_keeps fun b o hb hnf => ⟨o, (other b (noRecord b o hb hnf)).trans hb, rfl⟩, ?_⟩ fun b o hb hnf => ⟨o.slots, (other b (noRecord b o hb hnf)).trans hb⟩)
  exact ⟨oe, vs, T, _, _, (other e (Ne.symm hTe)).trans he, hcls, hd, h1, hnT, hTe, Heap.get?_update_self _ hT (Obj.isFreed_of_fields (Obj.data_mapFields hdT _)), Obj.data_mapFields hdT _, by simp [hsz3]⟩
end

/-- the frame of _law_read, between two steps -/
structure RJ (C : Cx) (s₀ : Shared) (L I D l : Addr) (vs : Array Value) (m : Str → Option Value) (i : Nat) (ns : List Int) (s : Shared) : Prop where
  sh : Sh s₀ s
  ns' : s.heap.Ns L m
  mt : m (Str.ofString "tape") = some (.ref I)
  mn : m (Str.ofString "numbers") = some (.ref D)
  it : s.heap.IsListIter I l i
  li : s.heap.IsList l vs
  dl : ∃ ws k, s.heap.get? D = some (lst ws k) ∧ RdL s.heap ws.toList (ns.map .int) []
  keep : ∀ b o, s₀.heap.get? b = some o → s.heap.get? b = some o
  LN : s₀.heap.get? L = none
  IN : s₀.heap.get? I = none
  DN : s₀.heap.get? D = none
  lO : ∃ o, s₀.heap.get? l = some o
  LI : L ≠ I
  DI : D ≠ I
  DL : D ≠ L
  hB : Up C.B s₀.heap

section
variable {C : Cx} {s₀ s s' : Shared} {L I D l : Addr} {vs : Array Value} {m : Str → Option Value} {i j : Nat} {ns : List Int}
theorem RJ.base (J : RJ C s₀ L I D l vs m i ns s) : Up C.B s.heap := fun b o e => J.keep b o (J.hB b o e)
theorem RJ.lI (J : RJ C s₀ L I D l vs m i ns s) : l ≠ I := by rintro rfl; obtain ⟨o, e⟩ := J.lO; rw [J.IN] at e; cases e
theorem RJ.lD (J : RJ C s₀ L I D l vs m i ns s) : l ≠ D := by rintro rfl; obtain ⟨o, e⟩ := J.lO; rw [J.DN] at e; cases e
theorem intsR {h h' : Heap} {ws : List Value} {ns : List Int} (r : RdL h ws (ns.map .int) []) : RdL h' ws (ns.map .int) [] := r.but fun a ha => by cases ha
/-- the iterator goes on -/
theorem RJ.went (J : RJ C s₀ L I D l vs m i ns s) (sh : Sh s s') (hi : s'.heap.IsListIter I l j) (k : ∀ b o, b ≠ I → s.heap.get? b = some o → s'.heap.get? b = some o) : RJ C s₀ L I D l vs m j ns s' := by
  obtain ⟨ws, q, e, r⟩ := J.dl
  refine ⟨J.sh.trans sh, J.ns'.at' fun o e => k _ o J.LI e, J.mt, J.mn, hi, ?_, ⟨ws, q, k _ _ J.DI e, intsR r⟩, fun b o e => k b o (by rintro rfl; rw [J.IN] at e; cases e) (J.keep b o e), J.LN, J.IN, J.DN, J.lO, J.LI, J.DI, J.DL, J.hB⟩
  obtain ⟨o, e, r⟩ := J.li
  exact ⟨o, k _ o J.lI e, r⟩
/-- the list grows -/
theorem RJ.grew (J : RJ C s₀ L I D l vs m i ns s) {c : Int} {t : Tok} {h' : Heap} {q : Nat} {ws : Array Value} (hw : h'.get? D = some (lst (ws.push (.int c t)) q)) (r : RdL s.heap ws.toList (ns.map .int) []) (k : ∀ b o, b ≠ D → s.heap.get? b = some o → h'.get? b = some o) :
    RJ C s₀ L I D l vs m i (ns ++ [c]) { s with heap := h' } := by
  refine ⟨J.sh.trans ⟨h', s.toks, s.gens, rfl, id⟩, J.ns'.at' fun o e => k _ o (Ne.symm J.DL) e, J.mt, J.mn, ?_, ?_, ⟨_, q, hw, ?_⟩, fun b o e => k b o (by rintro rfl; rw [J.DN] at e; cases e) (J.keep b o e), J.LN, J.IN, J.DN, J.lO, J.LI, J.DI, J.DL, J.hB⟩
  · obtain ⟨o, e, r⟩ := J.it; exact ⟨o, k _ o (Ne.symm J.DI) e, r⟩
  · obtain ⟨o, e, r⟩ := J.li; exact ⟨o, k _ o J.lD e, r⟩
  · rw [Array.toList_push, List.map_append]
    simpa using (intsR r : RdL h' ws.toList (ns.map .int) []).snoc (.int c t)
end

def posOf (Ks : List Nat) (j : Nat) : Nat := ((Ks.take j).map (· + 1)).sum
theorem posOf_succ {Ks : List Nat} {j : Nat} (h : j < Ks.length) : posOf Ks (j + 1) = posOf Ks j + Ks.getD j 0 + 1 := by
  unfold posOf
  rw [List.take_add_one, List.getElem?_eq_getElem h, List.getD_eq_getElem?_getD, List.getElem?_eq_getElem h, List.map_append, List.sum_append]
  simp only [Option.toList_some, List.map_cons, List.map_nil, List.sum_cons, List.sum_nil, Option.getD_some]
  lia
def numsOf' (xs : List Int) (Ks : List Nat) (M : Nat) : List Int := (List.range M).map fun j => vAt xs (posOf Ks j) (Ks.getD j 0)
/-- the list falls into numbers -/
structure Falls (xs : List Int) (Ks : List Nat) : Prop where
  len : xs.length ≤ 900
  fit : ∀ j, j < Ks.length → posOf Ks j + Ks.getD j 0 < xs.length
  go : ∀ j, j < Ks.length → ∀ k, k < Ks.getD j 0 → Builtin.bitAnd (xs.getD (posOf Ks j + k) 0) 64 ≠ 0
  stop : ∀ j, j < Ks.length → Builtin.bitAnd (xs.getD (posOf Ks j + Ks.getD j 0) 0) 64 = 0
  small : ∀ j, j < Ks.length → ∀ k, k ≤ Ks.getD j 0 → (vAt xs (posOf Ks j) k).natAbs < 2 ^ 64
  all : posOf Ks Ks.length = xs.length
  few : Ks.length ≤ 900

section
variable {C : Cx} {A : Around} {s₀ s : Shared} {env : Env} {I D l f : Addr} {vs : Array Value} {m : Str → Option Value} {n : Nat}
theorem r_name {E : Value → Shared → Prop} {i : Nat} {ns : List Int} {x : Str} {p : Pos} {v : Value} {Q : Value → Shared → Prop} (hE : EnvOf env S7.1) (J : RJ C s₀ env.locals I D l vs m i ns s) (hx : S7.1.names.lookup x = some .local) (hm : m x = some v) (h : Q v s) (hd : (x == ("__debug__" : Str)) = false := by decide) :
    wpAny C.M A (eval (.Name x p) env) Q E s :=
  wpAny_Name (wpAny_loadName_local (by rw [hE.scope]; exact hE.kind) (by unfold Env.kindOf; rw [hE.scope]; exact hx) J.ns' hm h) hd

theorem tup_sw {E : Value → Shared → Prop} {sc : Scope} {ts : List Expr} {kt : Nat} {pt : Pos} {value : Expr} {xs : List Str} {v : Value} {acts : List (Value → Sem Unit)} {Q : Flow → Shared → Prop} (hE : EnvOf env sc) (hsw : ∀ e : Env, EnvOf e sc → swappedStores [.Tuple ts kt pt] value e = pure (some xs))
    (h : wpAny C.M A (assignStores env v (some xs) acts) Q E s) : wpAny C.M A (do let sw ← swappedStores [.Tuple ts kt pt] value env; assignStores env v sw acts) Q E s := by
  rw [hsw env hE]; exact wpAny_bind (wpAny_pure h)

theorem assign2 {E : Value → Shared → Prop} {x y : Str} {v1 v2 : Value} {T : Addr} {acts : List (Value → Sem Unit)} {Q : Flow → Shared → Prop} (hh : A.handled = none) (hT : s.heap.IsTuple T #[v1, v2])
    (h : ∀ H4, Up s.heap H4 → wpAny C.M A (bindName env y v2) (fun _ s1 => wpAny C.M A (bindName env x v1) (fun _ s2 => Q .next s2) E s1) E { s with heap := H4 }) : wpAny C.M A (assignStores env (.ref T) (some [x, y]) acts) Q E s := by
  unfold assignStores
  refine wpAny_bind (wpAny_rule (wpAny_bind ?_))
  have e1 : [x, y].length = (#[v1, v2] : Array Value).size := rfl
  rw [e1]
  refine wpAny_unpackItems_tuple (Q := fun items s₁ => wpAny C.M A (assignInOrder ([x, y].reverse.map fun n => bindName env n) items.reverse >>= fun _ => pure Flow.next) Q E s₁) hh hT fun h' hx => ?_
  have hx' : Up s.heap h' := fun b o e => hx b o (Nat.ne_of_lt (Heap.lt_size e)) e
  refine wpAny_bind ?_
  show wpAny C.M A (do holding [v1] (bindName env y v2); assignInOrder [fun v => bindName env x v] [v1]) _ E _
  refine wpAny_bind (wpAny_holding (wpAny_mono (h h' hx') (fun _ s1 h1 => ?_) fun _ _ h => h))
  show wpAny C.M A (do holding [] (bindName env x v1); assignInOrder [] []) _ E _
  exact wpAny_bind (wpAny_holding (wpAny_mono h1 (fun _ s2 h2 => wpAny_pure (wpAny_pure h2)) fun _ _ h => h))

inductive ReadPost (s₀ : Shared) (outer : List Env) (ns : List Int) (fl : Flow) (s' : Shared) : Prop
  | mk (D : Addr) (e : fl = .ret (.ref D)) (sh : Sh s₀ s') (dn : s₀.heap.get? D = none) (dl : ∃ ws k, s'.heap.get? D = some (lst ws k) ∧ RdL s'.heap ws.toList (ns.map .int) [])
      (keep : ∀ b o, b ∉ outer.filterMap (·.frame) → s₀.heap.get? b = some o → s'.heap.get? b = some o) (sl : s₀.heap.UpToSlots s'.heap) : ReadPost s₀ outer ns fl s'
/-- the rest of _law_read -/
theorem read_rest {xs : List Int} {Ks : List Nat} {outer : List Env} {E : Value → Shared → Prop} {ss : List Stmt} (H : Gl C) (hfv : C.mg (Str.ofString "_parse_varint") = some (.ref f)) (hsi : GlobIs C (Str.ofString "StopIteration") (.type "StopIteration")) (hR : Room A (n + 1)) (hE : EnvOf env S7.1)
    (hfe : env.frame = some env.locals) (hkm : env.scope.kind ≠ .module) (hfr : A.frames = some (env :: outer)) (hout : OutOK s₀.heap outer) (hoB : ∀ a ∈ outer.filterMap (·.frame), C.B.get? a = none)
    (J : RJ C s₀ env.locals I D l vs m 0 [] s) (hx : IntsAre vs.toList xs) (F : Falls xs Ks) (hss : B7.1.tail = ss) :
    wpAny C.M A (execs ss env) (ReadPost s₀ outer (numsOf' xs Ks Ks.length)) E s := by
  subst hss
  have hk : env.scope.kind = .function := by rw [hE.scope]; exact hE.kind
  have hloc : ∀ y, S7.1.names.lookup y = some .local → env.kindOf y = some .local := fun y h => by unfold Env.kindOf; rw [hE.scope]; exact h
  have hxl : vs.size = xs.length := by have := hx.length; simpa using this
  refine wpAny_execs_cons (wpAny_Try_except ?_)
  refine wpAny_execs_cons (wpAny_While (codeAny_whileLoop (fun k s' => ∃ j, k = Ks.length + 1 - j ∧ j ≤ Ks.length ∧ RJ C s₀ env.locals I D l vs m (posOf Ks j) (numsOf' xs Ks j) s') ?_ (Ks.length + 1) ⟨0, rfl, Nat.zero_le _, J⟩))
  rintro k s₁ ⟨j, rfl, hj, J₁⟩
  refine wpAny_isTrue_value (wpAny_Constant_bool (wpAny_truthy_bool ?_))
  simp only [if_true]
  obtain ⟨ws, q, hws, hwr⟩ := J₁.dl
  have hwl := hwr.length
  have hwl2 : ws.size = j := by simpa [numsOf'] using hwl
  have hfew := F.few
  refine wpAny_execs_cons (wpAny_Expr (Call_method1 rfl rfl rfl (r_name hE J₁ rfl J₁.mn (list_method PySem.F.slot_list_append PySem.F.type_list_append hws (PySem.P.append_list ?_)))) (interactive_fn hE) rfl)
  obtain ⟨a, c, P, o, pm, doc, h1, h2, h3, h4, _⟩ := H.at (k := 0) (by decide)
  have hn : (fnRec 0).name = Str.ofString "_parse_varint" := N0.2
  rw [hn, hfv] at h1
  obtain rfl : f = a := by injection h1 with h1; injection h1
  refine Call_ (ld_glob H.good (.inl hfv) hE J₁.base rfl ?_ (by decide))
  refine callWith_def h3 (args_cons (r_name hE J₁ rfl J₁.mt (args_nil ⟨J₁.base f o h2, ?_⟩)) rfl) rfl
  have hIB : C.B.get? I = none := by
    cases e : C.B.get? I with
    | none => rfl
    | some o => have := J₁.hB _ _ e; rw [J₁.IN] at this; cases this
  by_cases hlt : j < Ks.length
  · refine wpAny_mono (var_item H hfv hR J₁.base hIB J₁.it J₁.li hx (F.fit j hlt) (F.go j hlt) (F.stop j hlt) (F.small j hlt)) (fun v s₂ h₂ => ?_) fun _ _ h => h
    obtain ⟨⟨t, rfl⟩, sh2, hi2, k2⟩ := h₂
    have J₂ := J₁.went sh2 hi2 k2
    refine ⟨ws, q, by rw [sizeLine_eq]; lia, k2 _ _ J₁.DI hws, wpAny_execs_nil ?_⟩
    obtain ⟨q2, hq2⟩ := upd_self (fun ys => ys.push (.int (vAt xs (posOf Ks j) (Ks.getD j 0)) t)) (k2 _ _ J₁.DI hws)
    have J₃ := J₂.grew hq2 (intsR hwr) fun b o hb e => upd_other hb e
    refine ⟨Ks.length + 1 - (j + 1), by lia, j + 1, rfl, hlt, ?_⟩
    rw [posOf_succ hlt, show numsOf' xs Ks (j + 1) = numsOf' xs Ks j ++ [vAt xs (posOf Ks j) (Ks.getD j 0)] by unfold numsOf'; rw [List.range_succ, List.map_append]; rfl]
    exact J₃
  · have hje : j = Ks.length := by lia
    subst hje
    have hend : vs[posOf Ks Ks.length]? = none := by rw [F.all]; simp [hxl]
    have hLout : ∀ a ∈ outer.filterMap (·.frame), ∃ o, s₀.heap.get? a = some o := fun a ha => by
      obtain ⟨e, he, hf⟩ := List.mem_filterMap.mp ha
      obtain ⟨_, L, o, hf', ho, _⟩ := hout e he
      rw [hf] at hf'; cases hf'; exact ⟨o, ho⟩
    have out1 : OutOK s₁.heap (env :: outer) := fun e he => by
      rcases List.mem_cons.mp he with rfl | he
      · obtain ⟨o, es, ep, ho, hd, _⟩ := J₁.ns'
        exact ⟨hkm, _, o, hfe, ho, fun vs q => by rw [hd] at q; cases q⟩
      · obtain ⟨hk, L, o, hf, ho, hd⟩ := hout e he
        exact ⟨hk, L, o, hf, J₁.keep _ _ ho, hd⟩
    have hfm : (env :: outer).filterMap (·.frame) = env.locals :: outer.filterMap (·.frame) := by simp [List.filterMap_cons, hfe]
    refine var_end H hfv hR J₁.base hIB J₁.it J₁.li hend hfr out1 fun e s₂ sh2 hfall => ?_
    obtain ⟨base, a0, hbase, hfl, sm2⟩ := hfall
    rw [hfm] at hbase
    have toBase : ∀ b o, b ≠ env.locals → b ∉ outer.filterMap (·.frame) → b ≠ I → s₁.heap.get? b = some o → base.get? b = some o := fun b o h1 h2 h3 e => hbase b o (fun hm => (List.mem_cons.mp hm).elim h1 h2) h3 e
    show wpAny C.M A (noteFrame (.ref e) env) (fun _ s'' => cameBackBy C.M A env _ (.ref e) s'') _ s₂
    refine wpAny_looks_onW hfr hfe hfl fun h₃ hheld sm3 => ?_
    refine cameBack_held hfe hheld fun h₄ hheld4 sm4 => ?_
    refine wpAny_noteFrame_againW hfe hheld4.2.2.2 ?_
    refine wpAny_landsW hheld4 fun h₅ hfl5 sm5 => ?_
    have hty := hfl5.there
    obtain ⟨st5, en5, ff5, tr5⟩ := hfl5
    have hB5 : Up C.B h₅ := fun b o e => st5 b o (toBase b o (by rintro rfl; have := J₁.hB _ _ e; rw [J₁.LN] at this; cases this) (fun hm => by rw [hoB b hm] at e; cases e) (by rintro rfl; rw [hIB] at e; cases e) (J₁.base b o e))
    refine wpAny_handleBy_builtin (X := "StopIteration") (T := "StopIteration") (b := true) (by rw [isSubtype_type]; kernel_rfl) (by rw [isSubtype_type]; kernel_rfl) (by rw [isSubtype_type]; kernel_rfl) ?_
    refine ld_glob H.good hsi hE hB5 rfl ⟨rfl, hty, ?_⟩ (by decide)
    simp only [if_true]
    refine wpAny_setFlight_noneW st5 ff5 tr5 fun h₆ st6 ff6 tr6 k6 => ?_
    have sm6 : h₅.UpToSlots h₆ := fun b o e hn => ⟨o.slots, k6 b o e hn⟩
    have smA : s₁.heap.UpToSlots h₆ := (((sm2.trans sm3).trans sm4).trans sm5).trans sm6
    refine wpAny_execs_cons (wpAny_Return_some (wpAny_Name (wpAny_loadName_local hk (hloc _ rfl) (smA.ns J₁.ns') J₁.mn ?_) (by decide)))
    refine ⟨D, rfl, (J₁.sh.trans sh2).trans ⟨h₆, s₂.toks, s₂.gens, rfl, id⟩, J₁.DN, ⟨ws, q, st6 _ _ (toBase D _ J₁.DL (fun hm => by obtain ⟨o, e⟩ := hLout D hm; rw [J₁.DN] at e; cases e) J₁.DI hws), intsR hwr⟩, fun b o hb e => st6 _ _ (toBase b o (by rintro rfl; rw [J₁.LN] at e; cases e) hb (by rintro rfl; rw [J₁.IN] at e; cases e) (J₁.keep b o e)), (Heap.UpToSlots.of_keeps J₁.keep).trans smA⟩

theorem read_walk {xs : List Int} {Ks : List Nat} {outer : List Env} {E : Value → Shared → Prop} {vl : Value} (H : Gl C) (hfv : C.mg (Str.ofString "_parse_varint") = some (.ref f)) (hsi : GlobIs C (Str.ofString "StopIteration") (.type "StopIteration")) (hR : Room A (n + 1)) (hE : EnvOf env S7.1)
    (hfe : env.frame = some env.locals) (hkm : env.scope.kind ≠ .module) (hfr : A.frames = some (env :: outer)) (hout : OutOK s₀.heap outer) (hoB : ∀ a ∈ outer.filterMap (·.frame), C.B.get? a = none) (hB : Up C.B s₀.heap)
    (hsh : Sh s₀ s) (hns : s.heap.Ns env.locals m) (hm : m (Str.ofString "octets") = some (.ref l)) (hl0 : s₀.heap.IsList l vs) (keep : ∀ b o, s₀.heap.get? b = some o → s.heap.get? b = some o) (LN : s₀.heap.get? env.locals = none)
    (hx : IntsAre vs.toList xs) (F : Falls xs Ks) :
    wpAny C.M A (execs B7.1 env) (ReadPost s₀ outer (numsOf' xs Ks Ks.length)) E s := by
  have hk : env.scope.kind = .function := by rw [hE.scope]; exact hE.kind
  have hxl : vs.size = xs.length := by have := hx.length; simpa using this
  have hloc : ∀ y, S7.1.names.lookup y = some .local → env.kindOf y = some .local := fun y h => by unfold Env.kindOf; rw [hE.scope]; exact h
  have hL : s.heap.IsList l vs := by obtain ⟨o, e, r⟩ := hl0; exact ⟨o, keep _ _ e, r⟩
  -- tape, numbers = (iter(octets), [])
  refine wpAny_execs_cons ?_
  rw [exec_Assign_tup _ _ _ _ _ _ rfl]
  refine wpAny_bind (wpAny_standAt (wpAny_bind (wpAny_Tuple ?_)))
  refine wpAny_items_cons (Call_ (ld_glob H.good H.iter hE (fun b o e => keep b o (hB b o e)) rfl ?_ (by decide))) rfl
  refine callWith_builtin1 (args_cons (wpAny_Name (wpAny_loadName_local hk (hloc _ rfl) hns hm (args_nil ?_)) (by decide)) rfl) rfl rfl
  refine call_iter_list hL (wpAny_items_cons (wpAny_List (wpAny_items_nil ?_)) rfl)
  refine ⟨by simp [sizeLine_eq], wpAny_items_nil ⟨by simp [sizeLine_eq], ?_⟩⟩
  dsimp only
  refine tup_sw (xs := [Str.ofString "tape", Str.ofString "numbers"]) hE (fun e h => by
    obtain ⟨⟩ := e
    obtain ⟨h1, _, _, _⟩ := h
    dsimp only at h1; subst h1
    rfl) ?_
  have up1 := Up.push s.heap { cls := .type "list_iterator", data := .fields #[.ref l, .int 0 0] }
  have hIs : (s.heap.push { cls := .type "list_iterator", data := .fields #[.ref l, .int 0 0] }).get? s.heap.objs.size = some _ := Heap.get?_push_size _ rfl
  have hIdead : s.heap.get? s.heap.objs.size = none := by
    cases e : s.heap.get? s.heap.objs.size with
    | none => rfl
    | some o => exact absurd (Heap.lt_size e) (Nat.lt_irrefl _)
  have hz1 := Heap.size_push s.heap { cls := .type "list_iterator", data := .fields #[.ref l, .int 0 0] }
  generalize s.heap.push { cls := .type "list_iterator", data := .fields #[.ref l, .int 0 0] } = H1 at *
  generalize hI0 : s.heap.objs.size = I at *
  have up2 := Up.push H1 { cls := .type "list", data := .seq #[] }
  have hDs : (H1.push { cls := .type "list", data := .seq #[] }).get? H1.objs.size = some _ := Heap.get?_push_size _ rfl
  have hz2 := Heap.size_push H1 { cls := .type "list", data := .seq #[] }
  have hDdead : H1.get? H1.objs.size = none := by
    cases e : H1.get? H1.objs.size with
    | none => rfl
    | some o => exact absurd (Heap.lt_size e) (Nat.lt_irrefl _)
  generalize H1.push { cls := .type "list", data := .seq #[] } = H2 at *
  generalize hD0 : H1.objs.size = D at *
  have up3 := Up.push H2 { cls := .type "tuple", data := .seq #[.ref I, .ref D] }
  have hTs : (H2.push { cls := .type "tuple", data := .seq #[.ref I, .ref D] }).get? H2.objs.size = some { cls := .type "tuple", data := .seq #[.ref I, .ref D] } := Heap.get?_push_size _ rfl
  show wpAny C.M A (assignStores env (.ref H2.objs.size) (some [Str.ofString "tape", Str.ofString "numbers"]) _) _ E { s with heap := H2.push { cls := .type "tuple", data := .seq #[.ref I, .ref D] } }
  generalize H2.push { cls := .type "tuple", data := .seq #[.ref I, .ref D] } = H3 at *
  have hT : H3.IsTuple H2.objs.size #[.ref I, .ref D] := ⟨_, hTs, rfl, _, rfl⟩
  refine assign2 hR.hh hT fun H4 up4 => ?_
  have upA : Up s.heap H4 := ((up1.trans up2).trans up3).trans up4
  have hnsA := hns.keeps upA
  have hLlt : env.locals ≠ I := by rintro q; obtain ⟨o, _, _, e, _⟩ := hns; rw [q, hIdead] at e; cases e
  have hLD : D ≠ env.locals := by rintro q; obtain ⟨o, _, _, e, _⟩ := hns; have := up1 _ _ e; rw [← q, hDdead] at this; cases this
  have hDI : D ≠ I := by rintro q; rw [q, hIs] at hDdead; cases hDdead
  have dead0 : ∀ a, s.heap.get? a = none → s₀.heap.get? a = none := fun a ha => by
    cases e : s₀.heap.get? a with
    | none => rfl
    | some o => rw [keep _ _ e] at ha; cases ha
  have hD0' : s.heap.get? D = none := by
    cases e : s.heap.get? D with
    | none => rfl
    | some o => rw [up1 _ _ e] at hDdead; cases hDdead
  have hlO : ∃ o, s₀.heap.get? l = some o := let ⟨o, e, _⟩ := hl0; ⟨o, e⟩
  refine wpAny_bindName (wpAny_storeName_local (hloc _ rfl) hnsA (fun H5 hn5 hs5 => ?_) (by rw [hk]; rfl))
  refine wpAny_bindName (wpAny_storeName_local (hloc _ rfl) hn5 (fun H6 hn6 hs6 => ?_) (by rw [hk]; rfl))
  have k56 : ∀ b o, b ≠ env.locals → H4.get? b = some o → H6.get? b = some o := fun b o hb e => hs6.extBut b o hb (hs5.extBut b o hb e)
  refine read_rest (I := I) (D := D) (l := l) (vs := vs) H hfv hsi hR hE hfe hkm hfr hout hoB ⟨hsh.trans ⟨H6, s.toks + 1 + 1, s.gens, rfl, id⟩, hn6, rfl, rfl, ?_, ?_, ⟨#[], 0, k56 D _ hLD (up4 _ _ (up3 _ _ hDs)), .nil⟩, fun b o e => k56 b o (by rintro rfl; rw [LN] at e; cases e) (upA _ _ (keep _ _ e)), LN, dead0 _ hIdead, dead0 _ hD0', hlO, hLlt, hDI, hLD, hB⟩ hx F rfl
  · exact ⟨_, k56 I _ (Ne.symm hLlt) (up4 _ _ (up3 _ _ (up2 _ _ hIs))), rfl, rfl⟩
  · obtain ⟨o, e, r⟩ := hl0
    exact ⟨o, k56 l o (by rintro rfl; rw [LN] at e; cases e) (upA _ _ (keep _ _ e)), r⟩
end
end Mine
end

/-! text MV4 -/
section
open PySem PySem.Spec PySem.Calls PyProof.Rows
set_option linter.unusedVariables false
set_option maxRecDepth 100000
namespace Mine
section
variable {C : Cx} {A : Around} {E : Value → Shared → Prop} {s : Shared} {l f g : Addr} {vs : Array Value} {n : Nat}
theorem read_call {xs : List Int} {Ks : List Nat} {outer : List Env} (H : Gl C) (hfg : C.mg (Str.ofString "_law_read") = some (.ref g)) (hfv : C.mg (Str.ofString "_parse_varint") = some (.ref f)) (hsi : GlobIs C (Str.ofString "StopIteration") (.type "StopIteration")) (hR : Room A (n + 2))
    (hfr : A.frames = some outer) (hout : OutOK s.heap outer) (hoB : ∀ a ∈ outer.filterMap (·.frame), C.B.get? a = none) (hB : Up C.B s.heap) (hl : s.heap.IsList l vs) (hx : IntsAre vs.toList xs) (F : Falls xs Ks) :
    wpAny C.M A (call (.ref g) [.ref l]) (fun v s' => ∃ D, v = .ref D ∧ Sh s s' ∧ s.heap.get? D = none ∧ (∃ ws k, s'.heap.get? D = some (lst ws k) ∧ RdL s'.heap ws.toList ((numsOf' xs Ks Ks.length).map .int) []) ∧
      (∀ b o, b ∉ outer.filterMap (·.frame) → s.heap.get? b = some o → s'.heap.get? b = some o) ∧ s.heap.UpToSlots s'.heap) E s := by
  obtain ⟨a, c, P, o, pm, doc, h1, h2, h3, h4, _⟩ := H.at (k := 7) (by decide)
  have hn : (fnRec 7).name = Str.ofString "_law_read" := N7.2
  rw [hn, hfg] at h1
  obtain rfl : g = a := by injection h1 with h1; injection h1
  have hroom : A.depth < recursionLimit := by have := hR.depth; have e : recursionLimit = 1000 := rfl; lia
  have hk : (fnRec 7).scope.kind = .function := by rw [S7.2]; rfl
  have hloc : (fnRec 7).scope.names.lookup (Str.ofString "octets") = some .local := by rw [S7.2]; rfl
  have hbind : bindArgs (docDef (fnRec 7).name (fnRec 7).params (fnRec 7).body (fnRec 7).scope pm (.ref c) doc) ⟨[.ref l], []⟩ = pure ([Str.ofString "octets"].zip [.ref l]) := by rw [P7.2]; rfl
  refine wpAny_call (codeAny_call_cells (fd := docDef (fnRec 7).name (fnRec 7).params (fnRec 7).body (fnRec 7).scope pm (.ref c) doc) (body := (fnRec 7).body) (binds := [Str.ofString "octets"].zip [.ref l]) hroom (hB g o h2) h3 (H.good.lim.keeps hB) (h4.keeps hB) rfl hbind rfl (fun p hp => ?_) (fun s₁ x => ?_) (by rw [S7.2]; rfl) (by rw [S7.2]; rfl) hk)
  · simp only [List.zip_cons_cons, List.zip_nil_right, List.mem_singleton] at hp
    subst hp; exact .inl hloc
  · have hB0 : (fnRec 7).body = B7.1 := B7.2
    have dead : s.heap.get? s.heap.objs.size = none := by
      cases e : s.heap.get? s.heap.objs.size with
      | none => rfl
      | some o' => exact absurd (Heap.lt_size e) (Nat.lt_irrefl _)
    obtain ⟨h', tk, e⟩ := x.toInCall.same
    rw [hB0]
    have hR' : Room (A.deeper (callEnvC (docDef (fnRec 7).name (fnRec 7).params (fnRec 7).body (fnRec 7).scope pm (.ref c) doc) s.heap.objs.size g)) (n + 1) := ⟨hR.hh, by
      have := hR.depth; show A.depth + 1 + 20 * (n + 1) < 900; lia, by
      have := hR.units; show A.units + 3 + 100 * (n + 1) < 9000; lia⟩
    refine wpAny_mono (read_walk (s₀ := s) (vl := .none) H hfv hsi hR' ⟨S7.2, by rw [← S7.2]; exact hk, rfl, rfl⟩ rfl (by show (fnRec 7).scope.kind ≠ _; rw [hk]; decide) (Around.frames_deeper hfr) hout hoB hB ⟨h', tk, s.gens, e, id⟩ x.toInCall.ns ?_ hl x.toInCall.keep dead hx F) (fun fl s₂ h₂ => ?_) fun _ _ h => h
    · exact bindL_at [Str.ofString "octets"] [.ref l] _ 0 (by simp) rfl rfl hloc
    · obtain ⟨D, rfl, a, b, c, d, e⟩ := h₂
      exact ⟨D, rfl, a, b, c, d, e⟩
end
end Mine
end

/-! text MX0 -/
section
open PySem PySem.Spec PySem.Calls PyProof.Rows
set_option linter.unusedVariables false
set_option maxRecDepth 100000
namespace Mine
section
variable {prog : Program} {w : World} {A : Around} {R : GenEnd} {Y : Protocol} {n : Nat} {s₀ : Shared} {c : Code} {fs : List Frame} {s : Shared} {env : Env}
  {K : Flow → Sem Fin} {H : Value → Sem Fin} {gd : Bool → Bool} {lv : List Value → List Value}

/-- a statement that yields nothing -/
theorem seg_plain {st : Stmt} (h : wpAny (model prog w) (A.over c fs) (exec st env) (fun f s' => Seg (model prog w) A R Y n s₀ c (K f) fs s') (fun x s' => Seg (model prog w) A R Y n s₀ c (H x) fs s') s) :
    Seg (model prog w) A R Y n s₀ c ((exec st env).wrap K H gd lv) fs s := seg_wrap h

theorem seg_If {t : Expr} {body orelse : List Stmt} {pos : Pos}
    (h : wpAny (model prog w) (A.over c fs) (isTrue t env (eval t env)) (fun b s' => if b = true then Seg (model prog w) A R Y n s₀ c ((execs body env).wrap K H gd lv) fs s' else Seg (model prog w) A R Y n s₀ c ((execs orelse env).wrap K H gd lv) fs s')
      (fun x s' => Seg (model prog w) A R Y n s₀ c (H x) fs s') s) :
    Seg (model prog w) A R Y n s₀ c ((exec (.If t body orelse pos) env).wrap K H gd lv) fs s := by
  rw [exec_If]
  refine seg_bind_wrap (wpAny_standAt ?_)
  refine seg_bind_wrap (wpAny_mono h (fun b s' hb => ?_) fun _ _ e => e)
  cases b
  · simpa using hb
  · simpa using hb

theorem seg_For {target iter : Expr} {body : List Stmt} {pos : Pos}
    (h : wpAny (model prog w) (A.over c fs) (eval iter env) (fun x s₁ => wpAny (model prog w) (A.over c fs) (pyIter x) (fun it s₂ =>
      ∀ p, Seg (model prog w) A R Y n s₀ (.forLoop target it body [] env) ((model prog w).den (.forLoop target it body [] env))
        (.ret (fun r => ((match r with | .ok f => (.pure f : Sem Flow) | .error e => .raise e).onRaise fun (x : Value) => do
          if (← field x 1) == Value.none then unsupported "frame.own-activation:exception-without-traceback"
          setFlight x env.frame).wrap K H gd lv) none (gd false) (lv []) c p [] :: fs) s₂) (fun x s' => Seg (model prog w) A R Y n s₀ c (H x) fs s') s₁) (fun x s' => Seg (model prog w) A R Y n s₀ c (H x) fs s') s)
    (hs : ∀ x, foldedSetIterable iter env x = pure x := by intro _; rfl) :
    Seg (model prog w) A R Y n s₀ c ((exec (.For target iter body [] pos) env).wrap K H gd lv) fs s := by
  rw [exec_For]
  refine seg_bind_wrap (wpAny_standAt ?_)
  refine seg_bind_wrap (wpAny_mono h (fun x s₁ h₁ => ?_) fun _ _ e => e)
  refine seg_bind_wrap (wpAny_of_eq (hs x) ?_)
  refine seg_bind_wrap (wpAny_standAt ?_)
  refine seg_bind_wrap (wpAny_holding (wpAny_mono h₁ (fun it s₂ h₂ => ?_) fun _ _ e => e))
  exact seg_call h₂

theorem seg_forLoop {target : Expr} {it : Value} {body : List Stmt}
    (h : wpAny (model prog w) (A.over (.forLoop target it body [] env) fs) (pyNext it) (fun r s' => match r with
      | none => Seg (model prog w) A R Y n s₀ (.block [] env) ((model prog w).den (.block [] env)) fs s'
      | some v => wpAny (model prog w) (A.over (.forLoop target it body [] env) fs) (letOwnedTupleGo target it v) (fun _ s1 => wpAny (model prog w) (A.over (.forLoop target it body [] env) fs) (assign target env v) (fun _ s2 =>
          Seg (model prog w) A R Y n s₀ (.forLoop target it body [] env) ((execs body env).wrap (fun f => match f with
            | .next | .cont => .pure (.again (.forLoop target it body [] env))
            | .brk => .pure (.done .next)
            | .ret v => .pure (.done (.ret v))) (fun e => (do noteFrame e env; theTreesLotGoes e : Sem Unit).wrap (fun _ => .raise e) .raise id id) id id) fs s2)
          (fun x s' => Seg (model prog w) A R Y n s₀ (.forLoop target it body [] env) ((do noteFrame x env; theTreesLotGoes x : Sem Unit).wrap (fun _ => .raise x) .raise id id) fs s') s1)
          (fun x s' => Seg (model prog w) A R Y n s₀ (.forLoop target it body [] env) ((do noteFrame x env; theTreesLotGoes x : Sem Unit).wrap (fun _ => .raise x) .raise id id) fs s') s')
      (fun x s' => Seg (model prog w) A R Y n s₀ (.forLoop target it body [] env) ((do noteFrame x env; theTreesLotGoes x : Sem Unit).wrap (fun _ => .raise x) .raise id id) fs s') s) :
    Seg (model prog w) A R Y n s₀ (.forLoop target it body [] env) ((model prog w).den (.forLoop target it body [] env)) fs s := by
  have hH : ∀ x : Value, ((do noteFrame x env; theTreesLotGoes x : Sem Unit) >>= fun _ => (.raise x : Sem Fin)) = (do noteFrame x env; theTreesLotGoes x : Sem Unit).wrap (fun _ => .raise x) .raise id id := fun x => Sem.bind_eq_wrap' _ _
  show Seg _ A R Y n s₀ _ ((forTurn target it body [] env).onRaise (fun x => do noteFrame x env; theTreesLotGoes x)) fs s
  unfold forTurn
  rw [Sem.onRaise_eq_wrap]
  refine seg_bind_wrap (wpAny_standAt ?_)
  refine seg_bind_wrap (wpAny_onRaise (wpAny_mono h (fun r s' hr => ?_) fun x s' e => wpAny_standAt ?_))
  · cases r with
    | none => exact seg_again rfl hr
    | some v =>
      refine seg_bind_wrap (wpAny_mono hr (fun _ s1 h1 => ?_) fun x s' e => ?_)
      · refine seg_bind_wrap (wpAny_mono h1 (fun _ s2 h2 => ?_) fun x s' e => ?_)
        · rw [Sem.bind_eq_wrap', Sem.wrap_wrap]
          rw [Sem.wrap_congr (execs body env) _ _ (K' := fun f => match f with
            | .next | .cont => .pure (.again (.forLoop target it body [] env))
            | .brk => .pure (.done .next)
            | .ret v => .pure (.done (.ret v))) (H' := (fun e => (do noteFrame e env; theTreesLotGoes e : Sem Unit).wrap (fun _ => .raise e) .raise id id))
            (fun f => by cases f <;> rfl) (fun e => by first | exact hH e | rfl)]
          exact h2
        · first | exact e | (rw [← hH] at e; exact e)
      · first | exact e | (rw [← hH] at e; exact e)
  · first | exact e | (rw [← hH] at e; exact e)

theorem seg_block_end (h : ∀ f : Flow, f = .next → Seg (model prog w) A R Y n s₀ c (K f) fs s) {k : Result → Sem Fin} {hn : Option Value} {g : Bool} {l : List Value} {p : Pos} (hk : k (.ok .next) = K .next) :
    Seg (model prog w) A R Y n s₀ (.block [] env) ((model prog w).den (.block [] env)) (.ret k hn g l c p [] :: fs) s := by
  show Seg _ A R Y n s₀ _ (leafOf (.ok .next)) _ s
  refine seg_leaf (.ok .next) ?_
  rw [hk]; exact h _ rfl
end
end Mine
end

/-! text MX1 -/
section
open PySem PySem.Spec PySem.Calls PyProof.Rows
set_option linter.unusedVariables false
set_option maxRecDepth 100000
namespace Mine

/-- what the generator's frame holds at place i -/
structure GFr (L En It : Addr) (T : Str) (t : Tok) (i : Nat) (m : Str → Option Value) (h : Heap) : Prop where
  ns : h.Ns L m
  esc : m (Str.ofString "escape") = some (.bool false)
  en : ∃ old, IsEnum h En It i old
  it : h.IsStrIter It "str_ascii_iterator" T t i

def gItem (T : Str) (i : Nat) (s₀ : Shared) (v : Value) (s : Shared) : Prop :=
  ∃ Tp c t u, T.cps[i]? = some c ∧ v = .ref Tp ∧ s.heap.IsTuple Tp #[.int (i : Nat) t, .str ⟨#[c]⟩ u] ∧ s₀.heap.get? Tp = none
def gProto (L En It : Addr) (T : Str) : Protocol := fun r s₀ v s kap =>
  gItem T (T.cps.size - 1 - r) s₀ v s ∧ GenSince L [En, It] s₀ s ∧ ∀ s'' : Shared, (∀ b ∈ [L, En, It], ∀ o, s.heap.get? b = some o → s''.heap.get? b = some o) → kap (.send .none) s''
def gEnd (L En It : Addr) : GenEnd := fun n s₀ r s₁ => r = .ok (.ret .none) ∧ (n = 0 ∧ GenSince L [En, It] s₀ s₁)

section
variable {C : Cx} {A : Around} {env : Env} {En It : Addr} {T : Str} {t : Tok}

theorem n_name {E : Value → Shared → Prop} {s : Shared} {m : Str → Option Value} {sc : Scope} {x : Str} {p : Pos} {v : Value} {Q : Value → Shared → Prop} (hE : EnvOf env sc) (hn : s.heap.Ns env.locals m) (hx : sc.names.lookup x = some .local) (hm : m x = some v) (h : Q v s) (hd : (x == ("__debug__" : Str)) = false := by decide) :
    wpAny C.M A (eval (.Name x p) env) Q E s :=
  wpAny_Name (wpAny_loadName_local (by rw [hE.scope]; exact hE.kind) (by unfold Env.kindOf; rw [hE.scope]; exact hx) hn hm h) hd

theorem gen_loop (hh : A.handled = none) (hE : EnvOf env S1.1) (hne : En ≠ It) (hLe : env.locals ≠ En) (hLi : env.locals ≠ It) (hT : ∀ c ∈ T.cps.toList, c ≠ 92)
    {kf : Result → Sem PySem.Fin} {l : List Value} {c : Code} {pp : Pos} {Kn : Sem PySem.Fin} (hkf : kf (.ok .next) = Kn) {p1 p2 p3 : Pos} {body : List Stmt} {kt : Nat}
    (hbody : ∃ a b c d e f g h i j k o q, body = [.If (.Name (Str.ofString "escape") a) b [.If (.Compare (.Name (Str.ofString "ch") c) [.Eq] [.Constant (.str (Str.ofString "\\")) 0 d] e) f [.Expr (.Yield (some (.Tuple [.Name (Str.ofString "pos") g, .Name (Str.ofString "ch") h] 0 i)) j) k] o] q])
    (hend : ∀ s₀ s m, s.heap.Ns env.locals m → m (Str.ofString "escape") = some (.bool false) → GenSince env.locals [En, It] s₀ s → Seg C.M A (gEnd env.locals En It) (gProto env.locals En It T) 0 s₀ c Kn [] s) :
    ∀ k i (s₀ s : Shared) m, T.cps.size - i = k → i ≤ T.cps.size → GFr env.locals En It T t i m s.heap → GenSince env.locals [En, It] s₀ s →
      Seg C.M A (gEnd env.locals En It) (gProto env.locals En It T) (T.cps.size - i) s₀ (.forLoop (.Tuple [.Name (Str.ofString "pos") p1, .Name (Str.ofString "ch") p2] kt p3) (.ref En) body [] env)
        (C.M.den (.forLoop (.Tuple [.Name (Str.ofString "pos") p1, .Name (Str.ofString "ch") p2] kt p3) (.ref En) body [] env)) [.ret kf none false l c pp []] s := by
  obtain ⟨a1, b1, c1, d1, e1, f1, g1, h1, i1, j1, k1, o1, q1, rfl⟩ := hbody
  have hk' : env.scope.kind = .function := by rw [hE.scope]; exact hE.kind
  have hloc : ∀ y, S1.1.names.lookup y = some .local → env.kindOf y = some .local := fun y h => by unfold Env.kindOf; rw [hE.scope]; exact h
  have W : ∀ A' : Around, A'.handled = none → WalksT C.prog C.w A' En [En, It] [En, It] T.cps.size _ _ _ := fun A' hA => WalksT.enumerateD (Draws.strAscii (A := A'.in1) hA It T t) En hne (by simpa using hne) (by simp)
  have hover : ∀ c', (A.over c' [.ret kf none false l c pp []]).handled = none := fun c' => hh
  intro k
  induction k with
  | zero =>
    intro i s₀ s m hki hi G hs
    have hin : i = T.cps.size := by lia
    subst hin
    rw [Nat.sub_self]
    refine seg_forLoop ((W _ (hover _)).done s _ _ ⟨G.en, G.it⟩ fun h' tk hk => ?_)
    refine seg_block_end (K := fun _ => Kn) (fun _ _ => ?_) hkf
    refine hend s₀ _ m (G.ns.at' fun o e => hk _ o (by simp [hLe, hLi]) e) G.esc (hs.step fun b o hb hw e => hk b o hw e)
  | succ k ih =>
    intro i s₀ s m hki hi G hs
    have hlt : i < T.cps.size := by lia
    refine seg_forLoop ((W _ (hover _)).item i s _ _ hlt ⟨G.en, G.it⟩ fun Tp vals h' tk hP hTn hTup hMid hk => ?_)
    obtain ⟨u1, x, ⟨cc, u2, hc, rfl⟩, rfl⟩ := hP
    refine (W _ (hover _)).go _ _ _ i Tp _ _ _ hMid fun h2 hst2 hk2 => ?_
    have hTe := (W A hh).apart i Tp _ hMid
    have hT2 : h2.IsTuple Tp #[.int i u1, .str ⟨#[cc]⟩ u2] := by obtain ⟨o, e, r⟩ := hTup; exact ⟨o, hk2 Tp o hTe e, r⟩
    refine wpAny_assign_Tuple (by exact hh) hT2 rfl rfl fun h3 hx3 => ?_
    have up3 : Up h2 h3 := fun b o e => hx3 b o (Nat.ne_of_lt (Heap.lt_size e)) e
    have hn3 : h3.Ns env.locals m := ((G.ns.at' fun o e => hk _ o (by simp [hLe, hLi]) e).at' fun o e => hk2 _ o (by simp [hLe, hLi]) e).keeps up3
    show wpAny C.M _ (do holding [.str ⟨#[cc]⟩ u2] (assign (.Name (Str.ofString "pos") p1) env (.int i u1)); do holding [] (assign (.Name (Str.ofString "ch") p2) env (.str ⟨#[cc]⟩ u2)); pure ()) _ _ _
    refine wpAny_bind (wpAny_holding (wpAny_assign_Name (wpAny_storeName_local (hloc _ rfl) hn3 (fun h4 hn4 hs4 => ?_) (by rw [hk']; rfl))))
    refine wpAny_bind (wpAny_holding (wpAny_assign_Name (wpAny_storeName_local (hloc _ rfl) hn4 (fun h5 hn5 hs5 => wpAny_pure ?_) (by rw [hk']; rfl))))
    -- the body
    refine seg_execs_cons (seg_If (wpAny_isTrue_value (n_name (C := C) hE hn5 rfl G.esc (wpAny_truthy_bool ?_))))
    rw [if_neg (by decide)]
    have hc92 : cc ≠ 92 := hT cc (by rw [Array.getElem?_eq_some_iff] at hc; obtain ⟨hl, e⟩ := hc; rw [← e]; simp)
    have hne92 : ((⟨#[cc]⟩ : Str) == Str.ofString "\\") = false := by
      have e92 : Str.ofString "\\" = ⟨#[92]⟩ := by decide +kernel
      rw [e92]
      simpa using hc92
    refine seg_execs_cons (seg_If (wpAny_isTrue_Compare1 (n_name (C := C) hE hn5 rfl rfl (wpAny_Constant_str (PyProof.Rows.eq_str (wpAny_truthy_bool ?_)))) rfl))
    rw [hne92, if_neg (by decide)]
    obtain ⟨r, hr⟩ : ∃ r, T.cps.size - i = r + 1 := ⟨T.cps.size - i - 1, by lia⟩
    rw [hr]
    refine seg_execs_cons (seg_Expr_Yield rfl rfl rfl (wpAny_Tuple (wpAny_items_cons (n_name (C := C) hE hn5 rfl rfl (wpAny_items_cons (n_name (C := C) hE hn5 rfl rfl (wpAny_items_nil ⟨by simp [sizeLine_eq], fun kap hkap => ?_⟩)) rfl)) rfl)) (by rw [hE.scope]; rfl) (interactive_fn hE))
    have hri : T.cps.size - 1 - r = i := by lia
    have keep5 : ∀ b o, b ≠ env.locals → b ∉ [En, It] → s.heap.get? b = some o → h5.get? b = some o := fun b o hb hw e => hs5.extBut b o hb (hs4.extBut b o hb (up3 b o (hk2 b o hw (hk b o hw e))))
    have hst5 := (W A hh).frame (i + 1) h2 h5 hst2 fun b hb o e => hs5.extBut b o (by rintro rfl; simp [hLe, hLi] at hb) (hs4.extBut b o (by rintro rfl; simp [hLe, hLi] at hb) (up3 b o e))
    have G2 : GFr env.locals En It T t (i + 1) _ h5 := ⟨hn5, G.esc, hst5.1, hst5.2⟩
    have hTp0 : s₀.heap.get? h5.objs.size = none := by
      obtain ⟨hx, tk, e1, e2⟩ := hs
      cases e : s₀.heap.get? h5.objs.size with
      | none => rfl
      | some o =>
        have irr : ∀ a o, h5.get? a = some o → a ≠ h5.objs.size := fun a o e => Nat.ne_of_lt (Heap.lt_size e)
        obtain ⟨oL, _, _, eL, _⟩ := hn5
        obtain ⟨old, eE⟩ := hst5.1
        obtain ⟨oI, eI, _⟩ := hst5.2
        have h1 : h5.objs.size ≠ env.locals := Ne.symm (irr _ _ eL)
        have h2 : h5.objs.size ∉ [En, It] := by simp [Ne.symm (irr _ _ eE), Ne.symm (irr _ _ eI)]
        exact absurd (Heap.lt_size (keep5 _ _ h1 h2 (by rw [e1]; exact e2 _ _ h1 h2 e))) (Nat.lt_irrefl _)
    refine ⟨⟨h5.objs.size, cc, u1, u2, by rw [hri]; exact hc, rfl, by rw [hri]; exact ⟨_, Heap.get?_push_size _ rfl, rfl, _, rfl⟩, hTp0⟩, hs.step fun b o hb hw e => Heap.get?_push_of_some _ (keep5 b o hb hw e), fun s'' hal => hkap .none s'' ?_⟩
    have hrr : r = T.cps.size - (i + 1) := by lia
    subst hrr
    refine seg_again rfl (ih (i + 1) s'' s'' _ (by lia) hlt ⟨hn5.keeps (fun b o e => Heap.get?_push_of_some _ e) |>.at' fun o e => hal _ (by simp) o e, G.esc, ?_, ?_⟩ (GenSince.refl _ _ _))
    · obtain ⟨old, e⟩ := hst5.1
      exact ⟨old, hal _ (by simp) _ (Heap.get?_push_of_some _ e)⟩
    · obtain ⟨o, e, q⟩ := hst5.2
      exact ⟨o, hal _ (by simp) _ (Heap.get?_push_of_some _ e), q⟩

theorem gen_start (H : Gl C) (hh : A.handled = none) (hE : EnvOf env S1.1) (hT : ∀ c ∈ T.cps.toList, c = 40 ∨ c = 41) {s₀ s : Shared} {m : Str → Option Value} (hn : s.heap.Ns env.locals m) (hm : m (Str.ofString "addr") = some (.str T t)) (hIt : s.heap.objs.size = It) (hEn : En = It + 1)
    (hB : Up C.B s.heap) (hBL : C.B.get? env.locals = none) (hs : GenSince env.locals [En, It] s₀ s) :
    Seg C.M A (gEnd env.locals En It) (gProto env.locals En It T) T.cps.size s₀ (.func B1.1 env) (C.M.den (.func B1.1 env)) [] s := by
  have hk' : env.scope.kind = .function := by rw [hE.scope]; exact hE.kind
  have hloc : ∀ y, S1.1.names.lookup y = some .local → env.kindOf y = some .local := fun y h => by unfold Env.kindOf; rw [hE.scope]; exact h
  have hnil : ∀ c', (A.over c' []).handled = none := fun c' => hh
  have hLlt : env.locals < s.heap.objs.size := hn.lt
  subst hEn
  have hLi : env.locals ≠ It := by rw [← hIt]; exact Nat.ne_of_lt hLlt
  have hLe : env.locals ≠ It + 1 := by rw [← hIt]; exact Nat.ne_of_lt (Nat.lt_succ_of_lt hLlt)
  have hne : It + 1 ≠ It := Nat.succ_ne_self _
  refine seg_func ?_
  refine seg_execs_cons (seg_plain (wpAny_Assign_Name (wpAny_Constant_int (wpAny_storeName_local (hloc _ rfl) hn (fun h1 hn1 hs1 => ?_) (by rw [hk']; rfl))) rfl))
  refine seg_execs_cons (seg_plain (wpAny_Assign_Name (wpAny_Constant_bool (wpAny_storeName_local (hloc _ rfl) hn1 (fun h2 hn2 hs2 => ?_) (by rw [hk']; rfl))) rfl))
  have hsz2 : h2.objs.size = It := by rw [hs2.1, hs1.1]; exact hIt
  have k2 : ∀ b o, b ≠ env.locals → s.heap.get? b = some o → h2.get? b = some o := fun b o hb e => hs2.extBut b o hb (hs1.extBut b o hb e)
  have hB2 : Up C.B h2 := fun b o e => k2 b o (by rintro rfl; rw [hBL] at e; cases e) (hB b o e)
  refine seg_execs_cons (seg_For (Call_ (ld_glob H.good H.enumerate hE hB2 rfl ?_ (by decide))))
  refine callWith_type1 (args_cons (n_name (C := C) hE hn2 rfl hm (args_nil ?_)) rfl) rfl rfl
  refine call_enumerate_str fun h3 hen hit hsz3 hk3 => ?_
  dsimp only at hen hit hsz3 hk3 ⊢
  rw [hsz2] at hen hit ⊢
  refine wpAny_pyIter_enum hen fun pp => ?_
  have hasc : strIterType T = "str_ascii_iterator" := by
    have : T.cps.all (· < 128) = true := by
      rw [Array.all_eq_true_iff_forall_mem]
      intro c hc
      rcases hT c (by simpa using hc) with rfl | rfl <;> decide
    unfold strIterType
    rw [this]; rfl
  rw [hasc] at hit
  have h92 : ∀ c ∈ T.cps.toList, c ≠ 92 := fun c hc e => by rcases hT c hc with rfl | rfl <;> cases e
  refine gen_loop (C := C) (A := A) (env := env) (En := It + 1) (It := It) (T := T) (t := t) hh hE hne hLe hLi h92 (c := .func B1.1 env) rfl ⟨_, _, _, _, _, _, _, _, _, _, _, _, _, rfl⟩ (fun s₀' s' m' hn' he' hs' => ?_) T.cps.size 0 s₀ _ _ (Nat.sub_zero _) (Nat.zero_le _) ⟨hn2.keeps hk3, rfl, ⟨_, hen⟩, hit⟩ (hs.step fun b o hb hw e => hk3 b o (k2 b o hb e))
  refine seg_execs_cons (seg_If (wpAny_isTrue_value (n_name (C := C) hE hn' rfl he' (wpAny_truthy_bool ?_))))
  rw [if_neg (by decide)]
  exact seg_execs_nil (seg_end (.ok (.ret .none)) ⟨rfl, rfl, hs'⟩)
end
end Mine
end

/-! text MX2 -/
section
open PySem PySem.Spec PySem.Calls PyProof.Rows
set_option linter.unusedVariables false
set_option maxRecDepth 100000
namespace Mine

def parScan : List Nat → Int → Bool
  | [], o => o == 0
  | c :: cs, o => if c == 40 then parScan cs (o + 1) else if decide (o - 1 < 0) then false else parScan cs (o - 1)
def Paren (T : Str) : Prop := (∀ c ∈ T.cps.toList, c = 40 ∨ c = 41) ∧ T.cps.size ≤ 900

section
variable {C : Cx} {n : Nat}
theorem strip_body (H : Gl C) {T : Str} (hT : Paren T) : RsOK C S2.1 (S2.1.names.map (·.1)) n (some (.str T, false) :: List.replicate 7 none) B2.1 (.str T) := by
  have h34 : (Str.ofString "\"") = ⟨#[34]⟩ := by decide +kernel
  refine rs_if (b := true) (ts_cmp (ml := .any) ev_str (nm_s 0 rfl rfl) fun A E s x y as bs hR ra rb => ?_) (fun _ => rs_ret ((nm_s 0 rfl rfl).atom rfl)) (fun e => by cases e)
  obtain ⟨t, rfl, _⟩ := ra.str_inv
  obtain ⟨u, rfl, _⟩ := rb.str_inv
  refine PyProof.Rows.notIn_str ⟨.refl _, ?_⟩
  rw [h34, StrLaws.found_one]
  have : ¬ 34 ∈ T.cps.toList := fun h => by rcases hT.1 34 h with h | h <;> cases h
  rw [decide_eq_false this]; rfl

theorem bare_set {gens : Array GenState} {g : Nat} {y : GenState} (x : AllBare gens) (hy : y.bare = true) : AllBare (gens.setIfInBounds g y) := fun z hz => by
  obtain ⟨i, hi, rfl⟩ := Array.mem_iff_getElem.mp hz
  rw [Array.getElem_setIfInBounds]
  split
  · exact hy
  · exact x _ (Array.getElem_mem _)
  · simpa using hi
/-- a draw from a generator of the program: whatever it leaves has no cleanup to come -/
theorem next_bare {prog : Program} {w : World} {A : Around} {E : Value → Shared → Prop} {s : Shared} {a : Addr} {g n : Nat} {gs : GenState} {P : Nat → Shared → Shared → Prop} {Y : Protocol} {Q : Option Value → Shared → Prop} (hh : A.handled = none)
    (hl : s.heap.NoLimit) (hroom : A.depth < recursionLimit) (hg : s.heap.IsGen a g) (hgs : s.gens[g]? = some gs)
    (hgo : gs.Goes (model prog w) A.in1 (fun n s₀ r s₁ => r = .ok (.ret .none) ∧ P n s₀ s₁) Y n (.send .none) (s.setGen g .running))
    (hY : ∀ v s₁ gs', gs'.bare = true → Y (n - 1) (s.setGen g .running) v s₁ (fun r' s'' => match n with
        | 0 => False
        | m + 1 => gs'.Goes (model prog w) A.in1 (fun n s₀ r s₁ => r = .ok (.ret .none) ∧ P n s₀ s₁) Y m r' s'') → Q (some v) (s₁.setGen g gs'))
    (hP : ∀ s₁, P n (s.setGen g .running) s₁ → ∀ h', (∀ b o, s₁.heap.get? b = some o → h'.get? b = some o) → Q none { s₁.setGen g .finished with heap := h' }) :
    wpAny (model prog w) A (pyNext (.ref a)) Q E s := by
  unfold pyNext
  refine wpAny_bind (wpAny_attempt (wpAny_callSpecial?_slot (name := Str.ofString "__next__") hg.typeIs slot_gen_next (wpAny_call_entry slot_gen_next hg.typeIs entry_gen_next ?_ (args_gen_next _))))
  show wpAny _ _ (Builtin.Generator.genWake (.ref a) (.send .none)) _ _ s
  unfold Builtin.Generator.genWake
  refine wpAny_bind (wpAny_holding (wpAny_genNumber hg (wpAny_bind (wpAny_genState hgs ?_))))
  rcases gs with c | ⟨k₀, l₀, c₀, p₀, fs₀, cl⟩ | _ | _
  rotate_left 2
  · exact hgo.elim
  · exact hgo.elim
  all_goals
    refine wpAny_bind (wpAny_roomToWake hl hroom (wpAny_resumeQ hgs hgo (fun x s₁ hx => ?_) fun v s₁ gs' hb hv => wpAny_pure ⟨v, rfl, wpAny_pure (hY v s₁ gs' hb hv)⟩))
    obtain ⟨rfl, hp⟩ := hx
    refine wpAny_bind (m := newExc (.type "StopIteration") []) ?_
    simp only [newExc, newTuple]
    refine wpAny_bind (wpAny_newObj_type ?_ (by size_fits))
    refine wpAny_bind (m := firstArgMember _ _) (wpAny_of_eq (a := Value.none) (by first | rfl | (simp only [firstArgMember]; rfl)) (wpAny_newObj_type ?_ (by size_fits)))
    simp only [raiseNew]
    refine wpAny_bind (wpAny_bind (wpAny_handled ?_))
    rw [show A.in1.handled = none from hh]
    refine wpAny_throw (wpAny_bind ?_)
    refine wpAny_isInstance (T := "StopIteration") (b := true) ⟨_, Heap.get?_push_size _ rfl, rfl⟩ isSubtype_stop (wpAny_pure ?_)
    exact hP s₁ hp _ fun b o hb => Heap.get?_push_of_some _ (Heap.get?_push_of_some _ hb)

theorem letGo_gen {prog : Program} {w : World} {A : Around} {E : Value → Shared → Prop} {s : Shared} {elts : List Expr} {k : Nat} {pos : Pos} {a Tp : Addr} {g : Nat} {Q : Unit → Shared → Prop} (hg : s.heap.IsGen a g) (h : Q () s) :
    wpAny (model prog w) A (letOwnedTupleGo (.Tuple elts k pos) (.ref a) (.ref Tp)) Q E s := by
  obtain ⟨o, nm, qn, ho, hc, hd, _⟩ := hg
  unfold letOwnedTupleGo
  refine wpAny_bind (wpAny_load ho ?_)
  rw [hc, hd]
  exact wpAny_pure h

/-- the generator, between two turns of the loop that draws from it -/
structure GAt (C : Cx) (A : Around) (a L En It : Addr) (g : Nat) (T : Str) (i : Nat) (s : Shared) : Prop where
  gen : s.heap.IsGen a g
  lim : s.heap.NoLimit
  go : ∃ gs, s.gens[g]? = some gs ∧ ∀ s'' : Shared, (∀ b ∈ [L, En, It], ∀ o, s.heap.get? b = some o → s''.heap.get? b = some o) → (i = 0 → s''.heap.objs.size = It ∧ Up C.B s''.heap) →
    gs.Goes C.M A.in1 (gEnd L En It) (gProto L En It T) (T.cps.size - i) (.send .none) s''
  sz : i = 0 → s.heap.objs.size = It ∧ Up C.B s.heap

section
variable {A : Around} {E : Value → Shared → Prop} {s : Shared} {a L En It : Addr} {g i : Nat} {T : Str}
/-- the statics are not the generator's -/
theorem GAt.item (hh : A.handled = none) (hroom : A.depth < recursionLimit) (G : GAt C A a L En It g T i s) (hi : i < T.cps.size) (ha : a ∉ [L, En, It]) (hcs : cStatics ∉ [L, En, It]) {Q : Option Value → Shared → Prop}
    (h : ∀ v s', gItem T i s v s' → GAt C A a L En It g T (i + 1) s' → Sh s s' → (∀ b o, b ∉ [L, En, It] → s.heap.get? b = some o → s'.heap.get? b = some o) → Q (some v) s') : wpAny C.M A (pyNext (.ref a)) Q E s := by
  obtain ⟨hg, hl, ⟨gs, hgs, hgo⟩, hsz⟩ := G
  obtain ⟨r, hr⟩ : ∃ r, T.cps.size - i = r + 1 := ⟨T.cps.size - i - 1, by lia⟩
  rw [hr] at hgo
  refine next_bare (P := fun n s₀ s₁ => n = 0 ∧ GenSince L [En, It] s₀ s₁) hh hl hroom hg hgs (hgo _ (fun _ _ _ e => e) hsz) (fun v s₁ gs' hb hv => ?_) (fun s₁ hp h' hk => ?_)
  · obtain ⟨hit, hsince, hkap⟩ := hv
    have hidx : T.cps.size - 1 - (r + 1 - 1) = i := by lia
    rw [hidx] at hit
    obtain ⟨h₁, tk₁, rfl, hk₁⟩ := hsince
    have kk : ∀ b o, b ∉ [L, En, It] → s.heap.get? b = some o → h₁.get? b = some o := fun b o hb e => hk₁ b o (fun q => hb (by rw [q]; exact List.mem_cons_self ..)) (fun q => hb (List.mem_cons_of_mem _ q)) e
    refine h v _ hit ⟨?_, ?_, ⟨gs', setGen_self (gs := .running) (setGen_self hgs), fun s'' hal _ => ?_⟩, fun e => by lia⟩ ⟨h₁, tk₁, _, rfl, fun x => bare_set (bare_set x rfl) hb⟩ kk
    · obtain ⟨o, nm, qn, ho, q⟩ := hg; exact ⟨o, nm, qn, kk a o ha ho, q⟩
    · obtain ⟨mc, hns, hnn⟩ := hl; exact ⟨mc, hns.at' fun o e => kk cStatics o hcs e, hnn⟩
    · have e : T.cps.size - (i + 1) = r := by lia
      rw [e]
      exact hkap s'' hal
  · exact absurd hp.1 (Nat.succ_ne_zero r)
theorem GAt.stop (hh : A.handled = none) (hroom : A.depth < recursionLimit) (G : GAt C A a L En It g T T.cps.size s) {Q : Option Value → Shared → Prop}
    (h : ∀ s', Sh s s' → (∀ b o, b ∉ [L, En, It] → s.heap.get? b = some o → s'.heap.get? b = some o) → Q none s') : wpAny C.M A (pyNext (.ref a)) Q E s := by
  obtain ⟨hg, hl, ⟨gs, hgs, hgo⟩, hsz⟩ := G
  rw [Nat.sub_self] at hgo
  refine next_bare (P := fun n s₀ s₁ => n = 0 ∧ GenSince L [En, It] s₀ s₁) hh hl hroom hg hgs (hgo _ (fun _ _ _ e => e) hsz) (fun v s₁ gs' _ hv => ?_) (fun s₁ hp h' hk => ?_)
  · obtain ⟨_, _, hkap⟩ := hv
    exact (hkap s₁ fun _ _ _ e => e).elim
  · obtain ⟨_, h₁, tk₁, rfl, hk₁⟩ := hp
    exact h _ ⟨h', tk₁, _, rfl, fun x => bare_set (bare_set x rfl) rfl⟩ fun b o hb e => hk b o (hk₁ b o (fun q => hb (by rw [q]; exact List.mem_cons_self ..)) (fun q => hb (List.mem_cons_of_mem _ q)) e)
theorem GAt.keep (G : GAt C A a L En It g T i s) {s' : Shared} (hi : i ≠ 0) (hgs : s'.gens = s.gens) (ha : ∀ b ∈ [a, cStatics, L, En, It], ∀ o, s.heap.get? b = some o → s'.heap.get? b = some o) : GAt C A a L En It g T i s' := by
  obtain ⟨hg, hl, ⟨gs, hgs', hgo⟩, hsz⟩ := G
  refine ⟨?_, ?_, ⟨gs, by rw [hgs]; exact hgs', fun s'' hal h0 => hgo s'' (fun b hb o e => hal b hb o (ha b (List.mem_cons_of_mem _ (List.mem_cons_of_mem _ hb)) o e)) h0⟩, fun e => absurd e hi⟩
  · obtain ⟨o, nm, qn, ho, q⟩ := hg; exact ⟨o, nm, qn, ha a (by simp) o ho, q⟩
  · obtain ⟨mc, hns, hnn⟩ := hl; exact ⟨mc, hns.at' fun o e => ha cStatics (by simp) o e, hnn⟩
end

/-- the loop of _check_parenthesis -/
inductive ChkInv (C : Cx) (A : Around) (T : Str) (s : Shared) (env : Env) (a L En It : Addr) (g : Nat) (k : Nat) (s' : Shared) : Prop
  | mk (i : Nat) (m' : Str → Option Value) (o : Int) (u : Tok) (hk : k = T.cps.size + 1 - i) (hi : i ≤ T.cps.size) (sh : Sh s s') (ns : s'.heap.Ns env.locals m') (ho : m' (Str.ofString "opens") = some (.int o u)) (hp : parScan T.cps.toList 0 = parScan (T.cps.toList.drop i) o)
      (keep : ∀ b ob, b ≠ env.locals → s.heap.get? b = some ob → s'.heap.get? b = some ob) (ga : GAt C A a L En It g T i s') : ChkInv C A T s env a L En It g k s'
theorem check_rest (H : Gl C) {T : Str} (hT : Paren T) : RsOK C S3.1 (S3.1.names.map (·.1)) n [some (.str T, false), some (.int 0, false), none, none, none, none] B3.1.tail.tail (.bool (parScan T.cps.toList 0)) := by
  intro A E s env Kp V Fp hR hE S
  have hk : env.scope.kind = .function := by rw [hE.scope]; exact hE.kind
  have hloc : ∀ y, S3.1.names.lookup y = some .local → env.kindOf y = some .local := fun y h => by unfold Env.kindOf; rw [hE.scope]; exact h
  have hroom : A.depth < recursionLimit := by have := hR.depth; have e : recursionLimit = 1000 := rfl; lia
  -- what the names hold
  obtain ⟨t, hV0, _⟩ := (S.reads 0 _ rfl).str_inv
  obtain ⟨t1, hV1, _⟩ := (S.reads 1 _ rfl).int_inv
  obtain ⟨mL, hns, hm0⟩ : ∃ mL, s.heap.Ns env.locals mL ∧ mL (Str.ofString "addr") = some (.str T t) := by
    rcases S.loads 0 (Str.ofString "addr") _ rfl rfl with ⟨_, mL, h, q⟩ | ⟨q, _⟩
    · exact ⟨mL, h, by rw [q, hV0]⟩
    · rw [hloc _ rfl] at q; rcases q with q | q <;> cases q
  have hm1 : mL (Str.ofString "opens") = some (.int 0 t1) := by
    rcases S.loads 1 (Str.ofString "opens") _ rfl rfl with ⟨_, mL', h, q⟩ | ⟨q, _⟩
    · rw [hns.agree h, q, hV1]
    · rw [hloc _ rfl] at q; rcases q with q | q <;> cases q
  obtain ⟨f, c, P, o, pm, doc, h1, h2, h3, h4, _⟩ := H.at (k := 1) (by decide)
  have hn : (fnRec 1).name = Str.ofString "_iter_escaped_chars" := N1.2
  rw [hn] at h1
  have hB := S.baseUp
  have hLlt : env.locals < s.heap.objs.size := hns.lt
  refine wpAny_execs_cons (wpAny_For (Call_ (ld_glob H.good (.inl h1) hE hB rfl ?_ (by decide))) (fun _ => rfl))
  refine callWith_def h3 (args_cons (n_name (C := C) hE hns rfl hm0 (args_nil ⟨hB _ _ h2, ?_⟩)) rfl) rfl
  have hbind : bindArgs (docDef (fnRec 1).name (fnRec 1).params (fnRec 1).body (fnRec 1).scope pm (.ref c) doc) ⟨[.str T t], []⟩ = pure ([Str.ofString "addr"].zip [.str T t]) := by rw [P1.2]; rfl
  have hk1 : (fnRec 1).scope.kind = .function := by rw [S1.2]; rfl
  have hloc1 : (fnRec 1).scope.names.lookup (Str.ofString "addr") = some .local := by rw [S1.2]; rfl
  refine wpAny_call (codeAny_call_generator (fd := docDef (fnRec 1).name (fnRec 1).params (fnRec 1).body (fnRec 1).scope pm (.ref c) doc) (body := (fnRec 1).body) hroom (hB _ _ h2) h3 (by rw [S1.2]; rfl) (by rw [S1.2]; rfl) rfl (h4.keeps hB) ?_)
  rw [hbind]
  refine wpAny_pure (wpAny_newFunctionEnv_cells hk1 (fun p hp => ?_) fun envG he s₁ x => ?_)
  · simp only [List.zip_cons_cons, List.zip_nil_right, List.mem_singleton] at hp
    subst hp; exact .inl hloc1
  have hLg : envG.locals = s.heap.objs.size := by subst he; rfl
  have hEG : EnvOf envG S1.1 := by subst he; exact ⟨S1.2, by rw [← S1.2]; exact hk1, rfl, rfl⟩
  have hmG : bindL envG.kindOf ([Str.ofString "addr"].zip [.str T t]) (fun _ => none) (Str.ofString "addr") = some (.str T t) := bindL_at [Str.ofString "addr"] [.str T t] _ 0 (by simp) rfl rfl (by unfold Env.kindOf; rw [hEG.scope, ← S1.2]; exact hloc1)
  have hB1 : Up C.B s₁.heap := fun b o e => x.toInCall.keep b o (hB b o e)
  have hnG := x.toInCall.ns
  refine ⟨H.good.lim.keeps hB1, ?_⟩
  have hLgLt : s.heap.objs.size < s₁.heap.objs.size := by rw [← hLg]; exact hnG.lt
  have shA : Sh s s₁ := let ⟨h', tk, e⟩ := x.toInCall.same; ⟨h', tk, s.gens, e, id⟩
  have keep1 := x.toInCall.keep
  clear x he
  have h40 : (Str.ofString "(") = ⟨#[40]⟩ := by decide +kernel
  have h41 : (Str.ofString ")") = ⟨#[41]⟩ := by decide +kernel
  generalize ha : s₁.heap.objs.size = a at *
  have hIG : ∀ v1 v2 : Value, (s₁.heap.push { cls := .type "generator", data := .fields #[.int s₁.gens.size 0, v1, v2] }).IsGen a s₁.gens.size := fun v1 v2 => ⟨_, _, _, by rw [← ha]; exact Heap.get?_push_size _ rfl, rfl, rfl, rfl⟩
  have upG : ∀ v1 v2 : Value, Up s₁.heap (s₁.heap.push { cls := .type "generator", data := .fields #[.int s₁.gens.size 0, v1, v2] }) := fun _ _ => .push _ _
  have szG : ∀ v1 v2 : Value, (s₁.heap.push { cls := .type "generator", data := .fields #[.int s₁.gens.size 0, v1, v2] }).objs.size = a + 1 := fun _ _ => by rw [← ha]; exact Heap.size_push ..
  dsimp only [docDef]
  refine wpAny_pyIter_gen (hIG _ _) ?_
  have hIG' := hIG (.str (fnRec 1).name s₁.toks) (.str (fnRec 1).name (s₁.toks + 1))
  have upG' := upG (.str (fnRec 1).name s₁.toks) (.str (fnRec 1).name (s₁.toks + 1))
  have szG' := szG (.str (fnRec 1).name s₁.toks) (.str (fnRec 1).name (s₁.toks + 1))
  clear hIG upG szG
  generalize s₁.heap.push { cls := .type "generator", data := .fields #[.int s₁.gens.size 0, .str (fnRec 1).name s₁.toks, .str (fnRec 1).name (s₁.toks + 1)] } = H3 at *
  have hB3 : Up C.B H3 := fun b o e => upG' b o (hB1 b o e)
  have notin : ∀ b, b < s.heap.objs.size → b ∉ [envG.locals, a + 1 + 1, a + 1] := fun b hb hm => by
    simp only [List.mem_cons, List.not_mem_nil, or_false] at hm
    have hb' : @LT.lt Nat _ b s.heap.objs.size := hb
    have hL' : @LT.lt Nat _ s.heap.objs.size a := hLgLt
    rcases hm with q | q | q
    · rw [q, hLg] at hb'; lia
    · rw [q] at hb'; lia
    · rw [q] at hb'; lia
  have haN : a ∉ [envG.locals, a + 1 + 1, a + 1] := fun hm => by
    simp only [List.mem_cons, List.not_mem_nil, or_false] at hm
    have hL' : @LT.lt Nat _ s.heap.objs.size a := hLgLt
    rcases hm with q | q | q
    · rw [hLg] at q; lia
    · lia
    · lia
  have hcs : ∃ o, s.heap.get? cStatics = some o := by
    obtain ⟨mc, ⟨o, _, _, e, _⟩, _⟩ := H.good.lim
    exact ⟨o, hB _ _ e⟩
  have hcsN := notin cStatics (let ⟨o, e⟩ := hcs; Heap.lt_size e)
  have hcL : cStatics ≠ env.locals := by
    rintro q
    obtain ⟨mc, ⟨o, _, _, e, _⟩, _⟩ := H.good.lim
    have := S.base _ _ e
    rw [q, S.nsNew] at this; cases this
  have hBL : C.B.get? envG.locals = none := by
    cases e : C.B.get? envG.locals with
    | none => rfl
    | some o => exact absurd (Heap.lt_size (hB _ _ e)) (by rw [hLg]; exact Nat.lt_irrefl _)
  have hLN := notin env.locals hLlt
  have hGa : @Ne Nat a env.locals := fun q => by
    have h1 : @LT.lt Nat _ env.locals s.heap.objs.size := hLlt
    have h2 : @LT.lt Nat _ s.heap.objs.size a := hLgLt
    lia
  have hGG : ∀ b ∈ [envG.locals, a + 1 + 1, a + 1], b ≠ env.locals := fun b hb q => hLN (q ▸ hb)
  refine codeAny_forLoop_any (ChkInv C A T s env a envG.locals (a + 1 + 1) (a + 1) s₁.gens.size) ?_ (T.cps.size + 1)
    ⟨0, mL, 0, t1, rfl, Nat.zero_le _, shA.trans ⟨H3, s₁.toks + 1 + 1, _, rfl, fun x => x.push rfl⟩, (hns.keeps keep1).keeps upG', hm1, by simp, fun b ob _ e => upG' _ _ (keep1 _ _ e), hIG', (H.good.lim.keeps hB3), ⟨_, Array.getElem?_push_size .., fun s'' hal h0 => ⟨rfl, ?_⟩⟩, fun _ => ⟨szG', hB3⟩⟩
  · rintro k s₂ ⟨i, m', o, u, rfl, hi, sh2, hn2, ho2, hp2, keep2, G2⟩
    by_cases hlt : i < T.cps.size
    · refine G2.item hR.hh hroom hlt haN hcsN fun v s₃ hit G3 sh3 keep3 => ?_
      obtain ⟨Tp, cc, u1, u2, hc, rfl, hTup, hTn⟩ := hit
      refine letGo_gen G3.gen ?_
      refine wpAny_assign_Tuple hR.hh hTup rfl rfl fun h4' hx4 => ?_
      have up4 : Up s₃.heap h4' := fun b o e => hx4 b o (Nat.ne_of_lt (Heap.lt_size e)) e
      have hn3 : s₃.heap.Ns env.locals m' := hn2.at' fun ob e => keep3 _ ob hLN e
      have hn4 := hn3.keeps up4
      show wpAny C.M _ (do holding [.str ⟨#[cc]⟩ u2] (assign (.Name (Str.ofString "pos") _) env (.int i u1)); do holding [] (assign (.Name (Str.ofString "ch") _) env (.str ⟨#[cc]⟩ u2)); pure ()) _ _ _
      refine wpAny_bind (wpAny_holding (wpAny_assign_Name (wpAny_storeName_local (hloc _ rfl) hn4 (fun h5 hn5 hs5 => ?_) (by rw [hk]; rfl))))
      refine wpAny_bind (wpAny_holding (wpAny_assign_Name (wpAny_storeName_local (hloc _ rfl) hn5 (fun h6 hn6 hs6 => wpAny_pure ?_) (by rw [hk]; rfl))))
      have k6 : ∀ b ob, b ≠ env.locals → s₃.heap.get? b = some ob → h6.get? b = some ob := fun b ob hb e => hs6.extBut b ob hb (hs5.extBut b ob hb (up4 _ _ e))
      have keepS : ∀ b ob, b ≠ env.locals → s.heap.get? b = some ob → h6.get? b = some ob := fun b ob hb e => k6 b ob hb (keep3 b ob (notin b (Heap.lt_size e)) (keep2 b ob hb e))
      have own5 : ∀ b ∈ [a, cStatics, envG.locals, a + 1 + 1, a + 1], b ≠ env.locals := fun b hb => by
        rcases List.mem_cons.mp hb with rfl | hb
        · exact hGa
        · rcases List.mem_cons.mp hb with rfl | hb
          · exact hcL
          · exact hGG b hb
      have hdrop : T.cps.toList.drop i = cc :: T.cps.toList.drop (i + 1) := by
        rw [List.drop_eq_getElem_cons (by simpa using hlt)]
        congr 1
        rw [Array.getElem?_eq_getElem hlt] at hc
        simpa using hc
      have fin : ∀ (s₇ : Shared) (h7 : Heap) (o' : Int) (u' : Tok) (m7 : Str → Option Value), Sh s s₇ → s₇.heap = h7 → s₇.gens = s₃.gens → h7.Ns env.locals m7 → m7 (Str.ofString "opens") = some (.int o' u') → parScan (cc :: T.cps.toList.drop (i + 1)) o = parScan (T.cps.toList.drop (i + 1)) o' → Heap.SameBut env.locals h6 h7 →
          ∃ m, m < T.cps.size + 1 - i ∧ ChkInv C A T s env a envG.locals (a + 1 + 1) (a + 1) s₁.gens.size m s₇ := by
        rintro s₇ h7 o' u' m7 sh7 rfl hg7 hn7 ho7 hp7 hs7
        refine ⟨T.cps.size + 1 - (i + 1), by lia, i + 1, m7, o', u', rfl, hlt, sh7, hn7, ho7, by rw [hp2, hdrop, hp7], fun b ob hb e => hs7.extBut b ob hb (keepS b ob hb e), ?_⟩
        exact G3.keep (Nat.succ_ne_zero i) hg7 fun b hb ob e => hs7.extBut b ob (own5 b hb) (k6 b ob (own5 b hb) e)
      have sh23 := sh2.trans sh3
      refine wpAny_execs_cons (wpAny_If (wpAny_isTrue_Compare1 (n_name (C := C) hE hn6 rfl rfl (wpAny_Constant_str (PyProof.Rows.eq_str (wpAny_truthy_bool ?_)))) rfl))
      rcases hT.1 cc (by rw [Array.getElem?_eq_some_iff] at hc; obtain ⟨hl, e⟩ := hc; rw [← e]; simp) with rfl | rfl
      · rw [h40, show ((⟨#[40]⟩ : Str) == ⟨#[40]⟩) = true from by decide, if_pos rfl]
        refine wpAny_execs_cons (wpAny_AugAssign_Name (wpAny_loadName_local hk (hloc _ rfl) hn6 ho2 (wpAny_Constant_int (wpAny_iadd_int (wpAny_storeName_local (hloc _ rfl) hn6 (fun h7 hn7 hs7 => wpAny_execs_nil (wpAny_execs_nil ?_)) (by rw [hk]; rfl))))))
        exact fin _ h7 (o + 1) _ _ (sh23.trans ⟨h7, _, s₃.gens, rfl, id⟩) rfl rfl hn7 rfl rfl hs7
      · rw [h40, show ((⟨#[41]⟩ : Str) == ⟨#[40]⟩) = false from by decide, if_neg (by decide)]
        refine wpAny_execs_cons (wpAny_If (wpAny_isTrue_Compare1 (n_name (C := C) hE hn6 rfl rfl (wpAny_Constant_str (PyProof.Rows.eq_str (wpAny_truthy_bool ?_)))) rfl))
        rw [h41, show ((⟨#[41]⟩ : Str) == ⟨#[41]⟩) = true from by decide, if_pos rfl]
        refine wpAny_execs_cons (wpAny_AugAssign_Name (wpAny_loadName_local hk (hloc _ rfl) hn6 ho2 (wpAny_Constant_int (PySem.P.isub_int (wpAny_storeName_local (hloc _ rfl) hn6 (fun h7 hn7 hs7 => ?_) (by rw [hk]; rfl))))))
        refine wpAny_execs_cons (wpAny_If (wpAny_isTrue_Compare1 (n_name (C := C) hE hn7 rfl rfl (wpAny_Constant_int (wpAny_lt_int (wpAny_truthy_bool ?_)))) rfl))
        by_cases hneg : o - 1 < 0
        · rw [decide_eq_true hneg, if_pos rfl]
          refine wpAny_execs_cons (wpAny_Return_some (wpAny_Constant_bool ?_))
          have hpf : parScan T.cps.toList 0 = false := by
            rw [hp2, hdrop]
            show (if (41 : Nat) == 40 then _ else if decide (o - 1 < 0) then false else _) = false
            rw [decide_eq_true hneg]; rfl
          refine ⟨sh23.trans ⟨h7, _, s₃.gens, rfl, id⟩, fun b ob e => ?_, _, [], rfl, by rw [hpf]; exact .bool _, fun _ h => by cases h⟩
          have hbL : b ≠ env.locals := by rintro rfl; rw [S.nsNew] at e; cases e
          exact hs7.extBut b ob hbL (keepS b ob hbL (S.keep b ob e))
        · rw [decide_eq_false hneg, if_neg (by decide)]
          refine wpAny_execs_nil (wpAny_execs_nil (wpAny_execs_nil (wpAny_execs_nil ?_)))
          refine fin _ h7 (o - 1) _ _ (sh23.trans ⟨h7, _, s₃.gens, rfl, id⟩) rfl rfl hn7 rfl ?_ hs7
          show (if (41 : Nat) == 40 then _ else if decide (o - 1 < 0) then false else _) = _
          rw [decide_eq_false hneg]; rfl
    · have hin : i = T.cps.size := by lia
      subst hin
      refine G2.stop hR.hh hroom fun s₃ sh3 keep3 => wpAny_execs_nil ?_
      have hn3 : s₃.heap.Ns env.locals m' := hn2.at' fun ob e => keep3 _ ob hLN e
      refine wpAny_execs_cons (wpAny_Return_some (wpAny_Compare1 (n_name (C := C) hE hn3 rfl ho2 (wpAny_Constant_int (PyProof.Rows.eq_int ?_))) rfl))
      have hp3 : parScan T.cps.toList 0 = (o == 0) := by
        rw [hp2, List.drop_of_length_le (by simp)]; rfl
      refine ⟨(sh2.trans sh3).trans ⟨s₃.heap, s₃.toks + 1, s₃.gens, rfl, id⟩, fun b ob e => ?_, _, [], rfl, ?_, fun _ h => by cases h⟩
      · have hbL : b ≠ env.locals := by rintro rfl; rw [S.nsNew] at e; cases e
        have hbs := S.keep b ob e
        exact keep3 b ob (notin b (Heap.lt_size hbs)) (keep2 b ob hbL hbs)
      · rw [hp3]; exact .bool _
  · rw [show (fnRec 1).body = B1.1 from B1.2]
    obtain ⟨h0a, h0b⟩ := h0 rfl
    have hLal := hal envG.locals (List.mem_cons_self ..)
    refine gen_start (A := A.in1) (t := t) H hR.hh hEG hT.1 ((hnG.keeps upG').at' fun ob e => hLal ob e) hmG h0a rfl h0b hBL (GenSince.refl _ _ _)
end
end Mine
end

/-! text MR4 -/
section
open PySem PySem.Spec PySem.Calls PyProof.Rows
set_option linter.unusedVariables false
set_option maxRecDepth 100000
namespace Mine
section
variable {C : Cx} {n : Nat}

/-! _law_ring -/
def ringTake (free opened : List Int) : List Int → List Int × List Int
  | [] => (free, opened)
  | d :: ds => ringTake (free.eraseIdx (d.fmod free.length).toNat) (opened ++ [free.getD (d.fmod free.length).toNat 0]) ds
theorem ringTake_snoc : ∀ (ds : List Int) (f o : List Int) (d : Int), ringTake f o (ds ++ [d]) = ((ringTake f o ds).1.eraseIdx (d.fmod (ringTake f o ds).1.length).toNat, (ringTake f o ds).2 ++ [(ringTake f o ds).1.getD (d.fmod (ringTake f o ds).1.length).toNat 0])
  | [], f, o, d => rfl
  | e :: ds, f, o, d => ringTake_snoc ds _ _ d
def ringAt (draws : List Int) (i : Nat) : List Int × List Int := ringTake ((List.range 11).map fun (i : Nat) => (0 : Int) + i * 1) [] (draws.take i)
def shownAt (draws : List Int) (p : Nat) : Int := (draws.getD (p % 5) 0).fdiv 11 + p
def octetAt (draws : List Int) (p : Nat) : Int := if (ringAt draws 5).2.any (· == (p : Int)) then 65 + (shownAt draws p).fmod 63 else (shownAt draws p).fmod 64
def ringOct (draws : List Int) (p : Nat) : Int := octetAt draws p + 128 * ((shownAt draws p).fdiv 64).fmod 2
def ringOf (draws : List Int) : List Int := (List.range 11).map (ringOct draws)

theorem ringAt_succ {draws : List Int} {i : Nat} (h : i < draws.length) : ringAt draws (i + 1) = ((ringAt draws i).1.eraseIdx ((draws.getD i 0).fmod (ringAt draws i).1.length).toNat, (ringAt draws i).2 ++ [(ringAt draws i).1.getD ((draws.getD i 0).fmod (ringAt draws i).1.length).toNat 0]) := by
  have e : draws.take (i + 1) = draws.take i ++ [draws.getD i 0] := by
    rw [List.take_succ, List.getElem?_eq_getElem h, List.getD_eq_getElem?_getD, List.getElem?_eq_getElem h]; rfl
  unfold ringAt
  rw [e, ringTake_snoc]
theorem ringAt_len {draws : List Int} : ∀ i, i ≤ draws.length → i ≤ 11 → (ringAt draws i).1.length = 11 - i ∧ (ringAt draws i).2.length = i
  | 0, _, _ => by simp [ringAt, ringTake]
  | i + 1, h1, h2 => by
    obtain ⟨a, b⟩ := ringAt_len (draws := draws) i (by lia) (by lia)
    rw [ringAt_succ (by lia)]
    have := fmod_bd (a := draws.getD i 0) (k := (ringAt draws i).1.length) (by lia)
    refine ⟨?_, by simp [b]⟩
    dsimp only
    rw [List.length_eraseIdx, if_pos (by lia)]
    lia

theorem ring_body (H : Gl C) {draws : List Int} (hl : draws.length = 5) : RsOK C S4.1 (S4.1.names.map (·.1)) n (some (zl draws, false) :: List.replicate 10 none) B4.1 (zl (ringOf draws)) := by
  have hn : (S4.1.names.map (·.1)).Nodup := by decide +kernel
  refine rs_cons (sx_tup3 (k := 1) (j := 2) (i := 3) (d₁ := .list (rangeItems 0 1 11)) (d₂ := .list []) (d₃ := .list [])
    (evs_cons (ev_list_range (k := 11) H.good H.list rfl H.range rfl x_int (by decide) (by decide) rfl (by decide)) (evs_cons ev_nil (evs_cons ev_nil evs_nil)))
    rfl rfl rfl hn (.inl rfl) (.inl rfl) (.inl rfl) (swap_ok fun _ _ _ _ _ _ _ _ env e => by subst e; first | exact .inl rfl | exact .inr rfl) rfl rfl) ?_
  refine rs_cons (sx_forE (fun i => [some (zl draws, false), some (zl (ringAt draws i).1, true), some (zl (ringAt draws i).2, true), some (zl [], true), none, none, none, none, none, none, none])
    (for_ints (k := 4) (nm_s 0 rfl rfl) (.inl rfl) rfl hn (.inl rfl)) ?_ (fun _ _ => trivial) rfl fun i hi => ?_) ?_
  · repeat first | exact Weak.nil | apply Weak.same | apply Weak.none
  · obtain ⟨l1, l2⟩ := ringAt_len (draws := draws) i (by lia) (by lia)
    have bd := fmod_bd (a := draws.getD i 0) (k := (ringAt draws i).1.length) (by lia)
    refine SsOK.weak' (sx_ss (sx_append_pop (k := 1) (j := 2) (t := ((draws.getD i 0).fmod (ringAt draws i).1.length).toNat) (x_mod (nm_s 4 rfl rfl) (x_len H rfl (nm_m 1 rfl rfl) (by simp; lia)) (by simp only [List.length_map]; lia)) rfl rfl rfl rfl (by decide) (by simp; lia) (by simp; lia)
      (by simp only [List.length_map]; exact seq_nn bd.1 bd.2) (zl_at (by lia)) rfl)) ?_
    rw [ringAt_succ hi]
    simp only [zl, List.map_append, map_erase]
    repeat first | exact Weak.nil | apply Weak.same | apply Weak.none
  rw [hl]
  refine rs_cons (sx_forE (fun i => [some (zl draws, false), some (zl (ringAt draws 5).1, true), some (zl (ringAt draws 5).2, true), some (zl ((List.range i).map (ringOct draws)), true), none, none, none, none, none, none, none])
    (for_range (k := 5) (K := 11) H.good H.range rfl x_int (by decide) (by decide) rfl rfl hn (.inl rfl)) ?_ (fun _ _ => trivial) rfl fun i hi => ?_) ?_
  · repeat first | exact Weak.nil | apply Weak.same | apply Weak.none
  · obtain ⟨l1, l2⟩ := ringAt_len (draws := draws) 5 (by lia) (by lia)
    have bd : 0 ≤ (i : Int).fmod 5 ∧ (i : Int).fmod 5 < 5 := fmod_bd (a := (i : Int)) (k := 5) (by lia)
    have e5 : ((i : Int).fmod 5).toNat = i % 5 := by rw [Int.fmod_eq_emod_of_nonneg _ (by lia)]; lia
    refine SsOK.weak' (ss_cons (sx_at (k := 6) (d := .int (shownAt draws i)) (x_add (x_div (x_idx (j := i % 5) (nm_s 0 rfl rfl) (x_mod (nm_s 5 rfl rfl) x_int) (by lia) (by rw [seq_nn bd.1 (by lia), e5]) (by rw [List.getD_eq_getElem?_getD, List.getElem?_eq_getElem (by lia)]; rfl)) x_int) (nm_s 5 rfl rfl)) rfl rfl hn (.inl rfl))
      (ss_cons (sx_at (k := 7) (d := .int (octetAt draws i)) (md := .any) (ev_if (ts_cmp (nm_s 5 rfl rfl) (nm_m 2 rfl rfl) cmp_in) (fun hc => ?_) (fun hc => ?_)) rfl rfl hn (.inl rfl))
      (ss_cons (sx_append (k := 3) (d := .int (ringOct draws i)) ((x_add (nm_s 7 rfl rfl) (x_mul x_int (x_mod (x_div (nm_s 6 rfl rfl) x_int) x_int) ?_)).atom rfl) rfl rfl (by simp; lia)) ss_nil))) ?_
    · rw [show octetAt draws i = _ from if_pos hc]
      exact x_add x_int (x_mod (nm_s 6 rfl rfl) x_int)
    · rw [show octetAt draws i = _ from if_neg (by rw [hc]; decide)]
      exact x_mod (nm_s 6 rfl rfl) x_int
    · exact IntMulOk.of_left (by decide)
    · simp only [zl, List.range_succ, List.map_append, List.map_cons, List.map_nil]
      repeat first | exact Weak.nil | apply Weak.same | apply Weak.none
  exact rs_ret (nm_m 3 rfl rfl)
end
end Mine
end

/-! text MR5 -/
section
open PySem PySem.Spec PySem.Calls PyProof.Rows
set_option linter.unusedVariables false
set_option maxRecDepth 100000
namespace Mine
section
variable {C : Cx} {n : Nat} {sc : Scope} {names : List Str} {m : MM}
theorem RdL.strsAre {h : Heap} : ∀ {vs : List Value} {ns : List Str} {as : List Addr}, RdL h vs (ns.map .str) as → StrsAre vs ns
  | _, [], _, r => by cases r; exact .nil
  | _, n :: ns, _, r => by
    cases r with
    | cons h1 h2 =>
      obtain ⟨t, rfl, _⟩ := h1.str_inv
      exact .cons n t (RdL.strsAre h2)
theorem x_join {x : Str} {kk : Nat} {pc ap pos : Pos} {e : Expr} {ys : List Str} {md : Md} (he : EvOK C sc names n m e (.list (ys.map .str)) md) (hx : x.length ≤ 16) (hw : (ys.map (·.length)).sum + ys.length ≤ 1048576)
    (hline : (ap.endLine == pos.line) = true := by rfl) (hs : ∀ env, starEach [e] env = [(false, eval e env)] := by intro _; rfl) :
    EvOK C sc names n m (.Call (.Attribute (.Constant (.str x) kk pc) (Str.ofString "join") ap) [e] [] pos) (.str (Txt.join x ys)) .any := by
  intro A E s env Kp V Fp hR hE S
  refine Call_method1 rfl (hs env) hline (wpAny_Constant_str ?_)
  have S' : St C.B Kp env names m V Fp ({ s with toks := s.toks + 1 } : Shared).heap := S
  refine ⟨"str", "str.join", PySem.F.plainAttrs_str, PySem.F.slot_str_join, PySem.F.type_str_join, typeIs_str _ _ _, (fun _ e => by cases e), ?_⟩
  refine callWith_builtin rfl (Calls.evalArgs_plain (Calls.spliced_cons (wpAny_mono (he A E _ env Kp V Fp hR hE S') (fun v s₁ h₁ => Calls.spliced_nil ?_) fun _ _ h => h)))
  obtain ⟨x1, as, r, _⟩ := h₁
  obtain ⟨l, vs, q, bs, rfl, hl, ql, _⟩ := r.list_inv
  exact join_listW (isList_lst hl) ql.strsAre hx hw fun t' k => ⟨(Ext.tok s _).trans (x1.trans (.tok _ _)), [], .str _ _, trivial⟩

/-! _law_text -/
def isOpen (o : Int) : Bool := (o.fdiv 64).fmod 2 == 1
def parenOf (o : Int) : Str := if isOpen o then Str.ofString "(" else Str.ofString ")"
def textOf (octets : List Int) : Str := Txt.join (Str.ofString "") (octets.map parenOf)
theorem text_body (H : Gl C) {octets : List Int} (hl : octets.length ≤ 900) : RsOK C S5.1 (S5.1.names.map (·.1)) n [some (zl octets, false)] B5.1 (.str (textOf octets)) := by
  have hp : ∀ o, (parenOf o).length = 1 := fun o => by unfold parenOf; split <;> rfl
  have hsum : ((octets.map parenOf).map (·.length)).sum = octets.length := by
    induction octets with
    | nil => rfl
    | cons a l ih =>
      have := ih (by simp at hl; lia)
      simp only [List.map_cons, List.sum_cons, List.length_cons, hp, this]
      lia
  refine rs_ret ((x_join (ys := octets.map parenOf) (md := .fresh) ?_ (by decide) (by rw [hsum]; simp; lia)).atom rfl)
  rw [show PyData.list ((octets.map parenOf).map .str) = .list (picked (fun _ => true) (fun i => .str (parenOf (octets.getD i 0))) octets.length) by
    unfold picked
    rw [List.filter_eq_self.mpr (by simp)]
    congr 1
    apply List.ext_getElem
    · simp
    · intro i h1 h2
      have hi : i < octets.length := by simpa using h1
      simp [List.getD_eq_getElem?_getD, List.getElem?_eq_getElem hi]]
  refine ev_comp (names' := [".0", "octet"]) (mc := [none, none]) (J := id) true ⟨rfl, by decide +kernel, by decide +kernel, by decide +kernel⟩ capt2
    (comp_ints (k := 1) (nm_s 0 rfl rfl) (.inl rfl) ⟨rfl, by decide +kernel, by decide +kernel, by decide +kernel⟩ rfl (by decide +kernel) rfl) (by lia) (fun i hi => .inl ⟨rfl, rfl⟩) (fun i hi _ => ?_)
  refine (ev_if (md := .any) (c := isOpen (octets.getD i 0)) (ts_cmp (x_mod (x_div (nm_s 1 rfl rfl) x_int) x_int) x_int cmp_eq_int) (fun hc => EvOK.as ev_str (by unfold parenOf; rw [if_pos hc])) (fun hc => EvOK.as ev_str (by unfold parenOf; rw [hc]; rfl))).atom rfl
end
end Mine
end

/-! text MR6 -/
section
open PySem PySem.Spec PySem.Calls PyProof.Rows
set_option linter.unusedVariables false
set_option maxRecDepth 100000
namespace Mine
section
variable {C : Cx} {n : Nat}
/-! _law_tree -/
structure Tree where
  labels : List Int
  ties : List PyData
  path : List Int
def treeStep (t : Tree) (o : Int) : Tree :=
  if isOpen o then
    ⟨t.labels ++ [t.labels.getD ((t.path.getLast?.getD 0).toNat) 0 + (o.fmod 64).fmod 3 - 1], t.ties ++ [.tuple [.int (t.path.getLast?.getD 0), .int t.labels.length]], t.path ++ [(t.labels.length : Int)]⟩
  else { t with path := t.path.dropLast }
def treeOf (octets : List Int) : Tree := octets.foldl treeStep ⟨[0], [], [0]⟩
/-- the path stays filled -/
structure TreeOk (t : Tree) (i : Nat) : Prop where
  l1 : t.labels.length ≤ i + 1
  t1 : t.ties.length ≤ i
  p1 : t.path.length ≤ i + 1
  inb : ∀ a ∈ t.path, 0 ≤ a ∧ a < t.labels.length
theorem treeAt_ok {octets : List Int} : ∀ i, i ≤ octets.length → TreeOk ((octets.take i).foldl treeStep ⟨[0], [], [0]⟩) i
  | 0, _ => ⟨by simp, by simp, by simp, by simp⟩
  | i + 1, h => by
    have ih := treeAt_ok (octets := octets) i (by lia)
    rw [List.take_add_one, List.getElem?_eq_getElem (by lia)]
    simp only [Option.toList_some, List.foldl_append, List.foldl_cons, List.foldl_nil]
    generalize (octets.take i).foldl treeStep ⟨[0], [], [0]⟩ = t at *
    obtain ⟨l1, t1, p1, inb⟩ := ih
    unfold treeStep
    split
    · refine ⟨by simp; lia, by simp; lia, by simp; lia, fun a ha => ?_⟩
      rcases List.mem_append.mp ha with ha | ha
      · have := inb a ha; simp; lia
      · rw [List.mem_singleton] at ha; subst ha; simp; lia
    · exact ⟨by show t.labels.length ≤ _; lia, by show t.ties.length ≤ _; lia, by show t.path.dropLast.length ≤ _; simp; lia, fun a ha => inb a (List.dropLast_subset _ ha)⟩

theorem take_getD {xs : List Int} {i : Nat} (h : i < xs.length) : xs.take (i + 1) = xs.take i ++ [xs.getD i 0] := by
  rw [List.take_add_one, List.getElem?_eq_getElem h, List.getD_eq_getElem?_getD, List.getElem?_eq_getElem h]; rfl

theorem tree_body (H : Gl C) {octets : List Int} (hl : octets.length ≤ 900) (hpath : ∀ i, i < octets.length → ((octets.take i).foldl treeStep ⟨[0], [], [0]⟩).path ≠ []) :
    RsOK C S6.1 (S6.1.names.map (·.1)) n (some (zl octets, false) :: List.replicate 5 none) B6.1 (.tuple [zl (treeOf octets).labels, .list (treeOf octets).ties]) := by
  have hn : (S6.1.names.map (·.1)).Nodup := by decide +kernel
  refine rs_cons (sx_tup3 (k := 1) (j := 2) (i := 3) (d₁ := zl [0]) (d₂ := .list []) (d₃ := zl [0])
    (evs_cons (ev_listF (evs_cons (x_int.atom rfl) evs_nil)) (evs_cons ev_nil (evs_cons (ev_listF (evs_cons (x_int.atom rfl) evs_nil)) evs_nil)))
    rfl rfl rfl hn (.inl rfl) (.inl rfl) (.inl rfl) (swap_ok fun _ _ _ _ _ _ _ _ env e => by subst e; first | exact .inl rfl | exact .inr rfl) rfl rfl) ?_
  refine rs_cons (sx_forE (fun i => [some (zl octets, false), some (zl ((octets.take i).foldl treeStep ⟨[0], [], [0]⟩).labels, true), some (.list ((octets.take i).foldl treeStep ⟨[0], [], [0]⟩).ties, true), some (zl ((octets.take i).foldl treeStep ⟨[0], [], [0]⟩).path, true), none, none])
    (for_ints (k := 4) (nm_s 0 rfl rfl) (.inl rfl) rfl hn (.inl rfl)) ?_ (fun _ _ => trivial) rfl fun i hi => ?_) ?_
  · repeat first | exact Weak.nil | apply Weak.same | apply Weak.none
  · have ok := treeAt_ok (octets := octets) i (by lia)
    have hp := hpath i hi
    rw [take_getD hi, List.foldl_append]
    simp only [List.foldl_cons, List.foldl_nil]
    generalize (octets.take i).foldl treeStep ⟨[0], [], [0]⟩ = t at *
    obtain ⟨l1, t1, p1, inb⟩ := ok
    have hlast : t.path.getLast? = some (t.path.getLast?.getD 0) := by rw [List.getLast?_eq_some_getLast hp]; rfl
    obtain ⟨b1, b2⟩ := inb (t.path.getLast?.getD 0) (List.mem_of_getLast? hlast)
    refine sx_ss (sx_ifW (b := isOpen (octets.getD i 0)) (ts_cmp (x_mod (x_div (nm_s 4 rfl rfl) x_int) x_int) x_int cmp_eq_int) (fun hc =>
      ⟨ss_cons (sx_append (k := 2) (d := .tuple [.int (t.path.getLast?.getD 0), .int t.labels.length]) (ev_tupF (evs_cons ((x_last (nm_m 3 rfl rfl) (x_neg x_int) (by lia) hlast).atom rfl) (evs_cons ((EvOK.as (x_len H rfl (nm_m 1 rfl rfl) (by simp; lia)) (by simp)).atom rfl) evs_nil))) rfl rfl (by lia))
       (ss_cons (sx_append (k := 1) (d := .int (t.labels.getD ((t.path.getLast?.getD 0).toNat) 0 + ((octets.getD i 0).fmod 64).fmod 3 - 1)) ((x_sub (x_add (x_idx (nm_m 1 rfl rfl) (x_last (nm_m 3 rfl rfl) (x_neg x_int) (by lia) hlast) (by lia) (seq_nn b1 b2) (getD_of (by lia))) (x_mod (x_mod (nm_s 4 rfl rfl) x_int) x_int)) x_int).atom rfl) rfl rfl (by simp; lia))
       (ss_cons (sx_append (k := 3) (d := .int t.labels.length) ((EvOK.as (x_sub (x_len H rfl (nm_m 1 rfl rfl) (by simp; lia)) x_int) (by simp)).atom rfl) rfl rfl (by simp; lia)) ss_nil)), ?_⟩) (fun hc => ⟨sx_ss (sx_pop (k := 3) (d := .int (t.path.getLast?.getD 0)) (xs := t.path.dropLast.map .int) rfl ?_ (by simp; lia) rfl), ?_⟩))
    · rw [show treeStep t (octets.getD i 0) = _ from if_pos hc]
      simp only [zl, List.map_append, List.map_cons, List.map_nil]
      repeat first | exact Weak.nil | apply Weak.same | apply Weak.none
    · show some (some (zl t.path, true)) = _
      have : t.path = t.path.dropLast ++ [t.path.getLast?.getD 0] := by
        rw [List.getLast?_eq_some_getLast hp]; exact (List.dropLast_concat_getLast hp).symm
      conv => lhs; rw [this]
      simp [zl]
    · rw [show treeStep t (octets.getD i 0) = _ from if_neg (by rw [hc]; decide)]
      repeat first | exact Weak.nil | apply Weak.same | apply Weak.none
  · rw [List.take_length]
    exact rs_ret (ev_tupM (evs_cons (nm_m 1 rfl rfl) (evs_cons (nm_m 2 rfl rfl) evs_nil)))
end
end Mine
end

/-! text MR8 -/
section
open PySem PySem.Spec PySem.Calls PyProof.Rows
set_option linter.unusedVariables false
set_option maxRecDepth 100000
namespace Mine
section
variable {C : Cx} {n : Nat}
/-! _law_walk -/
def cutAt (v : Int) : Nat → Int
  | 0 => v
  | k + 1 => (cutAt v k).fdiv 64
def digs (v : Int) : Nat → List Int
  | 0 => [v.fmod 64]
  | k + 1 => (cutAt v (k + 1)).fmod 64 :: digs v k
structure Walk where
  labels : List Int
  path : List Int
  walk : List Int
def walkUp (t : Walk) (f : Int) : Walk :=
  ⟨t.labels ++ [t.labels.getD ((t.path.getLast?.getD 0).toNat) 0 + f.fmod 3 - 1], t.path ++ [(t.labels.length : Int)], t.walk ++ [(t.labels.length : Int)]⟩
def walkStep (K : Int → Nat) (t : Walk) (v : Int) : Walk :=
  let u := (digs v (K v)).dropLast.foldl walkUp t
  ⟨u.labels, u.path.dropLast, u.walk ++ [u.path.dropLast.getLast?.getD 0]⟩
def walkAt (K : Int → Nat) (numbers : List Int) : Walk := numbers.foldl (walkStep K) ⟨[0], [0], [0]⟩
structure WalkOk (t : Walk) (i : Nat) : Prop where
  l1 : t.labels.length ≤ i + 1
  p1 : t.path.length ≤ i + 1
  w1 : t.walk.length ≤ i + 1
  inb : ∀ a ∈ t.path, 0 ≤ a ∧ a < t.labels.length
theorem digs_len (v : Int) : ∀ k, (digs v k).length = k + 1
  | 0 => rfl
  | k + 1 => by simp [digs, digs_len v k]
theorem walkUp_ok {t : Walk} {i : Nat} {f : Int} (h : WalkOk t i) : WalkOk (walkUp t f) (i + 1) := by
  obtain ⟨l1, p1, w1, inb⟩ := h
  refine ⟨by simp [walkUp]; lia, by simp [walkUp]; lia, by simp [walkUp]; lia, fun a ha => ?_⟩
  rcases List.mem_append.mp ha with ha | ha
  · have := inb a ha; simp [walkUp]; lia
  · rw [List.mem_singleton] at ha; subst ha; simp [walkUp]; lia
theorem walkUps_ok {i : Nat} : ∀ (fs : List Int) {t : Walk}, WalkOk t i → WalkOk (fs.foldl walkUp t) (i + fs.length)
  | [], t, h => h
  | f :: fs, t, h => by
    have := walkUps_ok (i := i + 1) fs (walkUp_ok (f := f) h)
    simp only [List.foldl_cons, List.length_cons]
    rw [show i + (fs.length + 1) = i + 1 + fs.length by lia]; exact this
theorem walkUps_path : ∀ (fs : List Int) {t : Walk}, t.path ≠ [] → (fs.foldl walkUp t).path ≠ []
  | [], t, h => h
  | f :: fs, t, h => walkUps_path fs (t := walkUp t f) (by simp [walkUp])
theorem walkStep_ok {K : Int → Nat} {t : Walk} {i : Nat} {v : Int} (h : WalkOk t i) : WalkOk (walkStep K t v) (i + K v + 1) := by
  obtain ⟨l1, p1, w1, inb⟩ := walkUps_ok (digs v (K v)).dropLast h
  rw [List.length_dropLast, digs_len] at l1 p1 w1
  refine ⟨by show ((digs v (K v)).dropLast.foldl walkUp t).labels.length ≤ _; lia, ?_, ?_, fun a ha => inb a (List.dropLast_subset _ ha)⟩
  · show ((digs v (K v)).dropLast.foldl walkUp t).path.dropLast.length ≤ _
    rw [List.length_dropLast]; lia
  · simp [walkStep]; lia
theorem walkAt_ok {K : Int → Nat} : ∀ (numbers : List Int) (t : Walk) (i : Nat), WalkOk t i → WalkOk (numbers.foldl (walkStep K) t) (i + (numbers.map fun v => K v + 1).sum)
  | [], t, i, h => h
  | v :: l, t, i, h => by
    have := walkAt_ok (K := K) l _ _ (walkStep_ok (K := K) (v := v) h)
    simp only [List.foldl_cons, List.map_cons, List.sum_cons]
    rw [show i + (K v + 1 + (l.map fun v => K v + 1).sum) = i + K v + 1 + (l.map fun v => K v + 1).sum by lia]; exact this

theorem sum_take_le {f : Int → Nat} : ∀ (l : List Int) (i : Nat), i < l.length → ((l.take i).map f).sum + f (l.getD i 0) ≤ (l.map f).sum
  | [], i, h => by simp at h
  | a :: l, 0, _ => by simp
  | a :: l, i + 1, h => by
    have := sum_take_le (f := f) l i (by simpa using h)
    simp only [List.take_succ_cons, List.map_cons, List.sum_cons, List.getD_cons_succ]
    lia

theorem last_path {t : List Int} (h : t ≠ []) : t = t.dropLast ++ [t.getLast?.getD 0] := by
  rw [List.getLast?_eq_some_getLast h]; exact (List.dropLast_concat_getLast h).symm

theorem walk_body (H : Gl C) {numbers : List Int} {K : Int → Nat} (hK : ∀ v ∈ numbers, (∀ i, i < K v → 64 ≤ cutAt v i) ∧ cutAt v (K v) < 64)
    (hsum : (numbers.map fun v => K v + 1).sum ≤ 900) (hpath : ∀ i, i ≤ numbers.length → ((numbers.take i).foldl (walkStep K) ⟨[0], [0], [0]⟩).path ≠ []) :
    RsOK C S8.1 (S8.1.names.map (·.1)) n (some (zl numbers, false) :: List.replicate 7 none) B8.1 (.tuple [zl (walkAt K numbers).labels, zl (walkAt K numbers).walk.dropLast]) := by
  have hn : (S8.1.names.map (·.1)).Nodup := by decide +kernel
  have hlen : numbers.length ≤ 900 := by
    have : numbers.length ≤ (numbers.map fun v => K v + 1).sum := by
      clear hK hsum hpath
      induction numbers with
      | nil => simp
      | cons a l ih => simp only [List.map_cons, List.sum_cons, List.length_cons]; lia
    lia
  refine rs_cons (sx_tup3 (k := 1) (j := 2) (i := 3) (d₁ := zl [0]) (d₂ := zl [0]) (d₃ := zl [0])
    (evs_cons (ev_listF (evs_cons (x_int.atom rfl) evs_nil)) (evs_cons (ev_listF (evs_cons (x_int.atom rfl) evs_nil)) (evs_cons (ev_listF (evs_cons (x_int.atom rfl) evs_nil)) evs_nil)))
    rfl rfl rfl hn (.inl rfl) (.inl rfl) (.inl rfl) (swap_ok fun _ _ _ _ _ _ _ _ env e => by subst e; first | exact .inl rfl | exact .inr rfl) rfl rfl) ?_
  refine rs_cons (sx_forE (fun i => [some (zl numbers, false), some (zl ((numbers.take i).foldl (walkStep K) ⟨[0], [0], [0]⟩).labels, true), some (zl ((numbers.take i).foldl (walkStep K) ⟨[0], [0], [0]⟩).path, true), some (zl ((numbers.take i).foldl (walkStep K) ⟨[0], [0], [0]⟩).walk, true), none, none, none, none])
    (for_ints (k := 4) (nm_s 0 rfl rfl) (.inl rfl) rfl hn (.inl rfl)) ?_ (fun _ _ => trivial) rfl fun i hi => ?_) ?_
  · repeat first | exact Weak.nil | apply Weak.same | apply Weak.none
  · have ok := walkAt_ok (K := K) (numbers.take i) ⟨[0], [0], [0]⟩ 0 ⟨by simp, by simp, by simp, by simp⟩
    have hs := sum_take_le (f := fun v => K v + 1) numbers i hi
    have hp : ((numbers.take i).foldl (walkStep K) ⟨[0], [0], [0]⟩).path ≠ [] := hpath i (by lia)
    have hp2 := hpath (i + 1) hi
    obtain ⟨k1, k2⟩ := hK (numbers.getD i 0) (List.mem_of_getElem? (getD_of hi))
    rw [take_getD hi, List.foldl_append] at hp2
    rw [take_getD hi, List.foldl_append]
    simp only [List.foldl_cons, List.foldl_nil] at hp2 ⊢
    generalize numbers.getD i 0 = v at *
    generalize hS : ((numbers.take i).map fun v => K v + 1).sum = S at *
    generalize (numbers.take i).foldl (walkStep K) ⟨[0], [0], [0]⟩ = t at *
    rw [Nat.zero_add] at ok
    have dl := digs_len v (K v)
    have okU := fun j => walkUps_ok ((digs v (K v)).dropLast.take j) ok
    have pU := fun j => walkUps_path ((digs v (K v)).dropLast.take j) hp
    have hdl : (digs v (K v)).dropLast.length = K v := by rw [List.length_dropLast, dl]; rfl
    have okE := walkUps_ok (digs v (K v)).dropLast ok
    have pE := walkUps_path (digs v (K v)).dropLast hp
    refine SsOK.weak' (m' := [some (zl numbers, false), some (zl (walkStep K t v).labels, true), some (zl (walkStep K t v).path, true), some (zl (walkStep K t v).walk, true), some (.int (cutAt v (K v)), false), some (zl (digs v (K v)), true), none, none]) ?_ (by repeat first | exact Weak.nil | apply Weak.same | apply Weak.none)
    refine ss_cons (sx_own (k := 5) (d := zl [v.fmod 64]) (ev_listF (evs_cons ((x_mod (nm_s 4 rfl rfl) x_int).atom rfl) evs_nil)) rfl hn (.inl rfl)) ?_
    refine ss_cons (sx_whileE (K v) (fun j => [some (zl numbers, false), some (zl t.labels, true), some (zl t.path, true), some (zl t.walk, true), some (.int (cutAt v j), false), some (zl (digs v j), true), none, none]) (Weak.refl _) rfl (fun j hj => ?_) ?_ fun j hj => ?_) ?_
    · exact (ts_cmp (nm_s 4 rfl rfl) x_int cmp_ge).as (by have := k1 j hj; simp; lia)
    · exact (ts_cmp (nm_s 4 rfl rfl) x_int cmp_ge).as (by simp; lia)
    · have dj := digs_len v j
      have hKv : K v ≤ 900 := by lia
      exact ss_cons (sx_at (k := 4) (d := .int (cutAt v (j + 1))) (x_div (nm_s 4 rfl rfl) x_int) rfl rfl hn (.inl rfl)) (sx_ss (sx_insert0 (kz := none) (k := 5) (d := .int ((cutAt v (j + 1)).fmod 64)) (x_mod (nm_s 4 rfl rfl) x_int) rfl rfl (by simp; lia) rfl))
    refine ss_cons (sx_forE (m' := [some (zl numbers, false), some (zl ((digs v (K v)).dropLast.foldl walkUp t).labels, true), some (zl ((digs v (K v)).dropLast.foldl walkUp t).path, true), some (zl ((digs v (K v)).dropLast.foldl walkUp t).walk, true), some (.int (cutAt v (K v)), false), some (zl (digs v (K v)), true), none, none])
          (fun j => [some (zl numbers, false), some (zl (((digs v (K v)).dropLast.take j).foldl walkUp t).labels, true), some (zl (((digs v (K v)).dropLast.take j).foldl walkUp t).path, true), some (zl (((digs v (K v)).dropLast.take j).foldl walkUp t).walk, true), some (.int (cutAt v (K v)), false), some (zl (digs v (K v)), true), none, none])
          (for_ints (k := 6) (xs := (digs v (K v)).dropLast) (md := .fresh) ?_ (.inr (.inr rfl)) rfl hn (.inl rfl)) ?_ (fun _ _ => trivial) ?_ fun j hj => ?_) ?_
    · exact EvOK.as (x_slice (nm_m 5 rfl rfl) part_none (part_some (x_neg x_int)) part_none (by decide) (by lia)) (by rw [spick_last])
    · repeat first | exact Weak.nil | apply Weak.same | apply Weak.none
    · rw [List.take_length]
    · have okj := okU j
      have pj := pU j
      rw [List.length_take, hdl] at okj
      rw [take_getD hj, List.foldl_append]
      simp only [List.foldl_cons, List.foldl_nil]
      generalize ((digs v (K v)).dropLast.take j).foldl walkUp t = u at *
      obtain ⟨l1, p1, w1, inb⟩ := okj
      have hlast : u.path.getLast? = some (u.path.getLast?.getD 0) := by rw [List.getLast?_eq_some_getLast pj]; rfl
      obtain ⟨b1, b2⟩ := inb (u.path.getLast?.getD 0) (List.mem_of_getLast? hlast)
      generalize (digs v (K v)).dropLast.getD j 0 = f
      rw [hdl] at hj
      refine SsOK.weak' (ss_cons (sx_append (k := 1) (d := .int (u.labels.getD ((u.path.getLast?.getD 0).toNat) 0 + f.fmod 3 - 1)) ((x_sub (x_add (x_idx (nm_m 1 rfl rfl) (x_last (nm_m 2 rfl rfl) (x_neg x_int) (by lia) hlast) (by lia) (seq_nn b1 b2) (getD_of (by lia))) (x_mod (nm_s 6 rfl rfl) x_int)) x_int).atom rfl) rfl rfl (by simp; lia))
        (ss_cons (sx_append (k := 2) (d := .int u.labels.length) ((EvOK.as (x_sub (x_len H rfl (nm_m 1 rfl rfl) (by simp; lia)) x_int) (by simp)).atom rfl) rfl rfl (by simp; lia))
        (sx_ss (sx_append (k := 3) (d := .int u.labels.length) ((x_last (xs := u.path ++ [(u.labels.length : Int)]) (EvOK.as (nm_m 2 rfl rfl) (by simp [zl])) (x_neg x_int) (by simp; lia) (by simp)).atom rfl) rfl rfl (by simp; lia))))) ?_
      simp only [zl, walkUp, List.map_append, List.map_cons, List.map_nil]
      repeat first | exact Weak.nil | apply Weak.same | apply Weak.none
    obtain ⟨l1, p1, w1, inb⟩ := okE
    rw [hdl] at l1 p1 w1
    refine ss_cons (sx_pop (k := 2) (d := .int (((digs v (K v)).dropLast.foldl walkUp t).path.getLast?.getD 0)) (xs := ((digs v (K v)).dropLast.foldl walkUp t).path.dropLast.map .int) rfl ?_ (by simp; lia) rfl) ?_
    · show some (some (zl ((digs v (K v)).dropLast.foldl walkUp t).path, true)) = _
      conv => lhs; rw [last_path pE]
      simp [zl]
    refine SsOK.weak' (sx_ss (sx_append (k := 3) (d := .int ((walkStep K t v).path.getLast?.getD 0)) ((x_last (xs := (walkStep K t v).path) (nm_m 2 rfl rfl) (x_neg x_int) ?_ (by rw [List.getLast?_eq_some_getLast hp2]; rfl)).atom rfl) rfl rfl (by simp; lia))) ?_
    · show ((digs v (K v)).dropLast.foldl walkUp t).path.dropLast.length ≤ _
      rw [List.length_dropLast]; lia
    · simp only [zl, walkStep, List.map_append, List.map_cons, List.map_nil]
      repeat first | exact Weak.nil | apply Weak.same | apply Weak.none
  · rw [List.take_length]
    refine rs_ret (ev_tupM (evs_cons (nm_m 1 rfl rfl) (evs_cons (EvOK.mine (EvOK.new (EvOK.as (x_slice (nm_m 3 rfl rfl) part_none (part_some (x_neg x_int)) part_none (by decide) ?_) (by rw [spick_last]; rfl)))) evs_nil)))
    have := (walkAt_ok (K := K) numbers ⟨[0], [0], [0]⟩ 0 ⟨by simp, by simp, by simp, by simp⟩).w1
    lia
end
end Mine
end

/-! text MR9 -/
section
open PySem PySem.Spec PySem.Calls PyProof.Rows
set_option linter.unusedVariables false
set_option maxRecDepth 100000
namespace Mine
section
variable {C : Cx} {n : Nat}
/-! _law_goals -/
def isLower (labels walk : List Int) (node : Int) (o : Nat) : Bool := labels.getD (walk.getD o 0).toNat 0 == labels.getD node.toNat 0 - 1
def lowerOf (labels walk : List Int) (node : Int) : List Int := ((List.range walk.length).filter (isLower labels walk node)).map fun (i : Nat) => (i : Int)
def goalOf (labels walk : List Int) (c : Nat) : Int :=
  if (!(lowerOf labels walk (walk.getD c 0)).isEmpty) = true then
    (lowerOf labels walk (walk.getD c 0)).getD ((lowerOf labels walk (walk.getD c 0)).countP (fun y => decide (y ≤ (c : Int))) % (lowerOf labels walk (walk.getD c 0)).length) 0 else -1
def goalsOf (labels walk : List Int) : List Int := (List.range walk.length).map (goalOf labels walk)

theorem seq_nat {i k : Nat} (h : i < k) : seqIndex? (i : Int) k = some i := seq_nn (Int.natCast_nonneg i) (Int.ofNat_lt.mpr h)
theorem lower_sorted {labels walk : List Int} {node : Int} : ∀ i j, i ≤ j → j < (lowerOf labels walk node).length → (lowerOf labels walk node).getD i 0 ≤ (lowerOf labels walk node).getD j 0 := by
  intro i j hij hj
  have hp : (lowerOf labels walk node).Pairwise (· < ·) := by
    unfold lowerOf
    rw [List.pairwise_map]
    refine List.Pairwise.imp (R := (· < ·)) (fun {a b} h => by lia) ?_
    exact List.pairwise_lt_range.filter _
  rcases Nat.lt_or_eq_of_le hij with h | rfl
  · have hi : i < (lowerOf labels walk node).length := Nat.lt_trans h hj
    have := List.pairwise_iff_getElem.mp hp i j hi hj h
    simp only [List.getD_eq_getElem?_getD, List.getElem?_eq_getElem hj, List.getElem?_eq_getElem hi, Option.getD_some]
    lia
  · exact Int.le_refl _
theorem lower_len {labels walk : List Int} {node : Int} : (lowerOf labels walk node).length ≤ walk.length := by
  unfold lowerOf
  rw [List.length_map]
  exact Nat.le_trans (List.length_filter_le ..) (by simp)

theorem goals_body (H : Gl C) (F : Fg C) {labels walk : List Int} (hl : labels.length ≤ 900) (hw : walk.length ≤ 900) (hb : ∀ i, i < walk.length → 0 ≤ walk.getD i 0 ∧ walk.getD i 0 < labels.length) :
    RsOK C S9.1 (S9.1.names.map (·.1)) (n + 1) (some (zl labels, false) :: some (zl walk, false) :: List.replicate 7 none) B9.1 (zl (goalsOf labels walk)) := by
  have hn : (S9.1.names.map (·.1)).Nodup := by decide +kernel
  refine rs_cons (sx_own (k := 2) (d := zl []) ev_nil rfl hn (.inl rfl)) ?_
  refine rs_cons (sx_forE (fun i => [some (zl labels, false), some (zl walk, false), some (zl ((List.range i).map (goalOf labels walk)), true), none, none, none, none, none, none])
    (for_enum (k := 3) (j := 4) H.good H.enumerate rfl (nm_s 1 rfl rfl) (.inl rfl) rfl rfl hn (.inl rfl) (.inr rfl)) (Weak.refl _) (fun _ _ h => by cases h) rfl fun c hc => ?_) (rs_ret (nm_m 2 rfl rfl))
  obtain ⟨b1, b2⟩ := hb c hc
  have hlen := lower_len (labels := labels) (walk := walk) (node := walk.getD c 0)
  have hso := lower_sorted (labels := labels) (walk := walk) (node := walk.getD c 0)
  have hg := show goalOf labels walk c = (if (!(lowerOf labels walk (walk.getD c 0)).isEmpty) = true then (lowerOf labels walk (walk.getD c 0)).getD ((lowerOf labels walk (walk.getD c 0)).countP (fun y => decide (y ≤ (c : Int))) % (lowerOf labels walk (walk.getD c 0)).length) 0 else -1) from rfl
  rw [show (List.range (c + 1)).map (goalOf labels walk) = (List.range c).map (goalOf labels walk) ++ [goalOf labels walk c] by rw [List.range_succ, List.map_append]; rfl]
  generalize hG : goalOf labels walk c = g at *
  refine SsOK.weak' (m' := [some (zl labels, false), some (zl walk, false), some (zl ((List.range c).map (goalOf labels walk) ++ [g]), true), some (.int c, false), some (.int (walk.getD c 0), false), some (zl (lowerOf labels walk (walk.getD c 0)), true), none, none, none]) (ss_cons (m' := [some (zl labels, false), some (zl walk, false), some (zl ((List.range c).map (goalOf labels walk)), true), some (.int c, false), some (.int (walk.getD c 0), false), some (zl (lowerOf labels walk (walk.getD c 0)), true), none, none, none]) ?_ ?_) (by repeat first | exact Weak.nil | apply Weak.same | apply Weak.none)
  · rw [show zl (lowerOf labels walk (walk.getD c 0)) = .list (picked (isLower labels walk (walk.getD c 0)) (fun i => .int (i : Int)) walk.length) by unfold lowerOf picked; rw [zl, List.map_map]; rfl]
    exact sx_comp (k := 5) (names' := [".0", "other", "one", "labels", "node"]) (mc := [none, none, none, some (zl labels, false), some (.int (walk.getD c 0), false)]) (J := fun k => if k = 3 then 0 else 4) true ⟨rfl, by decide +kernel, by decide +kernel, by decide +kernel⟩
      (capt32 rfl rfl rfl rfl rfl rfl rfl rfl)
      (comp_enum (k := 1) (j := 2) H.good H.enumerate rfl (nm_s 1 rfl rfl) (.inl rfl) ⟨rfl, by decide +kernel, by decide +kernel, by decide +kernel⟩ rfl rfl (by decide +kernel) rfl rfl) (by lia)
      (fun i hi => .inr ⟨_, rfl, ts_cmp (x_idx (nm_s 3 rfl rfl) (nm_s 2 rfl rfl) (by lia) (seq_nn (hb i hi).1 (hb i hi).2) (getD_of (by have := hb i hi; lia))) (x_sub (x_idx (nm_s 3 rfl rfl) (nm_s 4 rfl rfl) (by lia) (seq_nn b1 b2) (getD_of (by lia))) x_int) cmp_eq_int⟩)
      (fun i hi _ => (nm_s 1 rfl rfl).atom rfl) rfl hn rfl
      (fun env hE => by
        obtain ⟨⟩ := env
        obtain ⟨h1, _, _, _⟩ := hE
        dsimp only at h1; subst h1
        rfl)
  · generalize lowerOf labels walk (walk.getD c 0) = low at *
    refine SsOK.weak' (sx_ss (sx_append (k := 2) (d := .int g) (EvOK.atom (ev_if (md := .any) (ts_list (nm_m 5 rfl rfl) (by rw [List.length_map]; lia)) (fun hc2 => ?_) (fun hc2 => ?_)) rfl) rfl rfl (by simp; lia))) ?_
    · have hne : low ≠ [] := by rintro rfl; cases hc2
      have hp := List.length_pos_iff.mpr hne
      rw [hg, if_pos (by cases low with | nil => exact absurd rfl hne | cons a l => rfl)]
      have e1 : ((low.countP (fun y => decide (y ≤ (c : Int))) : Nat) : Int).fmod ((low.map PyData.int).length : Nat) = (low.countP (fun y => decide (y ≤ (c : Int))) % low.length : Nat) := by
        rw [List.length_map, Int.fmod_eq_emod_of_nonneg _ (by lia)]; lia
      have hlt := Nat.mod_lt (low.countP (fun y => decide (y ≤ (c : Int)))) hp
      exact x_idx (j := low.countP (fun y => decide (y ≤ (c : Int))) % low.length) (nm_m 5 rfl rfl) (EvOK.as (x_mod (ev_callF (bis_fn H F (by lia) hso) H.good rfl (evs_cons (nm_m 5 rfl rfl).any (evs_cons (nm_s 3 rfl rfl).any evs_nil))) (x_len H rfl (nm_m 5 rfl rfl) (by rw [List.length_map]; lia)) (by rw [List.length_map]; lia)) (by rw [e1])) (by lia) (seq_nat hlt) (getD_of hlt)
    · have hne : low = [] := by cases low with | nil => rfl | cons a l => cases hc2
      rw [hg, if_neg (by rw [hne]; decide)]
      exact x_neg x_int
    · simp only [zl, List.map_append, List.map_cons, List.map_nil]
      repeat first | exact Weak.nil | apply Weak.same | apply Weak.none
end
end Mine
end

/-! text MR10 -/
section
open PySem PySem.Spec PySem.Calls PyProof.Rows
set_option linter.unusedVariables false
set_option maxRecDepth 100000
namespace Mine

theorem RdL.nest {h : Heap} : ∀ {vs : List Value} {ds : List PyData} {as : List Addr}, RdL h vs ds as → as.Nodup → ∀ {t : Nat} {xs : List PyData}, ds[t]? = some (.list xs) → xs.all Mine.atom = true →
    ∃ b ws n, vs[t]? = some (.ref b) ∧ h.get? b = some (lst ws n) ∧ b ∈ as ∧ RdL h ws.toList xs [] ∧ ∀ (h' : Heap) ys ws' n', (∀ c o, c ≠ b → h.get? c = some o → h'.get? c = some o) → h'.get? b = some (lst ws' n') → RdL h' ws'.toList ys [] → RdL h' vs (ds.set t (.list ys)) as
  | _, _, _, .nil, _, t, xs, e, _ => by simp at e
  | _, _, _, .cons (as := as) (bs := bs) h1 h2, hn, 0, xs, e, ha => by
    simp at e; subst e
    obtain ⟨n1, n2, n3⟩ := List.nodup_append.mp hn
    obtain ⟨b, ws, n, cs, rfl, hb, r, rfl⟩ := h1.list_inv
    have ec := r.atoms ha
    subst ec
    refine ⟨b, ws, n, rfl, hb, by simp, r, fun h' ys ws' n' hk hb' r' => ?_⟩
    exact .cons (.list hb' r') (h2.but fun c hc o e => hk c o (fun q => n3 b (by simp) c hc q.symm) e)
  | _, _, _, .cons (as := as) (bs := bs) h1 h2, hn, t + 1, xs, e, ha => by
    obtain ⟨n1, n2, n3⟩ := List.nodup_append.mp hn
    obtain ⟨b, ws, n, e1, hb, hm, r, hf⟩ := RdL.nest h2 n2 (t := t) (xs := xs) (by simpa using e) ha
    refine ⟨b, ws, n, by simpa using e1, hb, List.mem_append_right _ hm, r, fun h' ys ws' n' hk hb' r' => ?_⟩
    exact .cons (h1.but fun c hc o e => hk c o (fun q => n3 c hc b hm q) e) (hf h' ys ws' n' hk hb' r')

section
variable {C : Cx} {n : Nat} {sc : Scope} {names : List Str} {m : MM}
/-- x[i].append(e) -/
theorem sx_append_nest {e i : Expr} {x : Str} {px ps ap pos p2 : Pos} {k : Nat} {ds xs : List PyData} {d : PyData} {c : Int} {t : Nat} {md mi : Md} (he : EvOK C sc names n m e d md) (hi : EvOK C sc names n m i (.int c) mi) (hat : Mine.atom d = true)
    (hk : names[k]? = some x) (hm : m[k]? = some (some (.list ds, true))) (hsz : ds.length ≤ 1000) (ht : seqIndex? c ds.length = some t) (hx : ds[t]? = some (.list xs)) (hxa : xs.all Mine.atom = true) (hxs : xs.length ≤ 1000)
    (hsub : ∀ o v, subscripted i false o v = operate [o, v] (getItem o v) := by intro _ _; rfl) (hbase : ∀ env, attributeBase (.Subscript (.Name x px) i ps) (Str.ofString "append") env (eval (.Subscript (.Name x px) i ps) env) = eval (.Subscript (.Name x px) i ps) env := by intro _; rfl)
    (hline : (ap.endLine == pos.line) = true := by rfl) (hs : ∀ env, starEach [e] env = [(false, eval e env)] := by intro _; rfl) (hd : (x == ("__debug__" : Str)) = false := by decide) (hcl : (x == ("__classdict__" : Str)) = false := by decide) :
    SxOK C sc names n m (.Expr (.Call (.Attribute (.Subscript (.Name x px) i ps) (Str.ofString "append") ap) [e] [] pos) p2) (m.set k (some (.list (ds.set t (.list (xs ++ [d]))), true))) := by
  intro A E s env Kp V Fp hR hE S
  refine wpAny_Expr (Call_method1 (hbase env) (hs env) hline (Subscript_ (ld_slot hE S hk hm (wpAny_mono (hi A E s env Kp V Fp hR hE S) (fun v s₁ h₁ => ?_) fun _ _ h => h) hd hcl))) (interactive_fn hE) rfl
  obtain ⟨x1, _, ri, _⟩ := h₁
  obtain ⟨u, rfl, _⟩ := ri.int_inv
  have S1 := S.up x1.up
  obtain ⟨a, vs, q, as, hv, hl, r, hF, hna, hnd, hsize⟩ := slotList S1 hm
  obtain ⟨b, ws, q2, e1, hb, hbm, rx, hf⟩ := r.nest hnd hx hxa
  rw [hv]
  refine tail_any (isList_lst hl).typeIs slot_list_getitem.lookup (getItem_at hl (by lia) (by rw [hsize]; exact ht) (by simpa using e1) ?_) (hsub _ _)
  refine list_method PySem.F.slot_list_append PySem.F.type_list_append hb (PySem.P.append_list (wpAny_mono (he A E s₁ env Kp V Fp hR hE S1) (fun v s₂ h₂ => ?_) fun _ _ h => h))
  obtain ⟨x2, cs, rv, _⟩ := h₂
  have ec := rv.atom hat
  subst ec
  have S2 := S1.up x2.up
  have hwl : ws.size = xs.length := by simpa using rx.length
  refine ⟨ws, q2, by rw [sizeLine_eq]; lia, x2.up _ _ hb, rfl, (x1.sh.trans x2.sh).trans ⟨_, s₂.toks, s₂.gens, rfl, id⟩, V, up1 Fp k (Fp k), ?_⟩
  have hba : b ≠ a := fun q => hna (q ▸ hbm)
  obtain ⟨o1, o2, o3⟩ := S2.own k _ hm
  obtain ⟨q3, hb3⟩ := upd_self (fun xs => xs.push v) (x2.up _ _ hb)
  have keepR : ∀ {v d}, Rd s₂.heap v d [] → Rd (s₂.heap.update b (Obj.mapSeq fun xs => xs.push v)) v d [] := fun r => r.but fun c hc => by cases hc
  refine S2.change hm (fun c o hc e => upd_other (fun q => hc (by rw [hF, q]; exact List.mem_cons_of_mem _ hbm)) e) ?_ o1 (fun c hc => ⟨o2 c hc, fun j e hj hm' => o3 j e hj hm' c hc⟩)
  rw [hv, hF]
  refine .list (upd_other (Ne.symm hba) (x2.up _ _ hl)) ?_
  refine (hf (s₂.heap.update b (Obj.mapSeq fun xs => xs.push v)) (xs ++ [d]) (ws.push v) q3 (fun c o hc e => upd_other hc (x2.up c o e)) hb3 ?_)
  rw [Array.toList_push]
  have r2 : RdL (s₂.heap.update b (Obj.mapSeq fun xs => xs.push v)) ws.toList xs [] := (rx.up x2.up).but fun c hc => by cases hc
  simpa using r2.snoc (rv.but fun c hc => by cases hc)

/-! _law_onward -/
def addTo (ar : List (List Int)) (k : Nat) (v : Int) : List (List Int) := ar.set k (ar.getD k [] ++ [v])
def prevOf (c b : Nat) : Nat := (c + 10 - b) % 10
def inStep (goals : List Int) (c k : Nat) (ar : List (List Int)) (i : Nat) : List (List Int) :=
  if (goals.getD (prevOf c (i + 1)) 0 == (c : Int)) = true then addTo ar k (2 * (prevOf c (i + 1) : Nat) + 1) else ar
def cornerStep (walk goals : List Int) (ar : List (List Int)) (c : Nat) : List (List Int) :=
  addTo ((List.range 9).foldl (inStep goals c (walk.getD c 0).toNat) ar) (walk.getD c 0).toNat (2 * c)
def poleStep (goals : List Int) (pole : Nat) (ar : List (List Int)) (j : Nat) : List (List Int) :=
  if decide (goals.getD (9 - j) 0 < 0) = true then addTo ar pole (2 * ((9 - j : Nat) : Int) + 1) else ar
def around1 (walk goals : List Int) (pole : Nat) : List (List Int) := (List.range 10).foldl (cornerStep walk goals) (List.replicate (pole + 1) [])
def around2 (walk goals : List Int) (pole : Nat) : List (List Int) := (List.range 10).foldl (poleStep goals pole) (around1 walk goals pole)
def turnTo (on : List Int) (p : Int × Int) : List Int := on.set (mateOf p.1.toNat) p.2
def circle (l : List Int) : List (Int × Int) := l.zip (l.drop 1 ++ l.take 1)
def onwardOf (walk goals : List Int) (pole : Nat) : List Int := (around2 walk goals pole).foldl (fun on l => (circle l).foldl turnTo on) (List.replicate 20 0)
abbrev zl2 (ar : List (List Int)) : PyData := .list (ar.map zl)

structure ArOk (ar : List (List Int)) (N cap : Nat) : Prop where
  len : ar.length = N
  caps : ∀ l ∈ ar, l.length ≤ cap
  vals : ∀ l ∈ ar, ∀ v ∈ l, 0 ≤ v ∧ v < 20
theorem getD_mem2 {ar : List (List Int)} {k : Nat} (h : k < ar.length) : ar.getD k [] ∈ ar := by
  rw [List.getD_eq_getElem?_getD, List.getElem?_eq_getElem h]; exact List.getElem_mem h
theorem ArOk.add {ar : List (List Int)} {N cap k : Nat} {v : Int} (h : ArOk ar N cap) (hk : k < N) (h0 : 0 ≤ v) (h1 : v < 20) : ArOk (addTo ar k v) N (cap + 1) := by
  have hm := getD_mem2 (ar := ar) (k := k) (by rw [h.len]; exact hk)
  refine ⟨by simp [addTo, h.len], fun l hl => ?_, fun l hl w hw => ?_⟩
  · rcases List.mem_or_eq_of_mem_set hl with hl | rfl
    · have := h.caps l hl; lia
    · have := h.caps _ hm; simp at this ⊢; lia
  · rcases List.mem_or_eq_of_mem_set hl with hl | rfl
    · exact h.vals l hl w hw
    · rcases List.mem_append.mp hw with hw | hw
      · exact h.vals _ hm w hw
      · rw [List.mem_singleton] at hw; subst hw; exact ⟨h0, h1⟩
theorem ArOk.le {ar : List (List Int)} {N cap cap' : Nat} (h : ArOk ar N cap) (hc : cap ≤ cap') : ArOk ar N cap' := ⟨h.len, fun l hl => Nat.le_trans (h.caps l hl) hc, h.vals⟩
theorem ArOk.inner {goals : List Int} {c k N : Nat} {ar : List (List Int)} {cap : Nat} (h : ArOk ar N cap) (hk : k < N) : ∀ i, ArOk ((List.range i).foldl (inStep goals c k) ar) N (cap + i)
  | 0 => h
  | i + 1 => by
    rw [foldl_range_succ]
    have ih := ArOk.inner (goals := goals) (c := c) h hk i
    unfold inStep
    split
    · have : prevOf c (i + 1) < 10 := Nat.mod_lt _ (by decide)
      exact ih.add hk (by lia) (by lia)
    · exact ih.le (by lia)
theorem ArOk.corners {walk goals : List Int} {N : Nat} {ar : List (List Int)} {cap : Nat} (h : ArOk ar N cap) (hw : ∀ i, i < 10 → (walk.getD i 0).toNat < N) : ∀ i, i ≤ 10 → ArOk ((List.range i).foldl (cornerStep walk goals) ar) N (cap + 10 * i)
  | 0, _ => h
  | i + 1, hi => by
    rw [foldl_range_succ]
    have ih := ArOk.corners (goals := goals) h hw i (by lia)
    exact ((ih.inner (goals := goals) (c := i) (hw i (by lia)) 9).add (hw i (by lia)) (by lia) (by lia)).le (by lia)
theorem ArOk.poles {goals : List Int} {pole N : Nat} {ar : List (List Int)} {cap : Nat} (h : ArOk ar N cap) (hp : pole < N) : ∀ i, ArOk ((List.range i).foldl (poleStep goals pole) ar) N (cap + i)
  | 0 => h
  | i + 1 => by
    rw [foldl_range_succ]
    have ih := ArOk.poles (goals := goals) h hp i
    unfold poleStep
    split
    · exact ih.add hp (by lia) (by lia)
    · exact ih.le (by lia)

theorem spick_from' {α : Type} (xs : List α) {a : Int} (h0 : 0 ≤ a) : spick xs (some a) none none = xs.drop a.toNat := by
  rcases Int.le_total a xs.length with h | h
  · exact spick_from xs h0 h
  · unfold spick sliceBounds
    have e : max (0 : Int) (min a xs.length) = (xs.length : Int) := by lia
    simp only [Option.getD_none, show (1 : Int) > 0 by decide, if_true, show ¬ a < 0 by lia, if_false, e]
    rw [sliceRange_one, pick_run, List.drop_eq_nil_of_le (Nat.le_refl _), List.drop_eq_nil_of_le (by lia)]; simp
theorem EqMM {st : Stmt} {m m' m'' : MM} (e : m' = m'') (h : SxOK C sc names n m st m') : SxOK C sc names n m st m'' := e ▸ h
theorem zl2_at {ar : List (List Int)} {k : Nat} (h : k < ar.length) : (ar.map zl)[k]? = some (zl (ar.getD k [])) := by
  rw [List.getElem?_map, List.getD_eq_getElem?_getD, List.getElem?_eq_getElem h]; rfl
theorem add_zl {ar : List (List Int)} {k : Nat} {v : Int} : (ar.map zl).set k (.list ((ar.getD k []).map PyData.int ++ [.int v])) = (addTo ar k v).map zl := by
  unfold addTo
  rw [List.map_set]
  simp [zl]
theorem prev_eq {c b : Nat} (hc : c < 10) (hb : b ≤ 10) : ((c : Int) - b).fmod 10 = (prevOf c b : Nat) := by
  rw [Int.fmod_eq_emod_of_nonneg _ (by lia)]
  unfold prevOf; lia
theorem for_range2 {x y : Str} {px p q : Pos} {k K : Nat} {a : Nat} {b : Int} {ma mb : Md} {e₁ e₂ : Expr} (G : C.Good) (g : GlobIs C y (.type "range")) (hy : sc.names.lookup y = some .globalImplicit) (h : EvOK C sc names n m e₁ (.int a) ma) (h2 : EvOK C sc names n m e₂ (.int b) mb)
    (ha : (a : Int) < 2 ^ 62) (hb : -(2 ^ 62) ≤ b) (hb' : b < 2 ^ 62) (hK : Builtin.Range.rangeSize a b 1 = K)
    (hk : names[k]? = some x) (hn : names.Nodup) (hx : sc.names.lookup x = some .local ∨ sc.names.lookup x = some .cell) (hd : (y == ("__debug__" : Str)) = false := by decide)
    (he : ∀ env, starEach [e₁, e₂] env = (false, eval e₁ env) :: starEach [e₂] env := by intro _; rfl) (he2 : ∀ env, starEach [e₂] env = [(false, eval e₂ env)] := by intro _; rfl) :
    IterOK C sc names n m (.Name x px) (.Call (.Name y p) [e₁, e₂] [] q) K (fun i m => m.set k (some (.int ((a + i : Nat) : Int), false))) (fun _ => True) := by
  have := It1.iter (px := px) (it_range2 (p := p) (pos := q) G g hy h h2 (by lia) ha hb hb' hK hd he he2) hk hn hx
  rw [range_len] at this
  exact this.put fun i hi m => by rw [range_at hi]; simp
theorem for_down {x y : Str} {px p q : Pos} {k K : Nat} {a : Nat} {ma mb mc : Md} {e₁ e₂ e₃ : Expr} (G : C.Good) (g : GlobIs C y (.type "range")) (hy : sc.names.lookup y = some .globalImplicit) (h : EvOK C sc names n m e₁ (.int a) ma) (h2 : EvOK C sc names n m e₂ (.int (-1)) mb) (h3 : EvOK C sc names n m e₃ (.int (-1)) mc)
    (hsmall : Builtin.Range.small a (-1) (-1) = true) (hK : Builtin.Range.rangeSize a (-1) (-1) = K) (hKa : K = a + 1)
    (hk : names[k]? = some x) (hn : names.Nodup) (hx : sc.names.lookup x = some .local ∨ sc.names.lookup x = some .cell) (hd : (y == ("__debug__" : Str)) = false := by decide)
    (he : ∀ env, starEach [e₁, e₂, e₃] env = (false, eval e₁ env) :: starEach [e₂, e₃] env := by intro _; rfl) (he2 : ∀ env, starEach [e₂, e₃] env = (false, eval e₂ env) :: starEach [e₃] env := by intro _; rfl) (he3 : ∀ env, starEach [e₃] env = [(false, eval e₃ env)] := by intro _; rfl) :
    IterOK C sc names n m (.Name x px) (.Call (.Name y p) [e₁, e₂, e₃] [] q) K (fun i m => m.set k (some (.int ((a - i : Nat) : Int), false))) (fun _ => True) := by
  have := It1.iter (px := px) (it_range3 (p := p) (pos := q) G g hy h h2 h3 (by decide) (by decide) hsmall hK hd he he2 he3) hk hn hx
  rw [range_len] at this
  exact this.put fun i hi m => by
    rw [range_at hi]
    have : (a : Int) + (i : Nat) * (-1) = ((a - i : Nat) : Int) := by lia
    rw [this]; rfl
theorem for_zip {x y z : Str} {px py p pt pos : Pos} {ct k j : Nat} {xs ys : List Int} {md m2 : Md} {e e₂ : Expr} (G : C.Good) (g : GlobIs C z (.type "zip")) (hz : sc.names.lookup z = some .globalImplicit) (h : EvOK C sc names n m e (zl xs) md) (hmd : md = .shared ∨ md = .new ∨ md = .fresh)
    (h2 : EvOK C sc names n m e₂ (zl ys) m2) (hm2 : m2 = .shared ∨ m2 = .new ∨ m2 = .fresh) (hk : names[k]? = some x) (hj : names[j]? = some y) (hn : names.Nodup) (hx : sc.names.lookup x = some .local ∨ sc.names.lookup x = some .cell) (hy : sc.names.lookup y = some .local ∨ sc.names.lookup y = some .cell)
    (hd : (z == ("__debug__" : Str)) = false := by decide) (he : ∀ env, starEach [e, e₂] env = (false, eval e env) :: starEach [e₂] env := by intro _; rfl) (he2 : ∀ env, starEach [e₂] env = [(false, eval e₂ env)] := by intro _; rfl) :
    IterOK C sc names n m (.Tuple [.Name x px, .Name y py] ct pt) (.Call (.Name z p) [e, e₂] [] pos) (xs.zip ys).length (fun i m => (m.set k (some (.int ((xs.zip ys).getD i (0, 0)).1, false))).set j (some (.int ((xs.zip ys).getD i (0, 0)).2, false))) (fun m => true = true → ∀ (k : Nat) d, m[k]? = some (some (d, false)) → Mine.atom d = true) := by
  have := It2.iter (px := px) (py := py) (pt := pt) (c := ct) (it_zip (p := p) (pos := pos) G g hz h hmd h2 hm2 hd he he2) hk hj hn hx hy
  have hl : ((xs.map PyData.int).zip (ys.map PyData.int)).length = (xs.zip ys).length := by simp [List.length_zip]
  rw [hl] at this
  exact this.put fun i hi m => by
    rw [List.zip_map, List.getElem?_map, List.getD_eq_getElem?_getD, List.getElem?_eq_getElem hi]; rfl
/-- for x in (list of lists of ints) -/
theorem for_lists {x : Str} {px : Pos} {k : Nat} {ar : List (List Int)} {md : Md} {e : Expr} (h : EvOK C sc names n m e (zl2 ar) md) (hmd : md = .shared ∨ md = .new ∨ md = .fresh) (hk : names[k]? = some x) (hn : names.Nodup) (hx : sc.names.lookup x = some .local ∨ sc.names.lookup x = some .cell) :
    IterOK C sc names n m (.Name x px) e ar.length (fun i m => m.set k (some (zl (ar.getD i []), false))) (fun _ => True) := by
  have := It1.iter (px := px) (it_list h hmd) hk hn hx
  rw [List.length_map] at this
  exact this.put fun i hi m => by rw [zl2_at hi]; rfl

theorem onward_body (H : Gl C) {walk goals : List Int} {pole : Nat} (hw : walk.length = 10) (hg : goals.length = 10) (hp : pole ≤ 100) (hb : ∀ i, i < 10 → 0 ≤ walk.getD i 0 ∧ walk.getD i 0 ≤ pole) :
    RsOK C S10.1 (S10.1.names.map (·.1)) n (some (zl walk, false) :: some (zl goals, false) :: some (.int pole, false) :: List.replicate 13 none) B10.1 (zl (onwardOf walk goals pole)) := by
  have hn : (S10.1.names.map (·.1)).Nodup := by decide +kernel
  have ok0 : ArOk (List.replicate (pole + 1) []) (pole + 1) 0 := ⟨by simp, fun l hl => by rw [(List.mem_replicate.mp hl).2]; simp, fun l hl v hv => by rw [(List.mem_replicate.mp hl).2] at hv; simp at hv⟩
  refine rs_cons (sx_at (k := 3) (d := .int 10) (EvOK.as (x_len H rfl (nm_s 0 rfl rfl) (by simp; lia)) (by simp [hw])) rfl rfl hn (.inl rfl)) ?_
  refine rs_cons (m' := [some (zl walk, false), some (zl goals, false), some (.int pole, false), some (.int 10, false), none, some (zl2 (List.replicate (pole + 1) []), true), none, none, none, none, none, none, none, none, none, none]) ?_ ?_
  · refine EqMM ?_ (sx_comp (k := 5) (names' := [".0", "node"]) (mc := [none, none]) (J := id) (p := fun _ => true) (f := fun _ => .list []) (N := pole + 1) true ⟨rfl, by decide +kernel, by decide +kernel, by decide +kernel⟩ capt2
      (comp_range (k := 1) (K := pole + 1) H.good H.range rfl (x_add (nm_s 2 rfl rfl) x_int) (by lia) (by lia) (rs_size (pole + 1)) ⟨rfl, by decide +kernel, by decide +kernel, by decide +kernel⟩ rfl (by decide +kernel) rfl) (by lia) (fun i hi => .inl ⟨rfl, rfl⟩)
      (fun i hi _ => ev_nil) rfl hn rfl
      (fun env hE => by
        obtain ⟨⟩ := env
        obtain ⟨h1, _, _, _⟩ := hE
        dsimp only at h1; subst h1
        rfl))
    have : picked (fun _ => true) (fun _ => .list []) (pole + 1) = (List.replicate (pole + 1) []).map zl := by
      unfold picked
      rw [List.filter_eq_self.mpr (by simp), List.map_const', List.length_range, List.map_replicate]; rfl
    rw [this]; rfl
  refine rs_cons (sx_forE (fun i => [some (zl walk, false), some (zl goals, false), some (.int pole, false), some (.int 10, false), none, some (zl2 ((List.range i).foldl (cornerStep walk goals) (List.replicate (pole + 1) [])), true), none, none, none, none, none, none, none, none, none, none])
    (for_enum (k := 6) (j := 4) H.good H.enumerate rfl (nm_s 0 rfl rfl) (.inl rfl) rfl rfl hn (.inl rfl) (.inl rfl)) (Weak.refl _) (fun _ _ h => by cases h) rfl fun c hc => ?_) ?_
  · rw [hw] at hc
    have okc := ok0.corners (walk := walk) (goals := goals) (fun i hi => by have := hb i hi; lia) c (by lia)
    obtain ⟨b1, b2⟩ := hb c hc
    rw [foldl_range_succ]
    generalize (List.range c).foldl (cornerStep walk goals) (List.replicate (pole + 1) []) = ar at *
    have hkn : (walk.getD c 0).toNat < pole + 1 := by lia
    have oki := fun i => okc.inner (goals := goals) (c := c) hkn i
    refine SsOK.weak' (ss_cons (sx_forE (m' := [some (zl walk, false), some (zl goals, false), some (.int pole, false), some (.int 10, false), some (.int (walk.getD c 0), false), some (zl2 ((List.range 9).foldl (inStep goals c (walk.getD c 0).toNat) ar), true), some (.int c, false), none, none, none, none, none, none, none, none, none])
      (fun i => [some (zl walk, false), some (zl goals, false), some (.int pole, false), some (.int 10, false), some (.int (walk.getD c 0), false), some (zl2 ((List.range i).foldl (inStep goals c (walk.getD c 0).toNat) ar), true), some (.int c, false), none, none, none, none, none, none, none, none, none])
      (for_range2 (k := 7) (a := 1) (K := 9) H.good H.range rfl (EvOK.as x_int rfl) (nm_s 3 rfl rfl) (by decide) (by decide) (by decide) (by decide) rfl hn (.inl rfl)) (Weak.refl _) (fun _ _ => trivial) rfl fun i hi => ?_)
      (sx_ss (sx_append_nest (k := 5) (ds := ((List.range 9).foldl (inStep goals c (walk.getD c 0).toNat) ar).map zl) (xs := (((List.range 9).foldl (inStep goals c (walk.getD c 0).toNat) ar).getD (walk.getD c 0).toNat []).map PyData.int) (t := (walk.getD c 0).toNat) (d := .int (2 * (c : Int))) (x_mul x_int (nm_s 6 rfl rfl) (IntMulOk.of_left (by decide))) (nm_s 4 rfl rfl) rfl rfl rfl
        (by rw [List.length_map, (oki 9).len]; lia) (by rw [List.length_map, (oki 9).len]; exact seq_nn b1 (by lia)) (zl2_at (by rw [(oki 9).len]; lia)) zl_atoms (by rw [List.length_map]; have := (oki 9).caps _ (getD_mem2 (by rw [(oki 9).len]; exact hkn)); lia)))) ?_
    · have ok := oki i
      rw [foldl_range_succ]
      generalize (List.range i).foldl (inStep goals c (walk.getD c 0).toNat) ar = br at *
      have e1 : ((c : Int) - ((1 + i : Nat) : Int)).fmod 10 = (prevOf c (i + 1) : Nat) := by rw [Nat.add_comm 1 i]; exact prev_eq hc (by lia)
      have hpv : prevOf c (i + 1) < 10 := Nat.mod_lt _ (by decide)
      refine sx_ss (sx_if (b := goals.getD (prevOf c (i + 1)) 0 == (c : Int)) (ts_cmp (x_idx (j := prevOf c (i + 1)) (nm_s 1 rfl rfl) (EvOK.as (x_mod (x_sub (nm_s 6 rfl rfl) (nm_s 7 rfl rfl)) (nm_s 3 rfl rfl)) (by rw [e1])) (by lia) (by rw [hg]; exact seq_nn (by lia) (by lia)) (getD_of (by lia))) (nm_s 6 rfl rfl) cmp_eq_int) (fun hcc => ?_) (fun hcc => ?_))
      · refine SsOK.weak' (sx_ss (sx_append_nest (k := 5) (ds := br.map zl) (xs := (br.getD (walk.getD c 0).toNat []).map PyData.int) (t := (walk.getD c 0).toNat) (d := .int (2 * (prevOf c (i + 1) : Nat) + 1)) (x_add (x_mul x_int (EvOK.as (x_mod (x_sub (nm_s 6 rfl rfl) (nm_s 7 rfl rfl)) (nm_s 3 rfl rfl)) (by rw [e1])) (IntMulOk.of_left (by decide))) x_int) (nm_s 4 rfl rfl) rfl rfl rfl
          (by rw [List.length_map, ok.len]; lia) (by rw [List.length_map, ok.len]; exact seq_nn b1 (by lia)) (zl2_at (by rw [ok.len]; lia)) zl_atoms (by rw [List.length_map]; have := ok.caps _ (getD_mem2 (by rw [ok.len]; exact hkn)); lia))) ?_
        rw [show inStep goals c (walk.getD c 0).toNat br i = _ from if_pos hcc, add_zl]
        repeat first | exact Weak.nil | apply Weak.same | apply Weak.none
      · refine SsOK.weak' ss_nil ?_
        rw [show inStep goals c (walk.getD c 0).toNat br i = _ from if_neg (by rw [hcc]; decide)]
        repeat first | exact Weak.nil | apply Weak.same | apply Weak.none
    · rw [show cornerStep walk goals ar c = addTo _ _ _ from rfl, add_zl]
      repeat first | exact Weak.nil | apply Weak.same | apply Weak.none
  rw [hw]
  refine rs_cons (sx_forE (fun i => [some (zl walk, false), some (zl goals, false), some (.int pole, false), some (.int 10, false), none, some (zl2 ((List.range i).foldl (poleStep goals pole) (around1 walk goals pole)), true), none, none, none, none, none, none, none, none, none, none])
    (for_down (k := 6) (a := 9) (K := 10) H.good H.range rfl (EvOK.as (x_sub (nm_s 3 rfl rfl) x_int) rfl) (x_neg x_int) (x_neg x_int) (by decide) (by decide) rfl rfl hn (.inl rfl)) (Weak.refl _) (fun _ _ => trivial) rfl fun i hi => ?_) ?_
  · have okp := ((ok0.corners (walk := walk) (goals := goals) (fun i hi => by have := hb i hi; lia) 10 (by lia)).poles (goals := goals) (Nat.lt_succ_self pole)) i
    rw [foldl_range_succ]
    change ArOk ((List.range i).foldl (poleStep goals pole) (around1 walk goals pole)) _ _ at okp
    generalize (List.range i).foldl (poleStep goals pole) (around1 walk goals pole) = ar at *
    refine sx_ss (sx_if (b := decide (goals.getD (9 - i) 0 < 0)) (ts_cmp (x_idx (j := 9 - i) (nm_s 1 rfl rfl) (nm_s 6 rfl rfl) (by lia) (by rw [hg]; exact seq_nn (by lia) (by lia)) (getD_of (by lia))) x_int cmp_lt) (fun hcc => ?_) (fun hcc => ?_))
    · refine SsOK.weak' (sx_ss (sx_append_nest (k := 5) (ds := ar.map zl) (xs := (ar.getD pole []).map PyData.int) (t := pole) (d := .int (2 * ((9 - i : Nat) : Int) + 1)) (x_add (x_mul x_int (nm_s 6 rfl rfl) (IntMulOk.of_left (by decide))) x_int) (nm_s 2 rfl rfl) rfl rfl rfl
          (by rw [List.length_map, okp.len]; lia) (by rw [List.length_map, okp.len]; exact seq_nn (by lia) (by lia)) (zl2_at (by rw [okp.len]; lia)) zl_atoms (by rw [List.length_map]; have := okp.caps _ (getD_mem2 (by rw [okp.len]; exact Nat.lt_succ_self pole)); lia))) ?_
      rw [show poleStep goals pole ar i = _ from if_pos hcc, add_zl]
      repeat first | exact Weak.nil | apply Weak.same | apply Weak.none
    · refine SsOK.weak' ss_nil ?_
      rw [show poleStep goals pole ar i = _ from if_neg (by rw [hcc]; decide)]
      repeat first | exact Weak.nil | apply Weak.same | apply Weak.none
  have okE := ((ok0.corners (walk := walk) (goals := goals) (fun i hi => by have := hb i hi; lia) 10 (by lia)).poles (goals := goals) (Nat.lt_succ_self pole)) 10
  change ArOk (around2 walk goals pole) _ _ at okE
  refine rs_cons (sx_own (k := 8) (d := zl (List.replicate 20 0)) (EvOK.as (ev_rep (d := .int 0) (ev_listF (evs_cons (x_int.atom rfl) evs_nil)) (x_mul x_int (nm_s 3 rfl rfl) (IntMulOk.of_left (by decide))) (by decide) (by decide) rfl) (by rfl)) rfl hn (.inl rfl)) ?_
  refine rs_cons (SxOK.weak (m' := [none, none, none, none, none, some (zl2 (around2 walk goals pole), false), none, none, some (zl (List.replicate 20 0), true), none, none, none, none, none, none, none])
    (sx_forE (m' := [none, none, none, none, none, none, none, none, some (zl (onwardOf walk goals pole), true), none, none, none, none, none, none, none]) (fun i => [none, none, none, none, none, none, none, none, some (zl (((around2 walk goals pole).take i).foldl (fun on l => (circle l).foldl turnTo on) (List.replicate 20 0)), true), none, none, none, none, none, none, none])
    (for_lists (k := 9) (nm_s 5 rfl rfl) (.inl rfl) rfl hn (.inl rfl)) ?_ (fun _ _ => trivial) ?_ fun i hi => ?_) ?_) (rs_ret (nm_m 8 rfl rfl))
  · repeat first | exact Weak.nil | apply Weak.same | apply Weak.none
  · rw [List.take_length]; rfl
  · have hmem := getD_mem2 hi
    have hv := okE.vals _ hmem
    have hcap := okE.caps _ hmem
    have e1 : (around2 walk goals pole).take (i + 1) = (around2 walk goals pole).take i ++ [(around2 walk goals pole).getD i []] := by
      rw [List.take_add_one, List.getElem?_eq_getElem hi, List.getD_eq_getElem?_getD, List.getElem?_eq_getElem hi]; rfl
    rw [e1, List.foldl_append]
    simp only [List.foldl_cons, List.foldl_nil]
    have hlen : ∀ (ar : List (List Int)), (ar.foldl (fun on l => (circle l).foldl turnTo on) (List.replicate 20 0)).length = 20 := fun ar => by
      have key : ∀ (l : List (Int × Int)) (on : List Int), (l.foldl turnTo on).length = on.length := fun l => by
        induction l with
        | nil => intro on; rfl
        | cons p l ih => intro on; simp only [List.foldl_cons]; rw [ih]; simp [turnTo]
      have : ∀ (ar : List (List Int)) (on : List Int), (ar.foldl (fun on l => (circle l).foldl turnTo on) on).length = on.length := fun ar => by
        induction ar with
        | nil => intro on; rfl
        | cons p l ih => intro on; simp only [List.foldl_cons]; rw [ih, key]
      rw [this]; simp
    have hl0 := hlen ((around2 walk goals pole).take i)
    generalize ((around2 walk goals pole).take i).foldl (fun on l => (circle l).foldl turnTo on) (List.replicate 20 0) = on at *
    generalize (around2 walk goals pole).getD i [] = l at *
    refine sx_ss (sx_forE (fun j => [none, none, none, none, none, none, none, none, some (zl (((circle l).take j).foldl turnTo on), true), none, none, none, none, none, none, none])
      (for_zip (k := 10) (j := 11) (xs := l) (ys := l.drop 1 ++ l.take 1) (m2 := .fresh) H.good H.zip rfl (nm_s 9 rfl rfl) (.inl rfl) ?_ (.inr (.inr rfl)) rfl rfl hn (.inl rfl) (.inl rfl)) ?_ ?_ ?_ fun j hj => ?_)
    · refine EvOK.as (ev_cat (x_slice (nm_s 9 rfl rfl) (part_some x_int) part_none part_none (by decide) (by lia)) (x_slice (nm_s 9 rfl rfl) part_none (part_some x_int) part_none (by decide) (by lia)) ?_ zl_atoms zl_atoms) ?_
      · rw [spick_from' _ (by decide), spick_upto _ (by decide)]; simp; lia
      · rw [spick_from' _ (by decide), spick_upto _ (by decide), ← List.map_append]; rfl
    · repeat first | exact Weak.nil | apply Weak.same | apply Weak.none
    · intro j _ _ k d h
      exact (noShared rfl k d h).elim
    · show [none, none, none, none, none, none, none, none, some (zl (((circle l).take (circle l).length).foldl turnTo on), true), none, none, none, none, none, none, none] = _
      rw [List.take_length]
    · change j < (circle l).length at hj
      have e2 : (circle l).take (j + 1) = (circle l).take j ++ [(circle l).getD j (0, 0)] := by
        rw [List.take_add_one, List.getElem?_eq_getElem hj, List.getD_eq_getElem?_getD, List.getElem?_eq_getElem hj]; rfl
      have hm : (circle l).getD j (0, 0) ∈ circle l := by
        rw [List.getD_eq_getElem?_getD, List.getElem?_eq_getElem hj]; exact List.getElem_mem hj
      rw [e2, List.foldl_append]
      simp only [List.foldl_cons, List.foldl_nil]
      have hll : (((circle l).take j).foldl turnTo on).length = 20 := by
        have key : ∀ (l : List (Int × Int)) (on : List Int), (l.foldl turnTo on).length = on.length := fun l => by
          induction l with
          | nil => intro on; rfl
          | cons p l ih => intro on; simp only [List.foldl_cons]; rw [ih]; simp [turnTo]
        rw [key, hl0]
      generalize ((circle l).take j).foldl turnTo on = on2 at *
      have hp1 : 0 ≤ ((circle l).getD j (0, 0)).1 ∧ ((circle l).getD j (0, 0)).1 < 20 := hv _ (List.of_mem_zip (show (((circle l).getD j (0, 0)).1, ((circle l).getD j (0, 0)).2) ∈ l.zip (l.drop 1 ++ l.take 1) from hm)).1
      change SsOK C _ _ n (([none, none, none, none, none, none, none, none, some (zl on2, true), none, none, none, none, none, none, none].set 10 (some (.int ((circle l).getD j (0, 0)).1, false))).set 11 (some (.int ((circle l).getD j (0, 0)).2, false))) _ _
      generalize (circle l).getD j (0, 0) = p at *
      obtain ⟨p1, p2⟩ := p
      dsimp only at hp1 ⊢
      have e3 : p1 + 1 - 2 * (p1.fmod 2) = (mateOf p1.toNat : Nat) := by
        rw [Int.fmod_eq_emod_of_nonneg _ (by lia)]; unfold mateOf; lia
      have hmt : mateOf p1.toNat < 20 := by unfold mateOf; lia
      refine SsOK.weak' (sx_ss (sx_setitem (k := 8) (t := (mateOf p1.toNat : Nat)) (nm_s 11 rfl rfl) (EvOK.as (x_sub (x_add (nm_s 10 rfl rfl) x_int) (x_mul x_int (x_mod (nm_s 10 rfl rfl) x_int) (IntMulOk.of_left (by decide)))) (by rw [e3])) rfl rfl (by rw [List.length_map]; lia) (by lia) (by rw [List.length_map]; lia) rfl)) ?_
      rw [show turnTo on2 (p1, p2) = on2.set (mateOf p1.toNat) p2 from rfl]
      simp only [zl, List.map_set, Int.toNat_natCast]
      repeat first | exact Weak.nil | apply Weak.same | apply Weak.none
  · repeat first | exact Weak.nil | apply Weak.same | apply Weak.none | apply Weak.less
end
end Mine
end

/-! text MR11 -/
section
open PySem PySem.Spec PySem.Calls PyProof.Rows
set_option linter.unusedVariables false
set_option maxRecDepth 100000
namespace Mine
section
variable {C : Cx} {n : Nat}
/-! _law_rooms -/
def orb (onward : List Int) (h : Nat) : Nat → Nat
  | 0 => h
  | k + 1 => (onward.getD (orb onward h k) 0).toNat
def roomOf (onward : List Int) (K : Nat → Nat) (h : Nat) : List Int := (List.range (K h + 1)).map fun k => (orb onward h k : Int)
def roomsOf (onward : List Int) (K : Nat → Nat) (N : Nat) : List PyData := ((List.range N).filter fun h => minL (roomOf onward K h) == (h : Int)).map fun h => zl (roomOf onward K h)
theorem roomsOf_succ {onward : List Int} {K : Nat → Nat} {i : Nat} : roomsOf onward K (i + 1) = roomsOf onward K i ++ if (minL (roomOf onward K i) == (i : Int)) = true then [zl (roomOf onward K i)] else [] := by
  unfold roomsOf
  rw [List.range_succ, List.filter_append, List.map_append, List.filter_cons]
  split <;> simp
theorem roomsOf_len {onward : List Int} {K : Nat → Nat} {i : Nat} : (roomsOf onward K i).length ≤ i := by
  unfold roomsOf
  rw [List.length_map]
  exact Nat.le_trans (List.length_filter_le ..) (by simp)

theorem rooms_body (H : Gl C) {onward : List Int} {K : Nat → Nat} (hl : onward.length ≤ 900) (hb : ∀ i, i < onward.length → 0 ≤ onward.getD i 0 ∧ onward.getD i 0 < onward.length)
    (hK : ∀ h, h < onward.length → K h ≤ 900 ∧ orb onward h (K h + 1) = h ∧ ∀ i, i < K h → orb onward h (i + 1) ≠ h) :
    RsOK C S11.1 (S11.1.names.map (·.1)) n (some (zl onward, false) :: List.replicate 6 none) B11.1 (.list (roomsOf onward K onward.length)) := by
  have hn : (S11.1.names.map (·.1)).Nodup := by decide +kernel
  refine rs_cons (sx_own (k := 1) (d := .list []) ev_nil rfl hn (.inl rfl)) ?_
  refine rs_cons (sx_forE (fun i => [some (zl onward, false), some (.list (roomsOf onward K i), true), none, none, none, none, none])
    (for_range (k := 2) (K := onward.length) H.good H.range rfl (x_len H rfl (nm_s 0 rfl rfl) (by simp only [List.length_map]; lia)) (by simp only [List.length_map]; lia) (by simp only [List.length_map]; lia) (by simp only [List.length_map]; exact rs_size _) rfl hn (.inl rfl)) ?_ (fun _ _ => trivial) rfl fun h hh => ?_) (rs_ret (nm_m 1 rfl rfl))
  · repeat first | exact Weak.nil | apply Weak.same | apply Weak.none
  obtain ⟨k1, k2, k3⟩ := hK h hh
  have ob : ∀ k, orb onward h k < onward.length := fun k => by
    induction k with
    | zero => exact hh
    | succ k ih =>
      obtain ⟨b1, b2⟩ := hb _ ih
      show (onward.getD (orb onward h k) 0).toNat < _
      lia
  have nxt : ∀ k, onward.getD (orb onward h k) 0 = (orb onward h (k + 1) : Nat) := fun k => by
    obtain ⟨b1, b2⟩ := hb _ (ob k)
    show _ = ((onward.getD (orb onward h k) 0).toNat : Int)
    lia
  have last : ∀ k, ((List.range (k + 1)).map fun k => (orb onward h k : Int)).getLast? = some (orb onward h k : Int) := fun k => by
    rw [List.range_succ, List.map_append]; simp
  have hrl := roomsOf_len (onward := onward) (K := K) (i := h)
  refine SsOK.weak' (m' := [some (zl onward, false), some (.list (roomsOf onward K (h + 1)), true), some (.int h, false), none, none, none, none]) (ss_cons (sx_own (k := 3) (d := zl [(h : Int)]) (ev_listF (evs_cons ((nm_s 2 rfl rfl).atom rfl) evs_nil)) rfl hn (.inl rfl))
    (ss_cons (sx_whileE (K h) (fun i => [some (zl onward, false), some (.list (roomsOf onward K h), true), some (.int h, false), some (zl ((List.range (i + 1)).map fun k => (orb onward h k : Int)), true), none, none, none]) ?_ rfl (fun i hi => ?_) ?_ fun i hi => ?_)
    (sx_ss (sx_ifW (b := minL (roomOf onward K h) == (h : Int)) (ts_cmp (x_min H rfl (nm_m 3 rfl rfl) (by simp)) (nm_s 2 rfl rfl) cmp_eq_int) (fun hc => ⟨sx_ss (sx_append_move (k := 1) (j := 3) rfl rfl rfl rfl (by decide) (by lia)), ?_⟩) (fun hc => ⟨ss_nil, ?_⟩))))) ?_
  · exact Weak.refl _
  · refine (ts_cmp (x_idx (j := orb onward h i) (nm_s 0 rfl rfl) (x_last (nm_m 3 rfl rfl) (x_neg x_int) (by simp; lia) (last i)) (by lia) (seq_nn (by lia) (by have := ob i; lia)) (getD_of (ob i))) (nm_s 2 rfl rfl) cmp_ne_int).as ?_
    rw [nxt]
    have := k3 i hi
    simp; lia
  · refine (ts_cmp (x_idx (j := orb onward h (K h)) (nm_s 0 rfl rfl) (x_last (nm_m 3 rfl rfl) (x_neg x_int) (by simp; lia) (last (K h))) (by lia) (seq_nn (by lia) (by have := ob (K h); lia)) (getD_of (ob (K h)))) (nm_s 2 rfl rfl) cmp_ne_int).as ?_
    rw [nxt, k2]; simp
  · refine SsOK.weak' (sx_ss (sx_append (k := 3) (d := .int (orb onward h (i + 1) : Nat)) (((x_idx (j := orb onward h i) (nm_s 0 rfl rfl) (x_last (nm_m 3 rfl rfl) (x_neg x_int) (by simp; lia) (last i)) (by lia) (seq_nn (by lia) (by have := ob i; lia)) (getD_of (ob i))).as (by rw [nxt])).atom rfl) rfl rfl (by simp; lia))) ?_
    simp only [zl, List.range_succ (n := i + 1), List.map_append, List.map_cons, List.map_nil]
    repeat first | exact Weak.nil | apply Weak.same | apply Weak.none
  · rw [roomsOf_succ, if_pos hc]
    repeat first | exact Weak.nil | apply Weak.same | apply Weak.none
  · rw [roomsOf_succ, if_neg (by rw [hc]; decide), List.append_nil]
    repeat first | exact Weak.nil | apply Weak.same | apply Weak.none
  · repeat first | exact Weak.nil | apply Weak.same | apply Weak.none
end
end Mine
end

/-! text MR13 -/
section
open PySem PySem.Spec PySem.Calls PyProof.Rows
set_option linter.unusedVariables false
set_option maxRecDepth 100000
namespace Mine
section
variable {C : Cx} {n : Nat}
/-! _law_tie -/
def heightsOf (corners steps : List Int) : List Int := corners.map fun c => steps.getD c.toNat 0
def placeOfTop (corners steps : List Int) : Nat := (heightsOf corners steps).idxOf (maxL (heightsOf corners steps))
/-- an item, counted from the end when the number is negative -/
def getI (xs : List Int) (i : Int) : Int := xs.getD (if i < 0 then (i + xs.length).toNat else i.toNat) 0
def mateTop (corners steps : List Int) : Int :=
  if getI (heightsOf corners steps) ((placeOfTop corners steps : Int) - 2) == getI (heightsOf corners steps) (placeOfTop corners steps : Int) then (placeOfTop corners steps : Int) - 2 else (placeOfTop corners steps : Int) - 1
def tieOf (corners steps : List Int) : PyData :=
  .tuple [.int (min (getI corners (placeOfTop corners steps : Int)) (getI corners (mateTop corners steps))), .int (max (getI corners (placeOfTop corners steps : Int)) (getI corners (mateTop corners steps)))]

theorem picked_all {f : Nat → PyData} {N : Nat} : picked (fun _ => true) f N = (List.range N).map f := by
  unfold picked
  rw [List.filter_eq_self.mpr (by simp)]
theorem map_range {xs : List Int} {f : Int → Int} : (List.range xs.length).map (fun i => PyData.int (f (xs.getD i 0))) = (xs.map f).map PyData.int := by
  apply List.ext_getElem
  · simp
  · intro i h1 h2
    have hi : i < xs.length := by simpa using h1
    simp [List.getD_eq_getElem?_getD, List.getElem?_eq_getElem hi]
theorem x_getI {sc : Scope} {names : List Str} {m : MM} {o i : Expr} {pos : Pos} {ml mr : Md} {xs : List Int} {k : Int} (ho : EvOK C sc names n m o (zl xs) ml) (hi : EvOK C sc names n m i (.int k) mr)
    (hsz : xs.length ≤ 1000) (h1 : -(xs.length : Int) ≤ k) (h2 : k < xs.length)
    (hs : ∀ o v, subscripted i false o v = operate [o, v] (getItem o v) := by intro _ _; rfl) : EvOK C sc names n m (.Subscript o i pos) (.int (getI xs k)) .any := by
  unfold getI
  by_cases h : k < 0
  · rw [if_pos h]
    exact x_idx ho hi hsz (seq_neg h h1) (getD_of (by lia)) hs
  · rw [if_neg h]
    exact x_idx ho hi hsz (seq_nn (by lia) h2) (getD_of (by lia)) hs

theorem tie_body (H : Gl C) {corners steps : List Int} (hc2 : 2 ≤ corners.length) (hc : corners.length ≤ 900) (hs : steps.length ≤ 900) (hb : ∀ i, i < corners.length → 0 ≤ corners.getD i 0 ∧ corners.getD i 0 < steps.length) :
    RsOK C S13.1 (S13.1.names.map (·.1)) n (some (zl corners, false) :: some (zl steps, false) :: List.replicate 5 none) B13.1 (tieOf corners steps) := by
  have hn : (S13.1.names.map (·.1)).Nodup := by decide +kernel
  have hh : (heightsOf corners steps).length = corners.length := by simp [heightsOf]
  have hne : heightsOf corners steps ≠ [] := by intro e; rw [e] at hh; simp at hh; lia
  have hpl : placeOfTop corners steps < corners.length := by rw [← hh]; exact List.idxOf_lt_length_iff.mpr (maxL_ok hne).1
  refine rs_cons (m' := [some (zl corners, false), some (zl steps, false), some (zl (heightsOf corners steps), true), none, none, none, none]) ?_
    (rs_cons (sx_at (k := 3) (d := .int (placeOfTop corners steps : Nat)) (x_index (k := 2) rfl rfl (x_max H rfl (nm_m 2 rfl rfl) hne) (maxL_ok hne).1 (by lia)) rfl rfl hn (.inl rfl))
    (rs_cons (sx_at (k := 4) (d := .int (mateTop corners steps)) (md := .any) (ev_if (ts_cmp (x_getI (nm_m 2 rfl rfl) (x_sub (nm_s 3 rfl rfl) x_int) (by lia) (by lia) (by lia)) (x_getI (nm_m 2 rfl rfl) (nm_s 3 rfl rfl) (by lia) (by lia) (by lia)) cmp_eq_int) (fun hc => ?_) (fun hc => ?_)) rfl rfl hn (.inl rfl))
    (rs_ret (ev_tupM (evs_cons ((x_min2 H rfl (x_getI (nm_s 0 rfl rfl) (nm_s 3 rfl rfl) (by lia) (by lia) (by lia)) (x_getI (nm_s 0 rfl rfl) (nm_s 4 rfl rfl) (by lia) ?_ ?_)).atom rfl) (evs_cons ((x_max2 H rfl (x_getI (nm_s 0 rfl rfl) (nm_s 3 rfl rfl) (by lia) (by lia) (by lia)) (x_getI (nm_s 0 rfl rfl) (nm_s 4 rfl rfl) (by lia) ?_ ?_)).atom rfl) evs_nil))))))
  · rw [show zl (heightsOf corners steps) = .list (picked (fun _ => true) (fun i => .int (steps.getD (corners.getD i 0).toNat 0)) corners.length) by rw [picked_all, map_range (f := fun c => steps.getD c.toNat 0)]; rfl]
    exact sx_comp (k := 2) (names' := [".0", "node", "steps"]) (mc := [none, none, some (zl steps, false)]) (J := fun k => k - 1) true ⟨rfl, by decide +kernel, by decide +kernel, by decide +kernel⟩
      (capt21 rfl rfl rfl rfl)
      (comp_ints (k := 1) (nm_s 0 rfl rfl) (.inl rfl) ⟨rfl, by decide +kernel, by decide +kernel, by decide +kernel⟩ rfl (by decide +kernel) rfl) (by lia) (fun i hi => .inl ⟨rfl, rfl⟩)
      (fun i hi _ => (x_idx (nm_s 2 rfl rfl) (nm_s 1 rfl rfl) (by lia) (seq_nn (hb i hi).1 (hb i hi).2) (getD_of (by have := hb i hi; lia))).atom rfl) rfl hn rfl
      (fun env hE => by
        obtain ⟨⟩ := env
        obtain ⟨h1, _, _, _⟩ := hE
        dsimp only at h1; subst h1
        rfl)
  · rw [show mateTop corners steps = _ from if_pos hc]
    exact x_sub (nm_s 3 rfl rfl) x_int
  · rw [show mateTop corners steps = _ from if_neg (by rw [hc]; decide)]
    exact x_sub (nm_s 3 rfl rfl) x_int
  all_goals (unfold mateTop; split <;> lia)
end
end Mine
end

/-! text MY0 -/
section
open PySem PySem.Spec PySem.Calls PyProof.Rows
set_option linter.unusedVariables false
set_option maxRecDepth 100000
namespace Mine
section
variable {C : Cx} {n : Nat}
theorem RsOK.conv {sc sc' : Scope} {names : List Str} {m : MM} {b b' : List Stmt} {d : PyData} (e1 : sc = sc') (e2 : b = b') (h : RsOK C sc' names n m b' d) : RsOK C sc names n m b d := by subst e1; subst e2; exact h
theorem strip_fn (H : Gl C) {T : Str} (hT : Paren T) : FnOK C (n + 1) (Str.ofString "_strip_quoted_realnames") [.str T] (.str T) := by
  have hbind : ∀ pm c doc vs, vs.length = [Str.ofString "addr"].length → bindArgs (docDef (fnRec 2).name (fnRec 2).params (fnRec 2).body (fnRec 2).scope pm c doc) ⟨vs, []⟩ = pure ([Str.ofString "addr"].zip vs) := by
    intro pm c doc vs hv
    rw [P2.2]
    obtain ⟨a, rfl⟩ := List.length_eq_one_iff.mp hv
    rfl
  have := fn_call (C := C) (it := fnRec 2) (names := S2.1.names.map (·.1)) (n := n) (xs := [Str.ofString "addr"]) (ds := [.str T]) (k := 7) H.good (H.at (by decide)) hbind rfl (by decide +kernel) rfl (by rw [S2.2]; decide +kernel) (d := (.str T)) (RsOK.conv S2.2 B2.2 (strip_body H hT)) (by rw [S2.2]; rfl) (by rw [S2.2]; rfl) (by rw [S2.2]; rfl)
  rw [show (fnRec 2).name = Str.ofString "_strip_quoted_realnames" from N2.2] at this
  exact this
theorem check_body (H : Gl C) {T : Str} (hT : Paren T) : RsOK C S3.1 (S3.1.names.map (·.1)) (n + 1) (some (.str T, false) :: List.replicate 5 none) B3.1 (.bool (parScan T.cps.toList 0)) := by
  have hn : (S3.1.names.map (·.1)).Nodup := by decide +kernel
  refine rs_cons (sx_at (k := 0) (ev_callF (strip_fn H hT) H.good rfl (evs_cons (md := .any) (nm_s 0 rfl rfl).any evs_nil)) rfl rfl hn (.inl rfl)) ?_
  refine rs_cons (sx_at (k := 1) x_int rfl rfl hn (.inl rfl)) ?_
  exact check_rest H hT
theorem check_fn (H : Gl C) {T : Str} (hT : Paren T) : FnOK C ((n + 1) + 1) (Str.ofString "_check_parenthesis") [.str T] (.bool (parScan T.cps.toList 0)) := by
  have hbind : ∀ pm c doc vs, vs.length = [Str.ofString "addr"].length → bindArgs (docDef (fnRec 3).name (fnRec 3).params (fnRec 3).body (fnRec 3).scope pm c doc) ⟨vs, []⟩ = pure ([Str.ofString "addr"].zip vs) := by
    intro pm c doc vs hv
    rw [P3.2]
    obtain ⟨a, rfl⟩ := List.length_eq_one_iff.mp hv
    rfl
  have := fn_call (C := C) (it := fnRec 3) (names := S3.1.names.map (·.1)) (n := (n + 1)) (xs := [Str.ofString "addr"]) (ds := [.str T]) (k := 5) H.good (H.at (by decide)) hbind rfl (by decide +kernel) rfl (by rw [S3.2]; decide +kernel) (d := (.bool (parScan T.cps.toList 0))) (RsOK.conv S3.2 B3.2 (check_body H hT)) (by rw [S3.2]; rfl) (by rw [S3.2]; rfl) (by rw [S3.2]; rfl)
  rw [show (fnRec 3).name = Str.ofString "_check_parenthesis" from N3.2] at this
  exact this
theorem ring_fn (H : Gl C) {draws : List Int} (hl : draws.length = 5) : FnOK C (n + 1) (Str.ofString "_law_ring") [zl draws] (zl (ringOf draws)) := by
  have hbind : ∀ pm c doc vs, vs.length = [Str.ofString "draws"].length → bindArgs (docDef (fnRec 4).name (fnRec 4).params (fnRec 4).body (fnRec 4).scope pm c doc) ⟨vs, []⟩ = pure ([Str.ofString "draws"].zip vs) := by
    intro pm c doc vs hv
    rw [P4.2]
    obtain ⟨a, rfl⟩ := List.length_eq_one_iff.mp hv
    rfl
  have := fn_call (C := C) (it := fnRec 4) (names := S4.1.names.map (·.1)) (n := n) (xs := [Str.ofString "draws"]) (ds := [zl draws]) (k := 10) H.good (H.at (by decide)) hbind rfl (by decide +kernel) rfl (by rw [S4.2]; decide +kernel) (d := (zl (ringOf draws))) (RsOK.conv S4.2 B4.2 (ring_body H hl)) (by rw [S4.2]; rfl) (by rw [S4.2]; rfl) (by rw [S4.2]; rfl)
  rw [show (fnRec 4).name = Str.ofString "_law_ring" from N4.2] at this
  exact this
theorem text_fn (H : Gl C) {octets : List Int} (hl : octets.length ≤ 900) : FnOK C (n + 1) (Str.ofString "_law_text") [zl octets] (.str (textOf octets)) := by
  have hbind : ∀ pm c doc vs, vs.length = [Str.ofString "octets"].length → bindArgs (docDef (fnRec 5).name (fnRec 5).params (fnRec 5).body (fnRec 5).scope pm c doc) ⟨vs, []⟩ = pure ([Str.ofString "octets"].zip vs) := by
    intro pm c doc vs hv
    rw [P5.2]
    obtain ⟨a, rfl⟩ := List.length_eq_one_iff.mp hv
    rfl
  have := fn_call (C := C) (it := fnRec 5) (names := S5.1.names.map (·.1)) (n := n) (xs := [Str.ofString "octets"]) (ds := [zl octets]) (k := 0) H.good (H.at (by decide)) hbind rfl (by decide +kernel) rfl (by rw [S5.2]; decide +kernel) (d := (.str (textOf octets))) (RsOK.conv S5.2 B5.2 (text_body H hl)) (by rw [S5.2]; rfl) (by rw [S5.2]; rfl) (by rw [S5.2]; rfl)
  rw [show (fnRec 5).name = Str.ofString "_law_text" from N5.2] at this
  exact this
theorem tree_fn (H : Gl C) {octets : List Int} (hl : octets.length ≤ 900) (hpath : ∀ i, i < octets.length → ((octets.take i).foldl treeStep ⟨[0], [], [0]⟩).path ≠ []) : FnOK C (n + 1) (Str.ofString "_law_tree") [zl octets] (.tuple [zl (treeOf octets).labels, .list (treeOf octets).ties]) := by
  have hbind : ∀ pm c doc vs, vs.length = [Str.ofString "octets"].length → bindArgs (docDef (fnRec 6).name (fnRec 6).params (fnRec 6).body (fnRec 6).scope pm c doc) ⟨vs, []⟩ = pure ([Str.ofString "octets"].zip vs) := by
    intro pm c doc vs hv
    rw [P6.2]
    obtain ⟨a, rfl⟩ := List.length_eq_one_iff.mp hv
    rfl
  have := fn_call (C := C) (it := fnRec 6) (names := S6.1.names.map (·.1)) (n := n) (xs := [Str.ofString "octets"]) (ds := [zl octets]) (k := 5) H.good (H.at (by decide)) hbind rfl (by decide +kernel) rfl (by rw [S6.2]; decide +kernel) (d := (.tuple [zl (treeOf octets).labels, .list (treeOf octets).ties])) (RsOK.conv S6.2 B6.2 (tree_body H hl hpath)) (by rw [S6.2]; rfl) (by rw [S6.2]; rfl) (by rw [S6.2]; rfl)
  rw [show (fnRec 6).name = Str.ofString "_law_tree" from N6.2] at this
  exact this
set_option maxHeartbeats 1000000 in
theorem walk_fn (H : Gl C) {numbers : List Int} {K : Int → Nat} (hK : ∀ v ∈ numbers, (∀ i, i < K v → 64 ≤ cutAt v i) ∧ cutAt v (K v) < 64) (hsum : (numbers.map fun v => K v + 1).sum ≤ 900) (hpath : ∀ i, i ≤ numbers.length → ((numbers.take i).foldl (walkStep K) ⟨[0], [0], [0]⟩).path ≠ []) : FnOK C (n + 1) (Str.ofString "_law_walk") [zl numbers] (.tuple [zl (walkAt K numbers).labels, zl (walkAt K numbers).walk.dropLast]) := by
  have hbind : ∀ pm c doc vs, vs.length = [Str.ofString "numbers"].length → bindArgs (docDef (fnRec 8).name (fnRec 8).params (fnRec 8).body (fnRec 8).scope pm c doc) ⟨vs, []⟩ = pure ([Str.ofString "numbers"].zip vs) := by
    intro pm c doc vs hv
    rw [P8.2]
    obtain ⟨a, rfl⟩ := List.length_eq_one_iff.mp hv
    rfl
  have hbody := walk_body (C := C) (n := n) (K := K) (numbers := numbers) H hK hsum hpath
  have := fn_call (C := C) (it := fnRec 8) (names := S8.1.names.map (·.1)) (n := n) (xs := [Str.ofString "numbers"]) (ds := [zl numbers]) (k := 7) H.good (H.at (by decide)) hbind rfl (by decide +kernel) rfl (by rw [S8.2]; decide +kernel) (d := (.tuple [zl (walkAt K numbers).labels, zl (walkAt K numbers).walk.dropLast])) (RsOK.conv S8.2 B8.2 hbody) (by rw [S8.2]; rfl) (by rw [S8.2]; rfl) (by rw [S8.2]; rfl)
  rw [show (fnRec 8).name = Str.ofString "_law_walk" from N8.2] at this
  exact this
theorem goals_fn (H : Gl C) (F : Fg C) {labels walk : List Int} (hl : labels.length ≤ 900) (hw : walk.length ≤ 900) (hb : ∀ i, i < walk.length → 0 ≤ walk.getD i 0 ∧ walk.getD i 0 < labels.length) : FnOK C ((n + 1) + 1) (Str.ofString "_law_goals") [zl labels, zl walk] (zl (goalsOf labels walk)) := by
  have hbind : ∀ pm c doc vs, vs.length = [Str.ofString "labels", Str.ofString "walk"].length → bindArgs (docDef (fnRec 9).name (fnRec 9).params (fnRec 9).body (fnRec 9).scope pm c doc) ⟨vs, []⟩ = pure ([Str.ofString "labels", Str.ofString "walk"].zip vs) := by
    intro pm c doc vs hv
    rw [P9.2]
    obtain ⟨a, b, rfl⟩ := len2 hv
    rfl
  have := fn_call (C := C) (it := fnRec 9) (names := S9.1.names.map (·.1)) (n := (n + 1)) (xs := [Str.ofString "labels", Str.ofString "walk"]) (ds := [zl labels, zl walk]) (k := 7) H.good (H.at (by decide)) hbind rfl (by decide +kernel) rfl (by rw [S9.2]; decide +kernel) (d := (zl (goalsOf labels walk))) (RsOK.conv S9.2 B9.2 (goals_body H F hl hw hb)) (by rw [S9.2]; rfl) (by rw [S9.2]; rfl) (by rw [S9.2]; rfl)
  rw [show (fnRec 9).name = Str.ofString "_law_goals" from N9.2] at this
  exact this
theorem onward_fn (H : Gl C) {walk goals : List Int} {pole : Nat} (hw : walk.length = 10) (hg : goals.length = 10) (hp : pole ≤ 100) (hb : ∀ i, i < 10 → 0 ≤ walk.getD i 0 ∧ walk.getD i 0 ≤ pole) : FnOK C (n + 1) (Str.ofString "_law_onward") [zl walk, zl goals, .int pole] (zl (onwardOf walk goals pole)) := by
  have hbind : ∀ pm c doc vs, vs.length = [Str.ofString "walk", Str.ofString "goals", Str.ofString "pole"].length → bindArgs (docDef (fnRec 10).name (fnRec 10).params (fnRec 10).body (fnRec 10).scope pm c doc) ⟨vs, []⟩ = pure ([Str.ofString "walk", Str.ofString "goals", Str.ofString "pole"].zip vs) := by
    intro pm c doc vs hv
    rw [P10.2]
    obtain ⟨a, b, c, rfl⟩ := len3 hv
    rfl
  have := fn_call (C := C) (it := fnRec 10) (names := S10.1.names.map (·.1)) (n := n) (xs := [Str.ofString "walk", Str.ofString "goals", Str.ofString "pole"]) (ds := [zl walk, zl goals, .int pole]) (k := 13) H.good (H.at (by decide)) hbind rfl (by decide +kernel) rfl (by rw [S10.2]; decide +kernel) (d := (zl (onwardOf walk goals pole))) (RsOK.conv S10.2 B10.2 (onward_body H hw hg hp hb)) (by rw [S10.2]; rfl) (by rw [S10.2]; rfl) (by rw [S10.2]; rfl)
  rw [show (fnRec 10).name = Str.ofString "_law_onward" from N10.2] at this
  exact this
theorem rooms_fn (H : Gl C) {onward : List Int} {K : Nat → Nat} (hl : onward.length ≤ 900) (hb : ∀ i, i < onward.length → 0 ≤ onward.getD i 0 ∧ onward.getD i 0 < onward.length) (hK : ∀ h, h < onward.length → K h ≤ 900 ∧ orb onward h (K h + 1) = h ∧ ∀ i, i < K h → orb onward h (i + 1) ≠ h) : FnOK C (n + 1) (Str.ofString "_law_rooms") [zl onward] (.list (roomsOf onward K onward.length)) := by
  have hbind : ∀ pm c doc vs, vs.length = [Str.ofString "onward"].length → bindArgs (docDef (fnRec 11).name (fnRec 11).params (fnRec 11).body (fnRec 11).scope pm c doc) ⟨vs, []⟩ = pure ([Str.ofString "onward"].zip vs) := by
    intro pm c doc vs hv
    rw [P11.2]
    obtain ⟨a, rfl⟩ := List.length_eq_one_iff.mp hv
    rfl
  have := fn_call (C := C) (it := fnRec 11) (names := S11.1.names.map (·.1)) (n := n) (xs := [Str.ofString "onward"]) (ds := [zl onward]) (k := 6) H.good (H.at (by decide)) hbind rfl (by decide +kernel) rfl (by rw [S11.2]; decide +kernel) (d := (.list (roomsOf onward K onward.length))) (RsOK.conv S11.2 B11.2 (rooms_body H hl hb hK)) (by rw [S11.2]; rfl) (by rw [S11.2]; rfl) (by rw [S11.2]; rfl)
  rw [show (fnRec 11).name = Str.ofString "_law_rooms" from N11.2] at this
  exact this
theorem steps_fn (H : Gl C) {nodes : List Int} {pole : Nat} (hp : pole ≤ 900) (hl : nodes.length ≤ 900) (he : nodes.length % 2 = 0) (hb : ∀ i, i < nodes.length → 0 ≤ nodes.getD i 0 ∧ nodes.getD i 0 ≤ pole) : FnOK C (n + 1) (Str.ofString "_law_steps") [zl nodes, .int pole] (zl (stepsOf nodes pole)) := by
  have hbind : ∀ pm c doc vs, vs.length = [Str.ofString "nodes", Str.ofString "pole"].length → bindArgs (docDef (fnRec 12).name (fnRec 12).params (fnRec 12).body (fnRec 12).scope pm c doc) ⟨vs, []⟩ = pure ([Str.ofString "nodes", Str.ofString "pole"].zip vs) := by
    intro pm c doc vs hv
    rw [P12.2]
    obtain ⟨a, b, rfl⟩ := len2 hv
    rfl
  have := fn_call (C := C) (it := fnRec 12) (names := S12.1.names.map (·.1)) (n := n) (xs := [Str.ofString "nodes", Str.ofString "pole"]) (ds := [zl nodes, .int pole]) (k := 7) H.good (H.at (by decide)) hbind rfl (by decide +kernel) rfl (by rw [S12.2]; decide +kernel) (d := (zl (stepsOf nodes pole))) (RsOK.conv S12.2 B12.2 (steps_body H hp hl he hb)) (by rw [S12.2]; rfl) (by rw [S12.2]; rfl) (by rw [S12.2]; rfl)
  rw [show (fnRec 12).name = Str.ofString "_law_steps" from N12.2] at this
  exact this
theorem tie_fn (H : Gl C) {corners steps : List Int} (hc2 : 2 ≤ corners.length) (hc : corners.length ≤ 900) (hs : steps.length ≤ 900) (hb : ∀ i, i < corners.length → 0 ≤ corners.getD i 0 ∧ corners.getD i 0 < steps.length) : FnOK C (n + 1) (Str.ofString "_law_tie") [zl corners, zl steps] (tieOf corners steps) := by
  have hbind : ∀ pm c doc vs, vs.length = [Str.ofString "corners", Str.ofString "steps"].length → bindArgs (docDef (fnRec 13).name (fnRec 13).params (fnRec 13).body (fnRec 13).scope pm c doc) ⟨vs, []⟩ = pure ([Str.ofString "corners", Str.ofString "steps"].zip vs) := by
    intro pm c doc vs hv
    rw [P13.2]
    obtain ⟨a, b, rfl⟩ := len2 hv
    rfl
  have := fn_call (C := C) (it := fnRec 13) (names := S13.1.names.map (·.1)) (n := n) (xs := [Str.ofString "corners", Str.ofString "steps"]) (ds := [zl corners, zl steps]) (k := 5) H.good (H.at (by decide)) hbind rfl (by decide +kernel) rfl (by rw [S13.2]; decide +kernel) (d := (tieOf corners steps)) (RsOK.conv S13.2 B13.2 (tie_body H hc2 hc hs hb)) (by rw [S13.2]; rfl) (by rw [S13.2]; rfl) (by rw [S13.2]; rfl)
  rw [show (fnRec 13).name = Str.ofString "_law_tie" from N13.2] at this
  exact this
end
end Mine
end

/-! text MS1 -/
section
open PySem PySem.Spec PySem.Calls PyProof.Rows
set_option linter.unusedVariables false
set_option maxRecDepth 100000
namespace Mine
def nodeOf (W G : List Int) (pole : Int) (i : Nat) : List Int := [W.getD i 0, if (0 : Int) ≤ G.getD i 0 then W.getD (G.getD i 0).toNat 0 else pole]
def nodesOf (W G : List Int) (pole : Int) (k : Nat) : List Int := (List.range k).foldl (fun a i => a ++ nodeOf W G pole i) []
def roomLs (on : List Int) (K : Nat → Nat) (N : Nat) : List (List Int) := ((List.range N).filter fun h => minL (roomOf on K h) == (h : Int)).map fun h => roomOf on K h
theorem roomsOf_ls {on : List Int} {K : Nat → Nat} {N : Nat} : roomsOf on K N = (roomLs on K N).map zl := by
  unfold roomsOf roomLs
  rw [List.map_map]; rfl
def tieP (corners steps : List Int) : IP := (min (getI corners (placeOfTop corners steps : Int)) (getI corners (mateTop corners steps)), max (getI corners (placeOfTop corners steps : Int)) (getI corners (mateTop corners steps)))
theorem nodesOf_len {W G : List Int} {p : Int} (k : Nat) : (nodesOf W G p k).length = 2 * k := by
  induction k with
  | zero => rfl
  | succ k ih =>
    unfold nodesOf at *
    rw [foldl_range_succ, List.length_append, ih]
    show 2 * k + 2 = _; lia
/-- what the tail of the law needs -/
structure TailOK (tk nums : List Int) (K : Int → Nat) (Kr : Nat → Nat) (L W G on steps drawn : List Int) (tl : List IP) : Prop where
  tkl : tk.length ≤ 900
  numl : nums.length ≤ 900
  same : PyData.eqv (.list (picked (fun _ => true) (fun i => .int ((nums.getD i 0).fmod 64)) nums.length)) (.list (picked (fun i => ((tk.getD i 0).fdiv 64).fmod 2 == 0) (fun i => .int ((tk.getD i 0).fmod 64)) tk.length)) = true
  hK : ∀ v ∈ nums, (∀ i, i < K v → 64 ≤ cutAt v i) ∧ cutAt v (K v) < 64
  hsum : (nums.map fun v => K v + 1).sum ≤ 900
  hpath : ∀ i, i ≤ nums.length → ((nums.take i).foldl (walkStep K) ⟨[0], [0], [0]⟩).path ≠ []
  eL : (walkAt K nums).labels = L
  eW : (walkAt K nums).walk.dropLast = W
  lL : L.length ≤ 90
  lW : W.length = 10
  bW : ∀ i, i < W.length → 0 ≤ W.getD i 0 ∧ W.getD i 0 < L.length
  eG : goalsOf L W = G
  lG : G.length = 10
  bG : ∀ i, i < 10 → G.getD i 0 < 10
  eon : onwardOf W G L.length = on
  lon : on.length ≤ 900
  bon : ∀ i, i < on.length → 0 ≤ on.getD i 0 ∧ on.getD i 0 < on.length
  Kon : ∀ h, h < on.length → Kr h ≤ 900 ∧ orb on h (Kr h + 1) = h ∧ ∀ i, i < Kr h → orb on h (i + 1) ≠ h
  bn : ∀ i, i < 20 → 0 ≤ (nodesOf W G L.length 10).getD i 0 ∧ (nodesOf W G L.length 10).getD i 0 ≤ L.length
  est : stepsOf (nodesOf W G L.length 10) L.length = steps
  lst : steps.length = L.length + 1
  tpath : ∀ i, i < tk.length → ((tk.take i).foldl treeStep ⟨[0], [], [0]⟩).path ≠ []
  edr : (treeOf tk).labels = drawn
  ndr : drawn ≠ []
  ldr : drawn.length ≤ 900
  eti : (treeOf tk).ties = tl.map dP
  l5 : tl.length = 5
  r5 : (roomLs on Kr on.length).length = 5
  rl : ∀ l ∈ roomLs on Kr on.length, l.length = 4 ∧ ∀ a ∈ l, 0 ≤ a ∧ a < 20
  dr : steps.take L.length = drawn.map fun v => v - minL drawn + 1
  fin : sortP ((roomLs on Kr on.length).map fun l => tieP (l.map fun h => (nodesOf W G L.length 10).getD h.toNat 0) steps) = sortP tl
section
variable {C : Cx} {n : Nat}
theorem comp_lists {sc scope : Scope} {names names' : List Str} {m : MM} {J : Nat → Nat} {x : Str} {px : Pos} {k : Nat} {e : Expr} {ar : List (List Int)} {md : Md} (h : EvOK C sc names n m e (zl2 ar) md) (hmd : md = .shared ∨ md = .new ∨ md = .fresh) (hc : CompSc scope sc) (hk : names'[k]? = some x) (hn : names'.Nodup) (hx : scope.names.lookup x = some .local) :
    CompIt C sc scope names names' n m J (.Name x px) e ar.length (fun i m => m.set k (some (zl (ar.getD i []), false))) := by
  have := It1.comp (px := px) (J := J) (it_list h hmd) hc hk hn hx
  rw [List.length_map] at this
  exact this.put fun i hi m => by rw [zl2_at hi]; rfl
def tailM (ns cells oct : List Int) (rings : List (List Int)) (tk nums : List Int) : MM :=
  [some (zl ns, false), some (zl cells, false), some (zl oct, false), some (zl2 rings, false), some (zl2 [tk], false), some (zl nums, false), none, none, none, none, none, none, none, none, none, none, none]
theorem tail_body (H : Gl C) (F : Fg C) {ns cells oct tk nums L W G on steps drawn : List Int} {rings : List (List Int)} {K : Int → Nat} {Kr : Nat → Nat} {tl : List IP} (T : TailOK tk nums K Kr L W G on steps drawn tl) :
    RsOK C S14.1 (S14.1.names.map (·.1)) (n + 2) (tailM ns cells oct rings tk nums) (B14.1.drop 6) (.bool true) := by
  have hn : (S14.1.names.map (·.1)).Nodup := by decide +kernel
  refine rs_if (ts_cmp (dl := .list (picked (fun _ => true) (fun i => .int ((nums.getD i 0).fmod 64)) nums.length)) (dr := .list (picked (fun i => ((tk.getD i 0).fdiv 64).fmod 2 == 0) (fun i => .int ((tk.getD i 0).fmod 64)) tk.length))
    (ev_comp (names' := [".0", "number"]) (mc := [none, none]) (J := id) true ⟨rfl, by decide +kernel, by decide +kernel, by decide +kernel⟩ capt2
      (comp_ints (k := 1) (nm_s 5 rfl rfl) (.inl rfl) ⟨rfl, by decide +kernel, by decide +kernel, by decide +kernel⟩ rfl (by decide +kernel) rfl) (by have := T.numl; lia) (fun i hi => .inl ⟨rfl, rfl⟩)
      (fun i hi _ => (x_mod (nm_s 1 rfl rfl) x_int).atom rfl))
    (ev_comp (names' := [".0", "octet"]) (mc := [none, none]) (J := id) true ⟨rfl, by decide +kernel, by decide +kernel, by decide +kernel⟩ capt2
      (comp_ints (k := 1) (ev_index (d := zl tk) (j := 0) (ml := .shared) (nm_s 4 rfl rfl) (x_int (i := 0)) (by simp) (by show seqIndex? 0 1 = some 0; decide) rfl) (.inl rfl) ⟨rfl, by decide +kernel, by decide +kernel, by decide +kernel⟩ rfl (by decide +kernel) rfl) (by have := T.tkl; lia)
      (fun i hi => .inr ⟨_, rfl, ts_cmp (x_mod (x_div (nm_s 1 rfl rfl) x_int) x_int) x_int cmp_eq_int⟩)
      (fun i hi _ => (x_mod (nm_s 1 rfl rfl) x_int).atom rfl))
    (cmp_ne pk_lay pk_lay pk_dep)) (fun hc => by rw [T.same] at hc; cases hc) (fun _ => ?_)
  have c1 : ∀ (k : Nat) (d' : PyData), (tailM ns cells oct rings tk nums)[k]? ≠ some (some (d', true)) := noOwn rfl
  have hwf := walk_fn (C := C) (n := n + 1) H T.hK T.hsum T.hpath
  rw [T.eL, T.eW] at hwf
  refine rs_cons (sx_unpack2 (k := 6) (j := 7) (d₁ := zl L) (d₂ := zl W) (ev_callF hwf H.good rfl (evs_cons (md := .any) (nm_s 5 rfl rfl).any evs_nil)) c1 rfl rfl hn (.inl rfl) (.inl rfl)
    (swap_ok fun _ _ _ _ _ _ _ _ env e => by subst e; first | exact .inl rfl | exact .inr rfl) rfl rfl) ?_
  have hgf := goals_fn (C := C) (n := n) H F (labels := L) (walk := W) (by have := T.lL; lia) (by have := T.lW; lia) T.bW
  rw [T.eG] at hgf
  refine rs_cons (sx_pair2 (k := 8) (j := 9) (d₁ := zl G) (d₂ := .int L.length) (evs_cons (ev_callF hgf H.good rfl (evs_cons (md := .any) (nm_s 6 rfl rfl).any (evs_cons (nm_s 7 rfl rfl).any evs_nil))).any (evs_cons (EvOK.as (x_len H rfl (nm_s 6 rfl rfl) (by have := T.lL; simp; lia)) (by simp)) evs_nil)) ?_ rfl rfl hn (.inl rfl) (.inl rfl)
    (swap_ok fun _ _ _ _ _ _ _ _ env e => by subst e; first | exact .inl rfl | exact .inr rfl) rfl rfl) ?_
  · exact noOwn rfl
  refine rs_cons (sx_own (k := 10) ev_nil rfl hn (.inr rfl)) ?_
  refine rs_cons (sx_forE (fun i => [some (zl ns, false), some (zl cells, false), some (zl oct, false), some (zl2 rings, false), some (zl2 [tk], false), some (zl nums, false), some (zl L, false), some (zl W, false), some (zl G, false), some (.int L.length, false), some (zl (nodesOf W G L.length i), true), none, none, none, none, none, none])
    (for_enum (k := 11) (j := 12) H.good H.enumerate rfl (nm_s 8 rfl rfl) (.inl rfl) rfl rfl hn (.inl rfl) (.inl rfl)) (Weak.refl _) (fun _ _ h => by cases h) rfl fun i hi => ?_) ?_
  · have hb := T.bW
    have h1 := T.bG i (by have := T.lG; lia)
    have h2 := T.lW
    have h3 := T.lG
    have h4 : (nodesOf W G L.length i).length = 2 * i := nodesOf_len i
    refine SsOK.weak' (sx_ss (sx_own (k := 10) (ev_cat (nm_m 10 rfl rfl) (ev_listF (evs_cons ((x_idx (nm_s 7 rfl rfl) (nm_s 11 rfl rfl) (by lia) (seq_nn (Int.natCast_nonneg i) (by lia)) (getD_of (by lia))).atom rfl) (evs_cons ((ev_if (d := .int (if (0 : Int) ≤ G.getD i 0 then W.getD (G.getD i 0).toNat 0 else (L.length : Int))) (md := .any) (ts_cmp (nm_s 12 rfl rfl) x_int cmp_ge) (fun hc => ?_) (fun hc => ?_)).atom rfl) evs_nil))) (by simp [h4]; lia) zl_atoms rfl) rfl hn (.inr rfl))) ?_
    · have hc' : (0 : Int) ≤ G.getD i 0 := by simpa using hc
      rw [if_pos hc']
      exact x_idx (nm_s 7 rfl rfl) (nm_s 12 rfl rfl) (by lia) (seq_nn hc' (by lia)) (getD_of (by lia))
    · have hc' : ¬ (0 : Int) ≤ G.getD i 0 := by simpa using hc
      rw [if_neg hc']
      exact (nm_s 9 rfl rfl).any
    rw [show zl (nodesOf W G L.length (i + 1)) = .list ((nodesOf W G L.length i).map PyData.int ++ [.int (W.getD (i : Int).toNat 0), .int (if (0 : Int) ≤ G.getD i 0 then W.getD (G.getD i 0).toNat 0 else (L.length : Int))]) by
      unfold nodesOf
      rw [foldl_range_succ]
      show PyData.list _ = _
      rw [List.map_append]; rfl]
    repeat first | exact Weak.nil | apply Weak.same | apply Weak.none
  rw [T.lG]
  refine RsOK.weak (m' := [some (zl ns, false), some (zl cells, false), some (zl oct, false), some (zl2 rings, false), some (zl2 [tk], false), some (zl nums, false), some (zl L, false), some (zl W, false), some (zl G, false), some (.int L.length, false), some (zl (nodesOf W G L.length 10), false), none, none, none, none, none, none]) ?_
    (by repeat first | exact Weak.nil | apply Weak.same | apply Weak.none | apply Weak.less)
  have hW := T.lW
  have hG := T.lG
  have hL := T.lL
  have hof := onward_fn (C := C) (n := n + 1) H (walk := W) (goals := G) (pole := L.length) T.lW T.lG (by lia) (fun i hi => by have := T.bW i (by lia); lia)
  rw [T.eon] at hof
  have hrf := rooms_fn (C := C) (n := n + 1) H T.lon T.bon T.Kon
  rw [roomsOf_ls] at hrf
  have hN : (nodesOf W G L.length 10).length = 20 := nodesOf_len 10
  have hsf := steps_fn (C := C) (n := n + 1) H (nodes := nodesOf W G L.length 10) (pole := L.length) (by lia) (by lia) (by rw [hN]) (fun i hi => T.bn i (by lia))
  rw [T.est] at hsf
  refine rs_cons (sx_pair2 (k := 13) (j := 14) (d₁ := zl2 (roomLs on Kr on.length)) (d₂ := zl steps) (evs_cons (ev_callF hrf H.good rfl (evs_cons (ev_callF hof H.good rfl (evs_cons (md := .any) (nm_s 7 rfl rfl).any (evs_cons (nm_s 8 rfl rfl).any (evs_cons (nm_s 9 rfl rfl).any evs_nil)))).any evs_nil)).any
      (evs_cons (ev_callF hsf H.good rfl (evs_cons (md := .any) (nm_s 10 rfl rfl).any (evs_cons (nm_s 9 rfl rfl).any evs_nil))).any evs_nil)) ?_ rfl rfl hn (.inl rfl) (.inr rfl)
    (swap_ok fun _ _ _ _ _ _ _ _ env e => by subst e; first | exact .inl rfl | exact .inr rfl) rfl rfl) ?_
  · exact noOwn rfl
  have htf := tree_fn (C := C) (n := n + 1) H T.tkl T.tpath
  rw [T.edr, T.eti] at htf
  refine rs_cons (sx_unpack2 (k := 15) (j := 16) (d₁ := zl drawn) (d₂ := .list (tl.map dP)) (ev_callF htf H.good rfl (evs_cons (md := .any) (ev_index (d := zl tk) (j := 0) (ml := .shared) (nm_s 4 rfl rfl) (x_int (i := 0)) (by simp) (by show seqIndex? 0 1 = some 0; decide) rfl).any evs_nil)) ?_ rfl rfl hn (.inr rfl) (.inl rfl)
    (swap_ok fun _ _ _ _ _ _ _ _ env e => by subst e; first | exact .inl rfl | exact .inr rfl) rfl rfl) ?_
  · exact noOwn rfl
  have hR5 := T.r5
  have hRl : ∀ i, i < 5 → ((roomLs on Kr on.length).getD i []).length = 4 ∧ ∀ a ∈ (roomLs on Kr on.length).getD i [], 0 ≤ a ∧ a < 20 := fun i hi => by
    refine T.rl _ ?_
    exact getD_mem (by lia)
  have hRj : ∀ i, i < 5 → ∀ j, j < 4 → 0 ≤ ((roomLs on Kr on.length).getD i []).getD j 0 ∧ ((roomLs on Kr on.length).getD i []).getD j 0 < 20 := fun i hi j hj => by
    refine (hRl i hi).2 _ ?_
    have hlt : j < ((roomLs on Kr on.length).getD i []).length := by rw [(hRl i hi).1]; exact hj
    exact getD_mem hlt
  have hCb : ∀ i, i < 5 → ∀ j, j < (((roomLs on Kr on.length).getD i []).map fun h => (nodesOf W G L.length 10).getD h.toNat 0).length → 0 ≤ (((roomLs on Kr on.length).getD i []).map fun h => (nodesOf W G L.length 10).getD h.toNat 0).getD j 0 ∧ (((roomLs on Kr on.length).getD i []).map fun h => (nodesOf W G L.length 10).getD h.toNat 0).getD j 0 < steps.length := fun i hi j hj => by
    rw [List.length_map] at hj
    have h4 := (hRl i hi).1
    have h5 := hRj i hi j (by lia)
    have e : (((roomLs on Kr on.length).getD i []).map fun h => (nodesOf W G L.length 10).getD h.toNat 0).getD j 0 = (nodesOf W G L.length 10).getD (((roomLs on Kr on.length).getD i []).getD j 0).toNat 0 := by
      rw [getD_mapd (d := 0) hj]
    rw [e, T.lst]
    have := T.bn (((roomLs on Kr on.length).getD i []).getD j 0).toNat (by lia)
    lia
  have hTies : PyData.list (picked (fun _ => true) (fun i => tieOf (((roomLs on Kr on.length).getD i []).map fun h => (nodesOf W G L.length 10).getD h.toNat 0) steps) (roomLs on Kr on.length).length) = .list (((roomLs on Kr on.length).map fun l => tieP (l.map fun h => (nodesOf W G L.length 10).getD h.toNat 0) steps).map dP) := by
    rw [picked_all]
    congr 1
    apply List.ext_getElem
    · simp
    · intro i h1 h2
      have hi : i < (roomLs on Kr on.length).length := by simpa using h1
      simp only [List.getElem_map, List.getElem_range, List.getD_eq_getElem?_getD, List.getElem?_eq_getElem hi, Option.getD_some]
      rfl
  refine rs_if (b := false) (TsOK.as (ts_or (b := false) (c := false) (TsOK.as (ts_cmp (dl := zl (List.replicate 5 4)) (dr := zl (List.replicate 5 4))
    (EvOK.as (ev_comp (f := fun i => .int (((roomLs on Kr on.length).getD i []).length : Int)) (p := fun _ => true) (names' := [".0", "room"]) (mc := [none, none]) (J := id) true ⟨rfl, by decide +kernel, by decide +kernel, by decide +kernel⟩ capt2
      (comp_lists (k := 1) (nm_s 13 rfl rfl) (.inl rfl) ⟨rfl, by decide +kernel, by decide +kernel, by decide +kernel⟩ rfl (by decide +kernel) rfl) (by lia) (fun i hi => .inl ⟨rfl, rfl⟩)
      (fun i hi _ => (EvOK.as (x_len H rfl (nm_s 1 rfl rfl) (by rw [List.length_map, (hRl i (by lia)).1]; decide)) (by simp)).atom rfl)) (by
        rw [picked_all, hR5, List.map_congr_left (g := fun _ => PyData.int 4) (fun i hi => by rw [(hRl i (List.mem_range.mp hi)).1]; rfl)]; rfl))
    (EvOK.as (ev_rep (k := 5) (ev_listF (evs_cons ((x_int (i := 4)).atom rfl) evs_nil)) x_int (by decide) (by decide) rfl) rfl)
    (cmp_ne zl_lay zl_lay zl_dep)) (ne_self zl_lay)) (fun _ => ?_)) rfl) (fun h => by cases h) (fun _ => ?_)
  · refine TsOK.as (ts_cmp (dl := zl (drawn.map fun v => v - minL drawn + 1)) (dr := zl (drawn.map fun v => v - minL drawn + 1))
      (EvOK.as (x_slice (nm_s 14 rfl rfl) part_none (part_some (nm_s 9 rfl rfl)) part_none (by decide) (by have := T.lst; lia)) (by rw [spick_upto _ (by lia), ← T.dr]; rfl))
      (EvOK.as (ev_comp (f := fun i => .int (drawn.getD i 0 - minL drawn + 1)) (p := fun _ => true) (names' := [".0", "label", "drawn"]) (mc := [none, none, some (zl drawn, false)]) (J := fun k => if k = 2 then 15 else k) true ⟨rfl, by decide +kernel, by decide +kernel, by decide +kernel⟩
        (capt21 rfl rfl rfl rfl)
        (comp_ints (k := 1) (nm_s 15 rfl rfl) (.inl rfl) ⟨rfl, by decide +kernel, by decide +kernel, by decide +kernel⟩ rfl (by decide +kernel) rfl) (by have := T.ldr; lia) (fun i hi => .inl ⟨rfl, rfl⟩)
        (fun i hi _ => (x_add (x_sub (nm_s 1 rfl rfl) (x_min H rfl (nm_s 2 rfl rfl) T.ndr)) x_int).atom rfl)) (by rw [picked_all, map_range (f := fun v => v - minL drawn + 1)]))
      (cmp_ne zl_lay zl_lay zl_dep)) (ne_self zl_lay)
  · refine rs_ret ((EvOK.as (ev_cmp (md := .any) (ev_sorted (l := (roomLs on Kr on.length).map fun l => tieP (l.map fun h => (nodesOf W G L.length 10).getD h.toNat 0) steps) H.good H.sorted rfl
        (EvOK.as (ev_comp (f := fun i => tieOf (((roomLs on Kr on.length).getD i []).map fun h => (nodesOf W G L.length 10).getD h.toNat 0) steps) (p := fun _ => true) (names' := [".0", "room", "nodes", "steps"]) (mc := [none, none, some (zl (nodesOf W G L.length 10), false), some (zl steps, false)]) (J := fun k => if k = 2 then 10 else 14) false ⟨rfl, by decide +kernel, by decide +kernel, by decide +kernel⟩
          (capt22 rfl rfl rfl rfl rfl rfl rfl rfl)
          (comp_lists (k := 1) (nm_s 13 rfl rfl) (.inl rfl) ⟨rfl, by decide +kernel, by decide +kernel, by decide +kernel⟩ rfl (by decide +kernel) rfl) (by lia) (fun i hi => .inl ⟨rfl, rfl⟩)
          (fun i hi _ => ev_callF (tie_fn (C := C) (n := n + 1) H (steps := steps) (by rw [List.length_map, (hRl i (by lia)).1]; decide) (by rw [List.length_map, (hRl i (by lia)).1]; decide) (by rw [T.lst]; lia) (hCb i (by lia))) H.good rfl
            (evs_cons (EvOK.any (EvOK.as (ev_comp (f := fun j => .int ((nodesOf W G L.length 10).getD (((roomLs on Kr on.length).getD i []).getD j 0).toNat 0)) (p := fun _ => true) (names' := [".0", "half", "nodes"]) (mc := [none, none, some (zl (nodesOf W G L.length 10), false)]) (J := id) true ⟨rfl, by decide +kernel, by decide +kernel, by decide +kernel⟩
                (capt21 rfl rfl rfl rfl)
                (comp_ints (k := 1) (nm_s 1 rfl rfl) (.inl rfl) ⟨rfl, by decide +kernel, by decide +kernel, by decide +kernel⟩ rfl (by decide +kernel) rfl) (by rw [(hRl i (by lia)).1]; decide) (fun i hi => .inl ⟨rfl, rfl⟩)
                (fun j hj _ => (x_idx (nm_s 2 rfl rfl) (nm_s 1 rfl rfl) (by lia) (seq_nn (hRj i (by lia) j (by rw [(hRl i (by lia)).1] at hj; exact hj)).1 (by rw [hN]; exact (hRj i (by lia) j (by rw [(hRl i (by lia)).1] at hj; exact hj)).2)) (getD_of (by have := hRj i (by lia) j (by rw [(hRl i (by lia)).1] at hj; exact hj); lia))).atom rfl)) (by rw [picked_all, map_range (f := fun h => (nodesOf W G L.length 10).getD h.toNat 0)])))
              (evs_cons (nm_s 3 rfl rfl).any evs_nil)))) hTies) (by simp [hR5]))
        (ev_sorted H.good H.sorted rfl (nm_s 16 rfl rfl) T.l5) (cmp_eq dp_lay dp_lay dp_dep)) (by rw [T.fin, SeqAt.eqv_refl _ dp_lay])).atom rfl)
end
end Mine
end

/-! text MS2 -/
section
open PySem PySem.Spec PySem.Calls PyProof.Rows
set_option linter.unusedVariables false
set_option maxRecDepth 100000
namespace Mine
def cellsOf (ns : List Int) : List Int := (ns.take 12).map fun v => v.fmod 1000000
def firsts : List Int := [25, 735, 45, 12, 709]
def drawsOf (cells : List Int) : List Int := (List.range 5).map fun i => firsts.getD i 0 + (spick cells (some (i : Int)) none (some 5)).sum
def ringsOf (oct : List Int) : List (List Int) := (List.range 11).map fun i => oct.drop i ++ oct.take i
def okRing (r : List Int) : Bool := parScan (textOf r.dropLast).cps.toList 0
def takenOf (oct : List Int) : List (List Int) := ((ringsOf oct).filter okRing).map List.dropLast
theorem drawsOf_len {cells : List Int} : (drawsOf cells).length = 5 := by simp [drawsOf]
theorem range_filter {α β : Type} {xs : List α} {d : α} {q : α → Bool} {g : α → β} : ((List.range xs.length).filter (fun i => q (xs.getD i d))).map (fun i => g (xs.getD i d)) = (xs.filter q).map g := by
  have e : xs = (List.range xs.length).map (fun i => xs.getD i d) := by
    apply List.ext_getElem
    · simp
    · intro i h1 h2
      simp [List.getD_eq_getElem?_getD, List.getElem?_eq_getElem h1]
  conv => rhs; rw [e, List.filter_map, List.map_map]
  rfl
/-- RsOK at the lowest frame -/
def RsT (C : Cx) (sc : Scope) (names : List Str) (n : Nat) (m : MM) (ss : List Stmt) (d : PyData) : Prop :=
  ∀ (A : Around) (E : Value → Shared → Prop) (s : Shared) (env : Env) (Kp : Addr → Option Obj) (V : Nat → Value) (Fp : Nat → List Addr),
    A.frames = some [env] → env.frame = some env.locals → Room A n → EnvOf env sc → St C.B Kp env names m V Fp s.heap →
    wpAny C.M A (execs ss env) (fun f s' => Sh s s' ∧ (∀ a o, Kp a = some o → s'.heap.get? a = some o) ∧ ∃ v as, f = .ret v ∧ Rd s'.heap v d as ∧ ∀ a ∈ as, Kp a = none) E s
section
variable {C : Cx} {sc : Scope} {names : List Str} {n : Nat} {m m' m'' : MM} {d : PyData} {e : Expr}
theorem rt_cons {st : Stmt} {ss : List Stmt} (h1 : SxOK C sc names n m st m') (h2 : RsT C sc names n m' ss d) : RsT C sc names n m (st :: ss) d := fun A E s env Kp V Fp hf hl hR hE S =>
  wpAny_execs_cons (wpAny_mono (h1 A E s env Kp V Fp hR hE S) (fun f s₁ h => by
    obtain ⟨rfl, sh, V', Fp', S'⟩ := h
    exact wpAny_mono (h2 A E s₁ env Kp V' Fp' hf hl hR hE S') (fun f s₂ h => ⟨sh.trans h.1, h.2⟩) fun _ _ h => h) fun _ _ h => h)
theorem rt_if {t : Expr} {body : List Stmt} {pos : Pos} {ss : List Stmt} {b : Bool} (ht : TsOK C sc names n m t b) (h1 : b = true → RsT C sc names n m body d) (h2 : b = false → RsT C sc names n m ss d) :
    RsT C sc names n m (.If t body [] pos :: ss) d := by
  intro A E s env Kp V Fp hf hl hR hE S
  refine wpAny_execs_cons (wpAny_If (wpAny_mono (ht A E s env Kp V Fp hR hE S) (fun c s₁ h₁ => ?_) fun _ _ h => h))
  obtain ⟨x1, rfl⟩ := h₁
  cases c
  · simp only [Bool.false_eq_true, if_false]
    exact wpAny_execs_nil (wpAny_mono (h2 rfl A E s₁ env Kp V Fp hf hl hR hE (S.up x1.up)) (fun f s₂ h => ⟨x1.sh.trans h.1, h.2⟩) fun _ _ h => h)
  · simp only [if_true]
    refine wpAny_mono (h1 rfl A E s₁ env Kp V Fp hf hl hR hE (S.up x1.up)) (fun f s₂ h => ?_) fun _ _ h => h
    obtain ⟨sh, kp, v, as, rfl, r, q⟩ := h
    exact ⟨x1.sh.trans sh, kp, v, as, rfl, r, q⟩
theorem RsT.weak {ss : List Stmt} (h : RsT C sc names n m' ss d) (w : Weak m m') : RsT C sc names n m ss d := fun A E s env Kp V Fp hf hl hR hE S => h A E s env Kp V Fp hf hl hR hE (S.weak w)
end
section
variable {C : Cx} {n : Nat}
def preM (ns : List Int) : MM := [some (zl ns, false), none, none, none, none, none, none, none, none, none, none, none, none, none, none, none, none]
theorem pre_body (H : Gl C) {ns : List Int} {d : PyData} (hl : ns.length ≤ 900) (hP : ∀ l : List Int, l.length ≤ 900 → Paren (textOf l)) (hol : (ringOf (drawsOf (cellsOf ns))).length = 11) {tk : List Int} (hT : takenOf (ringOf (drawsOf (cellsOf ns))) = [tk])
    (h : RsT C S14.1 (S14.1.names.map (·.1)) (n + 2) [some (zl ns, false), some (zl (cellsOf ns), false), some (zl (ringOf (drawsOf (cellsOf ns))), false), some (zl2 (ringsOf (ringOf (drawsOf (cellsOf ns)))), false), some (zl2 [tk], false), none, none, none, none, none, none, none, none, none, none, none, none] (B14.1.drop 5) d) :
    RsT C S14.1 (S14.1.names.map (·.1)) (n + 2) (preM ns) B14.1 d := by
  have hn : (S14.1.names.map (·.1)).Nodup := by decide +kernel
  refine rt_cons (sx_own (k := 1) (d := zl (cellsOf ns)) (EvOK.as (ev_comp (f := fun i => .int ((((spick ns none (some 12) none)).getD i 0).fmod 1000000)) (p := fun _ => true) (names' := [".0", "cell"]) (mc := [none, none]) (J := id) true ⟨rfl, by decide +kernel, by decide +kernel, by decide +kernel⟩ capt2
      (comp_ints (k := 1) (x_slice (nm_s 0 rfl rfl) part_none (part_some x_int) part_none (by decide) (by lia)) (.inr (.inr rfl)) ⟨rfl, by decide +kernel, by decide +kernel, by decide +kernel⟩ rfl (by decide +kernel) rfl) (by rw [spick_upto _ (by decide), List.length_take]; lia) (fun i hi => .inl ⟨rfl, rfl⟩)
      (fun i hi _ => (x_mod (b := 1000000) (ev_intc (ma := .shared) (md := .any) H.good H.int rfl (nm_s 1 rfl rfl)) (EvOK.as (ev_pow (md := .any) (x_int (i := 10)) (x_int (i := 6)) (by decide) (by decide) (by decide)) (congrArg PyData.int (by decide)))).atom rfl)) (by rw [picked_all, map_range (f := fun v => v.fmod 1000000), spick_upto _ (by decide)]; rfl)) rfl hn (.inr rfl)
      (fun env hE => by
        obtain ⟨⟩ := env
        obtain ⟨h1, _, _, _⟩ := hE
        dsimp only at h1; subst h1
        rfl)) ?_
  refine rt_cons (sx_sh (k := 2) (ev_callF (ring_fn (n := n + 1) H (draws := drawsOf (cellsOf ns)) drawsOf_len) H.good rfl (evs_cons (md := .any) (EvOK.any (EvOK.as (ev_comp (f := fun i => .int (firsts.getD i 0 + (spick (cellsOf ns) (some (i : Int)) none (some 5)).sum)) (p := fun _ => true) (names' := [".0", "place", "first", "cells"]) (mc := [none, none, none, some (zl (cellsOf ns), false)]) (J := fun _ => 1) true ⟨rfl, by decide +kernel, by decide +kernel, by decide +kernel⟩
        (capt31 rfl rfl rfl rfl)
        (comp_enum (xs := firsts) (k := 1) (j := 2) H.good H.enumerate rfl (ev_listF (ds := firsts.map PyData.int) (evs_cons (x_int.atom rfl) (evs_cons (x_int.atom rfl) (evs_cons (x_int.atom rfl) (evs_cons (x_int.atom rfl) (evs_cons (x_int.atom rfl) evs_nil))))) (by decide)) (.inr (.inr rfl)) ⟨rfl, by decide +kernel, by decide +kernel, by decide +kernel⟩ rfl rfl (by decide +kernel) rfl rfl) (by decide) (fun i hi => .inl ⟨rfl, rfl⟩)
        (fun i hi _ => (x_add (nm_s 2 rfl rfl) (x_sum H rfl (x_slice (nm_s 3 rfl rfl) (part_some (nm_s 1 rfl rfl)) part_none (part_some x_int) (by decide) (by unfold cellsOf; rw [List.length_map, List.length_take]; lia)))).atom rfl)) (by rw [picked_all]; show PyData.list _ = .list ((List.map _ _).map _); rw [List.map_map]; rfl))) evs_nil)).shared rfl hn (.inr rfl)) ?_
  have h0 : ∀ i, i < 11 → ((ringsOf (ringOf (drawsOf (cellsOf ns)))).getD i []).length = 11 := fun i hi => by
    unfold ringsOf
    rw [getD_mapd (d := 0) (by simpa using hi), List.length_append, List.length_drop, List.length_take]; lia
  have e3 : PyData.list (picked (fun _ => true) (fun i => zl ((ringOf (drawsOf (cellsOf ns))).drop i ++ (ringOf (drawsOf (cellsOf ns))).take i)) 11) = zl2 (ringsOf (ringOf (drawsOf (cellsOf ns)))) := by
    rw [picked_all]; unfold ringsOf; show PyData.list _ = .list ((List.map _ _).map _); rw [List.map_map]; rfl
  have hr11 : (ringsOf (ringOf (drawsOf (cellsOf ns)))).length = 11 := by simp [ringsOf]
  have hp : ∀ i, i < (ringsOf (ringOf (drawsOf (cellsOf ns)))).length → (((ringsOf (ringOf (drawsOf (cellsOf ns)))).getD i []).dropLast).length ≤ 900 := fun i hi => by
    rw [List.length_dropLast, h0 i (by lia)]; decide
  refine rt_cons (sx_comp (k := 3) (f := fun i => zl ((ringOf (drawsOf (cellsOf ns))).drop i ++ (ringOf (drawsOf (cellsOf ns))).take i)) (p := fun _ => true) (names' := [".0", "place", "octets"]) (mc := [none, none, some (zl (ringOf (drawsOf (cellsOf ns))), false)]) (J := fun _ => 2) true ⟨rfl, by decide +kernel, by decide +kernel, by decide +kernel⟩
      (capt21 rfl rfl rfl rfl)
      (comp_range (k := 1) (K := 11) H.good H.range rfl (x_int (i := 11)) (by decide) (by decide) (rs_size 11) ⟨rfl, by decide +kernel, by decide +kernel, by decide +kernel⟩ rfl (by decide +kernel) rfl) (by decide) (fun i hi => .inl ⟨rfl, rfl⟩)
      (fun i hi _ => EvOK.as (ev_cat (x_slice (nm_s 2 rfl rfl) (part_some (nm_s 1 rfl rfl)) part_none part_none (by decide) (by lia)) (x_slice (nm_s 2 rfl rfl) part_none (part_some (nm_s 1 rfl rfl)) part_none (by decide) (by lia)) (by rw [spick_from _ (Int.natCast_nonneg i) (by lia), spick_upto _ (Int.natCast_nonneg i), List.length_map, List.length_map, List.length_drop, List.length_take]; lia) zl_atoms zl_atoms) (by rw [spick_from _ (Int.natCast_nonneg i) (by lia), spick_upto _ (Int.natCast_nonneg i), ← List.map_append]; rfl)) rfl hn rfl
      (fun env hE => by
        obtain ⟨⟩ := env
        obtain ⟨h1, _, _, _⟩ := hE
        dsimp only at h1; subst h1
        rfl)) ?_
  refine RsT.weak (m' := [some (zl ns, false), some (zl (cellsOf ns), false), some (zl (ringOf (drawsOf (cellsOf ns))), false), some (zl2 (ringsOf (ringOf (drawsOf (cellsOf ns)))), false), none, none, none, none, none, none, none, none, none, none, none, none, none]) ?_ (by rw [e3]; repeat first | exact Weak.nil | apply Weak.same | apply Weak.none | apply Weak.less)
  refine rt_cons (sx_comp (k := 4) (f := fun i => zl ((ringsOf (ringOf (drawsOf (cellsOf ns)))).getD i []).dropLast) (p := fun i => okRing ((ringsOf (ringOf (drawsOf (cellsOf ns)))).getD i [])) (names' := [".0", "ring"]) (mc := [none, none]) (J := id) true ⟨rfl, by decide +kernel, by decide +kernel, by decide +kernel⟩ capt2
      (comp_lists (k := 1) (nm_s 3 rfl rfl) (.inl rfl) ⟨rfl, by decide +kernel, by decide +kernel, by decide +kernel⟩ rfl (by decide +kernel) rfl) (by lia)
      (fun i hi => .inr ⟨_, rfl, ts_cmp (ev_callF (check_fn (n := n) H (T := textOf ((ringsOf (ringOf (drawsOf (cellsOf ns)))).getD i []).dropLast) (hP _ (hp i hi))) H.good rfl
        (evs_cons (ev_callF (text_fn (n := n + 1) H (octets := ((ringsOf (ringOf (drawsOf (cellsOf ns)))).getD i []).dropLast) (hp i hi)) H.good rfl (evs_cons (md := .any) (EvOK.any (EvOK.as (x_slice (nm_s 1 rfl rfl) part_none (part_some (EvOK.any (x_neg x_int))) part_none (by decide) (by rw [h0 i (by lia)]; decide)) (by rw [spick_last]))) evs_nil)).any evs_nil)) (ev_bool (md := .any)) cmp_is_true⟩)
      (fun i hi _ => EvOK.as (x_slice (nm_s 1 rfl rfl) part_none (part_some (EvOK.any (x_neg x_int))) part_none (by decide) (by rw [h0 i (by lia)]; decide)) (by rw [spick_last])) rfl hn rfl
      (fun env hE => by
        obtain ⟨⟩ := env
        obtain ⟨h1, _, _, _⟩ := hE
        dsimp only at h1; subst h1
        rfl)) ?_
  have e4 : PyData.list (picked (fun i => okRing ((ringsOf (ringOf (drawsOf (cellsOf ns)))).getD i [])) (fun i => zl ((ringsOf (ringOf (drawsOf (cellsOf ns)))).getD i []).dropLast) (ringsOf (ringOf (drawsOf (cellsOf ns)))).length) = zl2 [tk] := by
    rw [← hT]
    unfold picked takenOf
    rw [range_filter (q := okRing) (g := fun r : List Int => zl (List.dropLast r))]; show _ = PyData.list ((List.map List.dropLast _).map zl); rw [List.map_map]; rfl
  refine RsT.weak (m' := [some (zl ns, false), some (zl (cellsOf ns), false), some (zl (ringOf (drawsOf (cellsOf ns))), false), some (zl2 (ringsOf (ringOf (drawsOf (cellsOf ns)))), false), some (zl2 [tk], false), none, none, none, none, none, none, none, none, none, none, none, none]) ?_ (by rw [e4]; repeat first | exact Weak.nil | apply Weak.same | apply Weak.none | apply Weak.less)
  exact rt_if (b := false) (TsOK.as (ts_cmp (x_len H rfl (nm_s 4 rfl rfl) (by simp)) x_int cmp_ne_int) rfl) (fun h => by cases h) (fun _ => h)
end
end Mine
end

/-! text MS3 -/
section
open PySem PySem.Spec PySem.Calls PyProof.Rows
set_option linter.unusedVariables false
set_option maxRecDepth 100000
namespace Mine
/-- after a call that may have touched the slots of the caller's own names -/
theorem St.slots {B : Heap} {Kp : Addr → Option Obj} {env : Env} {names : List Str} {m : MM} {V Fp} {h h' : Heap} (S : St B Kp env names m V Fp h) (hL : ∀ mL, h.Ns env.locals mL → h'.Ns env.locals mL)
    (hk : ∀ b o, b ≠ env.locals → h.get? b = some o → h'.get? b = some o) : St B Kp env names m V Fp h' := by
  obtain ⟨mC, hn⟩ := S.ns
  have seqNe : ∀ a, SeqAt h a → a ≠ env.locals := fun a q e => ns_not_seq (e ▸ hn) q
  have cellNe : ∀ a v, h.IsCell a v → a ≠ env.locals := fun a v q e => ns_not_cell (e ▸ hn) q
  refine ⟨S.base, fun a o e => hk a o (fun q => by rw [q, S.nsNew] at e; cases e) (S.keep a o e), ⟨mC, hL _ hn⟩, S.nsNew, ?_, S.cellNew, S.apart, ?_, ?_, S.own⟩
  · intro x hx
    obtain ⟨a, v, hl, hc⟩ := S.cell x hx
    have ne := cellNe _ _ hc
    obtain ⟨o, ho, hd⟩ := hc
    exact ⟨a, v, hl, o, hk a o ne ho, hd⟩
  · intro k x e hx hm
    rcases S.loads k x e hx hm with ⟨a, mL, b, q⟩ | ⟨a, a', b, d⟩
    · exact .inl ⟨a, mL, hL _ b, q⟩
    · have ne := cellNe _ _ d
      obtain ⟨o, ho, hd⟩ := d
      exact .inr ⟨a, a', b, o, hk a' o ne ho, hd⟩
  · intro k e hm
    exact (S.reads k e hm).but fun a ha o e' => hk a o (seqNe a ((S.reads k e hm).live a ha)) e'
section
variable {C : Cx} {n : Nat}
theorem read_stmt {g f : Addr} (H : Gl C) (hfg : C.mg (Str.ofString "_law_read") = some (.ref g)) (hfv : C.mg (Str.ofString "_parse_varint") = some (.ref f)) (hsi : GlobIs C (Str.ofString "StopIteration") (.type "StopIteration"))
    {ns cells oct tk : List Int} {rings : List (List Int)} {Ks : List Nat} {d : PyData} (F : Falls tk Ks)
    (h : RsOK C S14.1 (S14.1.names.map (·.1)) (n + 2) (tailM ns cells oct rings tk (numsOf' tk Ks Ks.length)) (B14.1.drop 6) d) :
    RsT C S14.1 (S14.1.names.map (·.1)) (n + 2) [some (zl ns, false), some (zl cells, false), some (zl oct, false), some (zl2 rings, false), some (zl2 [tk], false), none, none, none, none, none, none, none, none, none, none, none, none] (B14.1.drop 5) d := by
  intro A E s env Kp V Fp hf hl hR hE S
  have hn : (S14.1.names.map (·.1)).Nodup := by decide +kernel
  obtain ⟨a, c, P, o, pm, doc, h1, h2, h3, h4, _⟩ := H.at (k := 7) (by decide)
  have hnm : (fnRec 7).name = Str.ofString "_law_read" := N7.2
  rw [hnm, hfg] at h1
  obtain rfl : g = a := by injection h1 with h1; injection h1
  refine wpAny_execs_cons (wpAny_Assign_Name (Call_ (ld_glob H.good (.inl hfg) hE S.baseUp rfl ?_ (by decide))) rfl)
  refine callWith_def h3 (wpAny_mono ((evs_cons (md := .any) (ev_index (d := zl tk) (j := 0) (ml := .shared) (nm_s 4 rfl rfl) (x_int (i := 0)) (by simp) (by show seqIndex? 0 1 = some 0; decide) rfl).any evs_nil) A _ s env Kp V Fp _ hR hE S) (fun vs s₁ h₁ => ?_) fun _ _ h => h) rfl
  obtain ⟨x1, as, r, _⟩ := h₁
  have S1 := S.up x1.up
  have hB := S1.baseUp
  cases r with
  | cons r1 r2 =>
    cases r2
    obtain ⟨l, ws, k, rfl, ha, q, _⟩ := r1.ints_inv
    refine ⟨hB g o h2, wpAny_mono (read_call H hfg hfv hsi hR hf ?_ ?_ hB (isList_lst ha) q F) (fun v s₂ h₂ => ?_) fun _ _ h => h⟩
    · intro e he
      rw [List.mem_singleton] at he; subst he
      obtain ⟨mL, o', es, ep, ho', hd', _⟩ := S1.ns
      exact ⟨by rw [hE.scope, hE.kind]; exact (by decide), e.locals, o', hl, ho', fun vs q => by rw [hd'] at q; cases q⟩
    · intro a ha'
      rw [List.filterMap_cons, hl] at ha'
      have : a = env.locals := by simpa using ha'
      subst this
      cases e : C.B.get? env.locals with
      | none => rfl
      | some o' => exact absurd (S.base _ _ e) (by rw [S.nsNew]; exact fun h => by cases h)
    · obtain ⟨D, rfl, sh2, hD, ⟨zs, k', hz, rz⟩, hkeep, hsl⟩ := h₂
      have S2 : St C.B Kp env _ _ V Fp s₂.heap := S1.slots (fun mL => hsl.ns) (fun b o hb e => hkeep b o (by simpa [hl] using hb) e)
      refine store_name (k := 5) (o := false) (d := zl (numsOf' tk Ks Ks.length)) S2 (by rw [hE.scope]; exact hE.kind) rfl (fun j hj => uniq_of hn rfl hj) (kinds hE (.inl rfl)) (.list hz rz) (fun j d' _ hm => (noOwn rfl j d' hm).elim) (fun e => by cases e) fun s₃ sh3 _ S3 => ?_
      exact wpAny_mono (h A E s₃ env Kp _ _ hR hE S3) (fun f s₄ h₄ => ⟨((x1.sh.trans sh2).trans sh3).trans h₄.1, h₄.2⟩) fun _ _ h => h
end
end Mine
end

/-! text MS4 -/
section
open PySem PySem.Spec PySem.Calls PyProof.Rows
set_option linter.unusedVariables false
set_option maxRecDepth 100000
namespace Mine
/-- the plain law for one script -/
def LawOK (ns : List Int) : Prop := ∃ tk Ks K Kr L W G on steps drawn tl, takenOf (ringOf (drawsOf (cellsOf ns))) = [tk] ∧ Falls tk Ks ∧ TailOK tk (numsOf' tk Ks Ks.length) K Kr L W G on steps drawn tl
theorem ringOf_len {draws : List Int} : (ringOf draws).length = 11 := by simp [ringOf]
theorem law_rst {C : Cx} {n : Nat} {g f : Addr} (H : Gl C) (F : Fg C) (hfg : C.mg (Str.ofString "_law_read") = some (.ref g)) (hfv : C.mg (Str.ofString "_parse_varint") = some (.ref f)) (hsi : GlobIs C (Str.ofString "StopIteration") (.type "StopIteration"))
    {ns : List Int} (hl : ns.length ≤ 900) (hP : ∀ l : List Int, l.length ≤ 900 → Paren (textOf l)) (hL : LawOK ns) : RsT C S14.1 (S14.1.names.map (·.1)) (n + 2) (preM ns) B14.1 (.bool true) := by
  obtain ⟨tk, Ks, K, Kr, L, W, G, on, steps, drawn, tl, hT, hF, hTail⟩ := hL
  exact pre_body H hl hP ringOf_len hT (read_stmt H hfg hfv hsi hF (tail_body H F hTail))
end Mine
end

/-! text PC -/
section
open PySem PySem.Spec PySem.Calls PyProof.Rows
set_option linter.unusedVariables false
set_option maxRecDepth 100000
namespace Mine
/-! _law_onward: what comes after each half -/
def insL (G : List Int) (c : Nat) : List Int := ((List.range' 0 9).filter fun i => G.getD (prevOf c (i + 1)) 0 == (c : Int)).map fun i => (2 * (prevOf c (i + 1) : Nat) + 1 : Int)
def chunk (G : List Int) (c : Nat) : List Int := insL G c ++ [2 * (c : Int)]
theorem addTo_getD {ar : List (List Int)} {k v : Nat} {x : Int} (hk : k < ar.length) : (addTo ar k x).getD v [] = ar.getD v [] ++ if v = k then [x] else [] := by
  unfold addTo
  rw [List.getD_eq_getElem?_getD, List.getElem?_set]
  by_cases h : k = v
  · subst h; simp [hk]
  · simp [h, Ne.symm h]
theorem addTo_len {ar : List (List Int)} {k : Nat} {x : Int} : (addTo ar k x).length = ar.length := by simp [addTo]
theorem inStep_len {G : List Int} {c k i : Nat} {ar : List (List Int)} : (inStep G c k ar i).length = ar.length := by unfold inStep; split <;> simp [addTo]
theorem ins_fold {G : List Int} {c k v : Nat} : ∀ (is : List Nat) (ar : List (List Int)), k < ar.length →
    (is.foldl (inStep G c k) ar).length = ar.length ∧ (is.foldl (inStep G c k) ar).getD v [] = ar.getD v [] ++ if v = k then (is.filter fun i => G.getD (prevOf c (i + 1)) 0 == (c : Int)).map (fun i => (2 * (prevOf c (i + 1) : Nat) + 1 : Int)) else []
  | [], ar, hk => by simp
  | i :: is, ar, hk => by
    rw [List.foldl_cons]
    obtain ⟨e1, e2⟩ := ins_fold (v := v) is (inStep G c k ar i) (by rw [inStep_len]; exact hk)
    refine ⟨by rw [e1, inStep_len], ?_⟩
    rw [e2, List.filter_cons]
    unfold inStep
    by_cases hg : (G.getD (prevOf c (i + 1)) 0 == (c : Int)) = true
    · rw [if_pos hg, if_pos hg, addTo_getD hk]
      by_cases hv : v = k
      · simp [hv]
      · simp [hv]
    · rw [if_neg hg, if_neg hg]
theorem cornerStep_len {W G : List Int} {c : Nat} {ar : List (List Int)} (hk : (W.getD c 0).toNat < ar.length) : (cornerStep W G ar c).length = ar.length := by
  unfold cornerStep
  rw [addTo_len, (ins_fold (v := 0) _ ar hk).1]
theorem cornerStep_getD {W G : List Int} {c v : Nat} {ar : List (List Int)} (hk : (W.getD c 0).toNat < ar.length) :
    (cornerStep W G ar c).getD v [] = ar.getD v [] ++ if v = (W.getD c 0).toNat then chunk G c else [] := by
  obtain ⟨e1, e2⟩ := ins_fold (G := G) (c := c) (v := v) (List.range 9) ar hk
  unfold cornerStep
  rw [addTo_getD (by rw [e1]; exact hk), e2]
  by_cases hv : v = (W.getD c 0).toNat
  · rw [if_pos hv, if_pos hv, if_pos hv, List.append_assoc, List.range_eq_range']; rfl
  · rw [if_neg hv, if_neg hv, if_neg hv, List.append_nil, List.append_nil]
def nodeCorners (W : List Int) (n v : Nat) : List Nat := (List.range n).filter fun c => (W.getD c 0).toNat == v
theorem corners_fold {W G : List Int} {v : Nat} {ar : List (List Int)} : ∀ n, (∀ c, c < n → (W.getD c 0).toNat < ar.length) →
    ((List.range n).foldl (cornerStep W G) ar).length = ar.length ∧ ((List.range n).foldl (cornerStep W G) ar).getD v [] = ar.getD v [] ++ (nodeCorners W n v).flatMap (chunk G)
  | 0, _ => by simp [nodeCorners]
  | n + 1, h => by
    obtain ⟨e1, e2⟩ := corners_fold (G := G) (v := v) n (fun c hc => h c (by lia))
    rw [foldl_range_succ]
    have hk : (W.getD n 0).toNat < ((List.range n).foldl (cornerStep W G) ar).length := by rw [e1]; exact h n (by lia)
    refine ⟨by rw [cornerStep_len hk, e1], ?_⟩
    rw [cornerStep_getD hk, e2]
    unfold nodeCorners
    rw [List.range_succ, List.filter_append, List.flatMap_append, List.filter_cons]
    by_cases hv : v = (W.getD n 0).toNat
    · rw [if_pos hv, if_pos (by rw [hv, beq_self_eq_true])]; simp
    · rw [if_neg hv, if_neg (by rw [beq_eq_false_iff_ne.mpr (Ne.symm hv)]; decide)]; simp
def poleL (G : List Int) : List Int := ((List.range' 0 10).filter fun j => decide (G.getD (9 - j) 0 < 0)).map fun j => (2 * ((9 - j : Nat) : Int) + 1)
theorem poleStep_len {G : List Int} {p j : Nat} {ar : List (List Int)} : (poleStep G p ar j).length = ar.length := by unfold poleStep; split <;> simp [addTo]
theorem poles_fold {G : List Int} {p v : Nat} : ∀ (js : List Nat) (ar : List (List Int)), p < ar.length →
    (js.foldl (poleStep G p) ar).length = ar.length ∧ (js.foldl (poleStep G p) ar).getD v [] = ar.getD v [] ++ if v = p then (js.filter fun j => decide (G.getD (9 - j) 0 < 0)).map (fun j => (2 * ((9 - j : Nat) : Int) + 1)) else []
  | [], ar, hk => by simp
  | j :: js, ar, hk => by
    rw [List.foldl_cons]
    obtain ⟨e1, e2⟩ := poles_fold (v := v) js (poleStep G p ar j) (by rw [poleStep_len]; exact hk)
    refine ⟨by rw [e1, poleStep_len], ?_⟩
    rw [e2, List.filter_cons]
    unfold poleStep
    by_cases hg : decide (G.getD (9 - j) 0 < 0) = true
    · rw [if_pos hg, if_pos hg, addTo_getD hk]
      by_cases hv : v = p
      · simp [hv]
      · simp [hv]
    · rw [if_neg hg, if_neg hg]
/-- the halves around a node -/
def roundOf (W G : List Int) (pole v : Nat) : List Int := if v = pole then poleL G else (nodeCorners W 10 v).flatMap (chunk G)
theorem around_eq {W G : List Int} {pole : Nat} (hb : ∀ c, c < 10 → (W.getD c 0).toNat < pole) : around2 W G pole = (List.range (pole + 1)).map (roundOf W G pole) := by
  have hk : ∀ c, c < 10 → (W.getD c 0).toNat < (List.replicate (pole + 1) ([] : List Int)).length := fun c hc => by have := hb c hc; rw [List.length_replicate]; lia
  apply List.ext_getElem?
  intro v
  have l1 : (around1 W G pole).length = pole + 1 := by
    unfold around1; rw [(corners_fold (v := 0) 10 hk).1]; simp
  have l2 : (around2 W G pole).length = pole + 1 := by
    unfold around2; rw [(poles_fold (v := 0) _ _ (by rw [l1]; lia)).1, l1]
  by_cases hv : v < pole + 1
  · have e : (around2 W G pole).getD v [] = roundOf W G pole v := by
      unfold around2
      rw [(poles_fold (v := v) _ _ (by rw [l1]; lia)).2]
      unfold around1
      rw [(corners_fold (v := v) 10 hk).2]
      have e0 : (List.replicate (pole + 1) ([] : List Int)).getD v [] = [] := by
        rw [List.getD_eq_getElem?_getD, List.getElem?_replicate]; split <;> rfl
      rw [e0, List.nil_append]
      unfold roundOf
      by_cases hp : v = pole
      · rw [if_pos hp, if_pos hp]
        have : nodeCorners W 10 v = [] := by
          unfold nodeCorners
          rw [List.filter_eq_nil_iff]
          intro c hc
          have := hb c (List.mem_range.mp hc)
          intro e
          have := beq_iff_eq.mp e
          lia
        rw [this]; simp [poleL, List.range_eq_range']
      · rw [if_neg hp, if_neg hp, List.append_nil]
    rw [List.getElem?_map, List.getElem?_range hv, List.getElem?_eq_getElem (by lia)]
    rw [List.getD_eq_getElem?_getD, List.getElem?_eq_getElem (by lia)] at e
    simpa using e
  · rw [List.getElem?_eq_none (by lia), List.getElem?_eq_none (by simp; lia)]

theorem mateOf_lt {h : Nat} (hh : h < 20) : mateOf h < 20 := by unfold mateOf; lia
theorem mateOf_inj {a b : Nat} (h : mateOf a = mateOf b) : a = b := by unfold mateOf at h; lia
theorem turn_len : ∀ (ps : List (Int × Int)) (on : List Int), (ps.foldl turnTo on).length = on.length
  | [], _ => rfl
  | p :: ps, on => by rw [List.foldl_cons, turn_len ps]; simp [turnTo]
theorem turn_other {i : Nat} : ∀ (ps : List (Int × Int)) (on : List Int), (∀ p ∈ ps, mateOf p.1.toNat ≠ i) → (ps.foldl turnTo on).getD i 0 = on.getD i 0
  | [], _, _ => rfl
  | p :: ps, on, h => by
    rw [List.foldl_cons, turn_other ps _ fun q hq => h q (List.mem_cons_of_mem _ hq)]
    have := h p (List.mem_cons_self ..)
    unfold turnTo
    rw [List.getD_eq_getElem?_getD, List.getElem?_set_ne this, ← List.getD_eq_getElem?_getD]
theorem turn_at {h a : Int} : ∀ (ps : List (Int × Int)) (on : List Int), (ps.map (·.1)).Nodup → (∀ p ∈ ps, 0 ≤ p.1 ∧ p.1 < 20) → on.length = 20 → (h, a) ∈ ps → (ps.foldl turnTo on).getD (mateOf h.toNat) 0 = a
  | [], _, _, _, _, hm => by cases hm
  | p :: ps, on, hn, hb, hl, hm => by
    rw [List.foldl_cons]
    rw [List.map_cons, List.nodup_cons] at hn
    have hlt : (turnTo on p).length = 20 := by simp [turnTo, hl]
    rcases List.mem_cons.mp hm with rfl | hm
    · rw [turn_other ps _ fun q hq e => ?_]
      · have hb' := hb (h, a) (List.mem_cons_self ..)
        dsimp only at hb'
        have := mateOf_lt (h := h.toNat) (by lia)
        unfold turnTo
        rw [List.getD_eq_getElem?_getD, List.getElem?_set_self (by rw [hl]; exact this)]; rfl
      · have e' := mateOf_inj e
        have h1 := hb q (List.mem_cons_of_mem _ hq)
        have h2 := hb (h, a) (List.mem_cons_self ..)
        refine hn.1 (List.mem_map.mpr ⟨q, hq, ?_⟩)
        dsimp only at *
        lia
    · exact turn_at ps _ hn.2 (fun q hq => hb q (List.mem_cons_of_mem _ hq)) hlt hm
theorem circle_fst {l : List Int} : (circle l).map (·.1) = l := by
  unfold circle
  refine List.map_fst_zip ?_
  rw [List.length_append, List.length_drop, List.length_take]; lia
theorem circle_mid {A B : List Int} {h a : Int} : (h, a) ∈ circle (A ++ h :: a :: B) := by
  unfold circle
  rw [List.mem_iff_getElem?]
  refine ⟨A.length, ?_⟩
  rw [List.getElem?_zip_eq_some]
  refine ⟨by simp, ?_⟩
  rw [List.getElem?_append_left (by simp), List.getElem?_drop, show 1 + A.length = A.length + 1 by lia, List.getElem?_append_right (by lia)]
  simp
theorem circle_wrap {A B : List Int} {h a : Int} {l : List Int} (h1 : l = a :: A) (h2 : l = B ++ [h]) : (h, a) ∈ circle l := by
  unfold circle
  rw [List.mem_iff_getElem?]
  refine ⟨B.length, ?_⟩
  rw [List.getElem?_zip_eq_some]
  refine ⟨by rw [h2]; simp, ?_⟩
  have hl : l.length = B.length + 1 := by rw [h2]; simp
  rw [List.getElem?_append_right (by rw [List.length_drop]; lia), List.length_drop, hl, h1]
  simp
end Mine
end

/-! text PB -/
section
open PySem PySem.Spec PySem.Calls PyProof.Rows
set_option linter.unusedVariables false
set_option maxRecDepth 100000
namespace Mine
/-! the goals, by the labels of the corners -/
theorem filter_head {p : Nat → Bool} : ∀ {k a n : Nat}, k < n → (∀ i, i < k → p (a + i) = false) → p (a + k) = true → ∃ r, (List.range' a n).filter p = (a + k) :: r
  | 0, a, n + 1, _, _, h => by
    rw [List.range'_succ, List.filter_cons, if_pos (by simpa using h)]
    exact ⟨_, rfl⟩
  | k + 1, a, n + 1, hk, h0, h => by
    rw [List.range'_succ, List.filter_cons, if_neg (by rw [show p a = false from h0 0 (by lia)]; decide)]
    obtain ⟨r, e⟩ := filter_head (p := p) (k := k) (a := a + 1) (n := n) (by lia) (fun i hi => by rw [show a + 1 + i = a + (i + 1) by lia]; exact h0 (i + 1) (by lia)) (by rw [show a + 1 + k = a + (k + 1) by lia]; exact h)
    exact ⟨r, by rw [e]; congr 1; lia⟩
theorem filter_none {p : Nat → Bool} {a n : Nat} (h : ∀ i, i < n → p (a + i) = false) : (List.range' a n).filter p = [] := by
  rw [List.filter_eq_nil_iff]
  intro b hb
  rw [List.mem_range'_1] at hb
  have := h (b - a) (by lia)
  rw [show a + (b - a) = b by lia] at this
  rw [this]; decide
theorem count_split {p : Nat → Bool} {c : Nat} (hc : c < 10) : ((List.range 10).filter p) = (List.range' 0 (c + 1)).filter p ++ (List.range' (c + 1) (9 - c)).filter p := by
  rw [← List.filter_append, List.range_eq_range']
  have : List.range' 0 (c + 1) ++ List.range' (c + 1) (9 - c) = List.range' 0 10 := by
    have h := List.range'_append_1 (s := 0) (m := c + 1) (n := 9 - c)
    rw [show 0 + (c + 1) = c + 1 by lia, show c + 1 + (9 - c) = 10 by lia] at h
    exact h
  rw [this]
def corn (L W : List Int) (c : Nat) : Int := L.getD (W.getD c 0).toNat 0
theorem isLower_eq {L W : List Int} {c o : Nat} : isLower L W (W.getD c 0) o = (corn L W o == corn L W c - 1) := rfl
theorem lower_count {L W : List Int} (hW : W.length = 10) {c : Nat} (hc : c < 10) :
    (lowerOf L W (W.getD c 0)).countP (fun y => decide (y ≤ (c : Int))) = ((List.range' 0 (c + 1)).filter (isLower L W (W.getD c 0))).length := by
  unfold lowerOf
  rw [hW, List.countP_map, count_split hc, List.countP_append]
  have h1 : ((List.range' 0 (c + 1)).filter (isLower L W (W.getD c 0))).countP ((fun y => decide (y ≤ (c : Int))) ∘ fun (i : Nat) => (i : Int)) = ((List.range' 0 (c + 1)).filter (isLower L W (W.getD c 0))).length := by
    rw [List.countP_eq_length]
    intro a ha
    have := List.mem_range'_1.mp (List.mem_filter.mp ha).1
    simp only [Function.comp_apply, decide_eq_true_eq]; lia
  have h2 : ((List.range' (c + 1) (9 - c)).filter (isLower L W (W.getD c 0))).countP ((fun y => decide (y ≤ (c : Int))) ∘ fun (i : Nat) => (i : Int)) = 0 := by
    rw [List.countP_eq_zero]
    intro a ha
    have := List.mem_range'_1.mp (List.mem_filter.mp ha).1
    simp only [Function.comp_apply, decide_eq_true_eq]; lia
  lia
theorem goal_at {L W : List Int} (hW : W.length = 10) {c t : Nat} (hc : c < 10) (ht : 1 ≤ t) (ht9 : t ≤ 9) (h1 : corn L W ((c + t) % 10) = corn L W c - 1) (h0 : ∀ i, 0 < i → i < t → corn L W ((c + i) % 10) ≠ corn L W c - 1) :
    goalOf L W c = (((c + t) % 10 : Nat) : Int) := by
  have q1 : isLower L W (W.getD c 0) ((c + t) % 10) = true := by rw [isLower_eq, h1, beq_self_eq_true]
  have q0 : ∀ i, 0 < i → i < t → isLower L W (W.getD c 0) ((c + i) % 10) = false := fun i a b => by rw [isLower_eq]; exact beq_eq_false_iff_ne.mpr (h0 i a b)
  have hcnt := lower_count (L := L) hW hc
  have hlow : lowerOf L W (W.getD c 0) = (((List.range' 0 (c + 1)).filter (isLower L W (W.getD c 0)) ++ (List.range' (c + 1) (9 - c)).filter (isLower L W (W.getD c 0))).map fun (i : Nat) => (i : Int)) := by
    unfold lowerOf; rw [hW, count_split hc]
  by_cases hlt : c + t < 10
  · obtain ⟨r, e⟩ := filter_head (p := isLower L W (W.getD c 0)) (k := t - 1) (a := c + 1) (n := 9 - c) (by lia) (fun i hi => by
      have := q0 (i + 1) (by lia) (by lia)
      rwa [show (c + (i + 1)) % 10 = c + 1 + i by lia] at this) (by rwa [show (c + t) % 10 = c + 1 + (t - 1) by lia] at q1)
    rw [e] at hlow
    unfold goalOf
    rw [hcnt, hlow, if_pos (by simp)]
    rw [List.getD_eq_getElem?_getD, List.getElem?_map, Nat.mod_eq_of_lt (by simp), List.getElem?_append_right (Nat.le_refl _), Nat.sub_self]
    show (((c + 1 + (t - 1) : Nat)) : Int) = _
    congr 1; lia
  · have e2 : (List.range' (c + 1) (9 - c)).filter (isLower L W (W.getD c 0)) = [] := filter_none fun i hi => by
      have := q0 (i + 1) (by lia) (by lia)
      rwa [show (c + (i + 1)) % 10 = c + 1 + i by lia] at this
    obtain ⟨r, e⟩ := filter_head (p := isLower L W (W.getD c 0)) (k := c + t - 10) (a := 0) (n := c + 1) (by lia) (fun i hi => by
      have := q0 (i + 10 - c) (by lia) (by lia)
      rwa [show (c + (i + 10 - c)) % 10 = 0 + i by lia] at this) (by rwa [show (c + t) % 10 = 0 + (c + t - 10) by lia] at q1)
    rw [e, e2, List.append_nil] at hlow
    rw [e] at hcnt
    unfold goalOf
    rw [hcnt, hlow, if_pos (by simp), List.length_map, Nat.mod_self]
    show (((0 + (c + t - 10) : Nat)) : Int) = _
    congr 1; lia
theorem goal_none {L W : List Int} (hW : W.length = 10) {c : Nat} (h0 : ∀ i, i < 10 → corn L W i ≠ corn L W c - 1) : goalOf L W c = -1 := by
  have hlow : lowerOf L W (W.getD c 0) = [] := by
    unfold lowerOf
    rw [hW, List.range_eq_range', filter_none (fun i hi => by rw [Nat.zero_add, isLower_eq]; exact beq_eq_false_iff_ne.mpr (h0 i hi))]
    rfl
  unfold goalOf
  rw [hlow]; rfl
/-- the first place after c where p holds, or none -/
theorem first_after (p : Nat → Prop) [DecidablePred p] : ∀ n, (∃ t, 1 ≤ t ∧ t ≤ n ∧ p t ∧ ∀ i, 0 < i → i < t → ¬ p i) ∨ ∀ i, 0 < i → i ≤ n → ¬ p i
  | 0 => .inr fun i h1 h2 => by lia
  | n + 1 => by
    rcases first_after p n with ⟨t, a, b, c, d⟩ | h
    · exact .inl ⟨t, a, by lia, c, d⟩
    · by_cases hp : p (n + 1)
      · exact .inl ⟨n + 1, by lia, Nat.le_refl _, hp, fun i h1 h2 => h i h1 (by lia)⟩
      · refine .inr fun i h1 h2 => ?_
        by_cases e : i = n + 1
        · subst e; exact hp
        · exact h i h1 (by lia)
theorem goalsOf_at {L W : List Int} (hW : W.length = 10) {c : Nat} (hc : c < 10) : (goalsOf L W).getD c 0 = goalOf L W c := by
  unfold goalsOf
  rw [hW, List.getD_eq_getElem?_getD, List.getElem?_map, List.getElem?_range hc]; rfl
theorem goalsOf_len {L W : List Int} : (goalsOf L W).length = W.length := by simp [goalsOf]
/-- every goal: the first corner after with a label one less, or none -/
theorem goal_cases {L W : List Int} (hW : W.length = 10) {c : Nat} (hc : c < 10) :
    (∃ t, 1 ≤ t ∧ t ≤ 9 ∧ corn L W ((c + t) % 10) = corn L W c - 1 ∧ (∀ i, 0 < i → i < t → corn L W ((c + i) % 10) ≠ corn L W c - 1) ∧ (goalsOf L W).getD c 0 = (((c + t) % 10 : Nat) : Int)) ∨
    ((∀ i, corn L W (i % 10) ≠ corn L W c - 1) ∧ (goalsOf L W).getD c 0 = -1) := by
  rw [goalsOf_at hW hc]
  rcases first_after (fun t => corn L W ((c + t) % 10) = corn L W c - 1) 9 with ⟨t, a, b, e, d⟩ | h
  · exact .inl ⟨t, a, b, e, d, goal_at hW hc a b e d⟩
  · have all : ∀ i, corn L W (i % 10) ≠ corn L W c - 1 := fun i => by
      by_cases e : i % 10 = c
      · rw [e]; lia
      · have := h ((i % 10 + 10 - c) % 10) (by lia) (by lia)
        rwa [show (c + (i % 10 + 10 - c) % 10) % 10 = i % 10 by lia] at this
    exact .inr ⟨all, goal_none hW fun i hi => by have := all i; rwa [Nat.mod_eq_of_lt hi] at this⟩
end Mine
end

/-! text PC2 -/
section
open PySem PySem.Spec PySem.Calls PyProof.Rows
set_option linter.unusedVariables false
set_option maxRecDepth 100000
namespace Mine
theorem chunk_mem {G : List Int} {c : Nat} {h : Int} (hm : h ∈ chunk G c) : h = 2 * (c : Int) ∨ ∃ x : Nat, x < 10 ∧ h = 2 * (x : Int) + 1 ∧ G.getD x 0 = c := by
  unfold chunk at hm
  rcases List.mem_append.mp hm with hm | hm
  · unfold insL at hm
    obtain ⟨i, hi, rfl⟩ := List.mem_map.mp hm
    obtain ⟨h1, h2⟩ := List.mem_filter.mp hi
    exact .inr ⟨prevOf c (i + 1), by unfold prevOf; lia, rfl, beq_iff_eq.mp h2⟩
  · exact .inl (List.mem_singleton.mp hm)
theorem pole_mem {G : List Int} {h : Int} (hm : h ∈ poleL G) : ∃ x : Nat, x < 10 ∧ h = 2 * (x : Int) + 1 ∧ G.getD x 0 < 0 := by
  unfold poleL at hm
  obtain ⟨i, hi, rfl⟩ := List.mem_map.mp hm
  obtain ⟨h1, h2⟩ := List.mem_filter.mp hi
  exact ⟨9 - i, by lia, rfl, of_decide_eq_true h2⟩
theorem chunk_nodup {G : List Int} {c : Nat} : (chunk G c).Nodup := by
  unfold chunk
  refine List.nodup_append.mpr ⟨?_, by simp, fun a ha b hb => ?_⟩
  · unfold insL List.Nodup
    rw [List.pairwise_map]
    refine List.Pairwise.imp_of_mem (fun {a b} ha hb hlt => ?_) ((List.pairwise_lt_range' (s := 0) (n := 9)).filter _)
    have h1 := List.mem_range'_1.mp (List.mem_filter.mp ha).1
    have h2 := List.mem_range'_1.mp (List.mem_filter.mp hb).1
    unfold prevOf
    lia
  · rw [List.mem_singleton] at hb
    unfold insL at ha
    obtain ⟨i, _, rfl⟩ := List.mem_map.mp ha
    lia
theorem pole_nodup {G : List Int} : (poleL G).Nodup := by
  unfold poleL List.Nodup
  rw [List.pairwise_map]
  refine List.Pairwise.imp_of_mem (fun {a b} ha hb hlt => ?_) ((List.pairwise_lt_range' (s := 0) (n := 10)).filter _)
  have h1 := List.mem_range'_1.mp (List.mem_filter.mp ha).1
  have h2 := List.mem_range'_1.mp (List.mem_filter.mp hb).1
  lia
theorem corners_nodup {W : List Int} {n v : Nat} : (nodeCorners W n v).Nodup := by
  unfold nodeCorners
  exact List.nodup_range.sublist List.filter_sublist
theorem corners_mem {W : List Int} {n v c : Nat} : c ∈ nodeCorners W n v ↔ c < n ∧ (W.getD c 0).toNat = v := by
  unfold nodeCorners
  rw [List.mem_filter, List.mem_range, beq_iff_eq]
/-- whose corner a half is: its own corner, or where it comes in -/
def cornerOf (G : List Int) (h : Int) : Int := if h % 2 = 0 then h / 2 else G.getD (h / 2).toNat 0
theorem corner_chunk {G : List Int} {c : Nat} {h : Int} (hm : h ∈ chunk G c) : cornerOf G h = c := by
  unfold cornerOf
  rcases chunk_mem hm with rfl | ⟨x, hx, rfl, e⟩
  · rw [if_pos (by lia)]; lia
  · rw [if_neg (by lia), show ((2 * (x : Int) + 1) / 2).toNat = x by lia, e]
theorem corner_pole {G : List Int} {h : Int} (hm : h ∈ poleL G) : cornerOf G h < 0 := by
  obtain ⟨x, hx, rfl, e⟩ := pole_mem hm
  unfold cornerOf
  rw [if_neg (by lia), show ((2 * (x : Int) + 1) / 2).toNat = x by lia]; exact e
section
variable {W G : List Int} {pole : Nat}
theorem round_nodup {v : Nat} : (roundOf W G pole v).Nodup := by
  unfold roundOf
  split
  · exact pole_nodup
  · unfold List.Nodup
    rw [List.pairwise_flatMap]
    refine ⟨fun c _ => chunk_nodup, List.Pairwise.imp (fun {a b} hab x hx y hy e => ?_) (corners_nodup (W := W) (n := 10) (v := v))⟩
    subst e
    have h1 := corner_chunk hx
    have h2 := corner_chunk hy
    rw [h1] at h2
    exact hab (by lia)
theorem round_corner {v : Nat} {h : Int} (hm : h ∈ roundOf W G pole v) : (v = pole ∧ cornerOf G h < 0) ∨ ∃ c : Nat, cornerOf G h = c ∧ c < 10 ∧ (W.getD c 0).toNat = v := by
  unfold roundOf at hm
  split at hm
  · rename_i e; exact .inl ⟨e, corner_pole hm⟩
  · obtain ⟨c, hc, hx⟩ := List.mem_flatMap.mp hm
    obtain ⟨h1, h2⟩ := corners_mem.mp hc
    exact .inr ⟨c, corner_chunk hx, h1, h2⟩
theorem round_lt {v : Nat} {h : Int} (hm : h ∈ roundOf W G pole v) : 0 ≤ h ∧ h < 20 := by
  unfold roundOf at hm
  split at hm
  · obtain ⟨x, hx, rfl, _⟩ := pole_mem hm; lia
  · obtain ⟨c, hc, hx⟩ := List.mem_flatMap.mp hm
    obtain ⟨h1, h2⟩ := corners_mem.mp hc
    rcases chunk_mem hx with rfl | ⟨x, hx, rfl, e⟩ <;> lia
theorem rounds_nodup : ((List.range (pole + 1)).flatMap (roundOf W G pole)).Nodup := by
  unfold List.Nodup
  rw [List.pairwise_flatMap]
  refine ⟨fun v _ => round_nodup, List.Pairwise.imp (fun {a b} hab x hx y hy e => ?_) (List.nodup_range (n := pole + 1))⟩
  subst e
  rcases round_corner hx with ⟨rfl, h1⟩ | ⟨c, h1, h2, h3⟩ <;> rcases round_corner hy with ⟨rfl, g1⟩ | ⟨d, g1, g2, g3⟩
  · exact hab rfl
  · lia
  · lia
  · have : c = d := by lia
    subst this
    exact hab (h3 ▸ g3)
theorem onward_at (hb : ∀ c, c < 10 → (W.getD c 0).toNat < pole) {v : Nat} (hv : v ≤ pole) {h a : Int} (hm : (h, a) ∈ circle (roundOf W G pole v)) : (onwardOf W G pole).getD (mateOf h.toNat) 0 = a := by
  unfold onwardOf
  rw [← List.foldl_flatMap, around_eq hb, List.flatMap_map]
  refine turn_at _ _ ?_ (fun p hp => ?_) (by simp) ?_
  · rw [List.map_flatMap]
    simp only [circle_fst]
    exact rounds_nodup
  · obtain ⟨u, _, hp⟩ := List.mem_flatMap.mp hp
    have : p.1 ∈ (circle (roundOf W G pole u)).map (·.1) := List.mem_map_of_mem hp
    rw [circle_fst] at this
    exact round_lt this
  · exact List.mem_flatMap.mpr ⟨v, List.mem_range.mpr (by lia), hm⟩
theorem onward_len : (onwardOf W G pole).length = 20 := by
  unfold onwardOf
  rw [← List.foldl_flatMap, turn_len]; simp
def Adj (cs : List Nat) (x n : Nat) : Prop := (∃ A B, cs = A ++ x :: n :: B) ∨ ∃ A B, cs = n :: A ∧ cs = B ++ [x]
theorem onward_cross (hb : ∀ c, c < 10 → (W.getD c 0).toNat < pole) {x n v : Nat} {a : Int} {r : List Int} (hv : v < pole) (had : Adj (nodeCorners W 10 v) x n) (hc : chunk G n = a :: r) : (onwardOf W G pole).getD (2 * x + 1) 0 = a := by
  have key : ((2 * (x : Int)), a) ∈ circle (roundOf W G pole v) := by
    unfold roundOf
    rw [if_neg (by lia)]
    rcases had with ⟨A, B, e⟩ | ⟨A, B, e1, e2⟩
    · have : (nodeCorners W 10 v).flatMap (chunk G) = (A.flatMap (chunk G) ++ insL G x) ++ (2 * (x : Int)) :: a :: (r ++ B.flatMap (chunk G)) := by
        rw [e, List.flatMap_append, List.flatMap_cons, List.flatMap_cons, hc]
        simp [chunk]
      rw [this]
      exact circle_mid
    · refine circle_wrap (A := r ++ A.flatMap (chunk G)) (B := B.flatMap (chunk G) ++ insL G x) ?_ ?_
      · rw [e1, List.flatMap_cons, hc]; rfl
      · rw [e2, List.flatMap_append]; simp [chunk]
  have := onward_at hb (by lia) key
  rwa [show mateOf (2 * (x : Int)).toNat = 2 * x + 1 by unfold mateOf; lia] at this
theorem onward_in (hb : ∀ c, c < 10 → (W.getD c 0).toNat < pole) {x c : Nat} {a : Int} {A B : List Int} (hc : c < 10) (e : chunk G c = A ++ (2 * (x : Int) + 1) :: a :: B) : (onwardOf W G pole).getD (2 * x) 0 = a := by
  have hv := hb c hc
  have key : ((2 * (x : Int) + 1), a) ∈ circle (roundOf W G pole (W.getD c 0).toNat) := by
    unfold roundOf
    rw [if_neg (by lia)]
    obtain ⟨S, T, e'⟩ := List.append_of_mem (corners_mem.mpr ⟨hc, rfl⟩ : c ∈ nodeCorners W 10 (W.getD c 0).toNat)
    have : (nodeCorners W 10 (W.getD c 0).toNat).flatMap (chunk G) = (S.flatMap (chunk G) ++ A) ++ (2 * (x : Int) + 1) :: a :: (B ++ T.flatMap (chunk G)) := by
      rw [e', List.flatMap_append, List.flatMap_cons, e]; simp
    rw [this]
    exact circle_mid
  have := onward_at hb (by lia) key
  rwa [show mateOf (2 * (x : Int) + 1).toNat = 2 * x by unfold mateOf; lia] at this
theorem onward_pole (hb : ∀ c, c < 10 → (W.getD c 0).toNat < pole) {x : Nat} {a : Int} (hm : (2 * (x : Int) + 1, a) ∈ circle (poleL G)) : (onwardOf W G pole).getD (2 * x) 0 = a := by
  have := onward_at hb (v := pole) (Nat.le_refl _) (h := 2 * (x : Int) + 1) (a := a) (by unfold roundOf; rw [if_pos rfl]; exact hm)
  rwa [show mateOf (2 * (x : Int) + 1).toNat = 2 * x by unfold mateOf; lia] at this
end
/-- a filtered run between two of its items -/
theorem filter_pair {p : Nat → Bool} {a k n i : Nat} (hi : i < k) (hk : k < n) (h1 : p (a + i) = true) (h2 : p (a + k) = true) (h0 : ∀ j, i < j → j < k → p (a + j) = false) :
    ∃ A B, (List.range' a n).filter p = A ++ (a + i) :: (a + k) :: B := by
  obtain ⟨r, e⟩ := filter_head (p := p) (k := k - i - 1) (a := a + i + 1) (n := n - i - 1) (by lia) (fun j hj => by rw [show a + i + 1 + j = a + (i + 1 + j) by lia]; exact h0 _ (by lia) (by lia)) (by rwa [show a + i + 1 + (k - i - 1) = a + k by lia])
  have s1 : List.range' a n = List.range' a i ++ (a + i) :: List.range' (a + i + 1) (n - i - 1) := by
    have h := List.range'_append_1 (s := a) (m := i) (n := n - i)
    rw [show i + (n - i) = n by lia, show n - i = (n - i - 1) + 1 by lia, List.range'_succ] at h
    exact h.symm
  refine ⟨(List.range' a i).filter p, r, ?_⟩
  rw [s1, List.filter_append, List.filter_cons, if_pos h1, e, show a + i + 1 + (k - i - 1) = a + k by lia]
theorem filter_last {p : Nat → Bool} {a n i : Nat} (hi : i < n) (h1 : p (a + i) = true) (h0 : ∀ j, i < j → j < n → p (a + j) = false) :
    ∃ A, (List.range' a n).filter p = A ++ [a + i] := by
  have s1 : List.range' a n = List.range' a i ++ (a + i) :: List.range' (a + i + 1) (n - i - 1) := by
    have h := List.range'_append_1 (s := a) (m := i) (n := n - i)
    rw [show i + (n - i) = n by lia, show n - i = (n - i - 1) + 1 by lia, List.range'_succ] at h
    exact h.symm
  refine ⟨(List.range' a i).filter p, ?_⟩
  have e : (List.range' (a + i + 1) (n - i - 1)).filter p = [] := filter_none (fun j hj => by rw [show a + i + 1 + j = a + (i + 1 + j) by lia]; exact h0 _ (by lia) (by lia))
  rw [s1, List.filter_append, List.filter_cons, if_pos h1, e]
end Mine
end

/-! text PA -/
section
set_option linter.unusedVariables false
namespace Mine
/-! small arithmetic, each fact once and in a context of its own -/
theorem b10 (a : Nat) : a % 10 < 10 := Nat.mod_lt _ (by decide)
theorem mm10 (a : Nat) : a % 10 % 10 = a % 10 := Nat.mod_mod _ _
theorem back9 (y : Nat) : ((y + 1) % 10 + 9) % 10 = y % 10 := (Nat.mod_add_mod (y + 1) 10 9).trans (Nat.add_mod_right y 10)
theorem back10 {y : Nat} (h : y < 10) : ((y + 1) % 10 + 9) % 10 = y := (back9 y).trans (Nat.mod_eq_of_lt h)
theorem addm (x t : Nat) : (x + (t + 1)) % 10 = ((x + 1) % 10 + t) % 10 := ((Nat.mod_add_mod (x + 1) 10 t).trans (congrArg (· % 10) ((Nat.add_assoc x 1 t).trans (congrArg (x + ·) (Nat.add_comm 1 t))))).symm
theorem even20 {c : Nat} (h : c < 10) : 2 * c < 20 := by lia
theorem odd20 {c : Nat} (h : c < 10) : 2 * c + 1 < 20 := by lia
theorem cast2 {n : Nat} : 2 * ((n : Nat) : Int) = ((2 * n : Nat) : Int) := rfl
theorem cast21 {n : Nat} : 2 * ((n : Nat) : Int) + 1 = ((2 * n + 1 : Nat) : Int) := rfl
theorem asc_of {a b : Int} (h1 : a ≤ b) (h2 : b ≤ a + 1) (h3 : b ≠ a) : b = a + 1 := by lia
theorem sub11 {a m : Int} : a + 1 - m = a - m + 1 := by lia
theorem sub_m {a m : Int} : a - 1 - m + 1 = a - m := by lia
theorem sub12 {a m : Int} : a + 1 - m + 1 = a - m + 2 := by lia
set_option synthInstance.maxSize 4000 in
set_option synthInstance.maxHeartbeats 400000 in
theorem succ_ne_all : ∀ x < 10, ∀ y < 10, y ≠ x → (y + 1) % 10 ≠ (x + 1) % 10 := by decide +kernel
theorem succ_ne {x y : Nat} (hx : x < 10) (hy : y < 10) (h : y ≠ x) : (y + 1) % 10 ≠ (x + 1) % 10 := succ_ne_all x hx y hy h
theorem ne_mul {x y : Nat} (h : x ≠ y) : 2 * x ≠ 2 * y := fun e => h (Nat.eq_of_mul_eq_mul_left (by decide) e)
theorem ne_odd {x y : Nat} : 2 * x ≠ 2 * y + 1 := by lia
theorem odd_inj {x y : Nat} (e : 2 * x + 1 = 2 * y + 1) : x = y := Nat.eq_of_mul_eq_mul_left (by decide) (Nat.succ.inj e)
theorem nodupA {x y a b : Nat} (h1 : y ≠ x) (h2 : a ≠ b) : [2 * x + 1, 2 * a, 2 * y + 1, 2 * b].Nodup :=
  List.nodup_cons.mpr ⟨fun h => by
    simp only [List.mem_cons, List.not_mem_nil, or_false] at h
    rcases h with e | e | e
    · exact ne_odd e.symm
    · exact h1 (odd_inj e).symm
    · exact ne_odd e.symm, List.nodup_cons.mpr ⟨fun h => by
    simp only [List.mem_cons, List.not_mem_nil, or_false] at h
    rcases h with e | e
    · exact ne_odd e
    · exact ne_mul h2 e, List.nodup_cons.mpr ⟨fun h => ne_odd (List.mem_singleton.mp h).symm, List.nodup_cons.mpr ⟨List.not_mem_nil, List.nodup_nil⟩⟩⟩⟩
theorem nodupB {x y a b : Nat} (h1 : y ≠ x) (h2 : a ≠ b) : [2 * x + 1, 2 * y + 1, 2 * b, 2 * a].Nodup :=
  (List.Perm.nodup_iff (l₁ := [2 * x + 1, 2 * y + 1, 2 * b, 2 * a]) (l₂ := [2 * x + 1, 2 * a, 2 * y + 1, 2 * b]) (.cons _ ((List.perm_append_comm (l₁ := [2 * y + 1, 2 * b]) (l₂ := [2 * a]))))).mpr (nodupA h1 h2)
theorem oddA {z x y a b : Nat} (h : 2 * z + 1 ∈ [2 * x + 1, 2 * a, 2 * y + 1, 2 * b]) : z = x ∨ z = y := by
  simp only [List.mem_cons, List.not_mem_nil, or_false] at h
  rcases h with e | e | e | e
  · exact .inl (odd_inj e)
  · exact absurd e.symm ne_odd
  · exact .inr (odd_inj e)
  · exact absurd e.symm ne_odd
theorem oddB {z x y a b : Nat} (h : 2 * z + 1 ∈ [2 * x + 1, 2 * y + 1, 2 * b, 2 * a]) : z = x ∨ z = y := by
  simp only [List.mem_cons, List.not_mem_nil, or_false] at h
  rcases h with e | e | e | e
  · exact .inl (odd_inj e)
  · exact .inr (odd_inj e)
  · exact absurd e.symm ne_odd
  · exact absurd e.symm ne_odd
theorem not_between {i : Nat} (h1 : 0 < i) (h2 : i < 1) {p : Prop} : p := absurd h2 (Nat.not_lt.mpr h1)
def prevN (c b : Nat) : Nat := (c + 10 - b) % 10
set_option synthInstance.maxSize 4000 in
set_option synthInstance.maxHeartbeats 400000 in
theorem prev_add_all : ∀ n < 10, ∀ b < 11, (prevN n b + b) % 10 = n := by decide +kernel
theorem prev_add {n b : Nat} (hn : n < 10) (hb : b ≤ 10) : (prevN n b + b) % 10 = n := prev_add_all n hn b (Nat.lt_succ_of_le hb)
set_option synthInstance.maxSize 4000 in
set_option synthInstance.maxHeartbeats 400000 in
theorem prev_of_all : ∀ x < 10, ∀ t < 11, prevN ((x + t) % 10) t = x := by decide +kernel
theorem prev_of {x t : Nat} (hx : x < 10) (ht : t ≤ 10) : prevN ((x + t) % 10) t = x := prev_of_all x hx t (Nat.lt_succ_of_le ht)
set_option synthInstance.maxSize 4000 in
set_option synthInstance.maxHeartbeats 400000 in
theorem prev_far_all : ∀ x < 10, ∀ t < 10, ∀ d < 10, t + d + 1 ≤ 10 → (prevN ((x + t) % 10) (t + d + 1) + d) % 10 = (x + 9) % 10 := by decide +kernel
theorem prev_far {x t d : Nat} (hx : x < 10) (h : t + d + 1 ≤ 10) : (prevN ((x + t) % 10) (t + d + 1) + d) % 10 = (x + 9) % 10 := prev_far_all x hx t (Nat.lt_of_le_of_lt (Nat.le_add_right t d) h) d (Nat.lt_of_le_of_lt (Nat.le_add_left d t) h) h
set_option synthInstance.maxSize 4000 in
set_option synthInstance.maxHeartbeats 400000 in
theorem prev_of2_all : ∀ x < 10, ∀ k < 10, ∀ t < 10, k + t ≤ 9 → prevN (((x + k) % 10 + t) % 10) (k + t) = x := by decide +kernel
theorem prev_of2 {x k t : Nat} (hx : x < 10) (h : k + t ≤ 9) : prevN (((x + k) % 10 + t) % 10) (k + t) = x := prev_of2_all x hx k (Nat.lt_succ_of_le (Nat.le_trans (Nat.le_add_right k t) h)) t (Nat.lt_succ_of_le (Nat.le_trans (Nat.le_add_left t k) h)) h
set_option synthInstance.maxSize 4000 in
set_option synthInstance.maxHeartbeats 400000 in
theorem prev_mid_all : ∀ x < 10, ∀ k < 11, ∀ t < 10, ∀ d < 10, d ≤ k → t + d ≤ 10 → prevN (((x + k) % 10 + t) % 10) (t + d) = (x + (k - d)) % 10 := by decide +kernel
theorem prev_mid {x k t d : Nat} (hx : x < 10) (hk : k < 11) (ht : t < 10) (h' : d < 10) (hd : d ≤ k) (h : t + d ≤ 10) : prevN (((x + k) % 10 + t) % 10) (t + d) = (x + (k - d)) % 10 := prev_mid_all x hx k hk t ht d h' hd h
theorem add_mid {x k j : Nat} : ((x + k) % 10 + j) % 10 = (x + (k + j)) % 10 := (Nat.mod_add_mod (x + k) 10 j).trans (congrArg (· % 10) (Nat.add_assoc x k j))
theorem wrap10 {x u : Nat} : (x + (10 + u)) % 10 = (x + u) % 10 := (congrArg (· % 10) ((Nat.add_left_comm x 10 u).trans (Nat.add_comm 10 (x + u)))).trans (Nat.add_mod_right (x + u) 10)
set_option synthInstance.maxSize 4000 in
set_option synthInstance.maxHeartbeats 400000 in
theorem step_inj_all : ∀ x < 10, ∀ t < 10, ∀ u < 10, 1 ≤ t → 1 ≤ u → (x + t) % 10 = (x + u) % 10 → t = u := by decide +kernel
theorem step_inj {x t u : Nat} (hx : x < 10) (h1 : 1 ≤ t) (h2 : t ≤ 9) (h3 : 1 ≤ u) (h4 : u ≤ 9) (e : (x + t) % 10 = (x + u) % 10) : t = u := step_inj_all x hx t (Nat.lt_succ_of_le h2) u (Nat.lt_succ_of_le h4) h1 h3 e
theorem nn1 {n : Nat} (h : ((n : Nat) : Int) = -1) : False := by cases h
theorem nneg {n : Nat} (h : ((n : Nat) : Int) < 0) : False := absurd h (Int.not_lt.mpr (Int.natCast_nonneg n))
theorem pred_ne {a : Int} (h : a = a - 1) : False := absurd h (Int.ne_of_gt (Int.sub_lt_self a (by decide)))
theorem pred_inj {a b : Int} (h : a - 1 = b - 1) : a = b := by lia
theorem lt_pole {j x : Nat} (h : j < 9 - x) : j < 10 := Nat.lt_succ_of_lt (Nat.lt_of_lt_of_le h (Nat.sub_le 9 x))
set_option synthInstance.maxSize 4000 in
set_option synthInstance.maxHeartbeats 400000 in
theorem idxA_all : ∀ x < 10, ∀ k < 11, ∀ j < 10, x + k < 10 → 9 - (x + k) % 10 < j → j < 9 - x → 0 < 9 - j - x ∧ 9 - j - x < k ∧ (x + (9 - j - x)) % 10 = 9 - j := by decide +kernel
theorem idxA {x s k j : Nat} (hx : x < 10) (hk : k ≤ 10) (hs : (x + k) % 10 = s) (hw : x + k < 10) (h1 : 9 - s < j) (h2 : j < 9 - x) : 0 < 9 - j - x ∧ 9 - j - x < k ∧ (x + (9 - j - x)) % 10 = 9 - j := by subst hs; exact idxA_all x hx k (Nat.lt_succ_of_le hk) j (lt_pole h2) hw h1 h2
set_option synthInstance.maxSize 4000 in
set_option synthInstance.maxHeartbeats 400000 in
theorem idxB_all : ∀ x < 10, ∀ k < 11, ∀ j < 10, ¬ x + k < 10 → j < 9 - x → 0 < 9 - j - x ∧ 9 - j - x < k ∧ (x + (9 - j - x)) % 10 = 9 - j := by decide +kernel
theorem idxB {x k j : Nat} (hx : x < 10) (hk : k ≤ 10) (hw : ¬ x + k < 10) (h : j < 9 - x) : 0 < 9 - j - x ∧ 9 - j - x < k ∧ (x + (9 - j - x)) % 10 = 9 - j := idxB_all x hx k (Nat.lt_succ_of_le hk) j (lt_pole h) hw h
set_option synthInstance.maxSize 4000 in
set_option synthInstance.maxHeartbeats 400000 in
theorem idxC_all : ∀ x < 10, ∀ k < 11, ∀ j < 10, ¬ x + k < 10 → 9 - (x + k) % 10 < j → 0 < 19 - j - x ∧ 19 - j - x < k ∧ (x + (19 - j - x)) % 10 = 9 - j := by decide +kernel
theorem idxC {x s k j : Nat} (hx : x < 10) (hs : (x + k) % 10 = s) (hk : k ≤ 10) (hw : ¬ x + k < 10) (h1 : 9 - s < j) (h2 : j < 10) : 0 < 19 - j - x ∧ 19 - j - x < k ∧ (x + (19 - j - x)) % 10 = 9 - j := by subst hs; exact idxC_all x hx k (Nat.lt_succ_of_le hk) j h2 hw h1
set_option synthInstance.maxSize 4000 in
set_option synthInstance.maxHeartbeats 400000 in
theorem nine9_all : ∀ x < 10, 9 - (9 - x) = x := by decide +kernel
theorem nine9 {x : Nat} (h : x < 10) : 9 - (9 - x) = x := nine9_all x h
theorem lt10 {x : Nat} : 9 - x < 10 := Nat.lt_succ_of_le (Nat.sub_le 9 x)
set_option synthInstance.maxSize 4000 in
set_option synthInstance.maxHeartbeats 400000 in
theorem idxD_all : ∀ x < 10, ∀ k < 11, 1 ≤ k → x + k < 10 → 9 - (x + k) % 10 < 9 - x := by decide +kernel
theorem idxD {x s k : Nat} (hx : x < 10) (hk10 : k ≤ 10) (hk : 1 ≤ k) (hs : (x + k) % 10 = s) (hw : x + k < 10) : 9 - s < 9 - x := by subst hs; exact idxD_all x hx k (Nat.lt_succ_of_le hk10) hk hw
theorem dbl_lt {c k : Nat} (h : c < k) : 2 * c < 2 * k := Nat.mul_lt_mul_of_pos_left h (by decide)
theorem dbl_lt1 {c k : Nat} (h : c < k) : 2 * c + 1 < 2 * k := by lia
theorem odd_mod (c : Nat) : ¬ (2 * c + 1) % 2 = 0 := by lia
theorem odd_div (c : Nat) : (2 * c + 1) / 2 = c := by lia
theorem even_mod (c : Nat) : (2 * c) % 2 = 0 := Nat.mul_mod_right 2 c
theorem even_div (c : Nat) : 2 * c / 2 = c := Nat.mul_div_cancel_left c (by decide)
theorem halves {h : Nat} (hh : h < 20) : h / 2 < 10 ∧ (h = 2 * (h / 2) ∨ h = 2 * (h / 2) + 1) := by lia
set_option synthInstance.maxSize 4000 in
theorem near_all : ∀ a < 10, ∀ c < 10, ((a + 10 - c) % 10 ≤ 5 ∧ (c + (a + 10 - c) % 10) % 10 = a) ∨ ((c + 10 - a) % 10 ≤ 5 ∧ (a + (c + 10 - a) % 10) % 10 = c) := by decide +kernel
theorem to_all : ∀ a < 10, ∀ c < 10, (c + (a + 10 - c) % 10) % 10 = a := by decide +kernel
theorem all4 {p : Nat → Prop} {a b c d : Nat} (h : p a ∧ p b ∧ p c ∧ p d) : ∀ z ∈ [a, b, c, d], p z := List.forall_mem_cons.mpr ⟨h.1, List.forall_mem_cons.mpr ⟨h.2.1, List.forall_mem_cons.mpr ⟨h.2.2.1, List.forall_mem_cons.mpr ⟨h.2.2.2, fun _ h => nomatch h⟩⟩⟩⟩
theorem int_ht {a m : Int} (h : m ≤ a) : ((a - m + 1).toNat : Int) = a - m + 1 := Int.toNat_of_nonneg (Int.le_add_one (Int.sub_nonneg_of_le h))
theorem far_up {a b c : Int} {k : Nat} (h1 : b ≤ a + k ∧ a ≤ b + k) (h2 : c ≤ b + 1 ∧ b ≤ c + 1) : c ≤ a + ((k + 1 : Nat) : Int) ∧ a ≤ c + ((k + 1 : Nat) : Int) := by lia
theorem le_five {a m : Int} {k : Nat} (hk : k ≤ 5) (h : a ≤ m + k) : a ≤ m + 5 := by lia
end Mine
end

/-! text PD -/
section
open PySem PySem.Spec PySem.Calls PyProof.Rows
set_option linter.unusedVariables false
set_option maxRecDepth 100000
namespace Mine
/-! where the ways go on, by the labels round the walk -/
def mu (L W : List Int) (k : Nat) : Int := corn L W (k % 10)
structure Lab (L W : List Int) (pole : Nat) : Prop where
  hW : W.length = 10
  hb : ∀ c, c < 10 → (W.getD c 0).toNat < pole
  hs : ∀ k, mu L W (k + 1) ≤ mu L W k + 1 ∧ mu L W k ≤ mu L W (k + 1) + 1
theorem mu_mod {L W : List Int} {a b : Nat} (h : a % 10 = b % 10) : mu L W a = mu L W b := by unfold mu; rw [h]
theorem mu_corn {L W : List Int} {a : Nat} (h : a < 10) : corn L W a = mu L W a := by unfold mu; rw [Nat.mod_eq_of_lt h]
section
variable {L W : List Int} {pole : Nat}
theorem Lab.ivt (H : Lab L W pole) {a : Nat} {v : Int} : ∀ k, v < mu L W a → mu L W (a + k) ≤ v → ∃ i, 0 < i ∧ i ≤ k ∧ mu L W (a + i) = v
  | 0, h1, h2 => absurd h2 (Int.not_le.mpr h1)
  | k + 1, h1, h2 => by
    by_cases h : mu L W (a + k) ≤ v
    · obtain ⟨i, p, q, r⟩ := H.ivt k h1 h
      exact ⟨i, p, Nat.le_succ_of_le q, r⟩
    · have h3 : mu L W (a + k) ≤ mu L W (a + (k + 1)) + 1 := (H.hs (a + k)).2
      exact ⟨k + 1, Nat.succ_pos k, Nat.le_refl _, Int.le_antisymm h2 (Int.le_of_lt_add_one (Int.lt_of_lt_of_le (Int.not_le.mp h) h3))⟩
abbrev Gof (L W : List Int) : List Int := goalsOf L W
theorem Lab.goal (H : Lab L W pole) {x t : Nat} (hx : x < 10) (ht : 1 ≤ t) (ht9 : t ≤ 9) :
    (Gof L W).getD x 0 = (((x + t) % 10 : Nat) : Int) ↔ mu L W (x + t) = mu L W x - 1 ∧ ∀ i, 0 < i → i < t → mu L W (x + i) ≠ mu L W x - 1 := by
  constructor
  · intro e
    rcases goal_cases (L := L) H.hW hx with ⟨u, a, b, c, d, f⟩ | ⟨_, f⟩
    · rw [e] at f
      have := step_inj hx ht ht9 a b (Int.ofNat.inj f)
      subst this
      rw [mu_corn hx] at c d
      exact ⟨c, d⟩
    · rw [e] at f; exact (nn1 f).elim
  · rintro ⟨h1, h0⟩
    rw [goalsOf_at H.hW hx]
    exact goal_at H.hW hx ht ht9 (by rw [mu_corn hx]; exact h1) (by rw [mu_corn hx]; exact h0)
theorem Lab.goalC (H : Lab L W pole) {x : Nat} (hx : x < 10) :
    (∃ t, 1 ≤ t ∧ t ≤ 9 ∧ mu L W (x + t) = mu L W x - 1 ∧ (∀ i, 0 < i → i < t → mu L W (x + i) ≠ mu L W x - 1) ∧ (Gof L W).getD x 0 = (((x + t) % 10 : Nat) : Int)) ∨
    ((∀ i, mu L W i ≠ mu L W x - 1) ∧ (Gof L W).getD x 0 = -1) := by
  have := goal_cases (L := L) H.hW hx
  rw [mu_corn hx] at this
  exact this
abbrev tst (L W : List Int) (n : Nat) (i : Nat) : Bool := (Gof L W).getD (prevOf n (i + 1)) 0 == (n : Int)
/-- what a corner's incoming way says -/
theorem Lab.tst_iff (H : Lab L W pole) {n i : Nat} (hn : n < 10) (hi : i < 9) :
    tst L W n i = true ↔ mu L W n = mu L W (prevN n (i + 1)) - 1 ∧ ∀ j, 0 < j → j < i + 1 → mu L W (prevN n (i + 1) + j) ≠ mu L W n := by
  have e := prev_add hn (Nat.le_succ_of_le (Nat.succ_le_of_lt hi) : i + 1 ≤ 10)
  have this : (Gof L W).getD (prevN n (i + 1)) 0 = _ ↔ _ := H.goal (t := i + 1) (b10 _) (Nat.succ_le_succ (Nat.zero_le i)) (Nat.succ_le_of_lt hi)
  rw [e] at this
  show ((Gof L W).getD (prevN n (i + 1)) 0 == (n : Int)) = true ↔ _
  rw [beq_iff_eq, this, mu_mod (a := prevN n (i + 1) + (i + 1)) (b := n) (e.trans (Nat.mod_eq_of_lt hn).symm)]
  constructor
  · rintro ⟨a, b⟩; exact ⟨a, by rw [a]; exact b⟩
  · rintro ⟨a, b⟩; exact ⟨a, by rw [← a]; exact b⟩
theorem chunk_eq {n : Nat} : chunk (Gof L W) n = ((List.range' 0 9).filter (tst L W n)).map (fun i => (2 * (prevOf n (i + 1) : Nat) + 1 : Int)) ++ [2 * (n : Int)] := rfl
theorem bool_no {b : Bool} (h : b = true → False) : b = false := by cases b with | false => rfl | true => exact (h rfl).elim
theorem Lab.on_step (H : Lab L W pole) {x t : Nat} (hx : x < 10) (ht : 1 ≤ t) (ht9 : t ≤ 9) (h1 : mu L W (x + t) = mu L W x - 1) (h0 : ∀ i, 0 < i → i < t → mu L W (x + i) ≠ mu L W x - 1) (hp : mu L W (x + 9) = mu L W x - 1) :
    (onwardOf W (Gof L W) pole).getD (2 * x) 0 = 2 * (((x + t) % 10 : Nat) : Int) := by
  obtain ⟨u, rfl⟩ : ∃ u, t = u + 1 := ⟨t - 1, (Nat.succ_pred_eq_of_pos ht).symm⟩
  have hn := b10 (x + (u + 1))
  have en : mu L W ((x + (u + 1)) % 10) = mu L W x - 1 := (mu_mod (mm10 _)).trans h1
  have ex : prevN ((x + (u + 1)) % 10) (u + 1) = x := prev_of hx (Nat.le_succ_of_le ht9)
  have ex' : prevOf ((x + (u + 1)) % 10) (u + 1) = x := ex
  obtain ⟨A, e⟩ := filter_last (p := tst L W ((x + (u + 1)) % 10)) (a := 0) (n := 9) (i := u) ht9 (by
    rw [Nat.zero_add]
    refine (H.tst_iff hn ht9).mpr ?_
    rw [ex, en]
    exact ⟨rfl, h0⟩) (fun j h2 h3 => by
    rw [Nat.zero_add]
    refine bool_no fun hq => ?_
    obtain ⟨a, b⟩ := (H.tst_iff hn h3).mp hq
    obtain ⟨d, rfl⟩ := Nat.exists_eq_add_of_le (Nat.succ_le_of_lt h2)
    have q : mu L W (prevN ((x + (u + 1)) % 10) (u + 1 + d + 1) + d) = mu L W ((x + (u + 1)) % 10) := (mu_mod (prev_far (x := x) (t := u + 1) (d := d) hx (Nat.le_succ_of_le (Nat.succ_le_of_lt h3)))).trans (hp.trans en.symm)
    cases d with
    | zero => rw [Nat.add_zero] at q; exact pred_ne (q.trans a)
    | succ d => exact b (d + 1) (Nat.succ_pos d) (Nat.lt_succ_of_le (Nat.le_add_left _ _)) q)
  refine onward_in H.hb hn (A := A.map fun i => (2 * (prevOf ((x + (u + 1)) % 10) (i + 1) : Nat) + 1 : Int)) (B := []) ?_
  rw [chunk_eq, e, List.map_append, Nat.zero_add]
  simp only [List.map_cons, List.map_nil, ex', List.append_assoc, List.cons_append, List.nil_append]
theorem Lab.on_back (H : Lab L W pole) {x k : Nat} (hx : x < 10) (hk : 1 ≤ k) (hk10 : k ≤ 10) (h1 : mu L W (x + k) = mu L W x) (h0 : ∀ i, 0 < i → i < k → mu L W x < mu L W (x + i)) :
    (onwardOf W (Gof L W) pole).getD (2 * ((x + k) % 10)) 0 = 2 * (x : Int) + 1 := by
  have hs10 := b10 (x + k)
  have es : mu L W ((x + k) % 10) = mu L W x := (mu_mod (mm10 _)).trans h1
  rcases H.goalC hs10 with ⟨t, a, b, c, d, f⟩ | ⟨c, f⟩
  · have c' : mu L W (x + (k + t)) = mu L W x - 1 := (mu_mod add_mid.symm).trans (c.trans (by rw [es]))
    have hkt : k + t ≤ 9 := by
      refine Nat.le_of_not_lt fun hlt => ?_
      obtain ⟨u, e⟩ := Nat.exists_eq_add_of_le (Nat.succ_le_of_lt hlt)
      rw [e] at c'
      have c2 : mu L W (x + u) = mu L W x - 1 := (mu_mod wrap10.symm).trans c'
      cases u with
      | zero => exact pred_ne c2
      | succ u =>
        have hu : u + 1 < k := Nat.lt_of_add_lt_add_right (n := t) (by rw [e, Nat.add_comm]; exact Nat.add_lt_add_right (Nat.lt_succ_of_le b) _)
        have := h0 (u + 1) (Nat.succ_pos u) hu
        rw [c2] at this
        exact absurd this (Int.not_lt.mpr (Int.sub_le_self _ (by decide)))
    obtain ⟨v, rfl⟩ : ∃ v, t = v + 1 := ⟨t - 1, (Nat.succ_pred_eq_of_pos a).symm⟩
    have hn := b10 ((x + k) % 10 + (v + 1))
    have en : mu L W (((x + k) % 10 + (v + 1)) % 10) = mu L W ((x + k) % 10) - 1 := (mu_mod (mm10 _)).trans c
    have e1 : prevN (((x + k) % 10 + (v + 1)) % 10) (v + 1) = (x + k) % 10 := prev_of hs10 (Nat.le_succ_of_le b)
    have e2 : prevN (((x + k) % 10 + (v + 1)) % 10) (k + v + 1) = x := prev_of2 hx hkt
    have e1' : prevOf (((x + k) % 10 + (v + 1)) % 10) (v + 1) = (x + k) % 10 := e1
    have e2' : prevOf (((x + k) % 10 + (v + 1)) % 10) (k + v + 1) = x := e2
    obtain ⟨A, B, e⟩ := filter_pair (p := tst L W (((x + k) % 10 + (v + 1)) % 10)) (a := 0) (n := 9) (i := v) (k := k + v) (Nat.lt_add_of_pos_left hk) hkt (by
      rw [Nat.zero_add]
      refine (H.tst_iff hn b).mpr ?_
      rw [e1, en]
      exact ⟨rfl, d⟩) (by
      rw [Nat.zero_add]
      refine (H.tst_iff (i := k + v) hn (show k + v < 9 from hkt)).mpr ?_
      rw [e2, en, es]
      refine ⟨rfl, fun j p q => ?_⟩
      rcases Nat.lt_trichotomy j k with hj | rfl | hj
      · exact Int.ne_of_gt (Int.lt_of_le_of_lt (Int.sub_le_self _ (by decide)) (h0 j p hj))
      · rw [h1]; exact fun e => pred_ne e
      · obtain ⟨m, rfl⟩ := Nat.exists_eq_add_of_lt hj
        have := d (m + 1) (Nat.succ_pos m) (Nat.lt_of_add_lt_add_left (n := k) q)
        rw [es] at this
        rwa [mu_mod (a := (x + k) % 10 + (m + 1)) (b := x + (k + m + 1)) (add_mid (j := m + 1))] at this) (fun j p q => by
      rw [Nat.zero_add]
      refine bool_no fun hq => ?_
      obtain ⟨w, _⟩ := (H.tst_iff hn (Nat.lt_trans q hkt)).mp hq
      obtain ⟨m, rfl⟩ := Nat.exists_eq_add_of_lt p
      have hm : m + 1 < k := Nat.lt_of_add_lt_add_left (n := v) (by rw [Nat.add_comm v k]; exact q)
      have pm : prevN (((x + k) % 10 + (v + 1)) % 10) (v + m + 1 + 1) = (x + (k - (m + 1))) % 10 := by
        rw [show v + m + 1 + 1 = v + 1 + (m + 1) from congrArg (· + 1) (Nat.add_right_comm v m 1)]
        exact prev_mid hx (Nat.lt_succ_of_le hk10) (Nat.lt_succ_of_le b) (Nat.lt_of_lt_of_le hm hk10) (Nat.le_of_lt hm) (Nat.le_trans (by rw [Nat.add_right_comm v 1 (m + 1)]; exact Nat.succ_le_succ (Nat.le_of_lt q)) (Nat.succ_le_succ (Nat.le_of_lt hkt)))
      rw [pm, mu_mod (a := (x + (k - (m + 1))) % 10) (mm10 _), en, es] at w
      have := h0 (k - (m + 1)) (Nat.sub_pos_of_lt hm) (Nat.sub_lt hk (Nat.succ_pos m))
      exact absurd (pred_inj w) (Int.ne_of_lt this))
    refine onward_in H.hb hn (A := A.map fun i => (2 * (prevOf (((x + k) % 10 + (v + 1)) % 10) (i + 1) : Nat) + 1 : Int)) (B := (B.map fun i => (2 * (prevOf (((x + k) % 10 + (v + 1)) % 10) (i + 1) : Nat) + 1 : Int)) ++ [2 * ((((x + k) % 10 + (v + 1)) % 10 : Nat) : Int)]) ?_
    rw [chunk_eq, e, List.map_append, Nat.zero_add, Nat.zero_add]
    simp only [List.map_cons, e1', e2', List.append_assoc, List.cons_append]
  · have fx : (Gof L W).getD x 0 = -1 := by
      rcases H.goalC hx with ⟨t, _, _, c', _, _⟩ | ⟨_, f'⟩
      · exact absurd c' (by rw [← es]; exact c _)
      · exact f'
    have fb : ∀ i, 0 < i → i < k → ¬ (Gof L W).getD ((x + i) % 10) 0 < 0 := fun i p q hneg => by
      rcases H.goalC (b10 (x + i)) with ⟨t, _, _, _, _, g⟩ | ⟨g, _⟩
      · rw [g] at hneg; exact nneg hneg
      · have e3 : mu L W ((x + i) % 10) = mu L W (x + i) := mu_mod (mm10 _)
        rw [e3] at g
        obtain ⟨j, _, _, r⟩ := H.ivt (a := x + i) (v := mu L W (x + i) - 1) (k - i) (Int.sub_lt_self _ (by decide)) (by rw [Nat.add_assoc, Nat.add_sub_cancel' (Nat.le_of_lt q), h1]; exact Int.le_sub_one_of_lt (h0 i p q))
        exact g (x + i + j) r
    generalize hS : (x + k) % 10 = s at *
    refine onward_pole H.hb ?_
    have tS : decide ((Gof L W).getD (9 - (9 - s)) 0 < 0) = true := by rw [nine9 hs10, f]; rfl
    have tX : decide ((Gof L W).getD (9 - (9 - x)) 0 < 0) = true := by rw [nine9 hx, fx]; rfl
    have tB : ∀ j, ∀ i, 0 < i ∧ i < k ∧ (x + i) % 10 = 9 - j → decide ((Gof L W).getD (9 - j) 0 < 0) = false := fun j i h => by
      rw [← h.2.2]; exact decide_eq_false (fb i h.1 h.2.1)
    have pl : poleL (Gof L W) = ((List.range' 0 10).filter fun j => decide ((Gof L W).getD (9 - j) 0 < 0)).map fun j => (2 * ((9 - j : Nat) : Int) + 1) := rfl
    by_cases hw : x + k < 10
    · obtain ⟨A, B, e⟩ := filter_pair (p := fun j => decide ((Gof L W).getD (9 - j) 0 < 0)) (a := 0) (n := 10) (i := 9 - s) (k := 9 - x) (idxD hx hk10 hk hS hw) lt10 (by rw [Nat.zero_add]; exact tS) (by rw [Nat.zero_add]; exact tX) (fun j p q => by
        rw [Nat.zero_add]
        exact tB j _ (idxA hx hk10 hS hw p q))
      rw [pl, e, List.map_append, Nat.zero_add, Nat.zero_add, List.map_cons, List.map_cons, nine9 hs10, nine9 hx]
      exact circle_mid
    · obtain ⟨r, e⟩ := filter_head (p := fun j => decide ((Gof L W).getD (9 - j) 0 < 0)) (a := 0) (n := 10) (k := 9 - x) lt10 (fun j q => by
        rw [Nat.zero_add]
        exact tB j _ (idxB hx hk10 hw q)) (by rw [Nat.zero_add]; exact tX)
      obtain ⟨A, e'⟩ := filter_last (p := fun j => decide ((Gof L W).getD (9 - j) 0 < 0)) (a := 0) (n := 10) (i := 9 - s) lt10 (by rw [Nat.zero_add]; exact tS) (fun j p q => by
        rw [Nat.zero_add]
        exact tB j _ (idxC hx hS hk10 hw p q))
      refine circle_wrap (A := r.map fun j => (2 * ((9 - j : Nat) : Int) + 1)) (B := A.map fun j => (2 * ((9 - j : Nat) : Int) + 1)) ?_ ?_
      · rw [pl, e, List.map_cons, Nat.zero_add, nine9 hx]
      · rw [pl, e', List.map_append, Nat.zero_add, List.map_cons, List.map_nil, nine9 hs10]
theorem Lab.on_in (H : Lab L W pole) {x n v : Nat} (hn : n < 10) (hv : v < pole) (had : Adj (nodeCorners W 10 v) x n) (h : mu L W (n + 9) = mu L W n + 1) :
    (onwardOf W (Gof L W) pole).getD (2 * x + 1) 0 = 2 * (((n + 9) % 10 : Nat) : Int) + 1 := by
  obtain ⟨r, e⟩ := filter_head (p := tst L W n) (a := 0) (n := 9) (k := 0) (by decide) (fun j q => absurd q (Nat.not_lt_zero j)) (by
    refine (H.tst_iff hn (by decide)).mpr ⟨?_, fun j p q => not_between p q⟩
    rw [show mu L W (prevN n (0 + 1)) = mu L W (n + 9) from mu_mod (mm10 _), h]
    exact (Int.add_sub_cancel _ _).symm)
  refine onward_cross H.hb hv had (r := (r.map fun i => (2 * (prevOf n (i + 1) : Nat) + 1 : Int)) ++ [2 * (n : Int)]) ?_
  rw [chunk_eq, e, List.map_cons, List.cons_append]
  rfl
theorem Lab.on_out (H : Lab L W pole) {x n v : Nat} (hn : n < 10) (hv : v < pole) (had : Adj (nodeCorners W 10 v) x n) (h : mu L W (n + 9) ≤ mu L W n) :
    (onwardOf W (Gof L W) pole).getD (2 * x + 1) 0 = 2 * (n : Int) := by
  refine onward_cross H.hb hv had (r := []) ?_
  rw [chunk_eq, filter_none (fun i hi => ?_)]
  · rfl
  rw [Nat.zero_add]
  refine bool_no fun hq => ?_
  obtain ⟨a, b⟩ := (H.tst_iff hn hi).mp hq
  have e : mu L W (prevN n (i + 1) + i) = mu L W (n + 9) := mu_mod (by have := prev_far (x := n) (t := 0) (d := i) hn (Nat.le_succ_of_le (by rw [Nat.zero_add]; exact hi)); rwa [Nat.add_zero, Nat.mod_eq_of_lt hn, Nat.zero_add] at this)
  have up : mu L W n < mu L W (prevN n (i + 1)) := by rw [a]; exact Int.sub_lt_self _ (by decide)
  obtain ⟨j, p, q, r⟩ := H.ivt (a := prevN n (i + 1)) (v := mu L W n) i up (by rw [e]; exact h)
  exact b j p (Nat.lt_succ_of_le q) r
end
end Mine
end

/-! text PE -/
section
open PySem PySem.Spec PySem.Calls PyProof.Rows
set_option linter.unusedVariables false
set_option maxRecDepth 100000
namespace Mine
/-! the words of five brackets: the walk round the tree, by the bits alone -/
structure WSt where
  pars : List Nat
  path : List Nat
  walk : List Nat
def wStep (s : WSt) (b : Bool) : WSt :=
  if b then ⟨s.pars ++ [s.path.getLast?.getD 0], s.path ++ [s.pars.length], s.walk ++ [s.pars.length]⟩ else ⟨s.pars, s.path.dropLast, s.walk ++ [s.path.dropLast.getLast?.getD 0]⟩
def wInit : WSt := ⟨[0], [0], [0]⟩
def wRun (b : List Bool) : WSt := b.foldl wStep wInit
def dScan : List Bool → Nat → Bool
  | [], o => o == 0
  | true :: l, o => dScan l (o + 1)
  | false :: l, 0 => false
  | false :: l, o + 1 => dScan l o
def mtOf (W : List Nat) (x : Nat) : Nat := ((List.range 10).find? fun y => y != x && (W.getD y 0 == W.getD ((x + 1) % 10) 0 && W.getD ((y + 1) % 10) 0 == W.getD x 0)).getD 0
def cornersN (W : List Nat) (v : Nat) : List Nat := (List.range 10).filter fun c => W.getD c 0 == v
def adjB (cs : List Nat) (x n : Nat) : Bool := (cs.zip (cs.drop 1 ++ cs.take 1)).contains (x, n)
def edgeN (W : List Nat) (x : Nat) : Nat := max (W.getD x 0) (W.getD ((x + 1) % 10) 0)
def cornOK (W pars : List Nat) (x : Nat) : Bool :=
  let y := mtOf W x
  decide (W.getD x 0 < 6) && (decide (y < 10) && (y != x && (W.getD y 0 == W.getD ((x + 1) % 10) 0 && (W.getD ((y + 1) % 10) 0 == W.getD x 0 && (adjB (cornersN W (W.getD x 0)) x ((y + 1) % 10) && (adjB (cornersN W (W.getD y 0)) y ((x + 1) % 10) &&
  (((pars.getD (W.getD ((x + 1) % 10) 0) 0 == W.getD x 0 && W.getD ((x + 1) % 10) 0 != 0) || (pars.getD (W.getD x 0) 0 == W.getD ((x + 1) % 10) 0 && W.getD x 0 != 0)) &&
  (List.range 10).all fun z => edgeN W z != edgeN W x || (z == x || z == y))))))))
def wordOK (b : List Bool) : Bool :=
  let s := wRun b
  let W := s.walk.dropLast
  (s.pars.length == 6 && (s.walk.length == 11 && ((List.range 6).all fun v => v == 0 || decide (s.pars.getD v 0 < v)))) && (((List.range 10).all (cornOK W s.pars)) &&
  (((List.range 6).all fun v => v == 0 || (List.range 10).any fun x => W.getD x 0 == s.pars.getD v 0 && W.getD ((x + 1) % 10) 0 == v) && (((List.range 6).all fun v => (List.range 10).any fun c => W.getD c 0 == v) &&
  ((List.range 11).all fun i => !(wRun (b.take i)).path.isEmpty))))
set_option maxHeartbeats 4000000 in
theorem words_ok : ∀ b0 b1 b2 b3 b4 b5 b6 b7 b8 b9 : Bool, (!dScan [b0, b1, b2, b3, b4, b5, b6, b7, b8, b9] 0 || wordOK [b0, b1, b2, b3, b4, b5, b6, b7, b8, b9]) = true := by decide +kernel
theorem word_ok {b : List Bool} (hl : b.length = 10) (hd : dScan b 0 = true) : wordOK b = true := by
  match b, hl with
  | [b0, b1, b2, b3, b4, b5, b6, b7, b8, b9], _ =>
    have := words_ok b0 b1 b2 b3 b4 b5 b6 b7 b8 b9
    rw [hd] at this
    simpa using this
theorem adjB_adj {cs : List Nat} {x n : Nat} (h : adjB cs x n = true) : Adj cs x n := by
  unfold adjB at h
  rw [List.contains_iff_mem, List.mem_iff_getElem?] at h
  obtain ⟨i, h⟩ := h
  rw [List.getElem?_zip_eq_some] at h
  obtain ⟨h1, h2⟩ := h
  dsimp only at h1 h2
  obtain ⟨hi, e1⟩ := List.getElem?_eq_some_iff.mp h1
  by_cases hlt : i + 1 < cs.length
  · rw [List.getElem?_append_left (by rw [List.length_drop]; lia), List.getElem?_drop] at h2
    obtain ⟨hj, e2⟩ := List.getElem?_eq_some_iff.mp h2
    refine .inl ⟨cs.take i, cs.drop (i + 2), ?_⟩
    have s1 := List.drop_eq_getElem_cons hi
    have s2 := List.drop_eq_getElem_cons hlt
    rw [show cs[i + 1] = n by rw [← e2]; congr 1; lia] at s2
    rw [e1, s2] at s1
    conv => lhs; rw [← List.take_append_drop i cs, s1]
  · have hlast : i = cs.length - 1 := by lia
    rw [List.getElem?_append_right (by rw [List.length_drop]; lia), List.length_drop, show i - (cs.length - 1) = 0 by lia, List.getElem?_take_of_lt (by lia)] at h2
    obtain ⟨hj, e2⟩ := List.getElem?_eq_some_iff.mp h2
    refine .inr ⟨cs.drop 1, cs.take i, ?_, ?_⟩
    · have s0 := List.drop_eq_getElem_cons hj
      rw [List.drop_zero, e2] at s0
      exact s0
    · have s1 := List.drop_eq_getElem_cons hi
      have s2 : cs.drop (i + 1) = [] := List.drop_eq_nil_of_le (by lia)
      rw [e1, s2] at s1
      conv => lhs; rw [← List.take_append_drop i cs, s1]
def zi (W : List Nat) : List Int := W.map fun (c : Nat) => (c : Int)
theorem zi_getD {W : List Nat} {c : Nat} : (zi W).getD c 0 = ((W.getD c 0 : Nat) : Int) := by
  unfold zi
  rw [List.getD_eq_getElem?_getD, List.getElem?_map, List.getD_eq_getElem?_getD]
  cases W[c]? <;> rfl
theorem zi_corners {W : List Nat} {v : Nat} : nodeCorners (zi W) 10 v = cornersN W v := by
  unfold nodeCorners cornersN
  congr 1
  funext c
  rw [zi_getD]; rfl
/-- the walk of a word -/
structure Wd (W pars : List Nat) : Prop where
  lW : W.length = 10
  lp : pars.length = 6
  pl : ∀ v, 1 ≤ v → v < 6 → pars.getD v 0 < v
  wl : ∀ x, x < 10 → W.getD x 0 < 6
  mt : ∀ x, x < 10 → ∃ y, y < 10 ∧ y ≠ x ∧ W.getD y 0 = W.getD ((x + 1) % 10) 0 ∧ W.getD ((y + 1) % 10) 0 = W.getD x 0 ∧ Adj (nodeCorners (zi W) 10 (W.getD x 0)) x ((y + 1) % 10) ∧
    Adj (nodeCorners (zi W) 10 (W.getD y 0)) y ((x + 1) % 10) ∧ ∀ z, z < 10 → edgeN W z = edgeN W x → z = x ∨ z = y
  edge : ∀ x, x < 10 → (pars.getD (W.getD ((x + 1) % 10) 0) 0 = W.getD x 0 ∧ W.getD ((x + 1) % 10) 0 ≠ 0) ∨ (pars.getD (W.getD x 0) 0 = W.getD ((x + 1) % 10) 0 ∧ W.getD x 0 ≠ 0)
  ups : ∀ v, 1 ≤ v → v < 6 → ∃ x, x < 10 ∧ W.getD x 0 = pars.getD v 0 ∧ W.getD ((x + 1) % 10) 0 = v
  hit : ∀ v, v < 6 → ∃ c, c < 10 ∧ W.getD c 0 = v
theorem word_wd {b : List Bool} (hl : b.length = 10) (hd : dScan b 0 = true) : Wd (wRun b).walk.dropLast (wRun b).pars ∧ (wRun b).walk.length = 11 ∧ ∀ i, i ≤ 10 → (wRun (b.take i)).path ≠ [] := by
  have h := word_ok hl hd
  unfold wordOK at h
  simp only [Bool.and_eq_true, beq_iff_eq, List.all_eq_true, List.mem_range, Bool.or_eq_true, decide_eq_true_eq, List.any_eq_true] at h
  obtain ⟨⟨h1, h2, h3⟩, h4, h5, h6, h7⟩ := h
  have hc : ∀ x, x < 10 → _ := fun x hx => h4 x hx
  simp only [cornOK, Bool.and_eq_true, beq_iff_eq, List.all_eq_true, List.mem_range, Bool.or_eq_true, decide_eq_true_eq, bne_iff_ne, ne_eq] at hc
  refine ⟨⟨?_, h1, fun v a b => ?_, fun x hx => (hc x hx).1, fun x hx => ?_, fun x hx => ?_, fun v a b => ?_, fun v a => ?_⟩, h2, fun i hi e => ?_⟩
  · rw [List.length_dropLast, h2]
  · rcases h3 v b with e | e
    · lia
    · exact e
  · obtain ⟨_, q1, q2, q3, q4, q5, q6, _, q8⟩ := hc x hx
    refine ⟨_, q1, q2, q3, q4, ?_, ?_, fun z hz e => ?_⟩
    · rw [zi_corners]; exact adjB_adj q5
    · rw [zi_corners]; exact adjB_adj q6
    · rcases q8 z hz with e' | e'
      · exact absurd e e'
      · exact e'
  · exact (hc x hx).2.2.2.2.2.2.2.1
  · rcases h5 v b with e | ⟨x, h, e⟩
    · lia
    · exact ⟨x, h, e⟩
  · obtain ⟨c, h, e⟩ := h6 v a
    exact ⟨c, h, e⟩
  · have := h7 i (by lia)
    rw [e] at this; cases this
end Mine
end

/-! text PI -/
section
open PySem PySem.Spec PySem.Calls PyProof.Rows
set_option linter.unusedVariables false
set_option maxRecDepth 100000
namespace Mine
/-! the ring is taken at one place alone -/
theorem text_cps (l : List Int) : (textOf l).cps.toList = l.map fun o => if isOpen o then 40 else 41 := by
  have e : textOf l = Str.join ⟨#[]⟩ (l.map parenOf) := beq_iff_eq.mp (join_plain_closes _ _)
  rw [e]
  have h40 : (Str.ofString "(") = ⟨#[40]⟩ := by decide +kernel
  have h41 : (Str.ofString ")") = ⟨#[41]⟩ := by decide +kernel
  have app : ∀ a b : Str, (a ++ b).cps.toList = a.cps.toList ++ b.cps.toList := fun a b => by show (a.cps ++ b.cps).toList = _; simp
  clear e
  induction l with
  | nil => rfl
  | cons a l ih =>
    rw [List.map_cons, PyProof.Rows.join_nil_cons, List.map_cons, ← ih, app]
    unfold parenOf
    split
    · rw [h40]; rfl
    · rw [h41]; rfl
theorem text_paren {l : List Int} (hl : l.length ≤ 900) : Paren (textOf l) := by
  refine ⟨fun c hc => ?_, ?_⟩
  · rw [text_cps] at hc
    obtain ⟨o, _, rfl⟩ := List.mem_map.mp hc
    split
    · exact .inl rfl
    · exact .inr rfl
  · rw [← Array.length_toList, text_cps, List.length_map]; exact hl
theorem scan_eq : ∀ (l : List Int) (o : Nat), parScan (l.map fun o => if isOpen o then 40 else 41) (o : Int) = dScan (l.map isOpen) o
  | [], o => by
    show ((o : Int) == 0) = (o == 0)
    cases o <;> rfl
  | a :: l, o => by
    rw [List.map_cons, List.map_cons]
    cases h : isOpen a with
    | true =>
      rw [if_pos rfl]
      show (if (40 : Nat) == 40 then parScan _ ((o : Int) + 1) else _) = dScan _ (o + 1)
      rw [if_pos (by decide : ((40 : Nat) == 40) = true)]
      exact scan_eq l (o + 1)
    | false =>
      rw [if_neg (by decide)]
      show (if (41 : Nat) == 40 then _ else if decide ((o : Int) - 1 < 0) then false else parScan _ ((o : Int) - 1)) = _
      rw [if_neg (by decide : ¬ ((41 : Nat) == 40) = true)]
      cases o with
      | zero => rfl
      | succ o =>
        rw [if_neg (by rw [decide_eq_true_eq]; lia), show ((o + 1 : Nat) : Int) - 1 = (o : Int) by lia]
        exact scan_eq l o
theorem okRing_eq {r : List Int} : okRing r = dScan (r.dropLast.map isOpen) 0 := by
  unfold okRing
  rw [text_cps]
  exact scan_eq _ 0
/-- the cycle lemma, for rings of eleven -/
def rotB (b : List Bool) (i : Nat) : List Bool := (b.drop i ++ b.take i).dropLast
def oneRot (b : List Bool) : Bool := ((List.range 11).filter fun i => dScan (rotB b i) 0).length == 1
set_option maxHeartbeats 4000000 in
theorem rots_ok : ∀ b0 b1 b2 b3 b4 b5 b6 b7 b8 b9 b10 : Bool, (([b0, b1, b2, b3, b4, b5, b6, b7, b8, b9, b10].filter id).length != 5 || oneRot [b0, b1, b2, b3, b4, b5, b6, b7, b8, b9, b10]) = true := by decide +kernel
theorem rot_ok {b : List Bool} (hl : b.length = 11) (hc : (b.filter id).length = 5) : ∃ i, (List.range 11).filter (fun i => dScan (rotB b i) 0) = [i] := by
  match b, hl with
  | [b0, b1, b2, b3, b4, b5, b6, b7, b8, b9, b10], _ =>
    have := rots_ok b0 b1 b2 b3 b4 b5 b6 b7 b8 b9 b10
    rw [hc] at this
    have h : oneRot [b0, b1, b2, b3, b4, b5, b6, b7, b8, b9, b10] = true := by simpa using this
    unfold oneRot at h
    rw [beq_iff_eq] at h
    exact List.length_eq_one_iff.mp h
/-- an octet of the ring -/
def OctOK (o : Int) : Prop := 0 ≤ o ∧ o < 256 ∧ (isOpen o = true → 1 ≤ o.fmod 64)
theorem oct_ok {draws : List Int} {p : Nat} : OctOK (ringOct draws p) ∧ isOpen (ringOct draws p) = (ringAt draws 5).2.any (· == (p : Int)) := by
  unfold ringOct octetAt OctOK isOpen
  generalize shownAt draws p = s
  have e64 : s.fmod 64 = s % 64 := Int.fmod_eq_emod_of_nonneg _ (by decide)
  have e63 : s.fmod 63 = s % 63 := Int.fmod_eq_emod_of_nonneg _ (by decide)
  have ed : (s.fdiv 64).fmod 2 = s / 64 % 2 := by rw [Int.fdiv_eq_ediv_of_nonneg _ (by decide), Int.fmod_eq_emod_of_nonneg _ (by decide)]
  rw [e64, e63, ed]
  have b1 : 0 ≤ s / 64 % 2 ∧ s / 64 % 2 < 2 := by lia
  generalize s / 64 % 2 = e at *
  have b2 : 0 ≤ s % 63 ∧ s % 63 < 63 := by lia
  have b3 : 0 ≤ s % 64 ∧ s % 64 < 64 := by lia
  generalize s % 63 = u at *
  generalize s % 64 = w at *
  rw [Int.fdiv_eq_ediv_of_nonneg _ (by decide), Int.fmod_eq_emod_of_nonneg _ (by decide), Int.fmod_eq_emod_of_nonneg _ (by decide)]
  cases (ringAt draws 5).2.any (· == (p : Int)) with
  | true =>
    rw [if_pos rfl]
    refine ⟨⟨by lia, by lia, fun _ => by lia⟩, ?_⟩
    rw [beq_iff_eq]; lia
  | false =>
    rw [if_neg (by decide)]
    have h0 : (w + 128 * e) / 64 % 2 = 0 := by lia
    refine ⟨⟨by lia, by lia, fun h => ?_⟩, ?_⟩
    · rw [h0] at h; cases h
    · rw [h0]; rfl
theorem erase_perm : ∀ (l : List Int) (i : Nat), i < l.length → (l.eraseIdx i ++ [l.getD i 0]).Perm l
  | a :: l, 0, _ => by
    show (l ++ [a]).Perm (a :: l)
    exact List.perm_append_comm
  | a :: l, i + 1, h => by
    show (a :: (l.eraseIdx i ++ [l.getD i 0])).Perm (a :: l)
    exact (erase_perm l i (by simpa using h)).cons a
theorem ringTake_perm : ∀ (ds f o : List Int), ds.length ≤ f.length → ((ringTake f o ds).1 ++ (ringTake f o ds).2).Perm (f ++ o)
  | [], f, o, _ => List.Perm.refl _
  | d :: ds, f, o, h => by
    rw [List.length_cons] at h
    have hk := fmod_bd (a := d) (k := f.length) (by lia)
    have hi : (d.fmod f.length).toNat < f.length := by lia
    have ih := ringTake_perm ds (f.eraseIdx (d.fmod f.length).toNat) (o ++ [f.getD (d.fmod f.length).toNat 0]) (by rw [List.length_eraseIdx, if_pos hi]; lia)
    refine ih.trans ?_
    have p := erase_perm f _ hi
    have q : (f.eraseIdx (d.fmod f.length).toNat ++ (o ++ [f.getD (d.fmod f.length).toNat 0])).Perm (f.eraseIdx (d.fmod f.length).toNat ++ ([f.getD (d.fmod f.length).toNat 0] ++ o)) := List.Perm.append_left _ List.perm_append_comm
    refine q.trans ?_
    rw [← List.append_assoc]
    exact p.append_right o
def places : List Int := (List.range 11).map fun (i : Nat) => (0 : Int) + i * 1
theorem opens_five {draws : List Int} (hl : draws.length = 5) : ((List.range 11).filter fun p => (ringAt draws 5).2.any (· == ((p : Nat) : Int))).length = 5 := by
  have hp : ((ringAt draws 5).1 ++ (ringAt draws 5).2).Perm places := by
    have := ringTake_perm (draws.take 5) places [] (by rw [List.length_take]; simp [places]; lia)
    rw [List.append_nil] at this
    exact this
  have nd : ((ringAt draws 5).1 ++ (ringAt draws 5).2).Nodup := hp.nodup_iff.mpr (by decide)
  have h5 : (ringAt draws 5).2.length = 5 := (ringAt_len 5 (by lia) (by decide)).2
  obtain ⟨_, nd2, _⟩ := List.nodup_append.mp nd
  have pm : (((List.range 11).filter fun p => (ringAt draws 5).2.any (· == ((p : Nat) : Int))).map fun (p : Nat) => (p : Int)).Perm (ringAt draws 5).2 := by
    refine (List.perm_ext_iff_of_nodup ?_ nd2).mpr fun a => ?_
    · unfold List.Nodup
      rw [List.pairwise_map]
      exact List.Pairwise.imp (fun {a b} h => by lia) (List.nodup_range.sublist List.filter_sublist)
    · constructor
      · intro h
        obtain ⟨p, h1, rfl⟩ := List.mem_map.mp h
        have := (List.mem_filter.mp h1).2
        rw [List.any_eq_true] at this
        obtain ⟨x, hx, e⟩ := this
        rw [← beq_iff_eq.mp e]; exact hx
      · intro h
        have : a ∈ places := hp.mem_iff.mp (List.mem_append_right _ h)
        unfold places at this
        obtain ⟨p, h1, e⟩ := List.mem_map.mp this
        have e' : a = (p : Int) := by lia
        refine List.mem_map.mpr ⟨p, List.mem_filter.mpr ⟨h1, ?_⟩, e'.symm⟩
        rw [List.any_eq_true]
        exact ⟨a, h, by rw [e', beq_self_eq_true]⟩
  have := pm.length_eq
  rwa [List.length_map, h5] at this
/-- one place, and ten octets of the right kind -/
theorem taken_one {draws : List Int} (hl : draws.length = 5) : ∃ tk, takenOf (ringOf draws) = [tk] ∧ tk.length = 10 ∧ (∀ o ∈ tk, OctOK o) ∧ dScan (tk.map isOpen) 0 = true := by
  have hlen : (ringOf draws).length = 11 := ringOf_len
  have hc : (((ringOf draws).map isOpen).filter id).length = 5 := by
    rw [← opens_five hl]
    unfold ringOf
    rw [List.map_map, List.filter_map, List.length_map]
    congr 1
    refine List.filter_congr fun p hp => ?_
    exact oct_ok.2
  obtain ⟨i, hi⟩ := rot_ok (b := (ringOf draws).map isOpen) (by rw [List.length_map]; exact hlen) hc
  have hrot : ∀ j, okRing ((ringOf draws).drop j ++ (ringOf draws).take j) = dScan (rotB ((ringOf draws).map isOpen) j) 0 := fun j => by
    rw [okRing_eq]
    unfold rotB
    rw [List.map_dropLast, List.map_append, List.map_drop, List.map_take]
  have hmem : i ∈ (List.range 11).filter (fun i => dScan (rotB ((ringOf draws).map isOpen) i) 0) := by rw [hi]; simp
  obtain ⟨hm1, hm2⟩ := List.mem_filter.mp hmem
  have hi11 := List.mem_range.mp hm1
  refine ⟨((ringOf draws).drop i ++ (ringOf draws).take i).dropLast, ?_, ?_, fun o ho => ?_, ?_⟩
  · unfold takenOf ringsOf
    rw [List.filter_map, show ((okRing ∘ fun i => (ringOf draws).drop i ++ (ringOf draws).take i) : Nat → Bool) = fun i => dScan (rotB ((ringOf draws).map isOpen) i) 0 from funext hrot, hi]
    rfl
  · rw [List.length_dropLast, List.length_append, List.length_drop, List.length_take, hlen]; lia
  · have h1 := List.dropLast_subset _ ho
    have h2 : o ∈ ringOf draws := by
      rcases List.mem_append.mp h1 with h | h
      · exact List.mem_of_mem_drop h
      · exact List.mem_of_mem_take h
    unfold ringOf at h2
    obtain ⟨p, _, rfl⟩ := List.mem_map.mp h2
    exact oct_ok.1
  · have := hrot i
    rw [okRing_eq] at this
    rw [this]; exact hm2
end Mine
end

/-! text PJ1 -/
section
open PySem PySem.Spec PySem.Calls PyProof.Rows
set_option linter.unusedVariables false
set_option maxRecDepth 100000
namespace Mine
/-! the numbers that the octets tell -/
def grp : List Int → List Int → List (List Int × Int)
  | _, [] => []
  | acc, o :: l => if isOpen o then grp (acc ++ [o]) l else (acc, o) :: grp [] l
def flat (g : List Int × Int) : List Int := g.1 ++ [g.2]
theorem grp_flat : ∀ (l acc : List Int) (k : Nat), dScan (l.map isOpen) (acc.length + k) = true → (grp acc l).flatMap flat = acc ++ l
  | [], acc, k, h => by
    have h' : (acc.length + k == 0) = true := h
    rw [beq_iff_eq] at h'
    have : acc = [] := List.eq_nil_of_length_eq_zero (by lia)
    subst this; rfl
  | o :: l, acc, k, h => by
    unfold grp
    rw [List.map_cons] at h
    cases ho : isOpen o with
    | true =>
      rw [ho] at h
      rw [if_pos rfl, grp_flat l (acc ++ [o]) k (by rw [List.length_append]; show dScan _ (acc.length + 1 + k) = true; rw [show acc.length + 1 + k = acc.length + k + 1 by lia]; exact h)]
      simp
    | false =>
      rw [ho] at h
      rw [if_neg (by decide), List.flatMap_cons]
      have : ∃ m, acc.length + k = m + 1 ∧ dScan (l.map isOpen) m = true := by
        generalize acc.length + k = n at h
        cases n with
        | zero => cases h
        | succ m => exact ⟨m, rfl, h⟩
      obtain ⟨m, _, hm⟩ := this
      rw [grp_flat l [] m (by rw [List.length_nil, Nat.zero_add]; exact hm)]
      simp [flat]
theorem grp_kind : ∀ (l acc : List Int), (∀ o ∈ acc, isOpen o = true) → ∀ g ∈ grp acc l, (∀ o ∈ g.1, isOpen o = true) ∧ isOpen g.2 = false
  | [], acc, _, g, hg => by cases hg
  | o :: l, acc, h, g, hg => by
    unfold grp at hg
    cases ho : isOpen o with
    | true =>
      rw [ho, if_pos rfl] at hg
      refine grp_kind l (acc ++ [o]) (fun x hx => ?_) g hg
      rcases List.mem_append.mp hx with hx | hx
      · exact h x hx
      · rw [List.mem_singleton.mp hx]; exact ho
    | false =>
      rw [ho, if_neg (by decide)] at hg
      rcases List.mem_cons.mp hg with rfl | hg
      · exact ⟨h, ho⟩
      · exact grp_kind l [] (fun _ h => nomatch h) g hg
/-- the value of digits to the base 64 -/
def val (ds : List Int) : Int := ds.foldl (fun v o => v * 64 + o % 64) 0
theorem val_snoc {ds : List Int} {d : Int} : val (ds ++ [d]) = val ds * 64 + d % 64 := by unfold val; rw [List.foldl_append]; rfl
theorem val_bd : ∀ (n : Nat) (ds : List Int), ds.length = n → 0 ≤ val ds ∧ val ds < 64 ^ n
  | 0, ds, h => by rw [List.eq_nil_of_length_eq_zero h]; decide
  | n + 1, ds, h => by
    have hne : ds ≠ [] := by rintro rfl; cases h
    have e := List.dropLast_concat_getLast hne
    obtain ⟨h1, h2⟩ := val_bd n ds.dropLast (by rw [List.length_dropLast]; lia)
    rw [← e, val_snoc, Int.pow_succ]
    generalize (64 : Int) ^ n = p at *
    lia
theorem pow_le10 {n : Nat} (h : n ≤ 10) : (64 : Int) ^ n ≤ 1152921504606846976 := by
  have : ∀ n : Fin 11, (64 : Int) ^ n.val ≤ 1152921504606846976 := by decide +kernel
  exact this ⟨n, by lia⟩
theorem val_ge {d : Int} (hd : 1 ≤ d % 64) : ∀ (n : Nat) (ds : List Int), ds.length = n → 1 ≤ val (d :: ds)
  | 0, ds, h => by
    rw [List.eq_nil_of_length_eq_zero h]
    show 1 ≤ 0 * 64 + d % 64; lia
  | n + 1, ds, h => by
    have hne : ds ≠ [] := by rintro rfl; cases h
    have e := List.dropLast_concat_getLast hne
    have ih := val_ge hd n ds.dropLast (by rw [List.length_dropLast]; lia)
    rw [← e, show d :: (ds.dropLast ++ [ds.getLast hne]) = (d :: ds.dropLast) ++ [ds.getLast hne] from rfl, val_snoc]
    lia
theorem val_two {d : Int} {ds : List Int} (hd : 1 ≤ d % 64) (hne : ds ≠ []) : 64 ≤ val (d :: ds) := by
  have e := List.dropLast_concat_getLast hne
  have ih := val_ge hd _ ds.dropLast rfl
  rw [← e, show d :: (ds.dropLast ++ [ds.getLast hne]) = (d :: ds.dropLast) ++ [ds.getLast hne] from rfl, val_snoc]
  lia
theorem bitOr_low {a b : Int} (ha : 0 ≤ a) (hb : 0 ≤ b) (hb' : b < 64) : Builtin.bitOr (a * 2 ^ 6) b = a * 64 + b := by
  rw [bitOr_and]
  have e : a * 2 ^ 6 = a * 64 := rfl
  have : Builtin.bitAnd (a * 2 ^ 6) b = 0 := by
    unfold Builtin.bitAnd
    rw [e, decide_eq_true (by lia : 0 ≤ a * 64), decide_eq_true hb]
    show (((a * 64).toNat &&& b.toNat : Nat) : Int) = 0
    have : (a * 64).toNat &&& b.toNat = 0 := by
      apply Nat.eq_of_testBit_eq
      intro i
      rw [Nat.testBit_and, Nat.zero_testBit, show (a * 64).toNat = a.toNat * 2 ^ 6 by lia, Nat.testBit_mul_two_pow]
      by_cases hi : 6 ≤ i
      · rw [Nat.testBit_lt_two_pow (x := b.toNat) (i := i), Bool.and_false]
        exact Nat.lt_of_lt_of_le (by lia : b.toNat < 2 ^ 6) (Nat.pow_le_pow_right (by decide) hi)
      · simp [hi]
    rw [this]; rfl
  rw [this, e]; lia
theorem vAt_val {xs pre ds post : List Int} (e : xs = pre ++ ds ++ post) : ∀ k, k < ds.length → vAt xs pre.length k = val (ds.take (k + 1))
  | 0, h => by
    have h1 : xs.getD pre.length 0 = ds[0] := by
      rw [e, List.append_assoc, List.getD_eq_getElem?_getD, List.getElem?_append_right (Nat.le_refl _), Nat.sub_self, List.getElem?_append_left h, List.getElem?_eq_getElem h]; rfl
    show Builtin.bitAnd (xs.getD pre.length 0) 63 = _
    rw [bitAnd_m6, h1, List.take_add_one, List.getElem?_eq_getElem h]
    show _ = val ([] ++ [ds[0]])
    rw [val_snoc]; show _ = 0 * 64 + _; lia
  | k + 1, h => by
    have ih := vAt_val e k (by lia)
    have h1 : xs.getD (pre.length + k + 1) 0 = ds[k + 1] := by
      rw [e, List.append_assoc, List.getD_eq_getElem?_getD, List.getElem?_append_right (by lia), show pre.length + k + 1 - pre.length = k + 1 by lia, List.getElem?_append_left h, List.getElem?_eq_getElem h]; rfl
    have hb := val_bd _ (ds.take (k + 1)) rfl
    show Builtin.bitOr (vAt xs pre.length k * 2 ^ 6) (Builtin.bitAnd (xs.getD (pre.length + k + 1) 0) 63) = _
    rw [bitAnd_m6, h1, ih, bitOr_low hb.1 (by lia) (by lia), List.take_add_one (i := k + 1), List.getElem?_eq_getElem h]
    show _ = val (_ ++ [ds[k + 1]])
    rw [val_snoc]
def kN : Nat → Nat → Nat
  | 0, _ => 0
  | f + 1, v => if v < 64 then 0 else kN f (v / 64) + 1
/-- how many figures a number has beyond one -/
def kOf (v : Int) : Nat := kN 10 v.toNat
/-- figures whose first is not nought, unless there is one alone -/
def Figs (ds : List Int) : Prop := ds ≠ [] ∧ (2 ≤ ds.length → 1 ≤ ds.getD 0 0 % 64)
theorem figs_two {ds : List Int} (h : Figs ds) (h2 : 2 ≤ ds.length) : 64 ≤ val ds := by
  match ds, h, h2 with
  | d :: e :: r, h, h2 => exact val_two (by have := h.2 h2; exact this) (by simp)
theorem figs_take {ds : List Int} (h : Figs ds) {k : Nat} (hk : 1 ≤ k) : Figs (ds.take k) := by
  obtain ⟨h1, h2⟩ := h
  match ds, h1, k, hk with
  | d :: r, _, k + 1, _ =>
    rw [List.take_succ_cons]
    refine ⟨by simp, fun h => ?_⟩
    have := h2 (by rw [List.length_cons, List.length_take] at h; rw [List.length_cons]; lia)
    exact this
theorem kN_figs : ∀ (k f : Nat) (ds : List Int), Figs ds → ds.length = k + 1 → k < f → kN f (val ds).toNat = k
  | 0, f + 1, ds, h, hl, _ => by
    have hb := val_bd _ ds hl
    unfold kN
    rw [if_pos (by have : (64 : Int) ^ (0 + 1) = 64 := rfl; lia)]
  | k + 1, f + 1, ds, h, hl, hf => by
    have h2 := figs_two h (by lia)
    have hne := h.1
    have e := List.dropLast_concat_getLast hne
    have hd : ds.dropLast = ds.take (k + 1) := by rw [List.dropLast_eq_take, hl]; rfl
    have ih := kN_figs k f ds.dropLast (by rw [hd]; exact figs_take h (by lia)) (by rw [List.length_dropLast]; lia) (by lia)
    have hv : val ds = val ds.dropLast * 64 + ds.getLast hne % 64 := by conv => lhs; rw [← e, val_snoc]
    have hb := (val_bd _ ds.dropLast rfl).1
    unfold kN
    rw [if_neg (by lia), show (val ds).toNat / 64 = (val ds.dropLast).toNat by lia, ih]
theorem val_take_succ {ds : List Int} {m : Nat} (h : m < ds.length) : val (ds.take (m + 1)) = val (ds.take m) * 64 + ds.getD m 0 % 64 := by
  rw [List.take_add_one, List.getElem?_eq_getElem h, List.getD_eq_getElem?_getD, List.getElem?_eq_getElem h]
  exact val_snoc
theorem cut_val {ds : List Int} {k : Nat} (hl : ds.length = k + 1) : ∀ i, i ≤ k → cutAt (val ds) i = val (ds.take (k + 1 - i))
  | 0, _ => by rw [Nat.sub_zero, List.take_of_length_le (by lia)]; rfl
  | i + 1, h => by
    show (cutAt (val ds) i).fdiv 64 = _
    rw [cut_val hl i (by lia), show k + 1 - i = k + 1 - (i + 1) + 1 by lia, val_take_succ (by lia), Int.fdiv_eq_ediv_of_nonneg _ (by decide)]
    lia
theorem digs_val {ds : List Int} {k : Nat} (hl : ds.length = k + 1) : ∀ j, j ≤ k → digs (val ds) j = (ds.drop (k - j)).map (· % 64)
  | 0, _ => by
    have h := val_take_succ (ds := ds) (m := k) (by lia)
    rw [List.take_of_length_le (by lia)] at h
    show [(val ds).fmod 64] = _
    rw [Int.fmod_eq_emod_of_nonneg _ (by decide), Nat.sub_zero, List.drop_eq_getElem_cons (by lia : k < ds.length), List.drop_eq_nil_of_le (by lia)]
    rw [List.getD_eq_getElem?_getD, List.getElem?_eq_getElem (by lia)] at h
    rw [h]
    simp only [Option.getD_some, List.map_cons, List.map_nil]
    congr 1; lia
  | j + 1, h => by
    have hc := cut_val hl (j + 1) h
    rw [show k + 1 - (j + 1) = k - (j + 1) + 1 by lia, val_take_succ (by lia)] at hc
    show (cutAt (val ds) (j + 1)).fmod 64 :: digs (val ds) j = _
    rw [digs_val hl j (by lia), hc, Int.fmod_eq_emod_of_nonneg _ (by decide), List.drop_eq_getElem_cons (by lia : k - (j + 1) < ds.length), show k - (j + 1) + 1 = k - j by lia, List.map_cons,
      List.getD_eq_getElem?_getD, List.getElem?_eq_getElem (by lia)]
    congr 1
    simp only [Option.getD_some]
    lia
/-- a number and its figures -/
theorem figs_all {ds : List Int} (h : Figs ds) (h10 : ds.length ≤ 10) : kOf (val ds) + 1 = ds.length ∧ (∀ i, i < kOf (val ds) → 64 ≤ cutAt (val ds) i) ∧ cutAt (val ds) (kOf (val ds)) < 64 ∧ digs (val ds) (kOf (val ds)) = ds.map (· % 64) := by
  obtain ⟨k, hk⟩ : ∃ k, ds.length = k + 1 := ⟨ds.length - 1, by have : ds.length ≠ 0 := fun e => h.1 (List.eq_nil_of_length_eq_zero e); lia⟩
  have e : kOf (val ds) = k := kN_figs k 10 ds h hk (by lia)
  rw [e]
  refine ⟨hk.symm, fun i hi => ?_, ?_, ?_⟩
  · rw [cut_val hk i (by lia)]
    exact figs_two (figs_take h (by lia)) (by rw [List.length_take]; lia)
  · rw [cut_val hk k (Nat.le_refl _)]
    have := (val_bd _ (ds.take (k + 1 - k)) rfl).2
    rw [List.length_take, hk, show min (k + 1 - k) (k + 1) = 1 by lia] at this
    exact this
  · rw [digs_val hk k (Nat.le_refl _), Nat.sub_self, List.drop_zero]
end Mine
end

/-! text PS -/
section
open PySem PySem.Spec PySem.Calls PyProof.Rows
set_option linter.unusedVariables false
set_option maxRecDepth 100000
namespace Mine
/-! _law_steps counts the fewest ways, where a height fits the ways -/
section
variable {nodes : List Int} {pole : Nat} {nd : Nat → Nat} {d : Nat → Nat}
/-- while turn t is under way, with k halves seen -/
structure Bfs (pole : Nat) (N : Nat) (nd d : Nat → Nat) (t k : Nat) (st : List Int) : Prop where
  len : st.length = pole + 1
  done : ∀ v, v ≤ pole → d v ≤ t → st.getD v 0 = d v
  far : ∀ v, v ≤ pole → t + 1 < d v → st.getD v 0 = -1
  next : ∀ v, v ≤ pole → d v = t + 1 → st.getD v 0 = -1 ∨ st.getD v 0 = ((t + 1 : Nat) : Int)
  seen : ∀ v, v ≤ pole → d v = t + 1 → ∀ h, h < k → nd (mateOf h) = v → d (nd h) = t → st.getD v 0 = ((t + 1 : Nat) : Int)
theorem Bfs.step (hN : nodes.length = 20) (hnd : ∀ h, h < 20 → nodes.getD h 0 = ((nd h : Nat) : Int)) (hle : ∀ h, h < 20 → nd h ≤ pole) (hedge : ∀ h, h < 20 → d (nd (mateOf h)) ≤ d (nd h) + 1) {t k : Nat} {st : List Int} (hk : k < 20)
    (B : Bfs pole 20 nd d t k st) : Bfs pole 20 nd d t (k + 1) (stepIn nodes t st k) := by
  have hm : mateOf k < 20 := by unfold mateOf; lia
  obtain ⟨len, done, far, next, seen⟩ := B
  have vals : ∀ v, v ≤ pole → (d v ≤ t ∧ st.getD v 0 = d v) ∨ (t + 1 < d v ∧ st.getD v 0 = -1) ∨ (d v = t + 1 ∧ (st.getD v 0 = -1 ∨ st.getD v 0 = ((t + 1 : Nat) : Int))) := fun v hv => by
    rcases Nat.lt_trichotomy (d v) (t + 1) with h | h | h
    · exact .inl ⟨by lia, done v hv (by lia)⟩
    · exact .inr (.inr ⟨h, next v hv h⟩)
    · exact .inr (.inl ⟨h, far v hv h⟩)
  unfold stepIn
  rw [hnd k hk, hnd _ hm]
  simp only [Int.toNat_natCast]
  have v1 := vals (nd k) (hle k hk)
  have v2 := vals (nd (mateOf k)) (hle _ hm)
  have he := hedge k hk
  by_cases hc : (st.getD (nd k) 0 == (t : Int) && decide (st.getD (nd (mateOf k)) 0 < 0)) = true
  · rw [if_pos hc]
    simp only [Bool.and_eq_true, beq_iff_eq, decide_eq_true_eq] at hc
    obtain ⟨c1, c2⟩ := hc
    have dk : d (nd k) = t := by lia
    have dm : d (nd (mateOf k)) = t + 1 := by lia
    have hl : nd (mateOf k) < st.length := by rw [len]; have := hle _ hm; lia
    have same : (st.set (nd (mateOf k)) ((t : Int) + 1)).getD (nd (mateOf k)) 0 = ((t + 1 : Nat) : Int) := by
      rw [List.getD_eq_getElem?_getD, List.getElem?_set_self hl]
      simp
    have other : ∀ v, v ≠ nd (mateOf k) → (st.set (nd (mateOf k)) ((t : Int) + 1)).getD v 0 = st.getD v 0 := fun v hv => by
      rw [List.getD_eq_getElem?_getD, List.getElem?_set_ne (Ne.symm hv), ← List.getD_eq_getElem?_getD]
    refine ⟨by rw [List.length_set]; exact len, fun v hv h => ?_, fun v hv h => ?_, fun v hv h => ?_, fun v hv h q hq e1 e2 => ?_⟩
    · rw [other v (by rintro rfl; lia)]; exact done v hv h
    · rw [other v (by rintro rfl; lia)]; exact far v hv h
    · by_cases e : v = nd (mateOf k)
      · subst e; exact .inr same
      · rw [other v e]; exact next v hv h
    · by_cases e : v = nd (mateOf k)
      · subst e; exact same
      · rw [other v e]
        refine seen v hv h q ?_ e1 e2
        rcases Nat.lt_or_ge q k with hqk | hqk
        · exact hqk
        · have : q = k := by lia
          subst this
          exact absurd e1.symm e
  · rw [if_neg hc]
    refine ⟨len, done, far, next, fun v hv h q hq e1 e2 => ?_⟩
    by_cases hqk : q < k
    · exact seen v hv h q hqk e1 e2
    · have : q = k := by lia
      subst this
      subst e1
      have d1 := done (nd q) (hle q hk) (by lia)
      have hc' : ¬ (st.getD (nd q) 0 = (t : Int) ∧ st.getD (nd (mateOf q)) 0 < 0) := fun hh => hc (by simp only [Bool.and_eq_true, beq_iff_eq, decide_eq_true_eq]; exact hh)
      rcases next _ hv h with e | e
      · exact absurd ⟨by rw [d1, e2], by rw [e]; decide⟩ hc'
      · exact e
theorem Bfs.turn (hN : nodes.length = 20) (hnd : ∀ h, h < 20 → nodes.getD h 0 = ((nd h : Nat) : Int)) (hle : ∀ h, h < 20 → nd h ≤ pole) (hedge : ∀ h, h < 20 → d (nd (mateOf h)) ≤ d (nd h) + 1) {t : Nat} {st : List Int}
    (B : Bfs pole 20 nd d t 0 st) : ∀ k, k ≤ 20 → Bfs pole 20 nd d t k ((List.range k).foldl (stepIn nodes t) st)
  | 0, _ => B
  | k + 1, hk => by
    rw [foldl_range_succ]
    exact (B.turn hN hnd hle hedge k (by lia)).step hN hnd hle hedge (by lia)
theorem steps_ok (hN : nodes.length = 20) (hnd : ∀ h, h < 20 → nodes.getD h 0 = ((nd h : Nat) : Int)) (hle : ∀ h, h < 20 → nd h ≤ pole) (hedge : ∀ h, h < 20 → d (nd (mateOf h)) ≤ d (nd h) + 1)
    (h0 : d pole = 0) (hpos : ∀ v, v < pole → 1 ≤ d v ∧ d v ≤ pole) (hpred : ∀ v, v < pole → ∃ h, h < 20 ∧ nd (mateOf h) = v ∧ d (nd h) + 1 = d v) :
    stepsOf nodes pole = (List.range (pole + 1)).map fun v => ((d v : Nat) : Int) := by
  have inv : ∀ t, t ≤ pole → Bfs pole 20 nd d t 0 ((List.range t).foldl (stepTurn nodes) (List.replicate pole (-1) ++ [0])) := by
    intro t
    induction t with
    | zero =>
      intro _
      have hv : ∀ v, v < pole → (List.replicate pole (-1) ++ [0] : List Int).getD v 0 = -1 := fun v hv => by
        rw [List.getD_eq_getElem?_getD, List.getElem?_append_left (by simpa using hv), List.getElem?_replicate, if_pos hv]; rfl
      have hp : (List.replicate pole (-1) ++ [0] : List Int).getD pole 0 = 0 := by
        rw [List.getD_eq_getElem?_getD, List.getElem?_append_right (by simp)]; simp
      refine ⟨by simp, fun v a b => ?_, fun v a b => ?_, fun v a b => ?_, fun v a b h q => by lia⟩
      · have : v = pole := by
          rcases Nat.lt_or_ge v pole with h | h
          · have := (hpos v h).1; lia
          · lia
        subst this
        show _ = _
        rw [h0]; exact hp
      · have : v < pole := by
          rcases Nat.lt_or_ge v pole with h | h
          · exact h
          · have : v = pole := by lia
            subst this; lia
        exact hv v this
      · have : v < pole := by
          rcases Nat.lt_or_ge v pole with h | h
          · exact h
          · have : v = pole := by lia
            subst this; lia
        exact .inl (hv v this)
    | succ t ih =>
      intro ht
      have B := (ih (by lia)).turn hN hnd hle hedge 20 (Nat.le_refl _)
      rw [foldl_range_succ]
      show Bfs _ _ _ _ _ _ ((List.range nodes.length).foldl (stepIn nodes t) _)
      rw [hN]
      generalize (List.range 20).foldl (stepIn nodes t) _ = st at B
      obtain ⟨len, done, far, next, seen⟩ := B
      have got : ∀ v, v ≤ pole → d v = t + 1 → st.getD v 0 = ((t + 1 : Nat) : Int) := fun v hv e => by
        have hlt : v < pole := by
          rcases Nat.lt_or_ge v pole with h | h
          · exact h
          · have : v = pole := by lia
            subst this; lia
        obtain ⟨h, a, b, c⟩ := hpred v hlt
        exact seen v hv e h a b (by lia)
      refine ⟨len, fun v a b => ?_, fun v a b => far v a (by lia), fun v a b => .inl (far v a (by lia)), fun v a b h q => by lia⟩
      by_cases e : d v = t + 1
      · rw [got v a e, e]
      · exact done v a (by lia)
  obtain ⟨len, done, _, _, _⟩ := inv pole (Nat.le_refl _)
  unfold stepsOf
  apply List.ext_getElem?
  intro v
  by_cases hv : v < pole + 1
  · have := done v (by lia) (by
      rcases Nat.lt_or_ge v pole with h | h
      · exact (hpos v h).2
      · have : v = pole := by lia
        subst this; lia)
    rw [List.getElem?_map, List.getElem?_range hv, getD_of (by rw [len]; exact hv), this]; rfl
  · rw [List.getElem?_eq_none (by rw [len]; lia), List.getElem?_eq_none (by simp; lia)]
end
end Mine
end

/-! text PT -/
section
open PySem PySem.Spec PySem.Calls PyProof.Rows PySem.W
set_option linter.unusedVariables false
set_option maxRecDepth 100000
namespace Mine
/-! sorted lists of five pairs: the order does not matter -/
theorem runK_congr {n : Nat} {lt lt' : Nat → Nat → Bool} (h : ∀ i j, i < n → j < n → lt i j = lt' i j) : ∀ t : KasT (Array Nat), goodK n t = true → runK lt t = runK lt' t
  | .ret p, _ => rfl
  | .ask i j k, g => by
    simp only [goodK, Bool.and_eq_true, decide_eq_true_eq] at g
    unfold runK
    rw [h i j g.1.1.1 g.1.1.2]
    cases lt' i j
    · exact runK_congr h (k false) g.2
    · exact runK_congr h (k true) g.1.2
def five : List Nat := [0, 1, 2, 3, 4]
def ranksOK (q : List Nat) : Bool := ((runK (fun i j => decide (q.getD i 0 < q.getD j 0)) (kas_sort 5)).toList.map fun i => q.getD i 0) == five
def allRanks : List (List Nat) := five.flatMap fun a => five.flatMap fun b => five.flatMap fun c => five.flatMap fun d => five.flatMap fun e => if (a != b && (a != c && (a != d && (a != e && (b != c && (b != d && (b != e && (c != d && (c != e && d != e))))))))) then [[a, b, c, d, e]] else []
theorem ranks_ok : (allRanks.all ranksOK) = true := by decide +kernel
theorem ltP_irrefl (p : IP) : ltP p p = false := by simp [ltP]
theorem ltP_iff {p q : IP} : ltP p q = true ↔ p.1 < q.1 ∨ (p.1 = q.1 ∧ p.2 < q.2) := by
  unfold ltP
  by_cases h : p.1 = q.1
  · by_cases h2 : p.2 = q.2
    · simp [h, h2]
    · simp [h, h2]
  · simp [h]
theorem ltP_trans {p q r : IP} (h1 : ltP p q = true) (h2 : ltP q r = true) : ltP p r = true := by
  rw [ltP_iff] at *; lia
theorem ltP_total {p q : IP} (h : p ≠ q) : ltP p q = true ∨ ltP q p = true := by
  rw [ltP_iff, ltP_iff]
  have : p.1 ≠ q.1 ∨ p.2 ≠ q.2 := by
    by_cases e : p.1 = q.1
    · exact .inr fun e2 => h (Prod.ext e e2)
    · exact .inl e
  lia
/-- how many of the list lie below -/
def rankP (l : List IP) (x : IP) : Nat := l.countP fun y => ltP y x
theorem rank_lt {l : List IP} {x y : IP} (hx : x ∈ l) (h : ltP x y = true) : rankP l x < rankP l y := by
  unfold rankP
  obtain ⟨s, t, rfl⟩ := List.append_of_mem hx
  simp only [List.countP_append, List.countP_cons, ltP_irrefl, h, if_true]
  have m : ∀ u : List IP, u.countP (fun z => ltP z x) ≤ u.countP (fun z => ltP z y) := fun u => List.countP_mono_left fun z _ hz => ltP_trans hz h
  have := m s; have := m t
  simp only [Bool.false_eq_true, if_false]
  lia
theorem rank_inj {l : List IP} {x y : IP} (hx : x ∈ l) (hy : y ∈ l) (h : rankP l x = rankP l y) : x = y := by
  by_cases e : x = y
  · exact e
  · rcases ltP_total e with h' | h'
    · have := rank_lt hx h'; lia
    · have := rank_lt hy h'; lia
theorem rank_iff {l : List IP} {x y : IP} (hx : x ∈ l) (hy : y ∈ l) : ltP x y = decide (rankP l x < rankP l y) := by
  cases e : ltP x y with
  | true => exact (decide_eq_true (rank_lt hx e)).symm
  | false =>
    refine (decide_eq_false fun h => ?_).symm
    have ne : x ≠ y := by rintro rfl; lia
    rcases ltP_total ne with h' | h'
    · rw [e] at h'; cases h'
    · have := rank_lt hy h'; lia
theorem rank_bd {l : List IP} {x : IP} (hx : x ∈ l) : rankP l x < l.length := by
  unfold rankP
  obtain ⟨s, t, rfl⟩ := List.append_of_mem hx
  simp only [List.countP_append, List.countP_cons, ltP_irrefl, List.length_append, List.length_cons, Bool.false_eq_true, if_false]
  have := List.countP_le_length (p := fun y => ltP y x) (l := s)
  have := List.countP_le_length (p := fun y => ltP y x) (l := t)
  lia
theorem mem_five {i : Nat} (h : i < 5) : i ∈ five := by
  have : i = 0 ∨ i = 1 ∨ i = 2 ∨ i = 3 ∨ i = 4 := by lia
  unfold five
  rcases this with rfl | rfl | rfl | rfl | rfl <;> simp
theorem sortP_rank {l : List IP} (hl : l.length = 5) (hn : l.Nodup) : (sortP l).length = 5 ∧ (∀ x ∈ sortP l, x ∈ l) ∧ (sortP l).map (rankP l) = five := by
  match l, hl with
  | [x0, x1, x2, x3, x4], _ =>
    generalize hL : [x0, x1, x2, x3, x4] = l at *
    have hlen : l.length = 5 := by rw [← hL]; rfl
    have m0 : x0 ∈ l := by rw [← hL]; simp
    have m1 : x1 ∈ l := by rw [← hL]; simp
    have m2 : x2 ∈ l := by rw [← hL]; simp
    have m3 : x3 ∈ l := by rw [← hL]; simp
    have m4 : x4 ∈ l := by rw [← hL]; simp
    obtain ⟨hs, hb⟩ := ordP_ok (l := l) (by rw [hlen]; exact good5)
    have hmem : ∀ i, i < 5 → l.getD i (0, 0) ∈ l := fun i hi => by
      rw [List.getD_eq_getElem?_getD, List.getElem?_eq_getElem (by lia)]
      exact List.getElem_mem _
    have ne : ∀ {x y : IP}, x ∈ l → y ∈ l → x ≠ y → (rankP l x != rankP l y) = true := fun hx hy h => by
      rw [bne_iff_ne]; exact fun e => h (rank_inj hx hy e)
    have hq : ∀ i, i < 5 → [rankP l x0, rankP l x1, rankP l x2, rankP l x3, rankP l x4].getD i 0 = rankP l (l.getD i (0, 0)) := fun i hi => by
      have : i = 0 ∨ i = 1 ∨ i = 2 ∨ i = 3 ∨ i = 4 := by lia
      conv => rhs; arg 2; rw [← hL]
      rcases this with rfl | rfl | rfl | rfl | rfl <;> rfl
    have hin : [rankP l x0, rankP l x1, rankP l x2, rankP l x3, rankP l x4] ∈ allRanks := by
      have bd : ∀ {x : IP}, x ∈ l → rankP l x ∈ five := fun hx => mem_five (by have := rank_bd hx; lia)
      have hn' := hn
      rw [← hL] at hn'
      simp only [List.nodup_cons, List.mem_cons, List.not_mem_nil, or_false, not_or] at hn'
      obtain ⟨⟨a1, a2, a3, a4⟩, ⟨b1, b2, b3⟩, ⟨c1, c2⟩, d1, _⟩ := hn'
      unfold allRanks
      refine List.mem_flatMap.mpr ⟨_, bd m0, List.mem_flatMap.mpr ⟨_, bd m1, List.mem_flatMap.mpr ⟨_, bd m2, List.mem_flatMap.mpr ⟨_, bd m3, List.mem_flatMap.mpr ⟨_, bd m4, ?_⟩⟩⟩⟩⟩
      rw [ne m0 m1 a1, ne m0 m2 a2, ne m0 m3 a3, ne m0 m4 a4, ne m1 m2 b1, ne m1 m3 b2, ne m1 m4 b3, ne m2 m3 c1, ne m2 m4 c2, ne m3 m4 d1]
      exact List.mem_singleton.mpr rfl
    have hr := List.all_eq_true.mp ranks_ok _ hin
    unfold ranksOK at hr
    rw [beq_iff_eq] at hr
    have ho : ordP l = runK (fun i j => decide ([rankP l x0, rankP l x1, rankP l x2, rankP l x3, rankP l x4].getD i 0 < [rankP l x0, rankP l x1, rankP l x2, rankP l x3, rankP l x4].getD j 0)) (kas_sort 5) := by
      unfold ordP
      rw [hlen]
      refine runK_congr (n := 5) (fun i j hi hj => ?_) _ good5
      rw [hq i hi, hq j hj]
      exact rank_iff (hmem i hi) (hmem j hj)
    rw [hlen] at hs hb
    refine ⟨by unfold sortP; simp [hs], fun x hx => ?_, ?_⟩
    · unfold sortP at hx
      obtain ⟨i, hi, rfl⟩ := List.mem_map.mp hx
      exact hmem i (hb i hi)
    · unfold sortP
      rw [List.map_map, ← hr, ← ho]
      refine List.map_congr_left fun i hi => ?_
      rw [hq i (hb i hi)]; rfl
theorem sortP_perm {l l' : List IP} (hl : l.length = 5) (hn : l.Nodup) (h : l.Perm l') : sortP l = sortP l' := by
  have hl' : l'.length = 5 := by rw [← h.length_eq]; exact hl
  obtain ⟨a1, a2, a3⟩ := sortP_rank hl hn
  obtain ⟨b1, b2, b3⟩ := sortP_rank hl' (h.nodup_iff.mp hn)
  have hr : rankP l' = rankP l := by funext x; exact (h.countP_eq _).symm
  rw [hr] at b3
  apply List.ext_getElem (by rw [a1, b1])
  intro i h1 h2
  have e : rankP l (sortP l)[i] = rankP l (sortP l')[i] := by
    have e1 : ((sortP l).map (rankP l))[i]? = ((sortP l').map (rankP l))[i]? := by rw [a3, b3]
    rw [List.getElem?_map, List.getElem?_map, List.getElem?_eq_getElem h1, List.getElem?_eq_getElem h2] at e1
    simpa using e1
  exact rank_inj (a2 _ (List.getElem_mem _)) (h.mem_iff.mpr (b2 _ (List.getElem_mem _))) e
end Mine
end

/-! text PU -/
section
open PySem PySem.Spec PySem.Calls PyProof.Rows
set_option linter.unusedVariables false
set_option maxRecDepth 100000
namespace Mine
/-! the tie of a room of four -/
theorem tie_by {c0 c1 c2 c3 h0 h1 h2 h3 M r u : Int} {steps : List Int} (e0 : steps.getD c0.toNat 0 = h0) (e1 : steps.getD c1.toNat 0 = h1) (e2 : steps.getD c2.toNat 0 = h2) (e3 : steps.getD c3.toNat 0 = h3) {p : Nat} {q : Int}
    (hM : max h0 (max h1 (max h2 h3)) = M) (hp : [h0, h1, h2, h3].idxOf M = p) (hq : (if getI [h0, h1, h2, h3] ((p : Int) - 2) == getI [h0, h1, h2, h3] (p : Int) then (p : Int) - 2 else (p : Int) - 1) = q)
    (hr : getI [c0, c1, c2, c3] (p : Int) = r) (hu : getI [c0, c1, c2, c3] q = u) : tieP [c0, c1, c2, c3] steps = (min r u, max r u) := by
  subst e0; subst e1; subst e2; subst e3; subst hM; subst hp; subst hq; subst hr; subst hu
  rfl
theorem up1' {k : Int} : k ≤ k + 1 := Int.le_add_of_nonneg_right (by decide)
theorem up2 {k : Int} : k ≤ k + 2 := Int.le_add_of_nonneg_right (by decide)
theorem up12 {k : Int} : k + 1 ≤ k + 2 := Int.add_le_add_left (by decide) k
theorem ne1 {k : Int} : k ≠ k + 1 := Int.ne_of_lt (Int.lt_add_one_of_le (Int.le_refl k))
theorem ne2 {k : Int} : k ≠ k + 2 := fun e => absurd (Int.add_left_cancel (a := k) (b := 0) (c := 2) ((Int.add_zero k).trans e)) (by decide)
theorem ne12 {k : Int} : k + 1 ≠ k + 2 := fun e => absurd (Int.add_left_cancel e) (by decide)
theorem max_l {a b : Int} (h : b ≤ a) : max a b = a := Int.max_eq_left h
theorem max_r {a b : Int} (h : a ≤ b) : max a b = b := Int.max_eq_right h
theorem idx_0 {a b c d : Int} : [a, b, c, d].idxOf a = 0 := by simp [List.idxOf_cons]
theorem idx_1 {a b c d : Int} (h : a ≠ b) : [a, b, c, d].idxOf b = 1 := by simp [List.idxOf_cons, beq_eq_false_iff_ne.mpr h]
theorem idx_2 {a b c d : Int} (h : a ≠ c) (k : b ≠ c) : [a, b, c, d].idxOf c = 2 := by simp [List.idxOf_cons, beq_eq_false_iff_ne.mpr h, beq_eq_false_iff_ne.mpr k]
theorem idx_3 {a b c d : Int} (h : a ≠ d) (k : b ≠ d) (l : c ≠ d) : [a, b, c, d].idxOf d = 3 := by simp [List.idxOf_cons, beq_eq_false_iff_ne.mpr h, beq_eq_false_iff_ne.mpr k, beq_eq_false_iff_ne.mpr l]
theorem if_same {a b x y : Int} (h : a = b) : (if a == b then x else y) = x := if_pos (beq_iff_eq.mpr h)
theorem if_ne {a b x y : Int} (h : a ≠ b) : (if a == b then x else y) = y := if_neg (fun e => h (beq_iff_eq.mp e))
section
variable {c0 c1 c2 c3 k : Int} {steps : List Int}
theorem tie_f0 (e0 : steps.getD c0.toNat 0 = k + 1) (e1 : steps.getD c1.toNat 0 = k) (e2 : steps.getD c2.toNat 0 = k + 1) (e3 : steps.getD c3.toNat 0 = k) : tieP [c0, c1, c2, c3] steps = (min c0 c2, max c0 c2) :=
  tie_by e0 e1 e2 e3 (p := 0) (q := -2) (show max (k + 1) (max k (max (k + 1) k)) = k + 1 by rw [max_l up1', max_r up1', max_l (Int.le_refl _)]) idx_0 (if_same rfl) rfl rfl
theorem tie_f1 (e0 : steps.getD c0.toNat 0 = k) (e1 : steps.getD c1.toNat 0 = k + 1) (e2 : steps.getD c2.toNat 0 = k) (e3 : steps.getD c3.toNat 0 = k + 1) : tieP [c0, c1, c2, c3] steps = (min c1 c3, max c1 c3) :=
  tie_by e0 e1 e2 e3 (p := 1) (q := -1) (show max k (max (k + 1) (max k (k + 1))) = k + 1 by rw [max_r up1', max_l (Int.le_refl _), max_r up1']) (idx_1 ne1) (if_same rfl) rfl rfl
theorem tie_a0 (e0 : steps.getD c0.toNat 0 = k + 2) (e1 : steps.getD c1.toNat 0 = k + 1) (e2 : steps.getD c2.toNat 0 = k) (e3 : steps.getD c3.toNat 0 = k + 1) : tieP [c0, c1, c2, c3] steps = (min c0 c3, max c0 c3) :=
  tie_by e0 e1 e2 e3 (p := 0) (q := -1) (show max (k + 2) (max (k + 1) (max k (k + 1))) = k + 2 by rw [max_r up1', max_l (Int.le_refl _), max_l up12]) idx_0 (if_ne ne2) rfl rfl
theorem tie_a1 (e0 : steps.getD c0.toNat 0 = k + 1) (e1 : steps.getD c1.toNat 0 = k + 2) (e2 : steps.getD c2.toNat 0 = k + 1) (e3 : steps.getD c3.toNat 0 = k) : tieP [c0, c1, c2, c3] steps = (min c1 c0, max c1 c0) :=
  tie_by e0 e1 e2 e3 (p := 1) (q := 0) (show max (k + 1) (max (k + 2) (max (k + 1) k)) = k + 2 by rw [max_l up1', max_l up12, max_r up12]) (idx_1 ne12) (if_ne ne2) rfl rfl
theorem tie_a2 (e0 : steps.getD c0.toNat 0 = k) (e1 : steps.getD c1.toNat 0 = k + 1) (e2 : steps.getD c2.toNat 0 = k + 2) (e3 : steps.getD c3.toNat 0 = k + 1) : tieP [c0, c1, c2, c3] steps = (min c2 c1, max c2 c1) :=
  tie_by e0 e1 e2 e3 (p := 2) (q := 1) (show max k (max (k + 1) (max (k + 2) (k + 1))) = k + 2 by rw [max_l up12, max_r up12, max_r up2]) (idx_2 ne2 ne12) (if_ne ne2) rfl rfl
theorem tie_a3 (e0 : steps.getD c0.toNat 0 = k + 1) (e1 : steps.getD c1.toNat 0 = k) (e2 : steps.getD c2.toNat 0 = k + 1) (e3 : steps.getD c3.toNat 0 = k + 2) : tieP [c0, c1, c2, c3] steps = (min c3 c2, max c3 c2) :=
  tie_by e0 e1 e2 e3 (p := 3) (q := 2) (show max (k + 1) (max k (max (k + 1) (k + 2))) = k + 2 by rw [max_r up12, max_r up2, max_r up12]) (idx_3 ne12 ne2 ne12) (if_ne ne2) rfl rfl
end
end Mine
end

/-! text PF -/
section
open PySem PySem.Spec PySem.Calls PyProof.Rows
set_option linter.unusedVariables false
set_option maxRecDepth 100000
namespace Mine
/-! heights: labels above the least one, and what _law_steps counts -/
theorem getD_left {a b : List Int} {i : Nat} (h : i < a.length) : (a ++ b).getD i 0 = a.getD i 0 := by
  rw [List.getD_eq_getElem?_getD, List.getElem?_append_left h, ← List.getD_eq_getElem?_getD]
theorem getD_right {a b : List Int} {i j : Nat} (h : i = a.length + j) : (a ++ b).getD i 0 = b.getD j 0 := by
  subst h
  rw [List.getD_eq_getElem?_getD, List.getElem?_append_right (Nat.le_add_right _ _), Nat.add_sub_cancel_left, ← List.getD_eq_getElem?_getD]
theorem nodes_at {W G : List Int} {p : Int} {c : Nat} : ∀ k, c < k → (nodesOf W G p k).getD (2 * c) 0 = W.getD c 0 ∧ (nodesOf W G p k).getD (2 * c + 1) 0 = if (0 : Int) ≤ G.getD c 0 then W.getD (G.getD c 0).toNat 0 else p
  | 0, h => absurd h (Nat.not_lt_zero c)
  | k + 1, h => by
    have hl := nodesOf_len (W := W) (G := G) (p := p) k
    have e : nodesOf W G p (k + 1) = nodesOf W G p k ++ nodeOf W G p k := by unfold nodesOf; rw [foldl_range_succ]
    rw [e]
    by_cases hc : c < k
    · rw [getD_left (by rw [hl]; exact dbl_lt hc), getD_left (by rw [hl]; exact dbl_lt1 hc)]
      exact nodes_at k hc
    · obtain rfl : c = k := Nat.le_antisymm (Nat.le_of_lt_succ h) (Nat.not_lt.mp hc)
      rw [getD_right (j := 0) hl.symm, getD_right (j := 1) (congrArg (· + 1) hl.symm)]
      exact ⟨rfl, rfl⟩
structure LabOK (L : List Int) (W pars : List Nat) : Prop where
  wd : Wd W pars
  lL : L.length = 6
  st : ∀ v, 1 ≤ v → v < 6 → L.getD v 0 ≤ L.getD (pars.getD v 0) 0 + 1 ∧ L.getD (pars.getD v 0) 0 ≤ L.getD v 0 + 1
section
variable {L : List Int} {W pars : List Nat}
theorem mu_zi {k : Nat} : mu L (zi W) k = L.getD (W.getD (k % 10) 0) 0 := by
  unfold mu corn
  rw [zi_getD]; rfl
theorem LabOK.lab (H : LabOK L W pars) : Lab L (zi W) 6 := by
  refine ⟨by unfold zi; rw [List.length_map]; exact H.wd.lW, fun c hc => by rw [zi_getD]; exact H.wd.wl c hc, fun k => ?_⟩
  have h10 := b10 k
  rw [mu_zi, mu_zi, ← Nat.mod_add_mod k 10 1]
  rcases H.wd.edge (k % 10) h10 with ⟨e, n⟩ | ⟨e, n⟩
  · have := H.st _ (Nat.pos_of_ne_zero n) (H.wd.wl _ (b10 _))
    rwa [e] at this
  · have := H.st _ (Nat.pos_of_ne_zero n) (H.wd.wl _ h10)
    rw [e] at this; exact ⟨this.2, this.1⟩
theorem LabOK.getL (H : LabOK L W pars) {v : Nat} (h : v < 6) : L.getD v 0 = L[v]'(by rw [H.lL]; exact h) := by
  rw [List.getD_eq_getElem?_getD, List.getElem?_eq_getElem (by rw [H.lL]; exact h)]; rfl
theorem LabOK.ne (H : LabOK L W pars) : L ≠ [] := by intro e; have := H.lL; rw [e] at this; cases this
theorem LabOK.least (H : LabOK L W pars) : (∃ c, c < 10 ∧ mu L (zi W) c = minL L) ∧ ∀ k, minL L ≤ mu L (zi W) k := by
  obtain ⟨h1, h2⟩ := minL_ok H.ne
  obtain ⟨v, hv, e⟩ := List.mem_iff_getElem.mp h1
  rw [H.lL] at hv
  obtain ⟨c, hc, ec⟩ := H.wd.hit v hv
  refine ⟨⟨c, hc, ?_⟩, fun k => ?_⟩
  · rw [mu_zi, Nat.mod_eq_of_lt hc, ec, H.getL hv]; exact e
  · rw [mu_zi, H.getL (H.wd.wl _ (b10 k))]
    exact h2 _ (List.getElem_mem _)
theorem Lab.far {pole : Nat} {W : List Int} (H : Lab L W pole) (a : Nat) : ∀ k : Nat, mu L W (a + k) ≤ mu L W a + k ∧ mu L W a ≤ mu L W (a + k) + k
  | 0 => ⟨Int.le_of_eq (Int.add_zero _).symm, Int.le_of_eq (Int.add_zero _).symm⟩
  | k + 1 => far_up (H.far a k) (H.hs (a + k))
theorem LabOK.most (H : LabOK L W pars) (k : Nat) : mu L (zi W) k ≤ minL L + 5 := by
  obtain ⟨⟨c, hc, e⟩, _⟩ := H.least
  have h10 := b10 k
  rw [mu_mod (a := k) (b := k % 10) (mm10 k).symm, ← e]
  rcases near_all (k % 10) h10 c hc with ⟨h, r⟩ | ⟨h, r⟩
  · have := (H.lab.far c ((k % 10 + 10 - c) % 10)).1
    rw [mu_mod (a := c + (k % 10 + 10 - c) % 10) (b := k % 10) (r.trans (mm10 k).symm)] at this
    exact le_five h this
  · have := (H.lab.far (k % 10) ((c + 10 - k % 10) % 10)).2
    rw [mu_mod (a := k % 10 + (c + 10 - k % 10) % 10) (b := c) (r.trans (Nat.mod_eq_of_lt hc).symm)] at this
    exact le_five h this
/-- the height of a node; the pole has none -/
def ht (L : List Int) (v : Nat) : Nat := if v < 6 then (L.getD v 0 - minL L + 1).toNat else 0
/-- the node where a half lies -/
def ndOf (L : List Int) (W : List Nat) (h : Nat) : Nat :=
  if h % 2 = 0 then W.getD (h / 2) 0 else if (0 : Int) ≤ (Gof L (zi W)).getD (h / 2) 0 then W.getD ((Gof L (zi W)).getD (h / 2) 0).toNat 0 else 6
abbrev Nodes (L : List Int) (W : List Nat) : List Int := nodesOf (zi W) (Gof L (zi W)) 6 10
theorem nd_eq {h : Nat} (hh : h < 20) : (Nodes L W).getD h 0 = ((ndOf L W h : Nat) : Int) := by
  obtain ⟨h10, e⟩ := halves hh
  have hn := nodes_at (W := zi W) (G := Gof L (zi W)) (p := 6) (c := h / 2) 10 h10
  generalize h / 2 = c at *
  rcases e with rfl | rfl
  · unfold ndOf
    rw [if_pos (even_mod c), even_div]
    exact hn.1.trans zi_getD
  · unfold ndOf
    rw [if_neg (odd_mod c), odd_div]
    refine hn.2.trans ?_
    rw [zi_getD]
    split <;> rfl
theorem LabOK.ht_node (H : LabOK L W pars) {c : Nat} : ((ht L (W.getD (c % 10) 0) : Nat) : Int) = mu L (zi W) c - minL L + 1 := by
  have := H.least.2 c
  unfold ht
  rw [mu_zi] at this ⊢
  rw [if_pos (H.wd.wl _ (b10 c))]
  exact int_ht this
theorem LabOK.nd_even (H : LabOK L W pars) {c : Nat} (hc : c < 10) : ndOf L W (2 * c) = W.getD c 0 ∧ ((ht L (ndOf L W (2 * c)) : Nat) : Int) = mu L (zi W) c - minL L + 1 := by
  have e : ndOf L W (2 * c) = W.getD c 0 := by unfold ndOf; rw [if_pos (even_mod c), even_div]
  refine ⟨e, ?_⟩
  rw [e]
  have := H.ht_node (c := c)
  rwa [Nat.mod_eq_of_lt hc] at this
theorem LabOK.nd_odd (H : LabOK L W pars) {c : Nat} (hc : c < 10) : ndOf L W (2 * c + 1) ≤ 6 ∧ ((ht L (ndOf L W (2 * c + 1)) : Nat) : Int) = mu L (zi W) c - minL L ∧
    ∀ t, 1 ≤ t → t ≤ 9 → (Gof L (zi W)).getD c 0 = (((c + t) % 10 : Nat) : Int) → ndOf L W (2 * c + 1) = W.getD ((c + t) % 10) 0 := by
  have e : ndOf L W (2 * c + 1) = if (0 : Int) ≤ (Gof L (zi W)).getD c 0 then W.getD ((Gof L (zi W)).getD c 0).toNat 0 else 6 := by unfold ndOf; rw [if_neg (odd_mod c), odd_div]
  have third : ∀ t, 1 ≤ t → t ≤ 9 → (Gof L (zi W)).getD c 0 = (((c + t) % 10 : Nat) : Int) → ndOf L W (2 * c + 1) = W.getD ((c + t) % 10) 0 := fun t _ _ g => by
    rw [e, g, if_pos (Int.natCast_nonneg _)]; rfl
  rcases H.lab.goalC hc with ⟨t, a, b, m1, _, g⟩ | ⟨m1, g⟩
  · have e' := third t a b g
    refine ⟨by rw [e']; exact Nat.le_of_lt (H.wd.wl _ (b10 _)), ?_, third⟩
    rw [e', H.ht_node, m1, sub_m]
  · have e' : ndOf L W (2 * c + 1) = 6 := by rw [e, g, if_neg (by decide)]
    refine ⟨Nat.le_of_eq e', ?_, third⟩
    rw [e']
    show (0 : Int) = _
    obtain ⟨⟨c', hc', em⟩, hm⟩ := H.least
    by_cases hlt : minL L < mu L (zi W) c
    · obtain ⟨i, _, _, r⟩ := H.lab.ivt (a := c) (v := mu L (zi W) c - 1) ((c' + 10 - c) % 10) (Int.sub_lt_self _ (by decide)) (by
        rw [mu_mod (a := c + (c' + 10 - c) % 10) (b := c') ((to_all c' hc' c hc).trans (Nat.mod_eq_of_lt hc').symm), em]; exact Int.le_sub_one_of_lt hlt)
      exact absurd r (m1 _)
    · rw [Int.le_antisymm (Int.not_lt.mp hlt) (hm c), Int.sub_self]
theorem mate_odd_all : ∀ c < 10, mateOf (2 * c + 1) = 2 * c := by decide +kernel
set_option synthInstance.maxSize 4000 in
theorem half_all : ∀ h < 20, h / 2 < 10 ∧ ((h = 2 * (h / 2) ∧ mateOf h = 2 * (h / 2) + 1) ∨ (h = 2 * (h / 2) + 1 ∧ mateOf h = 2 * (h / 2))) := by decide +kernel
theorem half_cases {h : Nat} (hh : h < 20) : ∃ c, c < 10 ∧ ((h = 2 * c ∧ mateOf h = 2 * c + 1) ∨ (h = 2 * c + 1 ∧ mateOf h = 2 * c)) := ⟨h / 2, half_all h hh⟩
theorem LabOK.nd_le (H : LabOK L W pars) {h : Nat} (hh : h < 20) : ndOf L W h ≤ 6 := by
  obtain ⟨c, hc, ⟨rfl, _⟩ | ⟨rfl, _⟩⟩ := half_cases hh
  · rw [(H.nd_even hc).1]; exact Nat.le_of_lt (H.wd.wl c hc)
  · exact (H.nd_odd hc).1
theorem ht_nat {a b : Nat} {k : Int} (h1 : (a : Int) = k + 1) (h2 : (b : Int) = k) : b + 1 = a := by lia
theorem LabOK.steps (H : LabOK L W pars) : stepsOf (Nodes L W) 6 = (List.range 7).map fun v => ((ht L v : Nat) : Int) := by
  have both : ∀ {c}, c < 10 → ht L (ndOf L W (2 * c + 1)) + 1 = ht L (ndOf L W (2 * c)) := fun {c} hc => ht_nat (H.nd_even hc).2 (H.nd_odd hc).2.1
  refine steps_ok (nd := ndOf L W) (d := ht L) (nodesOf_len 10) (fun h hh => nd_eq hh) (fun h hh => H.nd_le hh) (fun h hh => ?_) rfl (fun v hv => ?_) (fun v hv => ?_)
  · obtain ⟨c, hc, ⟨rfl, m⟩ | ⟨rfl, m⟩⟩ := half_cases hh
    · rw [m, ← both hc]; exact Nat.le_succ_of_le (Nat.le_succ _)
    · rw [m, both hc]; exact Nat.le_refl _
  · obtain ⟨c, hc, ec⟩ := H.wd.hit v hv
    have := H.ht_node (c := c)
    rw [Nat.mod_eq_of_lt hc, ec] at this
    have h1 := H.least.2 c
    have h2 := H.most c
    clear hc ec
    lia
  · obtain ⟨c, hc, ec⟩ := H.wd.hit v hv
    have e1 := (H.nd_even hc).1.trans ec
    refine ⟨2 * c + 1, odd20 hc, ?_, ?_⟩
    · rw [mate_odd_all c hc]; exact e1
    · rw [both hc, e1]
theorem LabOK.step_at (H : LabOK L W pars) {h : Nat} (hh : h < 20) : (stepsOf (Nodes L W) 6).getD ((Nodes L W).getD h 0).toNat 0 = ((ht L (ndOf L W h) : Nat) : Int) := by
  rw [nd_eq hh, H.steps, Int.toNat_natCast, List.getD_eq_getElem?_getD, List.getElem?_map, List.getElem?_range (Nat.lt_succ_of_le (H.nd_le hh))]; rfl
end
end Mine
end

/-! text PG -/
section
open PySem PySem.Spec PySem.Calls PyProof.Rows
set_option linter.unusedVariables false
set_option maxRecDepth 100000
namespace Mine
/-! the rooms -/
abbrev On (L : List Int) (W : List Nat) : List Int := onwardOf (zi W) (Gof L (zi W)) 6
abbrev tieAt (L : List Int) (W : List Nat) (l : List Nat) : IP := tieP (l.map fun h => (Nodes L W).getD h 0) (stepsOf (Nodes L W) 6)
structure Rot (on : List Int) (a b c d : Nat) : Prop where
  ab : on.getD a 0 = (b : Nat)
  bc : on.getD b 0 = (c : Nat)
  cd : on.getD c 0 = (d : Nat)
  da : on.getD d 0 = (a : Nat)
structure Room4 (L : List Int) (W : List Nat) (T : IP) (v : Nat) (q : Nat × Nat × Nat × Nat) : Prop where
  rot : Rot (On L W) q.1 q.2.1 q.2.2.1 q.2.2.2
  lt : q.1 < 20 ∧ q.2.1 < 20 ∧ q.2.2.1 < 20 ∧ q.2.2.2 < 20
  nd : [q.1, q.2.1, q.2.2.1, q.2.2.2].Nodup
  t0 : tieAt L W [q.1, q.2.1, q.2.2.1, q.2.2.2] = T
  t1 : tieAt L W [q.2.1, q.2.2.1, q.2.2.2, q.1] = T
  t2 : tieAt L W [q.2.2.1, q.2.2.2, q.1, q.2.1] = T
  t3 : tieAt L W [q.2.2.2, q.1, q.2.1, q.2.2.1] = T
  odd : ∀ z, z < 10 → 2 * z + 1 ∈ [q.1, q.2.1, q.2.2.1, q.2.2.2] → edgeN W z = v
  mem : ∃ x, x < 10 ∧ 2 * x + 1 = q.1 ∧ edgeN W x = v
section
variable {L : List Int} {W pars : List Nat}
theorem LabOK.tie_heights (H : LabOK L W pars) {h : Nat} (hh : h < 20) {k : Int} (e : ((ht L (ndOf L W h) : Nat) : Int) = k) : (stepsOf (Nodes L W) 6).getD ((Nodes L W).getD h 0).toNat 0 = k := by
  rw [H.step_at hh]; exact e
theorem tieAt_eq {a b c d : Nat} : tieAt L W [a, b, c, d] = tieP [(Nodes L W).getD a 0, (Nodes L W).getD b 0, (Nodes L W).getD c 0, (Nodes L W).getD d 0] (stepsOf (Nodes L W) 6) := rfl
theorem min_swap {a b : Int} : (min a b, max a b) = (min b a, max b a) := by rw [Int.min_comm, Int.max_comm]
theorem mu_back {W : List Int} {y : Nat} : mu L W ((y + 1) % 10 + 9) = mu L W y := mu_mod (back9 y)
/-- after a step up, all stay above till the label comes back -/
theorem Lab.above {W : List Int} {pole : Nat} (H : Lab L W pole) {x t : Nat} (hasc : mu L W (x + 1) = mu L W x + 1) (m0 : ∀ j, 0 < j → j < t → mu L W ((x + 1) % 10 + j) ≠ mu L W x) : ∀ i, 0 < i → i < t + 1 → mu L W x < mu L W (x + i)
  | 0, h, _ => absurd h (Nat.lt_irrefl _)
  | 1, _, _ => by rw [hasc]; exact Int.lt_add_one_of_le (Int.le_refl _)
  | i + 2, _, h => Int.not_le.mp fun hle => by
    obtain ⟨j, p, q, r⟩ := H.ivt (a := (x + 1) % 10) (v := mu L W x) (i + 1) (by rw [mu_mod (b := x + 1) (mm10 _), hasc]; exact Int.lt_add_one_of_le (Int.le_refl _)) (by rw [mu_mod (b := x + (i + 2)) (addm x (i + 1)).symm]; exact hle)
    exact m0 j p (Nat.lt_of_le_of_lt q (Nat.lt_of_succ_lt_succ h)) r
/-- the room of a move -/
theorem LabOK.room (H : LabOK L W pars) {x : Nat} (hx : x < 10) (hup : mu L (zi W) x ≤ mu L (zi W) (x + 1)) :
    ∃ q, Room4 L W (min ((W.getD x 0 : Nat) : Int) ((W.getD ((x + 1) % 10) 0 : Nat) : Int), max ((W.getD x 0 : Nat) : Int) ((W.getD ((x + 1) % 10) 0 : Nat) : Int)) (edgeN W x) q := by
  obtain ⟨y, hy, hyx, w1, w2, adx, ady, huniq⟩ := H.wd.mt x hx
  have HL := H.lab
  have hwx := H.wd.wl x hx
  have hwy := H.wd.wl y hy
  have hx1 := b10 (x + 1)
  have hy1 := b10 (y + 1)
  have my : mu L (zi W) y = mu L (zi W) (x + 1) := by rw [mu_zi, mu_zi, Nat.mod_eq_of_lt hy, w1]
  have my1 : mu L (zi W) (y + 1) = mu L (zi W) x := by rw [mu_zi, mu_zi, Nat.mod_eq_of_lt hx, w2]
  have mx1 : mu L (zi W) ((x + 1) % 10) = mu L (zi W) (x + 1) := mu_mod (mm10 _)
  have my1' : mu L (zi W) ((y + 1) % 10) = mu L (zi W) x := (mu_mod (mm10 _)).trans my1
  have ey : edgeN W y = edgeN W x := by unfold edgeN; rw [w1, w2, Nat.max_comm]
  have hs := HL.hs x
  have ox := (H.nd_odd hx).2.1
  have oy := H.nd_odd hy
  have vx := H.nd_even hx1
  have vy := H.nd_even hy1
  have t0 := H.tie_heights (odd20 hx) ox
  have nx1 : (Nodes L W).getD (2 * ((x + 1) % 10)) 0 = ((W.getD ((x + 1) % 10) 0 : Nat) : Int) := by rw [nd_eq (even20 hx1), vx.1]
  have dis : ∀ {z : Nat}, z = x ∨ z = y → edgeN W z = edgeN W x := fun {z} h => by
    rcases h with rfl | rfl
    · rfl
    · exact ey
  by_cases hflat : mu L (zi W) (x + 1) = mu L (zi W) x
  · have ny1 : (Nodes L W).getD (2 * ((y + 1) % 10)) 0 = ((W.getD x 0 : Nat) : Int) := by rw [nd_eq (even20 hy1), vy.1, w2]
    have s1 := (HL.on_out (n := (y + 1) % 10) hy1 hwx adx (Int.le_of_eq (by rw [mu_back, my1', my, hflat]))).trans cast2
    have s2 := (HL.on_back (x := y) (k := 1) hy (by decide) (by decide) (by rw [my1, my, hflat]) (fun i p q => not_between p q)).trans cast21
    have s3 := (HL.on_out (n := (x + 1) % 10) hx1 hwy ady (Int.le_of_eq (by rw [mu_back, mx1, hflat]))).trans cast2
    have s4 := (HL.on_back (x := x) (k := 1) hx (by decide) (by decide) hflat (fun i p q => not_between p q)).trans cast21
    have t1 := H.tie_heights (even20 hy1) (vy.2.trans (by rw [my1']))
    have t2 := H.tie_heights (odd20 hy) (oy.2.1.trans (by rw [my, hflat]))
    have t3 := H.tie_heights (even20 hx1) (vx.2.trans (by rw [mx1, hflat]))
    refine ⟨(2 * x + 1, 2 * ((y + 1) % 10), 2 * y + 1, 2 * ((x + 1) % 10)), ⟨s1, s2, s3, s4⟩, ⟨odd20 hx, even20 hy1, odd20 hy, even20 hx1⟩, nodupA hyx (succ_ne hx hy hyx), ?_, ?_, ?_, ?_, fun z hz hm => dis (oddA hm), ⟨x, hx, rfl, rfl⟩⟩
    · rw [tieAt_eq, tie_f1 t0 t1 t2 t3, nx1, ny1]
    · rw [tieAt_eq, tie_f0 t1 t2 t3 t0, nx1, ny1]
    · rw [tieAt_eq, tie_f1 t2 t3 t0 t1, nx1, ny1, min_swap]
    · rw [tieAt_eq, tie_f0 t3 t0 t1 t2, nx1, ny1, min_swap]
  · have hasc := asc_of hup hs.1 hflat
    have down : mu L (zi W) (x + 1) - 1 = mu L (zi W) x := by rw [hasc]; exact Int.add_sub_cancel _ _
    have gy := (HL.goal hy (t := 1) (by decide) (by decide)).mpr ⟨by rw [my1, my, down], fun i p q => not_between p q⟩
    have oyn := oy.2.2 1 (by decide) (by decide) gy
    have ny : (Nodes L W).getD (2 * y + 1) 0 = ((W.getD x 0 : Nat) : Int) := by rw [nd_eq (odd20 hy), oyn, w2]
    rcases HL.goalC hx1 with ⟨t, ht1, ht9, m1, m0, g⟩ | ⟨m1, _⟩
    · rw [mx1, down] at m1
      have hs1 := b10 ((x + 1) % 10 + t)
      have ms : mu L (zi W) (((x + 1) % 10 + t) % 10) = mu L (zi W) x := (mu_mod (mm10 _)).trans m1
      have vs := (H.nd_even hs1).2
      have hb : mu L (zi W) ((x + 1) % 10 + 9) = mu L (zi W) ((x + 1) % 10) - 1 := by rw [mu_back, mx1, down]
      have s1 : (On L W).getD (2 * x + 1) 0 = ((2 * y + 1 : Nat) : Int) := by
        have := HL.on_in (n := (y + 1) % 10) hy1 hwx adx (by rw [mu_back, my1', my, hasc])
        rw [back10 hy] at this
        exact this.trans cast21
      have s2 := (HL.on_out (n := (x + 1) % 10) hx1 hwy ady (by rw [mu_back, mx1]; exact hup)).trans cast2
      have s3 := (HL.on_step hx1 ht1 ht9 (by rw [m1, mx1, down]) m0 hb).trans cast2
      have s4 := HL.on_back (x := x) (k := t + 1) hx (Nat.succ_le_succ (Nat.zero_le t)) (Nat.succ_le_succ ht9) ((mu_mod (addm x t)).trans m1) (HL.above hasc fun j p q => by rw [← down, ← mx1]; exact m0 j p q)
      rw [addm] at s4
      have t1 := H.tie_heights (odd20 hy) (oy.2.1.trans (by rw [my, hasc, sub11]))
      have t2 := H.tie_heights (even20 hx1) (vx.2.trans (by rw [mx1, hasc, sub12]))
      have t3 := H.tie_heights (even20 hs1) (vs.trans (by rw [ms]))
      have hne : ((x + 1) % 10 + t) % 10 ≠ (x + 1) % 10 := fun e => by rw [e, mx1] at ms; exact hflat ms
      refine ⟨(2 * x + 1, 2 * y + 1, 2 * ((x + 1) % 10), 2 * (((x + 1) % 10 + t) % 10)), ⟨s1, s2, s3, s4.trans cast21⟩, ⟨odd20 hx, odd20 hy, even20 hx1, even20 hs1⟩, nodupB hyx hne, ?_, ?_, ?_, ?_, fun z hz hm => dis (oddB hm), ⟨x, hx, rfl, rfl⟩⟩
      · rw [tieAt_eq, tie_a2 t0 t1 t2 t3, nx1, ny, min_swap]
      · rw [tieAt_eq, tie_a1 t1 t2 t3 t0, nx1, ny, min_swap]
      · rw [tieAt_eq, tie_a0 t2 t3 t0 t1, nx1, ny, min_swap]
      · rw [tieAt_eq, tie_a3 t3 t0 t1 t2, nx1, ny, min_swap]
    · exact absurd (by rw [mx1, down]) (m1 x)
end
end Mine
end

/-! text PH -/
section
open PySem PySem.Spec PySem.Calls PyProof.Rows
set_option linter.unusedVariables false
set_option maxRecDepth 100000
namespace Mine
/-! five rooms, and their ties are the tree's -/
def tv (pars : List Nat) (v : Nat) : IP := (((pars.getD v 0 : Nat) : Int), ((v : Nat) : Int))
def lst4 (q : Nat × Nat × Nat × Nat) : List Nat := [q.1, q.2.1, q.2.2.1, q.2.2.2]
abbrev K3 : Nat → Nat := fun _ => 3
theorem roomOf3 {on : List Int} {h : Nat} : roomOf on K3 h = [((h : Nat) : Int), ((orb on h 1 : Nat) : Int), ((orb on h 2 : Nat) : Int), ((orb on h 3 : Nat) : Int)] := rfl
theorem Rot.turn {on : List Int} {a b c d : Nat} (R : Rot on a b c d) : Rot on b c d a := ⟨R.bc, R.cd, R.da, R.ab⟩
theorem Rot.orb {on : List Int} {a b c d : Nat} (R : Rot on a b c d) : orb on a 1 = b ∧ orb on a 2 = c ∧ orb on a 3 = d ∧ orb on a 4 = a := by
  have h1 : Mine.orb on a 1 = b := by show (on.getD a 0).toNat = b; rw [R.ab]; rfl
  have h2 : Mine.orb on a 2 = c := by show (on.getD (Mine.orb on a 1) 0).toNat = c; rw [h1, R.bc]; rfl
  have h3 : Mine.orb on a 3 = d := by show (on.getD (Mine.orb on a 2) 0).toNat = d; rw [h2, R.cd]; rfl
  have h4 : Mine.orb on a 4 = a := by show (on.getD (Mine.orb on a 3) 0).toNat = a; rw [h3, R.da]; rfl
  exact ⟨h1, h2, h3, h4⟩
theorem Rot.room {on : List Int} {a b c d : Nat} (R : Rot on a b c d) : roomOf on K3 a = [a, b, c, d].map fun (k : Nat) => (k : Int) := by
  obtain ⟨h1, h2, h3, _⟩ := R.orb
  rw [roomOf3, h1, h2, h3]; rfl
theorem nodup_len : ∀ (n : Nat) (l : List Nat), l.Nodup → (∀ a ∈ l, a < n) → l.length ≤ n
  | 0, [], _, _ => Nat.le_refl _
  | 0, a :: l, _, h => absurd (h a (List.mem_cons_self ..)) (Nat.not_lt_zero a)
  | n + 1, l, hn, h => by
    have h1 : (l.erase n).Nodup := hn.erase n
    have h2 : ∀ a ∈ l.erase n, a < n := fun a ha => by
      have e := (hn.mem_erase_iff).mp ha
      exact Nat.lt_of_le_of_ne (Nat.le_of_lt_succ (h a e.2)) e.1
    have := nodup_len n _ h1 h2
    by_cases hm : n ∈ l
    · rw [List.length_erase_of_mem hm] at this
      exact Nat.le_add_of_sub_le this
    · rw [List.erase_of_not_mem hm] at this
      exact Nat.le_succ_of_le this
theorem pigeon {n : Nat} {l : List Nat} (hn : l.Nodup) (hl : l.length = n) (h : ∀ a ∈ l, a < n) {k : Nat} (hk : k < n) : k ∈ l := by
  refine Decidable.byContradiction fun hm => ?_
  have := nodup_len n (k :: l) (List.nodup_cons.mpr ⟨hm, hn⟩) (fun a ha => by
    rcases List.mem_cons.mp ha with rfl | ha
    · exact hk
    · exact h a ha)
  rw [List.length_cons, hl] at this
  exact absurd this (Nat.not_succ_le_self n)
section
variable {L : List Int} {W pars : List Nat}
theorem LabOK.room_of (H : LabOK L W pars) {v : Nat} (h1 : 1 ≤ v) (h6 : v < 6) : ∃ q, Room4 L W (tv pars v) v q := by
  obtain ⟨x, hx, e1, e2⟩ := H.wd.ups v h1 h6
  have hp := H.wd.pl v h1 h6
  have hle := Nat.le_of_lt hp
  have hint := Int.ofNat_le.mpr hle
  have ev : edgeN W x = v := by unfold edgeN; rw [e1, e2]; exact Nat.max_eq_right hle
  by_cases hup : mu L (zi W) x ≤ mu L (zi W) (x + 1)
  · obtain ⟨q, R⟩ := H.room hx hup
    rw [ev, e1, e2] at R
    refine ⟨q, ?_⟩
    rwa [Int.min_eq_left hint, Int.max_eq_right hint] at R
  · obtain ⟨y, hy, hyx, w1, w2, _, _, _⟩ := H.wd.mt x hx
    have my : mu L (zi W) y = mu L (zi W) (x + 1) := by rw [mu_zi, mu_zi, Nat.mod_eq_of_lt hy, w1]
    have my1 : mu L (zi W) (y + 1) = mu L (zi W) x := by rw [mu_zi, mu_zi, Nat.mod_eq_of_lt hx, w2]
    have ey : edgeN W y = v := by unfold edgeN; rw [w1, w2, e1, e2]; exact Nat.max_eq_left hle
    obtain ⟨q, R⟩ := H.room hy (by rw [my, my1]; exact Int.le_of_lt (Int.not_le.mp hup))
    rw [ey, w1, w2, e1, e2] at R
    refine ⟨q, ?_⟩
    rwa [Int.min_eq_right hint, Int.max_eq_left hint] at R
theorem rot1 (a b c d : Nat) : [b, c, d, a].Perm [a, b, c, d] := List.perm_append_comm (l₁ := [b, c, d]) (l₂ := [a])
theorem rot_at {p : Nat → Prop} {a b c d a' b' c' d' : Nat} (r : [a', b', c', d'].Perm [a, b, c, d]) (nd : [a, b, c, d].Nodup) (lt : ∀ z ∈ [a, b, c, d], p z) : (∀ z, z ∈ [a', b', c', d'] ↔ z ∈ [a, b, c, d]) ∧ [a', b', c', d'].Nodup ∧ ∀ z ∈ [a', b', c', d'], p z :=
  ⟨fun z => r.mem_iff, r.nodup_iff.mpr nd, fun z hz => lt z (r.mem_iff.mp hz)⟩
theorem Room4.at {T : IP} {v : Nat} {q : Nat × Nat × Nat × Nat} (R : Room4 L W T v q) {h : Nat} (hm : h ∈ lst4 q) :
    ∃ b c d, Rot (On L W) h b c d ∧ tieAt L W [h, b, c, d] = T ∧ (∀ z, z ∈ [h, b, c, d] ↔ z ∈ lst4 q) ∧ [h, b, c, d].Nodup ∧ ∀ z ∈ [h, b, c, d], z < 20 := by
  obtain ⟨a, b, c, d⟩ := q
  obtain ⟨r, lt, nd, t0, t1, t2, t3, _, _⟩ := R
  have lt' : ∀ z ∈ [a, b, c, d], z < 20 := all4 lt
  rcases List.mem_cons.mp hm with rfl | hm
  · exact ⟨b, c, d, r, t0, rot_at (.refl _) nd lt'⟩
  rcases List.mem_cons.mp hm with rfl | hm
  · exact ⟨c, d, a, r.turn, t1, rot_at (rot1 a _ c d) nd lt'⟩
  rcases List.mem_cons.mp hm with rfl | hm
  · exact ⟨d, a, b, r.turn.turn, t2, rot_at ((rot1 b _ d a).trans (rot1 a b _ d)) nd lt'⟩
  obtain rfl := List.mem_singleton.mp hm
  exact ⟨a, b, c, r.turn.turn.turn, t3, rot_at (((rot1 c _ a b).trans (rot1 b c _ a)).trans (rot1 a b c _)) nd lt'⟩
theorem Room4.closed {T : IP} {v : Nat} {q : Nat × Nat × Nat × Nat} (R : Room4 L W T v q) {h k : Nat} (hm : h ∈ lst4 q) (e : (On L W).getD h 0 = (k : Nat)) : k ∈ lst4 q := by
  obtain ⟨b, c, d, r, _, hz, _⟩ := R.at hm
  obtain rfl : k = b := Int.ofNat.inj (e.symm.trans r.ab)
  exact (hz k).mp (by simp)
theorem Room4.same {T T' : IP} {v v' : Nat} {q q' : Nat × Nat × Nat × Nat} (R : Room4 L W T v q) (R' : Room4 L W T' v' q') {h : Nat} (hm : h ∈ lst4 q) (hm' : h ∈ lst4 q') : v = v' := by
  have key : q.1 ∈ lst4 q' := by
    obtain ⟨b, c, d, r, _, hz, _⟩ := R.at hm
    have k0 := hm'
    have k1 := R'.closed k0 r.ab
    have k2 := R'.closed k1 r.bc
    have k3 := R'.closed k2 r.cd
    have := (hz q.1).mpr (by unfold lst4; simp)
    simp only [List.mem_cons, List.not_mem_nil, or_false] at this
    rcases this with e | e | e | e <;> rw [e] <;> assumption
  obtain ⟨x, hx, e, ev⟩ := R.mem
  rw [← ev]
  exact R'.odd x hx (by rw [e]; exact key)
structure RoomsOK (L : List Int) (W pars : List Nat) : Prop where
  Kon : ∀ h, h < 20 → orb (On L W) h 4 = h ∧ ∀ i, i < 3 → orb (On L W) h (i + 1) ≠ h
  bon : ∀ i, i < 20 → 0 ≤ (On L W).getD i 0 ∧ (On L W).getD i 0 < 20
  r5 : (roomLs (On L W) K3 20).length = 5
  rl : ∀ l ∈ roomLs (On L W) K3 20, l.length = 4 ∧ ∀ a ∈ l, 0 ≤ a ∧ a < 20
  fin : sortP ((roomLs (On L W) K3 20).map fun l => tieP (l.map fun h => (Nodes L W).getD h.toNat 0) (stepsOf (Nodes L W) 6)) = sortP ((List.range' 1 5).map (tv pars))
theorem LabOK.all_rooms (H : LabOK L W pars) : RoomsOK L W pars := by
  have ex : ∀ v, ∃ q, 1 ≤ v → v < 6 → Room4 L W (tv pars v) v q := fun v => by
    by_cases h : 1 ≤ v ∧ v < 6
    · obtain ⟨q, R⟩ := H.room_of h.1 h.2
      exact ⟨q, fun _ _ => R⟩
    · exact ⟨(0, 0, 0, 0), fun a b => absurd ⟨a, b⟩ h⟩
  obtain ⟨q, hq⟩ := Classical.axiomOfChoice ex
  have vr : ∀ {v}, v ∈ List.range' 1 5 → Room4 L W (tv pars v) v (q v) := fun {v} hv => by
    rw [List.mem_range'_1] at hv
    exact hq v hv.1 hv.2
  have big : ((List.range' 1 5).flatMap fun v => lst4 (q v)).Nodup := by
    unfold List.Nodup
    rw [List.pairwise_flatMap]
    refine ⟨fun v hv => (vr hv).nd, List.Pairwise.imp_of_mem (fun {a b} ha hb hlt x hx y hy e => ?_) (List.pairwise_lt_range' (s := 1) (n := 5))⟩
    subst e
    exact absurd ((vr ha).same (vr hb) hx hy) (Nat.ne_of_lt hlt)
  have cover : ∀ h, h < 20 → ∃ v, v ∈ List.range' 1 5 ∧ h ∈ lst4 (q v) := fun h hh => by
    have := pigeon (n := 20) big (by simp [List.range'_succ, lst4]) (fun a ha => by
      obtain ⟨v, hv, hm⟩ := List.mem_flatMap.mp ha
      obtain ⟨_, _, _, _, _, hz, _, hlt⟩ := (vr hv).at hm
      exact hlt a (by simp)) hh
    exact List.mem_flatMap.mp this
  have minS : ∀ {v h k}, v ∈ List.range' 1 5 → h ∈ lst4 (q v) → k ∈ lst4 (q v) → minL (roomOf (On L W) K3 h) = minL (roomOf (On L W) K3 k) := fun {v h k} hv hh hk => by
    have low : ∀ {h k}, h ∈ lst4 (q v) → k ∈ lst4 (q v) → minL (roomOf (On L W) K3 h) ≤ minL (roomOf (On L W) K3 k) := fun {h k} hh hk => by
      obtain ⟨b, c, d, r, _, hz, _⟩ := (vr hv).at hh
      obtain ⟨b', c', d', r', _, hz', _⟩ := (vr hv).at hk
      rw [r.room, r'.room]
      obtain ⟨_, m2⟩ := minL_ok (l := [h, b, c, d].map fun (k : Nat) => (k : Int)) (by simp)
      obtain ⟨m3, _⟩ := minL_ok (l := [k, b', c', d'].map fun (k : Nat) => (k : Int)) (by simp)
      obtain ⟨z, zm, ze⟩ := List.mem_map.mp m3
      rw [← ze]
      exact m2 _ (List.mem_map.mpr ⟨z, (hz z).mpr ((hz' z).mp zm), rfl⟩)
    exact Int.le_antisymm (low hh hk) (low hk hh)
  have head : ∀ v, (q v).1 ∈ lst4 (q v) := fun v => by unfold lst4; simp
  let mn : Nat → Nat := fun v => (minL (roomOf (On L W) K3 (q v).1)).toNat
  have mnOK : ∀ {v}, v ∈ List.range' 1 5 → mn v ∈ lst4 (q v) ∧ ((mn v : Nat) : Int) = minL (roomOf (On L W) K3 (q v).1) := fun {v} hv => by
    obtain ⟨b, c, d, r, _, hz, _⟩ := (vr hv).at (head v)
    obtain ⟨m1, _⟩ := minL_ok (l := [(q v).1, b, c, d].map fun (k : Nat) => (k : Int)) (by simp)
    obtain ⟨z, zm, ze⟩ := List.mem_map.mp m1
    have e : mn v = z := by show (minL (roomOf (On L W) K3 (q v).1)).toNat = z; rw [r.room, ← ze]; rfl
    rw [e]
    exact ⟨(hz z).mp zm, by rw [r.room]; exact ze⟩
  have rng : ∀ {h}, h < 20 → ∃ v b c d, v ∈ List.range' 1 5 ∧ h ∈ lst4 (q v) ∧ Rot (On L W) h b c d ∧ tieAt L W [h, b, c, d] = tv pars v ∧ [h, b, c, d].Nodup ∧ ∀ z ∈ [h, b, c, d], z < 20 := fun {h} hh => by
    obtain ⟨v, hv, hm⟩ := cover h hh
    obtain ⟨b, c, d, r, t, _, nd, lt⟩ := (vr hv).at hm
    exact ⟨v, b, c, d, hv, hm, r, t, nd, lt⟩
  have hs : ((List.range 20).filter fun h => minL (roomOf (On L W) K3 h) == (h : Int)).Perm ((List.range' 1 5).map mn) := by
    refine (List.perm_ext_iff_of_nodup (List.nodup_range.sublist List.filter_sublist) ?_).mpr fun h => ?_
    · unfold List.Nodup
      rw [List.pairwise_map]
      refine List.Pairwise.imp_of_mem (fun {a b} ha hb hlt e => ?_) (List.pairwise_lt_range' (s := 1) (n := 5))
      exact absurd ((vr ha).same (vr hb) (mnOK ha).1 (by rw [e]; exact (mnOK hb).1)) (Nat.ne_of_lt hlt)
    · rw [List.mem_filter, List.mem_range, beq_iff_eq, List.mem_map]
      constructor
      · rintro ⟨h1, h2⟩
        obtain ⟨v, hv, hm⟩ := cover h h1
        refine ⟨v, hv, ?_⟩
        have := (mnOK hv).2
        rw [minS hv (head v) hm, h2] at this
        exact Int.ofNat.inj this
      · rintro ⟨v, hv, rfl⟩
        obtain ⟨m1, m2⟩ := mnOK hv
        obtain ⟨_, _, _, _, _, _, _, lt⟩ := (vr hv).at m1
        refine ⟨lt _ (by simp), ?_⟩
        rw [minS hv m1 (head v), m2]
  have hlen := hs.length_eq
  rw [List.length_map, List.length_range'] at hlen
  refine ⟨fun h hh => ?_, fun i hi => ?_, ?_, fun l hl => ?_, ?_⟩
  · obtain ⟨v, b, c, d, _, _, r, _, nd, _⟩ := rng hh
    obtain ⟨o1, o2, o3, o4⟩ := r.orb
    simp only [List.nodup_cons, List.mem_cons, List.not_mem_nil, or_false, not_or] at nd
    refine ⟨o4, fun i hi => ?_⟩
    match i, hi with
    | 0, _ => rw [o1]; exact fun e => nd.1.1 e.symm
    | 1, _ => rw [o2]; exact fun e => nd.1.2.1 e.symm
    | 2, _ => rw [o3]; exact fun e => nd.1.2.2 e.symm
  · obtain ⟨v, b, c, d, _, _, r, _, _, lt⟩ := rng hi
    rw [r.ab]
    exact ⟨Int.natCast_nonneg b, Int.ofNat_lt.mpr (lt b (by simp))⟩
  · unfold roomLs
    rw [List.length_map]; exact hlen
  · unfold roomLs at hl
    obtain ⟨h, hh, rfl⟩ := List.mem_map.mp hl
    obtain ⟨v, b, c, d, _, _, r, _, _, lt⟩ := rng (List.mem_range.mp (List.mem_filter.mp hh).1)
    rw [r.room]
    refine ⟨rfl, fun a ha => ?_⟩
    obtain ⟨z, zm, rfl⟩ := List.mem_map.mp ha
    exact ⟨Int.natCast_nonneg z, Int.ofNat_lt.mpr (lt z zm)⟩
  · have e : ((roomLs (On L W) K3 20).map fun l => tieP (l.map fun h => (Nodes L W).getD h.toNat 0) (stepsOf (Nodes L W) 6)) =
        ((List.range 20).filter fun h => minL (roomOf (On L W) K3 h) == (h : Int)).map fun h => tieP ((roomOf (On L W) K3 h).map fun h => (Nodes L W).getD h.toNat 0) (stepsOf (Nodes L W) 6) := by
      unfold roomLs; rw [List.map_map]; rfl
    have tie : ∀ {v h}, v ∈ List.range' 1 5 → h ∈ lst4 (q v) → tieP ((roomOf (On L W) K3 h).map fun h => (Nodes L W).getD h.toNat 0) (stepsOf (Nodes L W) 6) = tv pars v := fun {v h} hv hm => by
      obtain ⟨b, c, d, r, t, _⟩ := (vr hv).at hm
      rw [r.room, List.map_map]
      exact t
    have p := hs.map fun h => tieP ((roomOf (On L W) K3 h).map fun h => (Nodes L W).getD h.toNat 0) (stepsOf (Nodes L W) 6)
    rw [e]
    have e2 : ((List.range' 1 5).map mn).map (fun h => tieP ((roomOf (On L W) K3 h).map fun h => (Nodes L W).getD h.toNat 0) (stepsOf (Nodes L W) 6)) = (List.range' 1 5).map (tv pars) := by
      rw [List.map_map]
      exact List.map_congr_left fun v hv => tie hv (mnOK hv).1
    rw [e2] at p
    have nd : ((List.range' 1 5).map (tv pars)).Nodup := by
      unfold List.Nodup
      rw [List.pairwise_map]
      refine List.Pairwise.imp (fun {a b} hlt e => ?_) (List.pairwise_lt_range' (s := 1) (n := 5))
      exact absurd (Int.ofNat.inj (congrArg Prod.snd e)) (Nat.ne_of_lt hlt)
    exact sortP_perm (by rw [List.length_map]; exact hlen) (p.nodup_iff.mpr nd) p
end
end Mine
end

/-! text PJ2 -/
section
open PySem PySem.Spec PySem.Calls PyProof.Rows
set_option linter.unusedVariables false
set_option maxRecDepth 100000
namespace Mine
/-! the walk by octets, and the word beneath it -/
def octStep (t : Walk) (o : Int) : Walk := if isOpen o then walkUp t (o.fmod 64) else ⟨t.labels, t.path.dropLast, t.walk ++ [t.path.dropLast.getLast?.getD 0]⟩
def octRun (l : List Int) : Walk := l.foldl octStep ⟨[0], [0], [0]⟩
theorem ups_fold : ∀ (l : List Int) (t : Walk), (∀ o ∈ l, isOpen o = true) → (l.map (· % 64)).foldl walkUp t = l.foldl octStep t
  | [], t, _ => rfl
  | o :: l, t, h => by
    rw [List.map_cons, List.foldl_cons, List.foldl_cons, ups_fold l _ fun x hx => h x (List.mem_cons_of_mem _ hx)]
    congr 1
    unfold octStep
    rw [if_pos (h o (List.mem_cons_self ..)), Int.fmod_eq_emod_of_nonneg _ (by decide)]
structure GrpOK (g : List Int × Int) : Prop where
  up : ∀ o ∈ g.1, isOpen o = true
  down : isOpen g.2 = false
  figs : Figs (flat g)
  few : (flat g).length ≤ 10
theorem walk_grp {g : List Int × Int} (h : GrpOK g) (t : Walk) : walkStep kOf t (val (flat g)) = (flat g).foldl octStep t := by
  obtain ⟨_, _, _, h4⟩ := figs_all h.figs h.few
  unfold walkStep
  rw [h4]
  unfold flat
  rw [List.map_append, List.map_cons, List.map_nil, List.dropLast_concat, ups_fold _ _ h.up, List.foldl_append, List.foldl_cons, List.foldl_nil]
  generalize g.1.foldl octStep t = u
  unfold octStep
  rw [if_neg (by rw [h.down]; decide)]
theorem walk_grps : ∀ (gs : List (List Int × Int)) (t : Walk), (∀ g ∈ gs, GrpOK g) → (gs.map fun g => val (flat g)).foldl (walkStep kOf) t = (gs.flatMap flat).foldl octStep t
  | [], t, _ => rfl
  | g :: gs, t, h => by
    rw [List.map_cons, List.foldl_cons, List.flatMap_cons, List.foldl_append, walk_grp (h g (List.mem_cons_self ..)), walk_grps gs _ fun x hx => h x (List.mem_cons_of_mem _ hx)]
/-- the walk runs over the word -/
structure Over (t : Walk) (s : WSt) : Prop where
  path : t.path = zi s.path
  walk : t.walk = zi s.walk
  len : t.labels.length = s.pars.length
  pos : 1 ≤ s.pars.length
  top : ∀ v ∈ s.path, v < s.pars.length
  par : ∀ v ∈ s.pars, v < s.pars.length
  st : ∀ v, 1 ≤ v → v < s.pars.length → t.labels.getD v 0 ≤ t.labels.getD (s.pars.getD v 0) 0 + 1 ∧ t.labels.getD (s.pars.getD v 0) 0 ≤ t.labels.getD v 0 + 1
theorem zi_last {l : List Nat} : (zi l).getLast?.getD 0 = ((l.getLast?.getD 0 : Nat) : Int) := by
  unfold zi
  rw [List.getLast?_map]
  cases l.getLast? <;> rfl
theorem zi_drop {l : List Nat} : (zi l).dropLast = zi l.dropLast := by unfold zi; rw [List.map_dropLast]
theorem zi_snoc {l : List Nat} {a : Nat} : zi l ++ [((a : Nat) : Int)] = zi (l ++ [a]) := by unfold zi; rw [List.map_append]; rfl
theorem getDN_left {a b : List Nat} {i : Nat} (h : i < a.length) : (a ++ b).getD i 0 = a.getD i 0 := by
  rw [List.getD_eq_getElem?_getD, List.getElem?_append_left h, ← List.getD_eq_getElem?_getD]
theorem getDN_right {a b : List Nat} {i j : Nat} (h : i = a.length + j) : (a ++ b).getD i 0 = b.getD j 0 := by
  rw [List.getD_eq_getElem?_getD, List.getElem?_append_right (by lia), show i - a.length = j by lia, ← List.getD_eq_getElem?_getD]
theorem topOf_lt {s : WSt} (hp : 1 ≤ s.pars.length) (h : ∀ v ∈ s.path, v < s.pars.length) : s.path.getLast?.getD 0 < s.pars.length := by
  cases e : s.path.getLast? with
  | none => exact hp
  | some v => exact h v (List.mem_of_getLast? e)
theorem Over.step {t : Walk} {s : WSt} (H : Over t s) (o : Int) : Over (octStep t o) (wStep s (isOpen o)) := by
  obtain ⟨path, walk, len, pos, top, par, st⟩ := H
  unfold octStep wStep
  cases isOpen o with
  | true =>
    have htop := topOf_lt pos top
    rw [if_pos rfl, if_pos rfl]
    unfold walkUp
    refine ⟨?_, ?_, by simp [len], by simp, fun v hv => ?_, fun v hv => ?_, fun v h1 h2 => ?_⟩
    · show t.path ++ [(t.labels.length : Int)] = _
      rw [path, len, zi_snoc]
    · show t.walk ++ [(t.labels.length : Int)] = _
      rw [walk, len, zi_snoc]
    · rw [List.length_append]
      rcases List.mem_append.mp hv with h | h
      · have := top v h; simp; lia
      · rw [List.mem_singleton.mp h]; simp
    · rw [List.length_append]
      rcases List.mem_append.mp hv with h | h
      · have := par v h; simp; lia
      · rw [List.mem_singleton.mp h]; simp; lia
    · rw [List.length_append, List.length_singleton] at h2
      have hl : (t.path.getLast?.getD 0).toNat = s.path.getLast?.getD 0 := by rw [path, zi_last]; rfl
      dsimp only
      rw [hl]
      have f3 : (o.fmod 64).fmod 3 = o.fmod 64 % 3 := Int.fmod_eq_emod_of_nonneg _ (by decide)
      by_cases hv : v < s.pars.length
      · have hpv : s.pars.getD v 0 < s.pars.length := by
          refine par _ ?_
          rw [List.getD_eq_getElem?_getD, List.getElem?_eq_getElem hv]; exact List.getElem_mem _
        rw [getDN_left hv, getD_left (by lia), getD_left (by lia)]
        exact st v h1 hv
      · have e : v = s.pars.length := by lia
        subst e
        rw [getDN_right (j := 0) (by lia), getD_right (j := 0) (by lia)]
        show _ ∧ _
        rw [show ([s.path.getLast?.getD 0] : List Nat).getD 0 0 = s.path.getLast?.getD 0 from rfl, getD_left (by lia)]
        show t.labels.getD (s.path.getLast?.getD 0) 0 + (o.fmod 64).fmod 3 - 1 ≤ _ ∧ _ ≤ t.labels.getD (s.path.getLast?.getD 0) 0 + (o.fmod 64).fmod 3 - 1 + 1
        rw [f3]
        lia
  | false =>
    rw [if_neg (by decide), if_neg (by decide)]
    refine ⟨?_, ?_, len, pos, fun v hv => top v (List.dropLast_subset _ hv), par, st⟩
    · show t.path.dropLast = _
      rw [path, zi_drop]
    · show t.walk ++ [t.path.dropLast.getLast?.getD 0] = _
      rw [walk, path, zi_drop, zi_last, zi_snoc]
theorem over_fold : ∀ (l : List Int) {t : Walk} {s : WSt}, Over t s → Over (l.foldl octStep t) ((l.map isOpen).foldl wStep s)
  | [], _, _, H => H
  | o :: l, _, _, H => over_fold l (H.step o)
theorem over_run (l : List Int) : Over (octRun l) (wRun (l.map isOpen)) :=
  over_fold l ⟨rfl, rfl, rfl, by decide, by decide, by decide, fun v h1 h2 => by
    have : v < 1 := h2
    lia⟩
/-- the tree goes along with the walk -/
structure Along (u : Tree) (t : Walk) (s : WSt) : Prop where
  labels : u.labels = t.labels
  path : u.path = t.path
  ties : u.ties = (List.range' 1 (s.pars.length - 1)).map fun v => dP (tv s.pars v)
theorem Along.step {u : Tree} {t : Walk} {s : WSt} (A : Along u t s) (H : Over t s) (o : Int) : Along (treeStep u o) (octStep t o) (wStep s (isOpen o)) := by
  obtain ⟨a, b, c⟩ := A
  obtain ⟨path, walk, len, pos, top, par, st⟩ := H
  unfold treeStep octStep wStep
  cases isOpen o with
  | true =>
    rw [if_pos rfl, if_pos rfl, if_pos rfl]
    unfold walkUp
    refine ⟨by dsimp only; rw [a, b], by dsimp only; rw [a, b], ?_⟩
    dsimp only
    rw [a, b, c, path, zi_last, len, List.length_append, List.length_singleton, show s.pars.length + 1 - 1 = s.pars.length - 1 + 1 by lia, List.range'_1_concat, List.map_append]
    congr 1
    · refine List.map_congr_left fun v hv => ?_
      have := List.mem_range'_1.mp hv
      unfold tv
      rw [getDN_left (by lia)]
    · rw [show 1 + (s.pars.length - 1) = s.pars.length by lia]
      unfold tv
      rw [List.map_cons, getDN_right (j := 0) (by lia)]; rfl
  | false =>
    rw [if_neg (by decide), if_neg (by decide), if_neg (by decide)]
    exact ⟨a, by dsimp only; rw [b], c⟩
theorem along_fold : ∀ (l : List Int) {u : Tree} {t : Walk} {s : WSt}, Along u t s → Over t s → Along (l.foldl treeStep u) (l.foldl octStep t) ((l.map isOpen).foldl wStep s)
  | [], _, _, _, A, _ => A
  | o :: l, _, _, _, A, H => along_fold l (A.step H o) (H.step o)
theorem along_run (l : List Int) : Along (l.foldl treeStep ⟨[0], [], [0]⟩) (octRun l) (wRun (l.map isOpen)) :=
  along_fold l ⟨rfl, rfl, rfl⟩ (over_run [])
end Mine
end

/-! text PJ3 -/
section
open PySem PySem.Spec PySem.Calls PyProof.Rows
set_option linter.unusedVariables false
set_option maxRecDepth 100000
namespace Mine
/-! the plain law -/
theorem and64 : ∀ n : Fin 256, (Builtin.bitAnd ((n.val : Nat) : Int) 64 == 0) = !isOpen ((n.val : Nat) : Int) := by decide +kernel
theorem and64_at {o : Int} (h : OctOK o) : (Builtin.bitAnd o 64 == 0) = !isOpen o := by
  obtain ⟨h1, h2, _⟩ := h
  have := and64 ⟨o.toNat, by lia⟩
  dsimp only at this
  rwa [show ((o.toNat : Nat) : Int) = o by lia] at this
structure Tk (tk : List Int) : Prop where
  len : tk.length = 10
  oct : ∀ o ∈ tk, OctOK o
  scan : dScan (tk.map isOpen) 0 = true
section
variable {tk : List Int}
abbrev gsOf (tk : List Int) : List (List Int × Int) := grp [] tk
abbrev KsOf (tk : List Int) : List Nat := (gsOf tk).map fun g => g.1.length
theorem flat_len {g : List Int × Int} : (flat g).length = g.1.length + 1 := by simp [flat]
theorem Tk.flats (T : Tk tk) : (gsOf tk).flatMap flat = tk := by
  have := grp_flat tk [] 0 T.scan
  simpa using this
theorem Tk.split (T : Tk tk) {j : Nat} (hj : j < (gsOf tk).length) : tk = ((gsOf tk).take j).flatMap flat ++ flat (gsOf tk)[j] ++ ((gsOf tk).drop (j + 1)).flatMap flat := by
  conv => lhs; rw [← T.flats, ← List.take_append_drop j (gsOf tk), List.drop_eq_getElem_cons hj]
  rw [List.flatMap_append, List.flatMap_cons, List.append_assoc]
theorem pos_len {gs : List (List Int × Int)} {j : Nat} : posOf (gs.map fun g => g.1.length) j = ((gs.take j).flatMap flat).length := by
  unfold posOf
  rw [← List.map_take, List.length_flatMap, List.map_map]
  congr 1
  exact List.map_congr_left fun g _ => flat_len.symm
theorem Tk.grps (T : Tk tk) : ∀ g ∈ gsOf tk, GrpOK g := fun g hg => by
  obtain ⟨h1, h2⟩ := grp_kind tk [] (fun _ h => nomatch h) g hg
  have hsub : ∀ o ∈ flat g, o ∈ tk := fun o ho => by rw [← T.flats]; exact List.mem_flatMap.mpr ⟨g, hg, ho⟩
  refine ⟨h1, h2, ⟨by simp [flat], fun h => ?_⟩, ?_⟩
  · have hl : 1 ≤ g.1.length := by rw [flat_len] at h; lia
    have e : (flat g).getD 0 0 = g.1[0] := by
      unfold flat
      rw [getD_left (by lia), List.getD_eq_getElem?_getD, List.getElem?_eq_getElem (by lia)]; rfl
    have hm : g.1[0] ∈ g.1 := List.getElem_mem _
    have := (T.oct _ (hsub _ (List.mem_append_left _ hm))).2.2 (h1 _ hm)
    rw [e]
    rwa [Int.fmod_eq_emod_of_nonneg _ (by decide)] at this
  · obtain ⟨j, hj, e⟩ := List.mem_iff_getElem.mp hg
    have := congrArg List.length (T.split hj)
    rw [e, T.len, List.length_append, List.length_append] at this
    lia
theorem Tk.nums (T : Tk tk) : numsOf' tk (KsOf tk) (KsOf tk).length = (gsOf tk).map fun g => val (flat g) := by
  unfold numsOf'
  apply List.ext_getElem
  · simp
  · intro j h1 h2
    have hj : j < (gsOf tk).length := by simpa using h2
    rw [List.getElem_map, List.getElem_map, List.getElem_range]
    have e : (KsOf tk).getD j 0 = (gsOf tk)[j].1.length := by
      rw [List.getD_eq_getElem?_getD, List.getElem?_map, List.getElem?_eq_getElem hj]; rfl
    rw [e, pos_len, vAt_val (T.split hj) _ (by rw [flat_len]; lia), List.take_of_length_le (by rw [flat_len]; lia)]
theorem Tk.at_pos (T : Tk tk) {j k : Nat} (hj : j < (gsOf tk).length) (hk : k < (flat (gsOf tk)[j]).length) : tk.getD (posOf (KsOf tk) j + k) 0 = (flat (gsOf tk)[j])[k] := by
  rw [pos_len]
  have e := T.split hj
  rw [List.append_assoc] at e
  generalize hp : ((gsOf tk).take j).flatMap flat = p at *
  have e2 : tk.getD (p.length + k) 0 = (p ++ (flat (gsOf tk)[j] ++ ((gsOf tk).drop (j + 1)).flatMap flat)).getD (p.length + k) 0 := congrArg (fun l : List Int => l.getD (p.length + k) 0) e
  rw [e2, getD_right (j := k) rfl, getD_left hk, List.getD_eq_getElem?_getD, List.getElem?_eq_getElem hk]; rfl
theorem Tk.falls (T : Tk tk) : Falls tk (KsOf tk) := by
  have hK : ∀ j, (h : j < (KsOf tk).length) → ∃ hj : j < (gsOf tk).length, (KsOf tk).getD j 0 = (gsOf tk)[j].1.length := fun j h => by
    have hj : j < (gsOf tk).length := by simpa using h
    exact ⟨hj, by rw [List.getD_eq_getElem?_getD, List.getElem?_map, List.getElem?_eq_getElem hj]; rfl⟩
  have hmem : ∀ {j : Nat} (hj : j < (gsOf tk).length) {o : Int}, o ∈ flat (gsOf tk)[j] → OctOK o := fun {j} hj {o} ho => T.oct o (by rw [← T.flats]; exact List.mem_flatMap.mpr ⟨_, List.getElem_mem hj, ho⟩)
  have few : (gsOf tk).length ≤ 10 := by
    have h := congrArg List.length T.flats
    rw [T.len, List.length_flatMap] at h
    have : ∀ l : List (List Int × Int), l.length ≤ (l.map fun g => (flat g).length).sum := fun l => by
      induction l with
      | nil => simp
      | cons a l ih => simp only [List.length_cons, List.map_cons, List.sum_cons, flat_len] at *; lia
    have := this (gsOf tk)
    lia
  refine ⟨by rw [T.len]; decide, fun j h => ?_, fun j h k hk => ?_, fun j h => ?_, fun j h k hk => ?_, ?_, by rw [List.length_map]; lia⟩
  · obtain ⟨hj, e⟩ := hK j h
    have := congrArg List.length (T.split hj)
    rw [List.length_append, List.length_append, flat_len, ← pos_len] at this
    show posOf ((gsOf tk).map fun g => g.1.length) j + _ < _
    rw [e]; lia
  · obtain ⟨hj, e⟩ := hK j h
    rw [e] at hk
    have hk' : k < (flat (gsOf tk)[j]).length := by rw [flat_len]; lia
    rw [T.at_pos hj hk']
    have hm : (flat (gsOf tk)[j])[k] ∈ (gsOf tk)[j].1 := by
      have : (flat (gsOf tk)[j])[k] = (gsOf tk)[j].1[k] := List.getElem_append_left hk
      rw [this]; exact List.getElem_mem _
    have a := and64_at (hmem hj (List.getElem_mem hk'))
    rw [(T.grps _ (List.getElem_mem hj)).up _ hm] at a
    intro e0
    rw [e0] at a; cases a
  · obtain ⟨hj, e⟩ := hK j h
    rw [e]
    have hk' : (gsOf tk)[j].1.length < (flat (gsOf tk)[j]).length := by rw [flat_len]; lia
    rw [T.at_pos hj hk']
    have hm : (flat (gsOf tk)[j])[(gsOf tk)[j].1.length] = (gsOf tk)[j].2 := by
      have := List.getElem_append_right (as := (gsOf tk)[j].1) (bs := [(gsOf tk)[j].2]) (i := (gsOf tk)[j].1.length) (Nat.le_refl _) (h₂ := hk')
      rw [show (flat (gsOf tk)[j])[(gsOf tk)[j].1.length] = _ from this]
      simp
    have a := and64_at (hmem hj (List.getElem_mem hk'))
    rw [hm, (T.grps _ (List.getElem_mem hj)).down] at a
    rw [hm]
    exact beq_iff_eq.mp a
  · obtain ⟨hj, e⟩ := hK j h
    rw [e] at hk
    rw [pos_len, vAt_val (T.split hj) k (by rw [flat_len]; lia)]
    have hb := val_bd _ ((flat (gsOf tk)[j]).take (k + 1)) rfl
    have hl : ((flat (gsOf tk)[j]).take (k + 1)).length ≤ 10 := by
      have := (T.grps _ (List.getElem_mem hj)).few
      rw [List.length_take]; lia
    have := pow_le10 hl
    have e64 : (2 : Nat) ^ 64 = 18446744073709551616 := by decide
    rw [e64]; lia
  · rw [pos_len, List.take_of_length_le (by simp), T.flats]
theorem Tk.walks (T : Tk tk) : walkAt kOf ((gsOf tk).map fun g => val (flat g)) = octRun tk := by
  unfold walkAt octRun
  rw [walk_grps _ _ T.grps, T.flats]
theorem Tk.labOK (T : Tk tk) : LabOK (octRun tk).labels (wRun (tk.map isOpen)).walk.dropLast (wRun (tk.map isOpen)).pars := by
  have O := over_run tk
  obtain ⟨wd, _, _⟩ := word_wd (b := tk.map isOpen) (by rw [List.length_map]; exact T.len) T.scan
  refine ⟨wd, by rw [O.len, wd.lp], fun v h1 h2 => O.st v h1 (by rw [wd.lp]; exact h2)⟩
theorem open_not (o : Int) : ((o.fdiv 64).fmod 2 == 0) = !isOpen o := by
  unfold isOpen
  have h := fmod_bd (a := o.fdiv 64) (k := 2) (by decide)
  have : (o.fdiv 64).fmod 2 = 0 ∨ (o.fdiv 64).fmod 2 = 1 := by
    have h1 : ((2 : Nat) : Int) = 2 := rfl
    rw [h1] at h; lia
  rcases this with e | e <;> rw [e] <;> rfl
theorem closers : ∀ gs : List (List Int × Int), (∀ g ∈ gs, GrpOK g) → (gs.flatMap flat).filter (fun o => !isOpen o) = gs.map (·.2)
  | [], _ => rfl
  | g :: gs, h => by
    have hg := h g (List.mem_cons_self ..)
    rw [List.flatMap_cons, List.filter_append, closers gs fun x hx => h x (List.mem_cons_of_mem _ hx)]
    unfold flat
    rw [List.filter_append, List.filter_eq_nil_iff.mpr (fun o ho => by rw [hg.up o ho]; decide), List.filter_cons, hg.down]
    rfl
theorem Tk.same (T : Tk tk) : ((gsOf tk).map fun g => val (flat g)).map (fun v => PyData.int (v.fmod 64)) = (tk.filter fun o => (o.fdiv 64).fmod 2 == 0).map (fun o => PyData.int (o.fmod 64)) := by
  have e : (tk.filter fun o => (o.fdiv 64).fmod 2 == 0) = (gsOf tk).map (·.2) := by
    rw [← closers _ T.grps, T.flats]
    exact List.filter_congr fun o _ => open_not o
  rw [e, List.map_map, List.map_map]
  refine List.map_congr_left fun g _ => ?_
  show PyData.int ((val (flat g)).fmod 64) = PyData.int (g.2.fmod 64)
  unfold flat
  rw [val_snoc, Int.fmod_eq_emod_of_nonneg _ (by decide), Int.fmod_eq_emod_of_nonneg _ (by decide)]
  congr 1; lia
theorem path_ne {l : List Int} (h : (wRun (l.map isOpen)).path ≠ []) : (octRun l).path ≠ [] := by
  rw [(over_run l).path]
  intro e
  unfold zi at e
  exact h (List.map_eq_nil_iff.mp e)
theorem Tk.tail (T : Tk tk) : TailOK tk (numsOf' tk (KsOf tk) (KsOf tk).length) kOf K3 (octRun tk).labels (zi (wRun (tk.map isOpen)).walk.dropLast) (Gof (octRun tk).labels (zi (wRun (tk.map isOpen)).walk.dropLast))
    (On (octRun tk).labels (wRun (tk.map isOpen)).walk.dropLast) (stepsOf (Nodes (octRun tk).labels (wRun (tk.map isOpen)).walk.dropLast) 6) (octRun tk).labels ((List.range' 1 5).map (tv (wRun (tk.map isOpen)).pars)) := by
  have LO := T.labOK
  have O := over_run tk
  obtain ⟨wd, wl, wp⟩ := word_wd (b := tk.map isOpen) (by rw [List.length_map]; exact T.len) T.scan
  have path : ∀ i, i ≤ 10 → (octRun (tk.take i)).path ≠ [] := fun i hi => path_ne (by rw [List.map_take]; exact wp i hi)
  have A := along_run tk
  have R := LO.all_rooms
  have hL := LO.lL
  have few : (gsOf tk).length ≤ 10 := by
    have := T.falls.few
    have h := congrArg List.length T.flats
    rw [T.len, List.length_flatMap] at h
    have : ∀ l : List (List Int × Int), l.length ≤ (l.map fun g => (flat g).length).sum := fun l => by
      induction l with
      | nil => simp
      | cons a l ih => simp only [List.length_cons, List.map_cons, List.sum_cons, flat_len] at *; lia
    have := this (gsOf tk)
    lia
  rw [T.nums]
  generalize hN : ((gsOf tk).map fun g => val (flat g)) = nums
  have nl : nums.length ≤ 10 := by rw [← hN, List.length_map]; exact few
  have ndb : ∀ i, i < 20 → ndOf (octRun tk).labels (wRun (tk.map isOpen)).walk.dropLast i ≤ 6 := fun i hi => by
    have half : i = 2 * (i / 2) ∨ i = 2 * (i / 2) + 1 := by lia
    rcases half with e | e
    · rw [e, (LO.nd_even (by lia)).1]; have := LO.wd.wl (i / 2) (by lia); lia
    · rw [e]; exact (LO.nd_odd (by lia)).1
  refine ⟨by rw [T.len]; decide, by lia, ?_, fun v hv => ?_, ?_, fun i hi => ?_, ?_, ?_, by lia, by rw [zi, List.length_map]; exact wd.lW, fun i hi => ?_, rfl, by rw [goalsOf_len]; rw [zi, List.length_map]; exact wd.lW, fun i hi => ?_, by rw [hL], by rw [onward_len]; decide,
    fun i hi => ?_, fun h hh => ?_, fun i hi => ?_, by rw [hL]; rfl, ?_, fun i hi => ?_, A.labels, ?_, by lia, ?_, by simp, ?_, fun l hl => ?_, ?_, ?_⟩
  · rw [picked_all, map_range (f := fun v => v.fmod 64)]
    have e2 : picked (fun i => ((tk.getD i 0).fdiv 64).fmod 2 == 0) (fun i => .int ((tk.getD i 0).fmod 64)) tk.length = (tk.filter fun o => (o.fdiv 64).fmod 2 == 0).map fun o => PyData.int (o.fmod 64) := by
      unfold picked
      exact range_filter (q := fun o : Int => (o.fdiv 64).fmod 2 == 0) (g := fun o : Int => PyData.int (o.fmod 64))
    rw [e2, ← T.same, hN, List.map_map]
    have e3 : (PyData.list (nums.map (PyData.int ∘ fun v => v.fmod 64))) = zl (nums.map fun v => v.fmod 64) := by
      show _ = PyData.list _
      rw [List.map_map]
    show PyData.eqv (.list (nums.map (PyData.int ∘ fun v => v.fmod 64))) (.list (nums.map (PyData.int ∘ fun v => v.fmod 64))) = true
    rw [e3]
    exact SeqAt.eqv_refl _ zl_lay
  · rw [← hN] at hv
    obtain ⟨g, hg, rfl⟩ := List.mem_map.mp hv
    have G := T.grps g hg
    obtain ⟨_, h2, h3, _⟩ := figs_all G.figs G.few
    exact ⟨h2, h3⟩
  · rw [← hN, List.map_map]
    have e : (gsOf tk).map ((fun v => kOf v + 1) ∘ fun g => val (flat g)) = (gsOf tk).map fun g => (flat g).length := List.map_congr_left fun g hg => (figs_all (T.grps g hg).figs (T.grps g hg).few).1
    have h := congrArg List.length T.flats
    rw [T.len, List.length_flatMap] at h
    rw [e, h]; decide
  · rw [← hN] at hi ⊢
    rw [← List.map_take, walk_grps _ _ fun g hg => T.grps g (List.mem_of_mem_take hg)]
    have e : ((gsOf tk).take i).flatMap flat = tk.take (((gsOf tk).take i).flatMap flat).length := by
      conv => rhs; arg 2; rw [← T.flats, ← List.take_append_drop i (gsOf tk), List.flatMap_append]
      rw [List.take_left']; rfl
    have hle : (((gsOf tk).take i).flatMap flat).length ≤ 10 := by
      have h := congrArg List.length T.flats
      rw [← List.take_append_drop i (gsOf tk), List.flatMap_append, List.length_append, T.len] at h
      lia
    rw [e]
    exact path _ hle
  · rw [← hN, T.walks]
  · rw [← hN, T.walks, O.walk, zi_drop]
  · rw [zi_getD, hL]
    have hi' : i < 10 := by rw [zi, List.length_map] at hi; have := wd.lW; lia
    have := wd.wl i hi'; lia
  · rcases LO.lab.goalC hi with ⟨t, _, _, _, _, g⟩ | ⟨_, g⟩
    · rw [g]; lia
    · rw [g]; decide
  · rw [onward_len] at hi ⊢
    exact R.bon i hi
  · rw [onward_len] at hh
    exact ⟨by show 3 ≤ 900; decide, R.Kon h hh⟩
  · rw [hL]
    show 0 ≤ (Nodes (octRun tk).labels (wRun (tk.map isOpen)).walk.dropLast).getD i 0 ∧ (Nodes (octRun tk).labels (wRun (tk.map isOpen)).walk.dropLast).getD i 0 ≤ 6
    rw [nd_eq hi]
    have := ndb i hi; lia
  · rw [LO.steps, hL]; simp
  · have := path i (by have := T.len; lia)
    rwa [← (along_run (tk.take i)).path] at this
  · intro e; rw [e] at hL; cases hL
  · show (tk.foldl treeStep ⟨[0], [], [0]⟩).ties = _
    rw [A.ties, wd.lp, List.map_map]; rfl
  · rw [onward_len]; exact R.r5
  · rw [onward_len] at hl; exact R.rl l hl
  · rw [LO.steps, hL]
    apply List.ext_getElem
    · simp [hL]
    · intro i h1 h2
      have hi : i < 6 := by rw [List.length_map, hL] at h2; exact h2
      rw [List.getElem_take, List.getElem_map, List.getElem_map, List.getElem_range]
      unfold ht
      rw [if_pos hi, List.getD_eq_getElem?_getD, List.getElem?_eq_getElem (by lia)]
      have := (minL_ok (l := (octRun tk).labels) (by intro e; rw [e] at hL; cases hL)).2 ((octRun tk).labels[i]'(by lia)) (List.getElem_mem _)
      simp only [Option.getD_some]
      lia
  · rw [onward_len, hL]
    exact R.fin
end
theorem law_ok (ns : List Int) : LawOK ns := by
  obtain ⟨tk, h1, h2, h3, h4⟩ := taken_one (draws := drawsOf (cellsOf ns)) drawsOf_len
  have T : Tk tk := ⟨h2, h3, h4⟩
  exact ⟨tk, KsOf tk, kOf, K3, _, _, _, _, _, _, _, h1, T.falls, T.tail⟩
end Mine
end

/-! text PK0 -/
section
open PySem PySem.Spec PySem.Calls PyProof.Rows
set_option linter.unusedVariables false
set_option maxRecDepth 100000
namespace Mine
/-! the call of the law -/
theorem law_call {C : Cx} (H : Gl C) (F : Fg C) (hsi : GlobIs C (Str.ofString "StopIteration") (.type "StopIteration")) {fa : Addr} (hfa : C.mg (Str.ofString "law") = some (.ref fa)) {s : Shared} {l : Addr} {ws : Array Value} {k : Nat} {ns : List Int}
    (hB : Up C.B s.heap) (hl : ns.length ≤ 900) (hlist : s.heap.get? l = some (lst ws k)) (hI : RdL s.heap ws.toList (ns.map .int) []) {R : Result → Shared → Prop}
    (hR : ∀ s', Sh s s' → Up s.heap s'.heap → R (.ok (.ret (.bool true))) s') : codeAny C.M callerA (.call (.ref fa) ⟨[.ref l], []⟩) R s := by
  obtain ⟨g, _, _, _, _, _, hfg, _⟩ := H.at (k := 7) (by decide)
  rw [show (fnRec 7).name = Str.ofString "_law_read" from N7.2] at hfg
  obtain ⟨f, _, _, _, _, _, hfv, _⟩ := H.at (k := 0) (by decide)
  rw [show (fnRec 0).name = Str.ofString "_parse_varint" from N0.2] at hfv
  obtain ⟨a, c, P, o, pm, doc, h1, h2, h3, h4, _⟩ := H.at (k := 14) (by decide)
  rw [show (fnRec 14).name = Str.ofString "law" from N14.2, hfa] at h1
  obtain rfl : fa = a := by injection h1 with h1; injection h1
  have hroom : callerA.depth < recursionLimit := by decide
  have hk : (fnRec 14).scope.kind = .function := by rw [S14.2]; rfl
  have hloc : (fnRec 14).scope.names.lookup (Str.ofString "script") = some .local ∨ (fnRec 14).scope.names.lookup (Str.ofString "script") = some .cell := by rw [S14.2]; decide +kernel
  have hbind : bindArgs (docDef (fnRec 14).name (fnRec 14).params (fnRec 14).body (fnRec 14).scope pm (.ref c) doc) ⟨[.ref l], []⟩ = pure ([Str.ofString "script"].zip [.ref l]) := by rw [P14.2]; rfl
  refine codeAny_call_cells (fd := docDef (fnRec 14).name (fnRec 14).params (fnRec 14).body (fnRec 14).scope pm (.ref c) doc) (body := (fnRec 14).body) (binds := [Str.ofString "script"].zip [.ref l]) hroom (hB fa o h2) h3 (H.good.lim.keeps hB) (h4.keeps hB) rfl hbind rfl (fun p hp => ?_) (fun s₁ x => ?_) (by rw [S14.2]; rfl) (by rw [S14.2]; rfl) hk
  · simp only [List.zip_cons_cons, List.zip_nil_right, List.mem_singleton] at hp
    subst hp
    rcases hloc with h | h
    · exact .inl h
    · exact .inr ⟨h, cellsFrom_isSome _ _ _ _ (.inl (PySem.mem_of_lookup h))⟩
  · obtain ⟨V, Fp, S⟩ := entry_st (C := C) (it := fnRec 14) (names := S14.1.names.map (·.1)) (xs := [Str.ofString "script"]) (ds := [zl ns]) (k := 16) hB (.cons (.list hlist hI) .nil) (by simp) rfl rfl (fun y hy => by
      rw [List.mem_singleton] at hy; subst hy; exact hloc) x
    have hR' : Room (callerA.deeper (callEnvC (docDef (fnRec 14).name (fnRec 14).params (fnRec 14).body (fnRec 14).scope pm (.ref c) doc) s.heap.objs.size fa)) (5 + 2) := ⟨rfl, by show 1 + claimMargin + 1 + 20 * (5 + 2) < 900; decide, by show 4 + 3 + 100 * (5 + 2) < 9000; decide⟩
    have hE : EnvOf (callEnvC (docDef (fnRec 14).name (fnRec 14).params (fnRec 14).body (fnRec 14).scope pm (.ref c) doc) s.heap.objs.size fa) S14.1 := ⟨S14.2, by rw [← S14.2]; exact hk, rfl, rfl⟩
    rw [show (fnRec 14).body = B14.1 from B14.2]
    refine wpAny_mono (law_rst (n := 5) H F hfg hfv hsi hl (fun l hl => text_paren hl) (law_ok ns) _ _ s₁ _ _ V Fp rfl rfl hR' hE S) (fun fl s₂ h₂ => ?_) fun _ _ h => h
    obtain ⟨sh, kp, v, as, rfl, r, _⟩ := h₂
    obtain ⟨h', tk, e⟩ := x.toInCall.same
    obtain ⟨rfl, _⟩ := r.bool_inv
    exact hR s₂ (Sh.trans ⟨h', tk, s.gens, e, id⟩ sh) kp
end Mine
end

/-! text PK1 -/
section
open PySem PySem.W PySem.Calls PyProof.Rows
set_option linter.unusedVariables false
set_option maxRecDepth 100000
namespace Mine
/-! the join -/
theorem noDefaults : ∀ e ∈ (recsOf vw).map itemOf, e.params.defaults = [] := by
  have h : (((recsOf vw).map itemOf).all fun e => e.params.defaults.isEmpty) = true := by decide +kernel
  intro e he
  have := List.all_eq_true.mp h e he
  exact List.isEmpty_iff.mp this
section
variable {prog : Program} {w : World} {P : Params} {h : Heap} {loose : List Str} {mean : ExcName → Option Value} {mg mb : Str → Option Value}
theorem glob_none (KX : (heapK P).In h) (T : Top vw loose mean mg mb h) {x : Str} {v : Value} (e : nsIn (heapK P) mainGlobals x = some none) (hb : bootBuiltins x = some v) (hn : x ≠ "__name__") : GlobIs ⟨prog, w, h, mg, mb⟩ x v :=
  .inr ⟨mg_none_of KX T.g e, hb, hn⟩
theorem gl_of (KX : (heapK P).In h) (T : Top vw loose mean mg mb h) : Gl ⟨prog, w, h, mg, mb⟩ where
  good := ⟨T.g, T.b, T.nolimit, T.builtins⟩
  fn := fun e he => at_of_top T e he (noDefaults e he)
  range := glob_none KX T rfl rfl (by decide)
  list := glob_none KX T rfl rfl (by decide)
  enumerate := glob_none KX T rfl rfl (by decide)
  zip := glob_none KX T rfl rfl (by decide)
  int := glob_none KX T rfl rfl (by decide)
  len := glob_none KX T rfl rfl (by decide)
  sum := glob_none KX T rfl rfl (by decide)
  min := glob_none KX T rfl rfl (by decide)
  max := glob_none KX T rfl rfl (by decide)
  sorted := glob_none KX T rfl rfl (by decide)
  iter := glob_none KX T rfl rfl (by decide)
  next := glob_none KX T rfl rfl (by decide)
theorem stop_of (KX : (heapK P).In h) (T : Top vw loose mean mg mb h) : GlobIs ⟨prog, w, h, mg, mb⟩ (Str.ofString "StopIteration") (.type "StopIteration") := glob_none KX T rfl rfl (by decide)
theorem fg_of (KX : (heapK P).In h) (T : Top vw loose mean mg mb h) : Fg ⟨prog, w, h, mg, mb⟩ := ⟨⟨P, KX⟩, mg_of KX T.g rfl⟩
theorem well_list {a : Addr} {xs : List WData} (q : Well P h (.ref a) (.list xs)) : ∃ vs : List Value, h.get? a = some (lst vs.toArray 0) := by
  cases q with
  | list h1 _ => exact ⟨_, h1⟩
end
theorem ints_rd {h : Heap} : ∀ {vs : List Value} {ns : List Int}, IntsAre vs ns → RdL h vs (ns.map .int) []
  | _, _, .nil => .nil
  | _, _, .cons n t r => by
    have := RdL.cons (h := h) (.int n t) (ints_rd r)
    simpa using this
end Mine
end

/-! text PKh -/
section
open PySem PySem.W PyProof.Rows
set_option linter.unusedVariables false
set_option maxRecDepth 100000
namespace Mine
/-! the top of the program: how it runs is one look of the kernel, with no tables of its own (they were a fifth of the compiled file) -/
noncomputable abbrev hK : Hook := kHook heapK [3, 22, 23, 29, 30] (fun _ => by kernel_rfl)
noncomputable abbrev rwO := PySem.Challenge.rw_wj0013_01.row.toRowW
noncomputable abbrev looseK : List Str := [Str.ofString "bisect_right"]
theorem top_left : LeftO PySem.Challenge.pw_wj0013_01 vw looseK (fun s => xlAt vw [] s && recOk (RowW.records rwO) s) (Hook.obs hK) (Hook.val hK) 1202 := by
  intro w; kernel_rfl
end Mine
end

section
open PySem PySem.W PyProof.Rows Mine
set_option linter.unusedVariables false
set_option maxRecDepth 100000 in
set_option maxHeartbeats 8000000 in
theorem PySem.Challenge.cw_wj0013_01_holds : PySem.Challenge.rw_wj0013_01.Holds := by
  w_on
  o_law
  refine holds_open (q := vw) (loose := looseK) (XP := XL vw []) (YP := Hook.says hK) top_left (Hook.of hK) (Hook.keeps hK) (fun s e => xl_of s (Bool.and_eq_true_iff.mp e).1) XL.keeps (by rfl) (by rfl) (by rfl) (fun s e => recFacts_of (Bool.and_eq_true_iff.mp e).2) (by rfl) (by first | assumption | decide +kernel) (by decide +kernel) ⟨rfl, rfl, rfl, rfl, rfl, by decide +kernel⟩ ?hw ?hc
  (case hw => w_witness2)
  intro w s₀ s₁ mg mb G Y fa o pm cd doc dV kV ho hdt hcd hD hmg hg args vals as hpre hlay hrd hwl hlo
  have KX := kIn_of Y
  refine Ground.open G ?_
  intro T B D TE TW
  clear B D TE TW hD
  wrow_args hpre hlay hrd hwl hlo
  first | refine callC_kw (enter_call ?_) | refine enter_call ?_ | refine callC_kw (enter_callW ?_) | refine enter_callW ?_ | w_how
  w_top on
  rename IntsAre _ _ => hI
  rename Heap.IsList _ _ _ => hL
  rename Well _ _ _ _ => w1
  obtain ⟨vs, hv⟩ := well_list w1
  obtain ⟨o', ho', _, n', hd'⟩ := hL
  rw [hv] at ho'
  cases ho'
  injection hd' with hd1 hd2
  refine law_call (C := ⟨_, w, s₁.heap, mg, mb⟩) (gl_of KX T) (fg_of KX T) (stop_of KX T) hmg (fun _ _ e => e) ?hlen hv (by rw [hd1]; exact ints_rd hI) fun s' sh up => ?_
  case hlen => lia
  obtain ⟨h', tk, gs, rfl, hbare⟩ := sh
  refine ⟨.inl ⟨.bool true, .bool true, [], rfl, fun _ => rfl, .bool true, ?_, fun _ => ⟨List.nodup_nil, fun _ h => nomatch h⟩⟩, .of_keep up, rfl, hbare (AllBare.of_eq hg)⟩
  first | rfl | wrow_post
end
