import PyProof.Rows.All
import Wide.All
import OpenK.AllK
import Wide.FinOn
import Lean
import PySem.Challenge.RW_zn0025_01
set_option Elab.async false
set_option linter.all false
section
open PySem PySem.Calls PyProof.Rows
namespace Mine

/-- everything of the one heap stands in the other as it was -/
noncomputable def Kp (h h' : Heap) : Prop := ∀ b o, h.get? b = some o → h'.get? b = some o
noncomputable def Off (W : List Addr) (h h' : Heap) : Prop := ∀ b o, b ∉ W → h.get? b = some o → h'.get? b = some o
theorem Kp.refl (h : Heap) : Kp h h := fun _ _ e => e
theorem Kp.trans {a b c : Heap} (x : Kp a b) (y : Kp b c) : Kp a c := fun i o e => y i o (x i o e)
theorem Kp.off {W : List Addr} {h h' : Heap} (x : Kp h h') : Off W h h' := fun b o _ e => x b o e
theorem Kp.push (h : Heap) (o : Obj) : Kp h (h.push o) := fun _ _ e => Heap.get?_push_of_some _ e
theorem Kp.isSome {h h' : Heap} (x : Kp h h') {a : Addr} (e : (h.get? a).isSome = true) : (h'.get? a).isSome = true := by
  obtain ⟨o, ho⟩ := Option.isSome_iff_exists.mp e
  rw [x _ _ ho]; rfl

/-- plain data -/
inductive D where
  | none
  | bool (b : Bool)
  | int (i : Int)
  | str (s : Str)
  | tup (ds : List D)
  | lst (ds : List D)
  | dct (kvs : List (Str × Int))
  | order (ds : D)
  | val (v : Value)

structure GC where
  prog : Program
  w : World
  mg : Str → Option Value
  mb : Str → Option Value
  C : Addr

/-- an object whose one attribute is u -/
noncomputable def IsOrd (C : Addr) (h : Heap) (a dx : Addr) (u : Value) : Prop :=
  h.get? a = some { cls := .ref C, dict := some dx, data := .plain } ∧
  ∃ es n, h.get? dx = some { cls := .type "dict", data := .dict es n } ∧ ∃ hs t, es = #[⟨hs, .str "comp_select_list" t, u⟩]

noncomputable def RepKV : List (Str × Int) → List (Str × Value) → Prop
  | [], l => l = []
  | p :: r, l => ∃ t l', l = (p.1, .int p.2 t) :: l' ∧ RepKV r l'

mutual
noncomputable def Rep (G : GC) (M : List Addr) (h : Heap) : D → Value → Prop
  | .none, v => v = .none
  | .bool b, v => v = .bool b
  | .int i, v => ∃ t, v = .int i t
  | .str x, v => ∃ t, v = .str x t
  | .tup ds, v => ∃ a vs, v = .ref a ∧ a ∉ M ∧ h.IsTuple a vs.toArray ∧ RepL G M h ds vs
  | .lst ds, v => ∃ a vs, v = .ref a ∧ a ∉ M ∧ h.PlainList a vs.toArray ∧ RepL G M h ds vs
  | .dct kvs, v => ∃ a l, v = .ref a ∧ a ∉ M ∧ (a == sysModules) = false ∧ h.DictOf (strKind G.prog G.w) a l ∧ RepKV kvs l
  | .val u, v => v = u
  | .order d, v => ∃ a dx u, v = .ref a ∧ a ∉ M ∧ dx ∉ M ∧ IsOrd G.C h a dx u ∧ Rep G M h d u
noncomputable def RepL (G : GC) (M : List Addr) (h : Heap) : List D → List Value → Prop
  | [], vs => vs = []
  | d :: ds, vs => ∃ v vs', vs = v :: vs' ∧ Rep G M h d v ∧ RepL G M h ds vs'
end

mutual
theorem Rep.move {G : GC} {M M' : List Addr} {h h' : Heap} (hm : ∀ b o, b ∉ M → h.get? b = some o → b ∉ M' ∧ h'.get? b = some o) : ∀ {d : D} {v : Value}, Rep G M h d v → Rep G M' h' d v
  | .none, _, r => r
  | .bool _, _, r => r
  | .int _, _, r => r
  | .str _, _, r => r
  | .val _, _, r => r
  | .tup ds, v, r => by
    unfold Rep at r ⊢
    obtain ⟨a, vs, e, ha, ⟨o, ho, hr⟩, hl⟩ := r
    exact ⟨a, vs, e, (hm a o ha ho).1, ⟨o, (hm a o ha ho).2, hr⟩, RepL.move hm hl⟩
  | .lst ds, v, r => by
    unfold Rep at r ⊢
    obtain ⟨a, vs, e, ha, ⟨n, ho⟩, hl⟩ := r
    exact ⟨a, vs, e, (hm a _ ha ho).1, ⟨n, (hm a _ ha ho).2⟩, RepL.move hm hl⟩
  | .dct kvs, v, r => by
    unfold Rep at r ⊢
    obtain ⟨a, l, e, ha, hz, hd, hl⟩ := r
    obtain ⟨o, es, ep, ho, hr⟩ := id hd
    exact ⟨a, l, e, (hm a o ha ho).1, hz, ⟨o, es, ep, (hm a o ha ho).2, hr⟩, hl⟩
  | .order d, v, r => by
    unfold Rep at r ⊢
    obtain ⟨a, dx, u, e, ha, hx, ⟨h1, es, n, h2, h3⟩, hu⟩ := r
    exact ⟨a, dx, u, e, (hm _ _ ha h1).1, (hm _ _ hx h2).1, ⟨(hm _ _ ha h1).2, es, n, (hm _ _ hx h2).2, h3⟩, Rep.move hm hu⟩
theorem RepL.move {G : GC} {M M' : List Addr} {h h' : Heap} (hm : ∀ b o, b ∉ M → h.get? b = some o → b ∉ M' ∧ h'.get? b = some o) : ∀ {ds : List D} {vs : List Value}, RepL G M h ds vs → RepL G M' h' ds vs
  | [], _, r => r
  | d :: ds, vs, r => by
    unfold RepL at r ⊢
    obtain ⟨v, vs', e, r1, r2⟩ := r
    exact ⟨v, vs', e, Rep.move hm r1, RepL.move hm r2⟩
end
section
variable {G : GC} {M M' W : List Addr} {h h' : Heap} {d : D} {v : Value} {ds : List D} {vs : List Value}
theorem Rep.kp (k : Kp h h') (r : Rep G M h d v) : Rep G M h' d v := r.move fun b o hb e => ⟨hb, k b o e⟩
theorem RepL.kp (k : Kp h h') (r : RepL G M h ds vs) : RepL G M h' ds vs := r.move fun b o hb e => ⟨hb, k b o e⟩
theorem Rep.off (k : Off W h h') (hs : ∀ a ∈ W, a ∈ M) (r : Rep G M h d v) : Rep G M h' d v := r.move fun b o hb e => ⟨hb, k b o (fun q => hb (hs b q)) e⟩
theorem RepL.off (k : Off W h h') (hs : ∀ a ∈ W, a ∈ M) (r : RepL G M h ds vs) : RepL G M h' ds vs := r.move fun b o hb e => ⟨hb, k b o (fun q => hb (hs b q)) e⟩
theorem more_move (hs : ∀ a ∈ M', a ∈ M ∨ h.get? a = none) : ∀ b o, b ∉ M → h.get? b = some o → b ∉ M' ∧ h.get? b = some o := by
  intro b o hb e
  refine ⟨fun q => ?_, e⟩
  rcases hs b q with q | q
  · exact hb q
  · rw [q] at e; cases e
theorem Rep.more (hs : ∀ a ∈ M', a ∈ M ∨ h.get? a = none) (r : Rep G M h d v) : Rep G M' h d v := r.move (more_move hs)
theorem RepL.more (hs : ∀ a ∈ M', a ∈ M ∨ h.get? a = none) (r : RepL G M h ds vs) : RepL G M' h ds vs := r.move (more_move hs)
theorem RepL.length : ∀ {ds : List D} {vs : List Value}, RepL G M h ds vs → vs.length = ds.length
  | [], _, r => by unfold RepL at r; subst r; rfl
  | _ :: _, _, r => by
    unfold RepL at r
    obtain ⟨v, vs', rfl, _, r2⟩ := r
    rw [List.length_cons, List.length_cons, RepL.length r2]
theorem RepL.get : ∀ {ds : List D} {vs : List Value} {i : Nat} {v : Value}, RepL G M h ds vs → vs[i]? = some v → ∃ d, ds[i]? = some d ∧ Rep G M h d v
  | [], _, i, v, r, e => by unfold RepL at r; subst r; simp at e
  | d :: ds, _, i, v, r, e => by
    unfold RepL at r
    obtain ⟨v', vs', rfl, r1, r2⟩ := r
    cases i with
    | zero => simp at e; subst e; exact ⟨d, rfl, r1⟩
    | succ i => simp at e ⊢; exact RepL.get r2 e
theorem RepL.get' : ∀ {ds : List D} {vs : List Value} {i : Nat} {d : D}, RepL G M h ds vs → ds[i]? = some d → ∃ v, vs[i]? = some v ∧ Rep G M h d v
  | [], _, i, d, r, e => by simp at e
  | d' :: ds, _, i, d, r, e => by
    unfold RepL at r
    obtain ⟨v', vs', rfl, r1, r2⟩ := r
    cases i with
    | zero => simp at e; subst e; exact ⟨v', rfl, r1⟩
    | succ i => simp at e ⊢; exact RepL.get' r2 e
theorem RepL.nil : RepL G M h [] [] := by unfold RepL; rfl
theorem RepL.cons (r1 : Rep G M h d v) (r2 : RepL G M h ds vs) : RepL G M h (d :: ds) (v :: vs) := by unfold RepL; exact ⟨v, vs, rfl, r1, r2⟩
theorem RepL.append : ∀ {ds es : List D} {vs us : List Value}, RepL G M h ds vs → RepL G M h es us → RepL G M h (ds ++ es) (vs ++ us)
  | [], _, _, _, r, q => by unfold RepL at r; subst r; exact q
  | d :: ds, es, vs, us, r, q => by
    unfold RepL at r
    obtain ⟨v', vs', rfl, r1, r2⟩ := r
    exact RepL.cons r1 (RepL.append r2 q)
theorem RepL.of_get : ∀ {ds : List D} {vs : List Value}, ds.length = vs.length → (∀ (i : Nat) (d : D) (v : Value), ds[i]? = some d → vs[i]? = some v → Rep G M h d v) → RepL G M h ds vs
  | [], [], _, _ => .nil
  | d :: ds, v :: vs, e, f => .cons (f 0 d v rfl rfl) (RepL.of_get (by simpa using e) fun i d v h1 h2 => f (i + 1) d v (by simpa using h1) (by simpa using h2))
theorem RepL.drop : ∀ {ds : List D} {vs : List Value} (k : Nat), RepL G M h ds vs → RepL G M h (ds.drop k) (vs.drop k)
  | _, _, 0, r => r
  | [], _, k + 1, r => by unfold RepL at r; subst r; exact .nil
  | d :: ds, vs, k + 1, r => by
    unfold RepL at r
    obtain ⟨v', vs', rfl, _, r2⟩ := r
    exact RepL.drop k r2
theorem RepL.take : ∀ {ds : List D} {vs : List Value} (k : Nat), RepL G M h ds vs → RepL G M h (ds.take k) (vs.take k)
  | _, _, 0, r => by simp only [List.take_zero]; exact .nil
  | [], _, k + 1, r => by unfold RepL at r; subst r; exact .nil
  | d :: ds, vs, k + 1, r => by
    unfold RepL at r
    obtain ⟨v', vs', rfl, r1, r2⟩ := r
    exact .cons r1 (RepL.take k r2)
end

/-- the names of built-ins that the text uses -/
noncomputable def bNames : List Str := ["range", "len", "max", "min", "sum", "enumerate", "zip", "iter", "next", "isinstance", "tuple"]
/-- what the text's top says of its ints -/
noncomputable def topInt (x : Str) : Option Int := PySem.Challenge.pw_zn0025_01.main.body.findSome? fun st => match st with
  | .Assign [.Name y _] (.Constant (.int i) _ _) _ => if y == x then some i else none
  | _ => none
noncomputable def dictAt (x : Str) : List (Expr × Expr) := (PySem.Challenge.pw_zn0025_01.main.body.findSome? fun st => match st with
  | .Assign [.Name y _] (.Dict ks vs _) _ => if y == x then some ((ks.filterMap id).zip vs) else none
  | _ => none).getD []
noncomputable def exList : List (Str × Int) := (dictAt "EXACT_TOKEN_TYPES").filterMap fun kv => match kv with
  | (.Constant (.str k) _ _, .Name y _) => (topInt y).map fun i => (k, i)
  | _ => none
noncomputable def flagList : List (Int × Str) := (dictAt "COMPILER_FLAG_NAMES").filterMap fun kv => match kv with
  | (.Constant (.int k) _ _, .Constant (.str y) _ _) => some (k, y)
  | _ => none
noncomputable def IsMap {K V : Type} [BEq K] (val : V → Value → Prop) (l : List (K × V)) (f : K → Option Value) : Prop :=
  ∀ k, match l.lookup k with | some x => ∃ v, f k = some v ∧ val x v | none => f k = none
/-- the one class of the text -/
noncomputable def clsBody : List Stmt := ((PySem.Challenge.pw_zn0025_01.theClass "TupleComp").map (·.2.1)).getD []
noncomputable def mth (x : Str) : Option (Arguments × List Stmt × Scope) := theDefIn clsBody x
structure IsMeth (K : PySem.W.Frag) (f : Addr) (x : Str) (fd : FuncData) : Prop where
  at_ : ∃ o, K.lookup f = some o ∧ o.data = .func fd
  same : ∃ b, fd.body = .stmts b ∧ mth x = some (fd.params, b, fd.scope)
  gl : fd.globals = mainGlobals
  bl : fd.builtins = builtinsNs
  cl : fd.closure = []
  dv : fd.defaults = .none
  kv : fd.kwdefaults = .none
  code : PySem.W.codeIn K fd.code fd.qualname = true
structure ClsF (K : PySem.W.Frag) (C fI fC : Addr) (dI dC : FuncData) : Prop where
  mkC : PySem.W.makesIn K C = true
  keepC : PySem.W.keepIn K (.ref C) = true
  keepF : PySem.W.keepIn K (.ref fC) = true
  init : PySem.W.findIn K (.ref C) "__init__" = some (some (.ref fI))
  fnI : PySem.W.typeIn K (.ref fI) = some (.type "function")
  cmp : PySem.W.findIn K (.ref C) "compare" = some (some (.ref fC))
  fnC : PySem.W.typeIn K (.ref fC) = some (.type "function")
  pg1 : PySem.W.plainGet K C "compare" = true
  pg2 : PySem.W.plainGet K C "comp_select_list" = true
  sa : PySem.W.findIn K (.ref C) "__setattr__" = some (some (.builtin "object.__setattr__"))
  po : PySem.W.plainOver K C = true
  tk : PySem.W.takerIn K C "comp_select_list" = some none
  hd : PySem.W.hasDictIn K C = true
  own : PySem.W.findIn K (.ref C) "comp_select_list" = some none
  mI : IsMeth K fI "__init__" dI
  mC : IsMeth K fC "compare" dC
/-- the part of the world that the walk leans on -/
structure Gd (G : GC) (h : Heap) : Prop where
  g : h.Ns mainGlobals G.mg
  b : h.Ns builtinsNs G.mb
  nolimit : h.NoLimit
  fn : ∀ d ∈ recsOf PySem.Challenge.pw_zn0025_01, ∃ a o pm code doc, G.mg d.name = some (.ref a) ∧ h.get? a = some o ∧ o.data = .func (docDef d.name d.params d.body d.scope pm code doc) ∧ h.CodeRec code d.name
  bi : ∀ x v, (bootBuiltins x = some v ∧ x ≠ "__name__") → G.mb x = some v
  no : ∀ x ∈ bNames, G.mg x = none
  tops : ∀ x i, topInt x = some i → ∃ t, G.mg x = some (.int i t)
  extab : ∃ a f, G.mg "EXACT_TOKEN_TYPES" = some (.ref a) ∧ (a == sysModules) = false ∧ h.MapOf (strKind G.prog G.w) a f ∧ IsMap (fun i v => ∃ t, v = .int i t) exList f
  flagtab : ∃ a f, G.mg "COMPILER_FLAG_NAMES" = some (.ref a) ∧ (a == sysModules) = false ∧ h.MapOf (intKind G.prog G.w) a f ∧ IsMap (fun y v => ∃ t, v = .str y t) flagList f
  cls : G.mg "TupleComp" = some (.ref G.C) ∧ ∃ K fI fC dI dC, PySem.W.Frag.In K h ∧ ClsF K G.C fI fC dI dC
theorem Gd.kp {G : GC} {h h' : Heap} (k : Kp h h') (x : Gd G h) : Gd G h' where
  g := x.g.keeps k
  b := x.b.keeps k
  nolimit := x.nolimit.keeps k
  fn := fun d hd => let ⟨a, o, pm, code, doc, h1, h2, h3, h4⟩ := x.fn d hd; ⟨a, o, pm, code, doc, h1, k _ _ h2, h3, h4.keeps k⟩
  bi := x.bi
  no := x.no
  tops := x.tops
  extab := let ⟨a, f, h1, h2, ⟨o, es, ep, ho, r⟩, h4⟩ := x.extab; ⟨a, f, h1, h2, ⟨o, es, ep, k _ _ ho, r⟩, h4⟩
  flagtab := let ⟨a, f, h1, h2, ⟨o, es, ep, ho, r⟩, h4⟩ := x.flagtab; ⟨a, f, h1, h2, ⟨o, es, ep, k _ _ ho, r⟩, h4⟩
  cls := let ⟨h1, K, fI, fC, dI, dC, h2, h3⟩ := x.cls; ⟨h1, K, fI, fC, dI, dC, h2.keeps k, h3⟩
theorem Gd.size {G : GC} {h : Heap} (x : Gd G h) : 2 < h.objs.size := let ⟨_, n, _⟩ := x.nolimit; n.lt

structure Cx where
  hb : Heap
  MC : List Addr
  env : Env
  own : Str → Bool

inductive OD where
  | lst (ds : List D)
  | dct (kvs : List (Str × Int))
  | lol (dss : List (List Int))

noncomputable abbrev Ow := Option (Str × OD)
noncomputable abbrev Vs := Str → Option D
noncomputable def upd (ρ : Vs) (x : Str) (d : D) : Vs := fun y => if y = x then some d else ρ y

noncomputable def Var (G : GC) (env : Env) (M : List Addr) (m : Str → Option Value) (h : Heap) (x : Str) (d : D) : Prop :=
  (env.kindOf x = some .local ∧ ∃ v, m x = some v ∧ Rep G M h d v) ∨
  ((env.kindOf x = some .cell ∨ (env.kindOf x = some .free ∧ (x == ("__classdict__" : Str)) = false)) ∧ ∃ c v, env.cells.lookup x = some c ∧ h.IsCell c (some v) ∧ Rep G M h d v)

noncomputable def ODok (G : GC) (M W : List Addr) (h : Heap) (bad : Addr → Prop) (a : Addr) : OD → Prop
  | .lst ds => ∃ vs, h.PlainList a vs.toArray ∧ RepL G M h ds vs
  | .dct kvs => ∃ l, (a == sysModules) = false ∧ h.DictOf (strKind G.prog G.w) a l ∧ RepKV kvs l
  | .lol dss => ∃ as : List Addr, h.PlainList a (as.map Value.ref).toArray ∧ as.length = dss.length ∧ as.Nodup ∧ (∀ b ∈ as, b ∈ W ∧ b ≠ a ∧ ¬ bad b) ∧
      ∀ (i : Nat) (b : Addr) (ns : List Int), as[i]? = some b → dss[i]? = some ns → ∃ vs, h.PlainList b vs.toArray ∧ RepL G M h (ns.map D.int) vs

noncomputable def OwOk (G : GC) (env : Env) (M W : List Addr) (m : Str → Option Value) (h : Heap) : Ow → Prop
  | none => True
  | some (x, o) => ∃ a, env.kindOf x = some .local ∧ m x = some (.ref a) ∧ a ∈ W ∧ a ≠ env.locals ∧ (∀ y c, env.cells.lookup y = some c → c ≠ a) ∧ ODok G M W h (fun b => b = env.locals ∨ ∃ y, env.cells.lookup y = some b) a o

structure Stm (G : GC) (cx : Cx) (M W : List Addr) (m : Str → Option Value) (ρ : Vs) (h : Heap) : Prop where
  gd : Gd G cx.hb
  keep : Kp cx.hb h
  sub : ∀ a ∈ W, a ∈ M
  mc : ∀ a ∈ cx.MC, a ∈ M
  mcl : ∀ a ∈ cx.MC, (cx.hb.get? a).isSome = true
  new : ∀ a ∈ W, cx.hb.get? a = none
  live : ∀ a ∈ M, (h.get? a).isSome = true
  ns : h.Ns cx.env.locals m
  lw : cx.env.locals ∈ W
  fn : cx.env.scope.kind = .function
  gl : cx.env.globals = mainGlobals
  bl : cx.env.builtins = builtinsNs
  cell : ∀ x c, cx.env.cells.lookup x = some c → (∃ v, h.IsCell c v) ∧ c ≠ cx.env.locals ∧ c ∈ M
  inj : ∀ x y c, cx.env.cells.lookup x = some c → cx.env.cells.lookup y = some c → x = y
  cw : ∀ x c, cx.own x = true → cx.env.cells.lookup x = some c → c ∈ W
  vars : ∀ x d, ρ x = some d → Var G cx.env M m h x d

noncomputable def St (G : GC) (cx : Cx) (M W : List Addr) (ow : Ow) (ρ : Vs) (h : Heap) : Prop := ∃ m, Stm G cx M W m ρ h ∧ OwOk G cx.env M W m h ow

/-- from one state of the frame to a later one -/
structure Tr (M W : List Addr) (h : Heap) (M' W' : List Addr) (h' : Heap) : Prop where
  off : Off W h h'
  dom : ∀ a, (h.get? a).isSome = true → (h'.get? a).isSome = true
  w : ∀ a ∈ W', a ∈ W ∨ h.get? a = none
  m1 : ∀ a ∈ M', a ∈ M ∨ h.get? a = none
  m2 : ∀ a ∈ M, a ∈ M' ∨ a ∈ W ∨ h.get? a = none
theorem none_of_not {h : Heap} {a : Addr} (e : ¬ (h.get? a).isSome = true) : h.get? a = none := by
  cases q : h.get? a with
  | none => rfl
  | some o => rw [q] at e; exact absurd rfl e
theorem Tr.gone {M W : List Addr} {h : Heap} {M' W' : List Addr} {h' : Heap} (t : Tr M W h M' W' h') {a : Addr} (e : h'.get? a = none) : h.get? a = none :=
  none_of_not fun q => by have := t.dom a q; rw [e] at this; cases this
theorem Tr.refl (M W : List Addr) (h : Heap) : Tr M W h M W h := ⟨fun _ _ _ e => e, fun _ e => e, fun _ e => .inl e, fun _ e => .inl e, fun _ e => .inl e⟩
theorem Tr.of_kp {M W : List Addr} {h h' : Heap} (k : Kp h h') : Tr M W h M W h' := ⟨k.off, fun _ e => k.isSome e, fun _ e => .inl e, fun _ e => .inl e, fun _ e => .inl e⟩
theorem Tr.trans {M W : List Addr} {h : Heap} {M' W' : List Addr} {h' : Heap} {M'' W'' : List Addr} {h'' : Heap} (t : Tr M W h M' W' h') (u : Tr M' W' h' M'' W'' h'') : Tr M W h M'' W'' h'' where
  off := fun b o hb e => u.off b o (fun q => by rcases t.w b q with q | q
                                                · exact hb q
                                                · rw [q] at e; cases e) (t.off b o hb e)
  dom := fun a e => u.dom a (t.dom a e)
  w := fun a e => by
    rcases u.w a e with q | q
    · exact t.w a q
    · exact .inr (t.gone q)
  m1 := fun a e => by
    rcases u.m1 a e with q | q
    · exact t.m1 a q
    · exact .inr (t.gone q)
  m2 := fun a e => by
    rcases t.m2 a e with q | q
    · rcases u.m2 a q with q | q | q
      · exact .inl q
      · exact .inr (t.w a q)
      · exact .inr (.inr (t.gone q))
    · exact .inr q

section
variable {G : GC} {cx : Cx} {M W M' : List Addr} {ow : Ow} {ρ : Vs} {h h' : Heap} {m : Str → Option Value}

theorem Heap.IsCell.at' {h h' : Heap} {c : Addr} {v : Option Value} (x : h.IsCell c v) (e : ∀ o, h.get? c = some o → h'.get? c = some o) : h'.IsCell c v := let ⟨o, ho, r⟩ := x; ⟨o, e o ho, r⟩
theorem Var.kp {env : Env} {x : Str} {d : D} (k : Kp h h') (r : Var G env M m h x d) : Var G env M m h' x d := by
  rcases r with ⟨a, v, b, c⟩ | ⟨a, c, v, b, e, f⟩
  · exact .inl ⟨a, v, b, c.kp k⟩
  · exact .inr ⟨a, c, v, b, e.keeps k, f.kp k⟩
theorem PlainList.kp {a : Addr} {vs : Array Value} (k : ∀ o, h.get? a = some o → h'.get? a = some o) (r : h.PlainList a vs) : h'.PlainList a vs := let ⟨n, e⟩ := r; ⟨n, k _ e⟩
theorem DictOf.at' {a : Addr} {l : List (Str × Value)} (k : ∀ o, h.get? a = some o → h'.get? a = some o) (r : h.DictOf (strKind G.prog G.w) a l) : h'.DictOf (strKind G.prog G.w) a l :=
  let ⟨o, es, ep, e, x⟩ := r; ⟨o, es, ep, k _ e, x⟩
theorem ODok.kp {bad : Addr → Prop} {a : Addr} (k : Kp h h') : ∀ {o : OD}, ODok G M W h bad a o → ODok G M W h' bad a o
  | .lst _, ⟨vs, p, r⟩ => ⟨vs, PlainList.kp (k a) p, r.kp k⟩
  | .dct _, ⟨l, z, p, r⟩ => ⟨l, z, DictOf.at' (k a) p, r⟩
  | .lol _, ⟨as, p, l, nd, q, f⟩ => ⟨as, PlainList.kp (k a) p, l, nd, q, fun i b ns e1 e2 => let ⟨vs, p, r⟩ := f i b ns e1 e2; ⟨vs, PlainList.kp (k b) p, r.kp k⟩⟩
theorem OwOk.kp {env : Env} (k : Kp h h') : ∀ {ow : Ow}, OwOk G env M W m h ow → OwOk G env M W m h' ow
  | none, _ => trivial
  | some _, ⟨a, h1, h2, h3, h4, h5, h6⟩ => ⟨a, h1, h2, h3, h4, h5, h6.kp k⟩
theorem Stm.kp (k : Kp h h') (x : Stm G cx M W m ρ h) : Stm G cx M W m ρ h' where
  gd := x.gd
  keep := x.keep.trans k
  sub := x.sub
  mc := x.mc
  mcl := x.mcl
  new := x.new
  live := fun a e => k.isSome (x.live a e)
  ns := x.ns.keeps k
  lw := x.lw
  fn := x.fn
  gl := x.gl
  bl := x.bl
  cell := fun a c e => let ⟨⟨v, p⟩, q⟩ := x.cell a c e; ⟨⟨v, p.keeps k⟩, q⟩
  inj := x.inj
  cw := x.cw
  vars := fun a d e => (x.vars a d e).kp k
theorem St.kp (k : Kp h h') (x : St G cx M W ow ρ h) : St G cx M W ow ρ h' := let ⟨m, a, b⟩ := x; ⟨m, a.kp k, b.kp k⟩
theorem St.gdh (x : St G cx M W ow ρ h) : Gd G h := let ⟨_, a, _⟩ := x; a.gd.kp a.keep

/-- more addresses are barred -/
theorem Var.more {env : Env} {x : Str} {d : D} (hs : ∀ a ∈ M', a ∈ M ∨ h.get? a = none) (r : Var G env M m h x d) : Var G env M' m h x d := by
  rcases r with ⟨a, v, b, c⟩ | ⟨a, c, v, b, e, f⟩
  · exact .inl ⟨a, v, b, c.more hs⟩
  · exact .inr ⟨a, c, v, b, e, f.more hs⟩
theorem ODok.more {bad : Addr → Prop} {a : Addr} (hs : ∀ a ∈ M', a ∈ M ∨ h.get? a = none) : ∀ {o : OD}, ODok G M W h bad a o → ODok G M' W h bad a o
  | .lst _, ⟨vs, p, r⟩ => ⟨vs, p, r.more hs⟩
  | .dct _, ⟨l, z, p, r⟩ => ⟨l, z, p, r⟩
  | .lol _, ⟨as, p, l, nd, q, f⟩ => ⟨as, p, l, nd, q, fun i b ns e1 e2 => let ⟨vs, p, r⟩ := f i b ns e1 e2; ⟨vs, p, r.more hs⟩⟩
theorem OwOk.more {env : Env} (hs : ∀ a ∈ M', a ∈ M ∨ h.get? a = none) : ∀ {ow : Ow}, OwOk G env M W m h ow → OwOk G env M' W m h ow
  | none, _ => trivial
  | some _, ⟨a, h1, h2, h3, h4, h5, h6⟩ => ⟨a, h1, h2, h3, h4, h5, h6.more hs⟩
/-- wr: new addresses (they stand in h', not in h) -/
theorem St.bar {wr : List Addr} (k : Kp h h') (hn : ∀ a ∈ wr, h.get? a = none) (hl : ∀ a ∈ wr, (h'.get? a).isSome = true) (x : St G cx M W ow ρ h) : St G cx (wr ++ M) W ow ρ h' := by
  obtain ⟨m, a, b⟩ := x
  have hs : ∀ a ∈ wr ++ M, a ∈ M ∨ h.get? a = none := fun a q => by
    rcases List.mem_append.mp q with q | q
    · exact .inr (hn a q)
    · exact .inl q
  have z : Stm G cx M W m ρ h' := a.kp k
  refine ⟨m, ?_, (b.more hs).kp k⟩
  exact { z with
      sub := fun a q => List.mem_append.mpr (.inr (z.sub a q))
      mc := fun a q => List.mem_append.mpr (.inr (z.mc a q))
      live := fun a q => by
        rcases List.mem_append.mp q with q | q
        · exact hl a q
        · exact z.live a q
      cell := fun x c e => let ⟨p, q, r⟩ := z.cell x c e; ⟨p, q, List.mem_append.mpr (.inr r)⟩
      vars := fun x d e => ((a.vars x d e).more hs).kp k }
theorem Tr.bar {wr : List Addr} (k : Kp h h') (hn : ∀ a ∈ wr, h.get? a = none) : Tr M W h (wr ++ M) W h' where
  off := k.off
  dom := fun _ e => k.isSome e
  w := fun _ e => .inl e
  m1 := fun a q => by
    rcases List.mem_append.mp q with q | q
    · exact .inr (hn a q)
    · exact .inl q
  m2 := fun a q => .inl (List.mem_append.mpr (.inr q))
end

/-- the room that n more calls want -/
structure Amb (A : Around) (n : Nat) : Prop where
  handled : A.handled = none
  depth : A.depth + n < 990
  units : A.units + 20 * n < 9000
theorem Amb.less {A : Around} {n k : Nat} (h : Amb A n) (hk : k ≤ n) : Amb A k := ⟨h.handled, by have := h.depth; omega, by have := h.units; omega⟩
theorem Amb.deeper {A : Around} {n : Nat} (env : Env) (h : Amb A (n + 1)) : Amb (A.deeper env) n :=
  ⟨h.handled, by have := h.depth; show A.depth + 1 + n < 990; omega, by have := h.units; show A.units + 3 + 20 * n < 9000; omega⟩

/-- an expression's value -/
noncomputable def Ev (G : GC) (cx : Cx) (n : Nat) (ow : Ow) (ρ : Vs) (e : Expr) (d : D) : Prop :=
  ∀ (A : Around) (s : Shared) (M W : List Addr) (Q E : Value → Shared → Prop), Amb A n → St G cx M W ow ρ s.heap →
    (∀ v h' tk, Kp s.heap h' → Rep G M h' d v → Q v { s with heap := h', toks := tk }) → wpAny (model G.prog G.w) A (eval e cx.env) Q E s
/-- a test's answer -/
noncomputable def EvT (G : GC) (cx : Cx) (n : Nat) (ow : Ow) (ρ : Vs) (e : Expr) (b : Bool) : Prop :=
  ∀ (A : Around) (s : Shared) (M W : List Addr) (Q : Bool → Shared → Prop) (E : Value → Shared → Prop), Amb A n → St G cx M W ow ρ s.heap →
    (∀ h' tk, Kp s.heap h' → Q b { s with heap := h', toks := tk }) → wpAny (model G.prog G.w) A (isTrue e cx.env (eval e cx.env)) Q E s

inductive Out where
  | next (ow : Ow) (ρ : Vs)
  | ret (d : D)
/-- a block's outcomes -/
noncomputable def Ex (G : GC) (cx : Cx) (n : Nat) (ow : Ow) (ρ : Vs) (ss : List Stmt) (P : Out → Prop) : Prop :=
  ∀ (A : Around) (s : Shared) (M W : List Addr) (Q : Flow → Shared → Prop) (E : Value → Shared → Prop), Amb A n → St G cx M W ow ρ s.heap →
    (∀ ow' ρ' M' W' h' tk, P (.next ow' ρ') → Tr M W s.heap M' W' h' → St G cx M' W' ow' ρ' h' → Q .next { s with heap := h', toks := tk }) →
    (∀ d v M' W' h' tk, P (.ret d) → Tr M W s.heap M' W' h' → Rep G M' h' d v → Q (.ret v) { s with heap := h', toks := tk }) →
    wpAny (model G.prog G.w) A (execs ss cx.env) Q E s
noncomputable def Ex1 (G : GC) (cx : Cx) (n : Nat) (ow : Ow) (ρ : Vs) (st : Stmt) (P : Out → Prop) : Prop :=
  ∀ (A : Around) (s : Shared) (M W : List Addr) (Q : Flow → Shared → Prop) (E : Value → Shared → Prop), Amb A n → St G cx M W ow ρ s.heap →
    (∀ ow' ρ' M' W' h' tk, P (.next ow' ρ') → Tr M W s.heap M' W' h' → St G cx M' W' ow' ρ' h' → Q .next { s with heap := h', toks := tk }) →
    (∀ d v M' W' h' tk, P (.ret d) → Tr M W s.heap M' W' h' → Rep G M' h' d v → Q (.ret v) { s with heap := h', toks := tk }) →
    wpAny (model G.prog G.w) A (exec st cx.env) Q E s

/-- a def of the text: arguments, value -/
noncomputable def Fn (G : GC) (n : Nat) (f : Str) (args : List D) (d : D) : Prop :=
  ∀ (A : Around) (s : Shared) (MC : List Addr) (fa : Addr) (vs : List Value) (Q E : Value → Shared → Prop), Amb A n → Gd G s.heap → G.mg f = some (.ref fa) → RepL G MC s.heap args vs → (∀ a ∈ MC, (s.heap.get? a).isSome = true) →
    (∀ v h' tk, Kp s.heap h' → Rep G MC h' d v → Q v { s with heap := h', toks := tk }) → wpAny (model G.prog G.w) A (call (.ref fa) vs) Q E s
end Mine
end
section
open PySem PySem.Calls PyProof.Rows
namespace Mine

section
variable {G : GC} {cx : Cx} {n : Nat} {ow : Ow} {ρ : Vs} {pos : Pos} {e l r : Expr} {d d1 d2 : D}

theorem Ev.to {A : Around} {s : Shared} {M W : List Addr} {Q E : Value → Shared → Prop} (x : Ev G cx n ow ρ e d) (a : Amb A n) (st : St G cx M W ow ρ s.heap)
    (h : ∀ v h' tk, Kp s.heap h' → Rep G M h' d v → Q v { s with heap := h', toks := tk }) : wpAny (model G.prog G.w) A (eval e cx.env) Q E s := x A s M W Q E a st h

/-- names -/
theorem Ev.name {x : Str} (hx : ρ x = some d) (hd : (x == ("__debug__" : Str)) = false := by decide) : Ev G cx n ow ρ (.Name x pos) d := by
  intro A s M W Q E a st h
  obtain ⟨m, z, _⟩ := st
  refine wpAny_Name ?_ hd
  rcases z.vars x d hx with ⟨hk, v, hv, hr⟩ | ⟨hk, c, v, hc, hcell, hr⟩
  · exact wpAny_loadName_local z.fn hk z.ns hv (h v s.heap s.toks (Kp.refl _) hr)
  · rcases hk with hk | ⟨hk, hn⟩
    · exact wpAny_loadName_cell z.fn hk hc hcell (h v s.heap s.toks (Kp.refl _) hr)
    · exact wpAny_loadName_free z.fn hk hc hcell (h v s.heap s.toks (Kp.refl _) hr) hn

theorem Ev.cint {i : Int} {k : Nat} : Ev G cx n ow ρ (.Constant (.int i) k pos) (.int i) := by
  intro A s M W Q E a st h
  exact wpAny_Constant_int (h _ s.heap (s.toks + 1) (Kp.refl _) ⟨_, rfl⟩)
theorem Ev.cstr {x : Str} {k : Nat} : Ev G cx n ow ρ (.Constant (.str x) k pos) (.str x) := by
  intro A s M W Q E a st h
  exact wpAny_Constant_str (h _ s.heap (s.toks + 1) (Kp.refl _) ⟨_, rfl⟩)
theorem Ev.cbool {b : Bool} {k : Nat} : Ev G cx n ow ρ (.Constant (.bool b) k pos) (.bool b) := by
  intro A s M W Q E a st h
  exact wpAny_Constant_bool (h _ s.heap s.toks (Kp.refl _) rfl)

noncomputable def Bin (G : GC) (n : Nat) (op : Operator) (d1 d2 d : D) : Prop :=
  ∀ (A : Around) (s : Shared) (M : List Addr) (u v : Value) (Q E : Value → Shared → Prop), Amb A n → Gd G s.heap → Rep G M s.heap d1 u → Rep G M s.heap d2 v → (∀ a ∈ M, (s.heap.get? a).isSome = true) →
    (∀ v h' tk, Kp s.heap h' → Rep G M h' d v → Q v { s with heap := h', toks := tk }) → wpAny (model G.prog G.w) A (binaryOp op u v) Q E s
noncomputable def Cmp (G : GC) (n : Nat) (op : CmpOp) (d1 d2 : D) (b : Bool) : Prop :=
  ∀ (A : Around) (s : Shared) (M : List Addr) (u v : Value) (Q E : Value → Shared → Prop), Amb A n → Gd G s.heap → Rep G M s.heap d1 u → Rep G M s.heap d2 v → (∀ a ∈ M, (s.heap.get? a).isSome = true) →
    (∀ h' tk, Kp s.heap h' → Q (.bool b) { s with heap := h', toks := tk }) → wpAny (model G.prog G.w) A (compareOp op u v) Q E s

theorem St.live {M W : List Addr} {h : Heap} (st : St G cx M W ow ρ h) : ∀ a ∈ M, (h.get? a).isSome = true := let ⟨_, z, _⟩ := st; z.live

theorem Ev.bin {op : Operator} (x : Ev G cx n ow ρ l d1) (y : Ev G cx n ow ρ r d2) (z : Bin G n op d1 d2 d) : Ev G cx n ow ρ (.BinOp l op r pos) d := by
  intro A s M W Q E a st h
  refine wpAny_BinOp (x.to a st fun u h1 t1 k1 r1 => ?_)
  refine y.to a (st.kp k1) fun v h2 t2 k2 r2 => ?_
  exact z A _ M u v Q E a ((st.kp k1).kp k2).gdh (r1.kp k2) r2 ((st.kp k1).kp k2).live fun w h3 t3 k3 r3 => h w h3 t3 ((k1.trans k2).trans k3) r3
theorem Ev.cmp {op : CmpOp} {b : Bool} (x : Ev G cx n ow ρ l d1) (y : Ev G cx n ow ρ r d2) (z : Cmp G n op d1 d2 b) (hm : behindInMarks op r = false := by with_unfolding_all rfl) : Ev G cx n ow ρ (.Compare l [op] [r] pos) (.bool b) := by
  intro A s M W Q E a st h
  refine wpAny_Compare1 (hm := hm) (x.to a st fun u h1 t1 k1 r1 => ?_)
  refine y.to a (st.kp k1) fun v h2 t2 k2 r2 => ?_
  exact z A _ M u v Q E a ((st.kp k1).kp k2).gdh (r1.kp k2) r2 ((st.kp k1).kp k2).live fun h3 t3 k3 => h _ h3 t3 ((k1.trans k2).trans k3) rfl
theorem EvT.cmp {op : CmpOp} {b : Bool} (x : Ev G cx n ow ρ l d1) (y : Ev G cx n ow ρ r d2) (z : Cmp G n op d1 d2 b) (hm : behindInMarks op r = false := by with_unfolding_all rfl) : EvT G cx n ow ρ (.Compare l [op] [r] pos) b := by
  intro A s M W Q E a st h
  refine wpAny_isTrue_Compare1 (hm := hm) (x.to a st fun u h1 t1 k1 r1 => ?_)
  refine y.to a (st.kp k1) fun v h2 t2 k2 r2 => ?_
  exact z A _ M u v _ E a ((st.kp k1).kp k2).gdh (r1.kp k2) r2 ((st.kp k1).kp k2).live fun h3 t3 k3 => wpAny_truthy_bool (h h3 t3 ((k1.trans k2).trans k3))
theorem EvT.and {x y : Expr} {b c : Bool} (hx : EvT G cx n ow ρ x b) (hy : b = true → EvT G cx n ow ρ y c) : EvT G cx n ow ρ (.BoolOp .And [x, y] pos) (b && c) := by
  intro A s M W Q E a st h
  refine wpAny_isTrue_BoolOp (wpAny_allTrue_And_cons (hx A s M W _ E a st fun h1 t1 k1 => ?_))
  cases b with
  | false => exact h h1 t1 k1
  | true => exact wpAny_allTrue_And_cons (hy rfl A _ M W _ E a (st.kp k1) fun h2 t2 k2 => by
      cases c with
      | false => exact h h2 t2 (k1.trans k2)
      | true => exact wpAny_allTrue_And_nil (h h2 t2 (k1.trans k2)))
theorem EvT.and3 {x y u : Expr} {b c e : Bool} (hx : EvT G cx n ow ρ x b) (hy : EvT G cx n ow ρ y c) (hu : EvT G cx n ow ρ u e) : EvT G cx n ow ρ (.BoolOp .And [x, y, u] pos) (b && (c && e)) := by
  intro A s M W Q E a st h
  refine wpAny_isTrue_BoolOp (wpAny_allTrue_And_cons (hx A s M W _ E a st fun h1 t1 k1 => ?_))
  cases b with
  | false => exact h h1 t1 k1
  | true => exact wpAny_allTrue_And_cons (hy A _ M W _ E a (st.kp k1) fun h2 t2 k2 => by
      cases c with
      | false => exact h h2 t2 (k1.trans k2)
      | true => exact wpAny_allTrue_And_cons (hu A _ M W _ E a ((st.kp k1).kp k2) fun h3 t3 k3 => by
          cases e with
          | false => exact h h3 t3 ((k1.trans k2).trans k3)
          | true => exact wpAny_allTrue_And_nil (h h3 t3 ((k1.trans k2).trans k3))))
theorem EvT.or {x y : Expr} {b c : Bool} (hx : EvT G cx n ow ρ x b) (hy : EvT G cx n ow ρ y c) : EvT G cx n ow ρ (.BoolOp .Or [x, y] pos) (b || c) := by
  intro A s M W Q E a st h
  refine wpAny_isTrue_BoolOp (wpAny_allTrue_Or_cons (hx A s M W _ E a st fun h1 t1 k1 => ?_))
  cases b with
  | true => exact h h1 t1 k1
  | false => exact wpAny_allTrue_Or_cons (hy A _ M W _ E a (st.kp k1) fun h2 t2 k2 => by
      cases c with
      | true => exact h h2 t2 (k1.trans k2)
      | false => exact wpAny_allTrue_Or_nil (h h2 t2 (k1.trans k2)))
theorem EvT.not {x : Expr} {b : Bool} (hx : EvT G cx n ow ρ x b) : EvT G cx n ow ρ (.UnaryOp .Not x pos) (!b) := by
  intro A s M W Q E a st h
  exact wpAny_isTrue_Not (hx A s M W _ E a st fun h1 t1 k1 => h h1 t1 k1)
theorem EvT.true : EvT G cx n ow ρ (.Constant (.bool true) 0 pos) true := by
  intro A s M W Q E a st h
  refine wpAny_isTrue_value (wpAny_Constant_bool ?_)
  exact wpAny_truthy_bool (h s.heap s.toks (Kp.refl _))
theorem Ev.ifexp {t : Expr} {b : Bool} (ht : EvT G cx n ow ρ t b) (h1 : b = true → Ev G cx n ow ρ l d) (h2 : b = false → Ev G cx n ow ρ r d) : Ev G cx n ow ρ (.IfExp t l r pos) d := by
  intro A s M W Q E a st h
  refine wpAny_IfExp (ht A s M W _ E a st fun h1' t1 k1 => ?_)
  cases b with
  | true => exact h1 rfl A _ M W Q E a (st.kp k1) fun v h' tk k2 r2 => h v h' tk (k1.trans k2) r2
  | false => exact h2 rfl A _ M W Q E a (st.kp k1) fun v h' tk k2 r2 => h v h' tk (k1.trans k2) r2
theorem Ev.neg {i : Int} (hx : Ev G cx n ow ρ e (.int i)) : Ev G cx n ow ρ (.UnaryOp .USub e pos) (.int (-i)) := by
  intro A s M W Q E a st h
  refine wpAny_UnaryOp (hx.to a st fun v h1 t1 k1 r1 => ?_)
  obtain ⟨t, rfl⟩ := r1
  exact neg_int (h _ h1 _ k1 ⟨_, rfl⟩)

theorem Bin.add {a b : Int} : Bin G n .Add (.int a) (.int b) (.int (a + b)) := by
  rintro A s M _ _ Q E _ _ ⟨t, rfl⟩ ⟨u, rfl⟩ _ h
  exact add_int (h _ s.heap _ (Kp.refl _) ⟨_, rfl⟩)
theorem Bin.sub {a b : Int} : Bin G n .Sub (.int a) (.int b) (.int (a - b)) := by
  rintro A s M _ _ Q E _ _ ⟨t, rfl⟩ ⟨u, rfl⟩ _ h
  exact sub_int (h _ s.heap _ (Kp.refl _) ⟨_, rfl⟩)
theorem Bin.mul {a b : Int} (hm : IntMulOk a b) : Bin G n .Mult (.int a) (.int b) (.int (a * b)) := by
  rintro A s M _ _ Q E _ _ ⟨t, rfl⟩ ⟨u, rfl⟩ _ h
  exact mul_int (hm := hm) (h _ s.heap _ (Kp.refl _) ⟨_, rfl⟩)
theorem Bin.fdiv {a b : Int} (hb : b ≠ 0) (hs : b.natAbs < 1073741824) : Bin G n .FloorDiv (.int a) (.int b) (.int (a.fdiv b)) := by
  rintro A s M _ _ Q E _ _ ⟨t, rfl⟩ ⟨u, rfl⟩ _ h
  exact floordiv_int hb (hp := .inl (PyProof.noPylong_small hs)) (h _ s.heap _ (Kp.refl _) ⟨_, rfl⟩)
theorem Bin.mod {a b : Int} (hb : b ≠ 0) : Bin G n .Mod (.int a) (.int b) (.int (a.fmod b)) := by
  rintro A s M _ _ Q E _ _ ⟨t, rfl⟩ ⟨u, rfl⟩ _ h
  exact mod_int hb (h _ s.heap _ (Kp.refl _) ⟨_, rfl⟩)
theorem Bin.pow {a b : Int} (h0 : 0 ≤ b) (h1 : b ≤ 1000000) (ha : a.natAbs < 2 ^ 64) : Bin G n .Pow (.int a) (.int b) (.int (a ^ b.toNat)) := by
  rintro A s M _ _ Q E _ _ ⟨t, rfl⟩ ⟨u, rfl⟩ _ h
  exact pow_int_small h0 h1 ha (h _ s.heap _ (Kp.refl _) ⟨_, rfl⟩)
theorem Bin.shl {a b : Int} (h0 : 0 ≤ b) (h1 : b ≤ 1000000) (ha : a.natAbs < 2 ^ 64) : Bin G n .LShift (.int a) (.int b) (.int (a * 2 ^ b.toNat)) := by
  rintro A s M _ _ Q E _ _ ⟨t, rfl⟩ ⟨u, rfl⟩ _ h
  exact lshift_int_small h0 h1 ha (h _ s.heap _ (Kp.refl _) ⟨_, rfl⟩)
theorem Bin.band {a b : Int} : Bin G n .BitAnd (.int a) (.int b) (.int (Builtin.bitAnd a b)) := by
  rintro A s M _ _ Q E _ _ ⟨t, rfl⟩ ⟨u, rfl⟩ _ h
  exact and_int (h _ s.heap _ (Kp.refl _) ⟨_, rfl⟩)
theorem Bin.cat {x y : Str} (hz : x.length + y.length ≤ sizeLine) : Bin G n .Add (.str x) (.str y) (.str (x ++ y)) := by
  rintro A s M _ _ Q E _ _ ⟨t, rfl⟩ ⟨u, rfl⟩ _ h
  exact add_str (hsz := hz) fun t' tk => h _ s.heap _ (Kp.refl _) ⟨_, rfl⟩
theorem Cmp.lt {a b : Int} : Cmp G n .Lt (.int a) (.int b) (decide (a < b)) := by
  rintro A s M _ _ Q E _ _ ⟨t, rfl⟩ ⟨u, rfl⟩ _ h
  exact lt_int (h s.heap _ (Kp.refl _))
theorem Cmp.gt {a b : Int} : Cmp G n .Gt (.int a) (.int b) (decide (b < a)) := by
  rintro A s M _ _ Q E _ _ ⟨t, rfl⟩ ⟨u, rfl⟩ _ h
  exact gt_int (h s.heap _ (Kp.refl _))
theorem Cmp.ge {a b : Int} : Cmp G n .GtE (.int a) (.int b) (decide (b ≤ a)) := by
  rintro A s M _ _ Q E _ _ ⟨t, rfl⟩ ⟨u, rfl⟩ _ h
  exact ge_int (h s.heap _ (Kp.refl _))
theorem Cmp.le {a b : Int} : Cmp G n .LtE (.int a) (.int b) (decide (a ≤ b)) := by
  rintro A s M _ _ Q E _ _ ⟨t, rfl⟩ ⟨u, rfl⟩ _ h
  exact le_int (h s.heap _ (Kp.refl _))
theorem Cmp.eq {a b : Int} : Cmp G n .Eq (.int a) (.int b) (a == b) := by
  rintro A s M _ _ Q E _ _ ⟨t, rfl⟩ ⟨u, rfl⟩ _ h
  exact eq_int (h s.heap _ (Kp.refl _))
theorem Cmp.ne {a b : Int} : Cmp G n .NotEq (.int a) (.int b) (a != b) := by
  rintro A s M _ _ Q E _ _ ⟨t, rfl⟩ ⟨u, rfl⟩ _ h
  exact ne_int (h s.heap _ (Kp.refl _))
theorem Cmp.neStr {x y : Str} : Cmp G n .NotEq (.str x) (.str y) (x != y) := by
  rintro A s M _ _ Q E _ _ ⟨t, rfl⟩ ⟨u, rfl⟩ _ h
  exact ne_str (h s.heap _ (Kp.refl _))

/-- a list's or a tuple's display -/
noncomputable def EvL (G : GC) (cx : Cx) (n : Nat) (ow : Ow) (ρ : Vs) (es : List Expr) (ds : List D) : Prop :=
  ∀ (A : Around) (s : Shared) (M W : List Addr) (p : Pos) (Q : List Value → Shared → Prop) (E : Value → Shared → Prop), Amb A n → St G cx M W ow ρ s.heap →
    (∀ vs h' tk, Kp s.heap h' → RepL G M h' ds vs → Q vs { s with heap := h', toks := tk }) → wpAny (model G.prog G.w) A (spliced (backTo p (starEach es cx.env))) Q E s
theorem EvL.nil : EvL G cx n ow ρ [] [] := by
  intro A s M W p Q E a st h
  exact wpAny_items_nil (h [] s.heap s.toks (Kp.refl _) .nil)
theorem EvL.cons {es : List Expr} {ds : List D} (x : Ev G cx n ow ρ e d) (y : EvL G cx n ow ρ es ds) (he : starEach (e :: es) cx.env = (false, eval e cx.env) :: starEach es cx.env := by rfl) : EvL G cx n ow ρ (e :: es) (d :: ds) := by
  intro A s M W p Q E a st h
  refine wpAny_items_cons (he := he) (x.to a st fun u h1 t1 k1 r1 => ?_)
  exact y A _ M W p _ E a (st.kp k1) fun vs h2 t2 k2 r2 => h _ h2 t2 (k1.trans k2) (.cons (r1.kp k2) r2)
theorem new_rep {h : Heap} {M : List Addr} {o : Obj} (hl : ∀ a ∈ M, (h.get? a).isSome = true) : h.objs.size ∉ M := fun q => by
  obtain ⟨o', ho⟩ := Option.isSome_iff_exists.mp (hl _ q)
  exact absurd (Heap.lt_size ho) (Nat.lt_irrefl _)
theorem Ev.tuple {es : List Expr} {ds : List D} {k : Nat} (x : EvL G cx n ow ρ es ds) (hz : ds.length ≤ sizeLine) : Ev G cx n ow ρ (.Tuple es k pos) (.tup ds) := by
  intro A s M W Q E a st h
  refine wpAny_Tuple (x A s M W pos _ E a st fun vs h1 t1 k1 r1 => ⟨by rw [r1.length]; exact hz, ?_⟩)
  refine h _ _ _ (k1.trans (Kp.push h1 _)) ?_
  unfold Rep
  exact ⟨_, vs, rfl, new_rep (o := default) (st.kp k1).live, ⟨_, Heap.get?_push_size _ rfl, rfl, _, rfl⟩, r1.kp (Kp.push _ _)⟩
theorem Ev.list {es : List Expr} {ds : List D} (x : EvL G cx n ow ρ es ds) (hz : ds.length ≤ sizeLine) : Ev G cx n ow ρ (.List es pos) (.lst ds) := by
  intro A s M W Q E a st h
  refine wpAny_List (x A s M W pos _ E a st fun vs h1 t1 k1 r1 => ⟨by rw [r1.length]; exact hz, ?_⟩)
  refine h _ _ _ (k1.trans (Kp.push h1 _)) ?_
  unfold Rep
  exact ⟨_, vs, rfl, new_rep (o := default) (st.kp k1).live, ⟨_, Heap.get?_push_size _ rfl⟩, r1.kp (Kp.push _ _)⟩
end
end Mine
end
section
open PySem PySem.Calls PyProof.Rows
namespace Mine

/-- texts as lists of signs -/
noncomputable def T (l : List Nat) : Str := ⟨l.toArray⟩
theorem T_len (l : List Nat) : (T l).length = l.length := by simp [T, Str.length]
theorem T_append (a b : List Nat) : T a ++ T b = T (a ++ b) := by
  show Str.append (T a) (T b) = T (a ++ b)
  simp [T, Str.append]

section
variable {G : GC} {cx : Cx} {n : Nat} {ow : Ow} {ρ : Vs} {pos p : Pos} {e l r value slice : Expr} {d d1 d2 : D}

theorem Ev.subL {ds : List D} {k : Int} (x : Ev G cx n ow ρ value (.lst ds)) (y : Ev G cx n ow ρ slice (.int k)) (h0 : 0 ≤ k) (hf : k < 1000000) (hd : ds[k.toNat]? = some d)
    (hs : ∀ a k u, subscripted slice false (.ref a) (.int k u) = operate [.ref a, .int k u] (getItem (.ref a) (.int k u)) := by intros; with_unfolding_all rfl) :
    Ev G cx n ow ρ (.Subscript value slice pos) d := by
  intro A s M W Q E a st h
  refine Subscript_ (x.to a st fun u h1 t1 k1 r1 => ?_)
  refine y.to a (st.kp k1) fun v h2 t2 k2 r2 => ?_
  obtain ⟨t, rfl⟩ := r2
  unfold Rep at r1
  obtain ⟨b, vs, rfl, hb, hl, hr⟩ := r1
  obtain ⟨v, hv, rv⟩ := (hr.kp k2).get' hd
  have hl2 : h2.IsList b vs.toArray := (hl.at fun o e => k2 b o e).isList
  exact tail_any hl2.typeIs slot_list_getitem.lookup (wpAny_getItem_list hl2 h0 (by omega) (by simpa using hv) (h v h2 t2 (k1.trans k2) rv)) (hs _ _ _)
theorem Ev.subT {ds : List D} {k : Int} (x : Ev G cx n ow ρ value (.tup ds)) (y : Ev G cx n ow ρ slice (.int k)) (h0 : 0 ≤ k) (hf : k < 1000000) (hd : ds[k.toNat]? = some d)
    (hs : ∀ a k u, subscripted slice false (.ref a) (.int k u) = operate [.ref a, .int k u] (getItem (.ref a) (.int k u)) := by intros; with_unfolding_all rfl) :
    Ev G cx n ow ρ (.Subscript value slice pos) d := by
  intro A s M W Q E a st h
  refine Subscript_ (x.to a st fun u h1 t1 k1 r1 => ?_)
  refine y.to a (st.kp k1) fun v h2 t2 k2 r2 => ?_
  obtain ⟨t, rfl⟩ := r2
  unfold Rep at r1
  obtain ⟨b, vs, rfl, hb, hl, hr⟩ := r1
  obtain ⟨v, hv, rv⟩ := (hr.kp k2).get' hd
  have hl2 : h2.IsTuple b vs.toArray := hl.at fun o e => k2 b o e
  have hlt : k.toNat < vs.length := (List.getElem?_eq_some_iff.mp hv).1
  exact item_tupleT (j := k.toNat) hl2 (by omega) (by omega) (by
    unfold seqIndex?
    have : ¬ k < 0 := by omega
    simp only [this, if_false]
    rw [if_pos (by simp only [Bool.and_eq_true, decide_eq_true_eq]; omega)]) hv (h v h2 t2 (k1.trans k2) rv) (hs _ _ _)
theorem Ev.subS {x : List Nat} {k : Int} {c : Nat} (hx : Ev G cx n ow ρ value (.str (T x))) (y : Ev G cx n ow ρ slice (.int k)) (h0 : 0 ≤ k) (hf : k < 1000000) (hd : x[k.toNat]? = some c)
    (hs : ∀ z t k u, subscripted slice false (.str z t) (.int k u) = operate [.str z t, .int k u] (getItem (.str z t) (.int k u)) := by intros; with_unfolding_all rfl) :
    Ev G cx n ow ρ (.Subscript value slice pos) (.str (T [c])) := by
  intro A s M W Q E a st h
  refine Subscript_ (hx.to a st fun u h1 t1 k1 r1 => ?_)
  refine y.to a (st.kp k1) fun v h2 t2 k2 r2 => ?_
  obtain ⟨t, rfl⟩ := r2
  obtain ⟨u, rfl⟩ := r1
  have hlt : k.toNat < x.length := (List.getElem?_eq_some_iff.mp hd).1
  refine tail_any (typeIs_str _ (T x) u) slot_str_getitem.lookup (getItem_str (c := c) (by simp only [Bool.or_eq_false_iff, decide_eq_false_iff_not]; omega) ?_ (h _ h2 _ (k1.trans k2) ⟨_, rfl⟩)) (hs _ _ _ _)
  have : seqIndex? k (T x).length = some k.toNat := by
    rw [T_len]
    unfold seqIndex?
    have : ¬ k < 0 := by omega
    simp only [this, if_false]
    rw [if_pos (by simp only [Bool.and_eq_true, decide_eq_true_eq]; omega)]
  rw [this]
  simpa [T] using hd

/-- a slice's part -/
noncomputable def EvP (G : GC) (cx : Cx) (n : Nat) (ow : Ow) (ρ : Vs) (x : Option Expr) (k : Option Int) : Prop :=
  ∀ (A : Around) (s : Shared) (M W : List Addr) (Q E : Value → Shared → Prop), Amb A n → St G cx M W ow ρ s.heap →
    (∀ v h' tk, Kp s.heap h' → (match k with | none => v = .none | some i => ∃ t, v = .int i t) → Q v { s with heap := h', toks := tk }) → wpAny (model G.prog G.w) A (evalPart x cx.env) Q E s
theorem EvP.none : EvP G cx n ow ρ none none := by
  intro A s M W Q E a st h
  rw [evalPart_none]
  exact wpAny_pure (h _ s.heap s.toks (Kp.refl _) rfl)
theorem EvP.some {i : Int} (x : Ev G cx n ow ρ e (.int i)) : EvP G cx n ow ρ (some e) (some i) := by
  intro A s M W Q E a st h
  rw [evalPart_some]
  exact x.to a st fun v h1 t1 k1 r1 => h v h1 t1 k1 r1

/-- what a slice by ones takes -/
noncomputable def cut {α : Type} (xs : List α) : Option Int → Option Int → List α
  | none, none => xs
  | none, some b => xs.take b.toNat
  | some a, none => xs.drop a.toNat
  | some a, some b => (xs.drop a.toNat).take (b.toNat - a.toNat)
noncomputable def okPart : Option Int → Prop
  | none => True
  | some i => 0 ≤ i

theorem slicePick_cut (items : List Value) (lo hi : Option Int) (h1 : okPart lo) (h2 : okPart hi) (h3 : lo = none ∨ hi = none) : slicePick items.toArray lo hi none = (cut items lo hi).toArray := by
  cases lo with
  | none =>
    cases hi with
    | none => simp [slicePick_all, cut]
    | some b =>
      have hb : 0 ≤ b := h2
      by_cases hle : b.toNat ≤ items.length
      · have := slicePick_upto items.toArray b.toNat (by simpa using hle)
        rw [show ((b.toNat : Nat) : Int) = b by omega] at this
        rw [this]; simp [cut]
      · have e : sliceBounds none (some b) none items.toArray.size = sliceBounds none none none items.toArray.size := by
          have : ¬ b < 0 := by omega
          simp only [sliceBounds, Option.getD_none, show (1 : Int) > 0 by decide, if_true, this, if_false, List.size_toArray]
          congr 2; omega
        have : slicePick items.toArray none (some b) none = slicePick items.toArray none none none := by unfold slicePick; rw [e]
        rw [this, slicePick_all]
        simp only [cut]
        rw [List.take_of_length_le (by omega)]
  | some a =>
    have ha : 0 ≤ a := h1
    cases hi with
    | some b => rcases h3 with h | h <;> cases h
    | none =>
      by_cases hle : a.toNat ≤ items.length
      · have := slicePick_from items.toArray a.toNat (by simpa using hle)
        rw [show ((a.toNat : Nat) : Int) = a by omega] at this
        rw [this]; simp [cut]
      · have e : sliceBounds (some a) none none items.toArray.size = sliceBounds (some (items.toArray.size : Int)) none none items.toArray.size := by
          have h : ¬ a < 0 := by omega
          have h' : ¬ ((items.toArray.size : Int) < 0) := by omega
          simp only [sliceBounds, Option.getD_none, show (1 : Int) > 0 by decide, if_true, h, h', if_false, List.size_toArray]
          congr 1; omega
        have : slicePick items.toArray (some a) none none = slicePick items.toArray (some (items.toArray.size : Int)) none none := by unfold slicePick; rw [e]
        rw [this, slicePick_from _ _ (Nat.le_refl _)]
        simp only [cut, List.size_toArray]
        rw [List.drop_of_length_le (by simp), List.drop_of_length_le (by omega)]
theorem RepL.cut {M : List Addr} {h : Heap} {ds : List D} {vs : List Value} (lo hi : Option Int) (r : RepL G M h ds vs) : RepL G M h (cut ds lo hi) (cut vs lo hi) := by
  cases lo <;> cases hi
  · exact r
  · exact r.take _
  · exact r.drop _
  · exact (r.drop _).take _

theorem Ev.cutL {ds : List D} {lower upper : Option Expr} {lo hi : Option Int} (x : Ev G cx n ow ρ value (.lst ds)) (y : EvP G cx n ow ρ lower lo) (z : EvP G cx n ow ρ upper hi)
    (h1 : okPart lo) (h2 : okPart hi) (h3 : lo = none ∨ hi = none) (hz : ds.length ≤ sizeLine) :
    Ev G cx n ow ρ (.Subscript value (.Slice lower upper none p) pos) (.lst (cut ds lo hi)) := by
  intro A s M W Q E a st h
  refine Subscript_ (x.to a st fun u ha t1 k1 r1 => ?_)
  refine wpAny_Slice (y A _ M W _ E a (st.kp k1) fun vl hb t2 k2 pl => ?_)
  refine z A _ M W _ E a ((st.kp k1).kp k2) fun vu hc t3 k3 pu => ?_
  rw [evalPart_none]
  refine wpAny_pure ?_
  unfold Rep at r1
  obtain ⟨b, vs, rfl, hbm, hl, hr⟩ := r1
  have hl2 : hc.IsList b vs.toArray := ((hl.at fun o e => k2 b o e).at fun o e => k3 b o e).isList
  have pl' : IsPart vl lo := by cases lo with
    | none => cases pl; exact .none
    | some i => obtain ⟨t, rfl⟩ := pl; exact .int i t
  have pu' : IsPart vu hi := by cases hi with
    | none => cases pu; exact .none
    | some i => obtain ⟨t, rfl⟩ := pu; exact .int i t
  refine tail_any (s := { s with heap := hc.push { cls := .type "slice", data := .fields #[vl, vu, .none] }, toks := t3 }) (ops := [.ref hc.objs.size, .ref b]) (hl2.push _).typeIs slot_list_getitem.lookup
    (wpAny_getItem_list_slice (hl2.push _) (Heap.IsSliceOf.new ..) pl' pu' .none (by simp) ?_ (by simpa [hr.length] using hz)) rfl
  rw [slicePick_cut vs lo hi h1 h2 h3]
  have kk : Kp s.heap ((hc.push { cls := .type "slice", data := .fields #[vl, vu, .none] }).push { cls := .type "list", data := .seq (cut vs lo hi).toArray }) := ((k1.trans k2).trans k3).trans ((Kp.push _ _).trans (Kp.push _ _))
  refine h _ _ _ kk ?_
  unfold Rep
  refine ⟨_, cut vs lo hi, rfl, ?_, ⟨_, Heap.get?_push_size _ rfl⟩, RepL.cut lo hi (((hr.kp k2).kp k3).kp ((Kp.push _ _).trans (Kp.push _ _)))⟩
  exact new_rep (o := default) fun a ha => (((k1.trans k2).trans k3).trans (Kp.push _ _)).isSome (st.live a ha)

open Builtin Builtin.Str in
theorem sliceMade_cut (x : List Nat) (t : Tok) (lo hi : Option Int) (lo' hi' : Option (Int × Tok)) (el : lo'.map (·.1) = lo) (eh : hi'.map (·.1) = hi) (h1 : okPart lo) (h2 : okPart hi) (h3 : lo = none ∨ hi = none)
    {Q : Value → Shared → Prop} {s : Shared} (hz : x.length ≤ sizeLine) (h : ∀ t' tk, Q (.str (T (cut x lo hi)) t') { s with toks := tk }) : (sliceMade (T x) t lo' hi' none).post Q s := by
  have pick : slicePicked (T x) lo' hi' none = strSliceIndices lo hi 1 x.length := by unfold slicePicked; rw [el, eh, T_len]; rfl
  have main : (strSliceIndices lo hi 1 x.length).filterMap ((T x).cps[·]?) = cut x lo hi := by
    have run := fun a k => pick_run (T x).cps a k
    cases lo with
    | none =>
      cases hi with
      | none =>
        rw [show strSliceIndices none none 1 x.length = PySem.sliceRange ((0 : Nat) : Int) ((x.length : Nat) : Int) 1 from rfl, sliceRange_one, run]
        simp [T, cut]
      | some b =>
        have hb : 0 ≤ b := h2
        have e : strSliceIndices none (some b) 1 x.length = PySem.sliceRange ((0 : Nat) : Int) ((min b.toNat x.length : Nat) : Int) 1 := by
          have : ¬ b < 0 := by omega
          simp only [strSliceIndices, show (1 : Int) > 0 by decide, if_true, this, if_false]
          congr 1; omega
        rw [e, sliceRange_one, run]
        simp only [T, cut, List.drop_zero, Nat.sub_zero]
        by_cases hle : b.toNat ≤ x.length
        · rw [Nat.min_eq_left hle]
        · rw [Nat.min_eq_right (by omega), List.take_of_length_le (Nat.le_refl _), List.take_of_length_le (by omega)]
    | some a =>
      have ha : 0 ≤ a := h1
      cases hi with
      | some b => rcases h3 with h | h <;> cases h
      | none =>
        have e : strSliceIndices (some a) none 1 x.length = PySem.sliceRange ((min a.toNat x.length : Nat) : Int) ((x.length : Nat) : Int) 1 := by
          have : ¬ a < 0 := by omega
          simp only [strSliceIndices, show (1 : Int) > 0 by decide, if_true, this, if_false]
          congr 1; omega
        rw [e, sliceRange_one, run]
        simp only [T, cut]
        by_cases hle : a.toNat ≤ x.length
        · rw [Nat.min_eq_left hle, List.take_of_length_le (by simp)]
        · rw [Nat.min_eq_right (by omega), List.drop_of_length_le (Nat.le_refl _), List.drop_of_length_le (by omega)]; simp
  have le : (cut x lo hi).length ≤ x.length := by
    cases lo <;> cases hi <;> simp [cut] <;> omega
  unfold sliceMade
  rw [pick]
  simp only [Option.map_none, Option.getD_none, beq_self_eq_true, Bool.true_and]
  split
  · rename_i hw
    have hlen : (strSliceIndices lo hi 1 x.length).length = x.length := by simpa [T_len] using hw
    have : cut x lo hi = x := by
      cases lo with
      | none =>
        cases hi with
        | none => rfl
        | some b =>
          have hb : 0 ≤ b := h2
          have e : strSliceIndices none (some b) 1 x.length = PySem.sliceRange ((0 : Nat) : Int) ((min b.toNat x.length : Nat) : Int) 1 := by
            have : ¬ b < 0 := by omega
            simp only [strSliceIndices, show (1 : Int) > 0 by decide, if_true, this, if_false]
            congr 1; omega
          rw [e, sliceRange_one] at hlen
          simp at hlen
          simp only [cut]
          exact List.take_of_length_le (by omega)
      | some a =>
        have ha : 0 ≤ a := h1
        cases hi with
        | some b => rcases h3 with h | h <;> cases h
        | none =>
          have e : strSliceIndices (some a) none 1 x.length = PySem.sliceRange ((min a.toNat x.length : Nat) : Int) ((x.length : Nat) : Int) 1 := by
            have : ¬ a < 0 := by omega
            simp only [strSliceIndices, show (1 : Int) > 0 by decide, if_true, this, if_false]
            congr 1; omega
          rw [e, sliceRange_one] at hlen
          simp at hlen
          simp only [cut]
          by_cases h0 : x.length = 0
          · have : x = [] := List.length_eq_zero_iff.mp h0
            subst this; simp
          · have : a.toNat = 0 := by omega
            rw [this]; rfl
    rw [this] at h
    exact h t s.toks
  · rw [main]
    have hx := h s.toks (s.toks + 1)
    exact ⟨by show (T (cut x lo hi)).length ≤ _; rw [T_len]; omega, hx⟩

theorem Ev.cutS {x : List Nat} {lower upper : Option Expr} {lo hi : Option Int} (hx : Ev G cx n ow ρ value (.str (T x))) (y : EvP G cx n ow ρ lower lo) (z : EvP G cx n ow ρ upper hi)
    (h1 : okPart lo) (h2 : okPart hi) (h3 : lo = none ∨ hi = none) (hz : x.length ≤ sizeLine) :
    Ev G cx n ow ρ (.Subscript value (.Slice lower upper none p) pos) (.str (T (cut x lo hi))) := by
  intro A s M W Q E a st h
  refine Subscript_ (hx.to a st fun u ha t1 k1 r1 => ?_)
  refine wpAny_Slice (y A _ M W _ E a (st.kp k1) fun vl hb t2 k2 pl => ?_)
  refine z A _ M W _ E a ((st.kp k1).kp k2) fun vu hc t3 k3 pu => ?_
  rw [evalPart_none]
  refine wpAny_pure ?_
  obtain ⟨t, rfl⟩ := r1
  have pl' : ∃ l', vl = partValue l' ∧ l'.map (·.1) = lo := by cases lo with
    | none => cases pl; exact ⟨none, rfl, rfl⟩
    | some i => obtain ⟨t, rfl⟩ := pl; exact ⟨some (i, t), rfl, rfl⟩
  have pu' : ∃ l', vu = partValue l' ∧ l'.map (·.1) = hi := by cases hi with
    | none => cases pu; exact ⟨none, rfl, rfl⟩
    | some i => obtain ⟨t, rfl⟩ := pu; exact ⟨some (i, t), rfl, rfl⟩
  obtain ⟨l', rfl, el⟩ := pl'
  obtain ⟨u', rfl, eu⟩ := pu'
  refine tail_any (s := { s with heap := hc.push { cls := .type "slice", data := .fields #[partValue l', partValue u', .none] }, toks := t3 }) (ops := [.ref hc.objs.size, .str (T x) t]) (typeIs_str _ (T x) t) slot_str_getitem.lookup
    (wpAny_getItem_str_slice (l := l') (u := u') (st := none) ⟨_, Heap.get?_push_size _ rfl, rfl, rfl⟩ rfl (sliceMade_cut x t lo hi l' u' el eu h1 h2 h3 hz fun t' tk => ?_)) rfl
  exact h _ _ _ (((k1.trans k2).trans k3).trans (Kp.push _ _)) ⟨_, rfl⟩
end
end Mine
end
section
open PySem PySem.Calls PyProof.Rows
namespace Mine

section
variable {G : GC} {cx : Cx} {n : Nat} {ow : Ow} {ρ : Vs} {pos p : Pos} {e l r value slice : Expr} {d d1 d2 : D}

/-- a function's value, called -/
noncomputable def CallB (G : GC) (n : Nat) (f : Value) (ds : List D) (d : D) : Prop :=
  ∀ (A : Around) (s : Shared) (M : List Addr) (vs : List Value) (Q E : Value → Shared → Prop), Amb A n → Gd G s.heap → RepL G M s.heap ds vs → (∀ a ∈ M, (s.heap.get? a).isSome = true) →
    (∀ v h' tk, Kp s.heap h' → Rep G M h' d v → Q v { s with heap := h', toks := tk }) → wpAny (model G.prog G.w) A (call f vs) Q E s

theorem st_kind {M W : List Addr} {h : Heap} (st : St G cx M W ow ρ h) : cx.env.scope.kind = .function ∧ cx.env.globals = mainGlobals ∧ cx.env.builtins = builtinsNs := let ⟨_, z, _⟩ := st; ⟨z.fn, z.gl, z.bl⟩

theorem evName_glob {x : Str} {v : Value} {A : Around} {s : Shared} {M W : List Addr} {Q E : Value → Shared → Prop} (st : St G cx M W ow ρ s.heap) (hk : cx.env.kindOf x = some .globalImplicit) (hv : G.mg x = some v) (h : Q v s)
    (hd : (x == ("__debug__" : Str)) = false := by decide) : wpAny (model G.prog G.w) A (eval (.Name x pos) cx.env) Q E s := by
  obtain ⟨h1, h2, h3⟩ := st_kind st
  exact Name_function_global h1 hk (loadGlobal_global (mg := G.mg) (h2 ▸ st.gdh.g) hv h) hd
theorem evName_boot {x : Str} {v : Value} {A : Around} {s : Shared} {M W : List Addr} {Q E : Value → Shared → Prop} (st : St G cx M W ow ρ s.heap) (hk : cx.env.kindOf x = some .globalImplicit) (hx : x ∈ bNames) (hv : bootBuiltins x = some v) (h : Q v s)
    (hd : (x == ("__debug__" : Str)) = false) (hn : x ≠ "__name__") : wpAny (model G.prog G.w) A (eval (.Name x pos) cx.env) Q E s := by
  obtain ⟨h1, h2, h3⟩ := st_kind st
  exact Name_function_global h1 hk (loadGlobal_builtin (mg := G.mg) (mb := G.mb) (h2 ▸ st.gdh.g) (st.gdh.no x hx) (h3 ▸ st.gdh.b) (st.gdh.bi x v ⟨hv, hn⟩) h) hd

/-- a global int -/
theorem Ev.top {x : Str} {i : Int} (hk : cx.env.kindOf x = some .globalImplicit) (hi : topInt x = some i) (hd : (x == ("__debug__" : Str)) = false := by decide) : Ev G cx n ow ρ (.Name x pos) (.int i) := by
  intro A s M W Q E a st h
  obtain ⟨t, ht⟩ := st.gdh.tops x i hi
  exact evName_glob st hk ht (h _ s.heap s.toks (Kp.refl _) ⟨t, rfl⟩) hd

noncomputable def plainArgs (es : List Expr) (env : Env) : Prop := ∃ e r, es = e :: r ∧ starEach es env = (false, eval e env) :: starEach r env ∧ ∀ p, (backTo p (starEach r env)).any (·.1) = false

theorem Ev.callB {f : Str} {id : String} {es : List Expr} {ds : List D} {fp : Pos} (hk : cx.env.kindOf f = some .globalImplicit) (hx : f ∈ bNames) (hv : bootBuiltins f = some (.builtin id)) (x : EvL G cx n ow ρ es ds) (y : CallB G n (.builtin id) ds d)
    (pa : plainArgs es cx.env) (hd : (f == ("__debug__" : Str)) = false := by decide) (hn : f ≠ "__name__" := by decide) : Ev G cx n ow ρ (.Call (.Name f fp) es [] pos) d := by
  intro A s M W Q E a st h
  refine wpAny_Call_Name_kw (evName_boot st hk hx hv ?_ hd hn)
  obtain ⟨e, r, rfl, he, hp⟩ := pa
  refine callWith_method1 (first := []) (x A s M W pos _ E a st fun vs h1 t1 k1 r1 => ?_) he (hp pos)
  exact y A _ M vs Q E a (st.kp k1).gdh r1 (st.kp k1).live fun v h2 t2 k2 r2 => h v h2 t2 (k1.trans k2) r2

theorem RepL.one {M : List Addr} {h : Heap} {vs : List Value} (x : RepL G M h [d] vs) : ∃ v, vs = [v] ∧ Rep G M h d v := by
  unfold RepL at x
  obtain ⟨v, vs', rfl, r, q⟩ := x
  unfold RepL at q
  subst q
  exact ⟨v, rfl, r⟩
theorem RepL.two {M : List Addr} {h : Heap} {vs : List Value} (x : RepL G M h [d1, d2] vs) : ∃ u v, vs = [u, v] ∧ Rep G M h d1 u ∧ Rep G M h d2 v := by
  unfold RepL at x
  obtain ⟨u, vs', rfl, r, q⟩ := x
  obtain ⟨v, rfl, r'⟩ := RepL.one q
  exact ⟨u, v, rfl, r, r'⟩
theorem RepL.ints : ∀ {ns : List Int} {M : List Addr} {h : Heap} {vs : List Value}, RepL G M h (ns.map D.int) vs → IntsAre vs ns
  | [], _, _, _, x => by unfold RepL at x; subst x; exact .nil
  | i :: ns, M, h, vs, x => by
    rw [List.map_cons] at x
    unfold RepL at x
    obtain ⟨v, vs', rfl, ⟨t, rfl⟩, q⟩ := x
    exact .cons i t (RepL.ints q)
theorem RepL.strs : ∀ {ns : List Str} {M : List Addr} {h : Heap} {vs : List Value}, RepL G M h (ns.map D.str) vs → StrsAre vs ns
  | [], _, _, _, x => by unfold RepL at x; subst x; exact .nil
  | i :: ns, M, h, vs, x => by
    rw [List.map_cons] at x
    unfold RepL at x
    obtain ⟨v, vs', rfl, ⟨t, rfl⟩, q⟩ := x
    exact .cons i t (RepL.strs q)
theorem ints_rep : ∀ {ns : List Int} {M : List Addr} {h : Heap} {vs : List Value}, IntsAre vs ns → RepL G M h (ns.map D.int) vs
  | _, _, _, _, .nil => .nil
  | _, _, _, _, .cons i t x => .cons ⟨t, rfl⟩ (ints_rep x)

theorem CallB.max2 {a b : Int} : CallB G n (.builtin "max") [.int a, .int b] (.int (if b > a then b else a)) := by
  intro A s M vs Q E am g r _ h
  obtain ⟨u, v, rfl, ⟨t, rfl⟩, ⟨t', rfl⟩⟩ := r.two
  refine max_two_ints am.handled fun h' tk k => ?_
  refine h _ h' tk k ?_
  split
  · exact ⟨t', rfl⟩
  · exact ⟨t, rfl⟩
theorem CallB.len {ds : List D} (hz : ds.length ≤ sizeLine) : CallB G n (.builtin "len") [.lst ds] (.int ds.length) := by
  intro A s M vs Q E am g r _ h
  obtain ⟨u, rfl, x⟩ := r.one
  unfold Rep at x
  obtain ⟨a, vs, rfl, _, hl, hr⟩ := x
  have hlen := hr.length
  refine len_list hl.isList (by rw [List.size_toArray, hlen]; rw [sizeLine_eq] at hz; omega) ?_
  have e : ((vs.toArray.size : Nat) : Int) = ds.length := by rw [List.size_toArray, hlen]
  rw [e]
  exact h _ s.heap _ (Kp.refl _) ⟨_, rfl⟩
theorem CallB.sum {ns : List Int} : CallB G n (.builtin "sum") [.lst (ns.map D.int)] (.int ns.sum) := by
  intro A s M vs Q E am g r _ h
  obtain ⟨u, rfl, x⟩ := r.one
  unfold Rep at x
  obtain ⟨a, vs, rfl, _, hl, hr⟩ := x
  have hi := hr.ints
  obtain ⟨xs, hxs⟩ := hi.allInts.items
  have hl' := hl.isList
  rw [hxs] at hl'
  refine sum_intListG am.handled hl' fun h' tk t' k => ?_
  have e : preSum (numAt xs) xs.size = ns.sum := by
    have := hi.numsOf
    rw [show vs = vs.toArray.toList from rfl, hxs, nums_intItems] at this
    rw [preSum_eq, List.take_of_length_le (by simp), this]
  rw [e]
  exact h _ h' tk k ⟨t', rfl⟩
/-- the greatest, the least of some ints -/
noncomputable def topOf (ns : List Int) : Int := ns.foldl max (ns.headD 0)
noncomputable def lowOf (ns : List Int) : Int := ns.foldl min (ns.headD 0)
theorem foldl_max_le : ∀ (ns : List Int) (a : Int), a ≤ ns.foldl max a ∧ (∀ x ∈ ns, x ≤ ns.foldl max a) ∧ (ns.foldl max a = a ∨ ns.foldl max a ∈ ns)
  | [], a => ⟨Int.le_refl _, fun _ h => (nomatch h), .inl rfl⟩
  | b :: r, a => by
    obtain ⟨h1, h2, h3⟩ := foldl_max_le r (max a b)
    simp only [List.foldl_cons]
    refine ⟨by omega, fun x hx => ?_, ?_⟩
    · rcases List.mem_cons.mp hx with rfl | hx
      · omega
      · exact h2 x hx
    · rcases h3 with h3 | h3
      · by_cases q : a ≤ b
        · right; rw [h3, Int.max_eq_right q]; exact List.mem_cons_self
        · left; rw [h3, Int.max_eq_left (by omega)]
      · right; exact List.mem_cons_of_mem _ h3
theorem foldl_min_le : ∀ (ns : List Int) (a : Int), ns.foldl min a ≤ a ∧ (∀ x ∈ ns, ns.foldl min a ≤ x) ∧ (ns.foldl min a = a ∨ ns.foldl min a ∈ ns)
  | [], a => ⟨Int.le_refl _, fun _ h => (nomatch h), .inl rfl⟩
  | b :: r, a => by
    obtain ⟨h1, h2, h3⟩ := foldl_min_le r (min a b)
    simp only [List.foldl_cons]
    refine ⟨by omega, fun x hx => ?_, ?_⟩
    · rcases List.mem_cons.mp hx with rfl | hx
      · omega
      · exact h2 x hx
    · rcases h3 with h3 | h3
      · by_cases q : a ≤ b
        · left; rw [h3, Int.min_eq_left q]
        · right; rw [h3, Int.min_eq_right (by omega)]; exact List.mem_cons_self
      · right; exact List.mem_cons_of_mem _ h3
theorem topOf_is {ns : List Int} {M : Int} (hM : M ∈ ns) (ha : ∀ a ∈ ns, a ≤ M) : topOf ns = M := by
  obtain ⟨h1, h2, h3⟩ := foldl_max_le ns (ns.headD 0)
  have := h2 M hM
  have hh : topOf ns ∈ ns := by
    rcases h3 with h3 | h3
    · unfold topOf; rw [h3]
      cases ns with
      | nil => cases hM
      | cons b r => exact List.mem_cons_self
    · exact h3
  have := ha _ hh
  unfold topOf at *
  omega
theorem lowOf_is {ns : List Int} {M : Int} (hM : M ∈ ns) (ha : ∀ a ∈ ns, M ≤ a) : lowOf ns = M := by
  obtain ⟨h1, h2, h3⟩ := foldl_min_le ns (ns.headD 0)
  have := h2 M hM
  have hh : lowOf ns ∈ ns := by
    rcases h3 with h3 | h3
    · unfold lowOf; rw [h3]
      cases ns with
      | nil => cases hM
      | cons b r => exact List.mem_cons_self
    · exact h3
  have := ha _ hh
  unfold lowOf at *
  omega
theorem CallB.maxL {ns : List Int} (hne : 0 < ns.length) : CallB G n (.builtin "max") [.lst (ns.map D.int)] (.int (topOf ns)) := by
  intro A s M vs Q E am g r _ h
  obtain ⟨u, rfl, x⟩ := r.one
  unfold Rep at x
  obtain ⟨a, vs, rfl, _, hl, hr⟩ := x
  have hi := hr.ints
  obtain ⟨xs, hxs⟩ := hi.allInts.items
  have hl' := hl.isList
  rw [hxs] at hl'
  have hn := hi.numsOf
  rw [show vs = vs.toArray.toList from rfl, hxs, nums_intItems] at hn
  have hsz : 0 < xs.size := by
    have : xs.toList.length = ns.length := by rw [← hn, List.length_map]
    rw [Array.length_toList] at this; omega
  refine max_intList am.handled hl' hsz fun v h' tk hv k => ?_
  obtain ⟨t, rfl⟩ := intItems_at hv
  obtain ⟨h1, h2⟩ := argBest_gt (numAt xs) (xs.size - 1)
  refine h _ h' tk k ⟨t, ?_⟩
  rw [topOf_is (M := numAt xs (argBest (fun i j => decide (numAt xs i > numAt xs j)) (xs.size - 1)))]
  · rw [← hn, numAt_eq]; exact getD_mem (by rw [List.length_map, Array.length_toList]; omega)
  · intro a ha
    rw [← hn] at ha
    obtain ⟨j, hj, rfl⟩ := mem_getD ha
    rw [List.length_map, Array.length_toList] at hj
    rw [← numAt_eq]; exact h2 j (by omega)
theorem CallB.minL {ns : List Int} (hne : 0 < ns.length) : CallB G n (.builtin "min") [.lst (ns.map D.int)] (.int (lowOf ns)) := by
  intro A s M vs Q E am g r _ h
  obtain ⟨u, rfl, x⟩ := r.one
  unfold Rep at x
  obtain ⟨a, vs, rfl, _, hl, hr⟩ := x
  have hi := hr.ints
  obtain ⟨xs, hxs⟩ := hi.allInts.items
  have hl' := hl.isList
  rw [hxs] at hl'
  have hn := hi.numsOf
  rw [show vs = vs.toArray.toList from rfl, hxs, nums_intItems] at hn
  have hsz : 0 < xs.size := by
    have : xs.toList.length = ns.length := by rw [← hn, List.length_map]
    rw [Array.length_toList] at this; omega
  refine min_intList am.handled hl' hsz fun v h' tk hv k => ?_
  obtain ⟨t, rfl⟩ := intItems_at hv
  obtain ⟨h1, h2⟩ := argBest_lt (numAt xs) (xs.size - 1)
  refine h _ h' tk k ⟨t, ?_⟩
  rw [lowOf_is (M := numAt xs (argBest (fun i j => decide (numAt xs i < numAt xs j)) (xs.size - 1)))]
  · rw [← hn, numAt_eq]; exact getD_mem (by rw [List.length_map, Array.length_toList]; omega)
  · intro a ha
    rw [← hn] at ha
    obtain ⟨j, hj, rfl⟩ := mem_getD ha
    rw [List.length_map, Array.length_toList] at hj
    rw [← numAt_eq]; exact h2 j (by omega)

/-- two lists, one behind the other -/
theorem Bin.catL {ds es : List D} (hz : ds.length + es.length ≤ sizeLine) : Bin G n .Add (.lst ds) (.lst es) (.lst (ds ++ es)) := by
  intro A s M u v Q E am g ru rv hl h
  unfold Rep at ru rv
  obtain ⟨a, vs, rfl, _, ⟨n1, h1⟩, r1⟩ := ru
  obtain ⟨b, ws, rfl, _, ⟨n2, h2⟩, r2⟩ := rv
  refine P.add_list (n := n1) (n2 := n2) (items := vs.toArray) (items2 := ws.toArray) h1 h2 ?_ (by simpa [r1.length, r2.length] using hz)
  refine h _ _ _ (Kp.push _ _) ?_
  unfold Rep
  exact ⟨_, vs ++ ws, rfl, new_rep (o := default) hl, ⟨0, by rw [← List.append_toArray]; exact Heap.get?_push_size _ rfl⟩, (r1.append r2).kp (Kp.push _ _)⟩

/-- == with the empty list -/
theorem Cmp.eqNil {ds : List D} : Cmp G n .Eq (.lst ds) (.lst []) ds.isEmpty := by
  intro A s M u v Q E am g ru rv hl h
  unfold Rep at ru rv
  obtain ⟨a, vs, rfl, _, h1, r1⟩ := ru
  obtain ⟨b, ws, rfl, _, h2, r2⟩ := rv
  have hw : ws = [] := by unfold RepL at r2; exact r2
  subst hw
  have hu : A.units < cLine := by have := am.units; show A.units < 9900; omega
  cases ds with
  | nil =>
    have hv : vs = [] := by unfold RepL at r1; exact r1
    subst hv
    exact SeqAt.eq_listAt (e := fun _ => true) h1.isList h2.isList rfl hu (fun j hj => by simp at hj) (h s.heap s.toks (Kp.refl _))
  | cons d ds =>
    refine SeqAt.eq_list_lengthsAt h1.isList h2.isList ?_ hu (h s.heap s.toks (Kp.refl _))
    have := r1.length
    simp only [List.size_toArray, this, List.length_cons, List.length_nil]
    simp
theorem Cmp.neNil {ds : List D} : Cmp G n .NotEq (.lst ds) (.lst []) (!ds.isEmpty) := by
  intro A s M u v Q E am g ru rv hl h
  unfold Rep at ru rv
  obtain ⟨a, vs, rfl, _, h1, r1⟩ := ru
  obtain ⟨b, ws, rfl, _, h2, r2⟩ := rv
  have hw : ws = [] := by unfold RepL at r2; exact r2
  subst hw
  have hu : A.units < cLine := by have := am.units; show A.units < 9900; omega
  cases ds with
  | nil =>
    have hv : vs = [] := by unfold RepL at r1; exact r1
    subst hv
    exact (SeqAt.RcNeAt.lists (e := fun _ => true) h1.isList h2.isList rfl hu (fun j hj => by simp at hj)) _ _ _ _ (h s.heap s.toks (Kp.refl _))
  | cons d ds =>
    refine (SeqAt.RcNeAt.lists_lengths h1.isList h2.isList ?_ hu) _ _ _ _ (h s.heap s.toks (Kp.refl _))
    have := r1.length
    simp only [List.size_toArray, this, List.length_cons, List.length_nil]
    simp
theorem IntsAre.at {vs : List Value} {ns : List Int} (h : IntsAre vs ns) : ∀ (j : Nat) (hj : j < vs.length), ∃ t, vs[j] = .int (ns.getD j 0) t := by
  induction h with
  | nil => intro j hj; simp at hj
  | cons i t _ ih =>
    intro j hj
    cases j with
    | zero => exact ⟨t, rfl⟩
    | succ j => obtain ⟨u, hu⟩ := ih j (by simpa using hj); exact ⟨u, by simpa using hu⟩
theorem all_eq_ints {ns ms : List Int} (h : ns.length = ms.length) : ((List.range ns.length).all fun j => ns.getD j 0 == ms.getD j 0) = decide (ns = ms) := by
  rw [Bool.eq_iff_iff, List.all_eq_true, decide_eq_true_eq]
  constructor
  · intro x
    refine List.ext_getElem h fun i h1 h2 => ?_
    have := x i (List.mem_range.mpr h1)
    simpa [List.getD_eq_getElem?_getD, h1, h2] using this
  · rintro rfl j _; simp
/-- != of two tuples of ints -/
theorem Cmp.neTup {ns ms : List Int} (hn : ns.length = ms.length) : Cmp G n .NotEq (.tup (ns.map D.int)) (.tup (ms.map D.int)) (!decide (ns = ms)) := by
  intro A s M u v Q E am g ru rv hl h
  unfold Rep at ru rv
  obtain ⟨a, vs, rfl, _, h1, r1⟩ := ru
  obtain ⟨b, ws, rfl, _, h2, r2⟩ := rv
  have hu : A.units < cLine := by have := am.units; show A.units < 9900; omega
  have hi := r1.ints
  have hj := r2.ints
  have e1 := hi.length
  have e2 := hj.length
  have main := (SeqAt.RcNeAt.tuples (e := fun j => ns.getD j 0 == ms.getD j 0) h1 h2 hu (fun j x y => by
    obtain ⟨t, ht⟩ := IntsAre.at hi j (by simpa using x)
    obtain ⟨t', ht'⟩ := IntsAre.at hj j (by simpa using y)
    have q1 : vs.toArray[j] = .int (ns.getD j 0) t := by simpa using ht
    have q2 : ws.toArray[j] = .int (ms.getD j 0) t' := by simpa using ht'
    rw [q1, q2]
    exact SeqAt.EqAt.int_int _ _ _ _)) G.prog G.w E Q
  refine main ?_
  have e3 : min vs.toArray.size ws.toArray.size = ns.length := by simp; omega
  have e4 : (vs.toArray.size == ws.toArray.size) = true := by simp; omega
  rw [e3, e4, Bool.and_true, all_eq_ints hn]
  exact h s.heap s.toks (Kp.refl _)
end
end Mine
end
section
open PySem PySem.Calls PyProof.Rows
namespace Mine

section
variable {G : GC} {cx : Cx} {n : Nat} {ow : Ow} {ρ : Vs} {pos p : Pos} {e l r value slice : Expr} {d d1 d2 : D}

/-- a built-in method called -/
theorem Ev.meth {T id : String} {name : Str} {apos : Pos} {args : List Expr} {d0 : D} {ds : List D} (x : Ev G cx n ow ρ value d0) (y : EvL G cx n ow ρ args ds) (z : CallB G n (.builtin id) (d0 :: ds) d)
    (pa : PlainAttrs T) (slot : Slot T name id) (hty : typeOf (.builtin id) = pure (.type "method_descriptor"))
    (hT : ∀ (M : List Addr) (s : Shared) (v : Value), Rep G M s.heap d0 v → s.TypeIs v T ∧ ∀ a, v = .ref a → ∃ ob, s.heap.get? a = some ob ∧ ob.dict = none)
    (pl : plainArgs args cx.env)
    (hbase : attributeBase value name cx.env (eval value cx.env) = eval value cx.env := by rfl)
    (hfew : ((backTo pos (starEach args cx.env)).all (fun x => !x.1) && (backToKw pos (keywordEach [] cx.env)).all (fun x => x.1.isSome)
      && decide (args.length + ([] : List Keyword).length + (if ([] : List Keyword).isEmpty then 0 else 1) < 30)) = true := by rfl)
    (hline : (apos.endLine == pos.line) = true := by rfl) : Ev G cx n ow ρ (.Call (.Attribute value name apos) args [] pos) d := by
  intro A s M W Q E a st h
  refine wpAny_Call_method hbase hfew hline pa slot hty (x.to a st fun v h1 t1 k1 r1 => ?_)
  obtain ⟨q1, q2⟩ := hT M { s with heap := h1, toks := t1 } v r1
  refine ⟨q1, q2, ?_⟩
  obtain ⟨e, r, rfl, he, hp⟩ := pl
  refine callWith_method1 (first := [v]) (y A _ M W pos _ E a (st.kp k1) fun vs h2 t2 k2 r2 => ?_) he (hp pos)
  exact z A _ M (v :: vs) Q E a ((st.kp k1).kp k2).gdh (.cons (r1.kp k2) r2) ((st.kp k1).kp k2).live fun v h' tk k3 r3 => h v h' tk ((k1.trans k2).trans k3) r3

theorem lst_type {ds : List D} (M : List Addr) (s : Shared) (v : Value) (h : Rep G M s.heap (.lst ds) v) : s.TypeIs v "list" ∧ ∀ a, v = .ref a → ∃ ob, s.heap.get? a = some ob ∧ ob.dict = none := by
  unfold Rep at h
  obtain ⟨a, vs, rfl, _, ⟨n, hl⟩, _⟩ := h
  exact ⟨⟨_, hl, rfl⟩, fun b e => by cases e; exact ⟨_, hl, rfl⟩⟩
theorem str_type {x : Str} (M : List Addr) (s : Shared) (v : Value) (h : Rep G M s.heap (.str x) v) : s.TypeIs v "str" ∧ ∀ a, v = .ref a → ∃ ob, s.heap.get? a = some ob ∧ ob.dict = none := by
  obtain ⟨t, rfl⟩ := h
  exact ⟨typeIs_str _ _ _, fun b e => by cases e⟩
theorem dct_type {kvs : List (Str × Int)} (M : List Addr) (s : Shared) (v : Value) (h : Rep G M s.heap (.dct kvs) v) : s.TypeIs v "dict" ∧ ∀ a, v = .ref a → ∃ ob, s.heap.get? a = some ob ∧ ob.dict = none := by
  unfold Rep at h
  obtain ⟨a, l, rfl, _, _, hd, _⟩ := h
  exact ⟨hd.typeIs, fun b e => by cases e; exact hd.mapOf.noDict _ rfl⟩

noncomputable def isI (k : Int) (v : Value) : Bool := match v with | .int i _ => i == k | _ => false
theorem isI_at {vs : List Value} {ns : List Int} (h : IntsAre vs ns) (k : Int) : vs.map (isI k) = ns.map (· == k) := by
  induction h with
  | nil => rfl
  | cons i t _ ih => simp only [List.map_cons, ih]; rfl
theorem isI_eq {vs : List Value} {ns : List Int} (h : IntsAre vs ns) (k : Int) (t : Tok) {A : Around} {s : Shared} : ∀ y ∈ vs, SeqAt.EqAt A s y (.int k t) (isI k y) := by
  induction h with
  | nil => intro y hy; cases hy
  | cons i u _ ih =>
    intro y hy
    rcases List.mem_cons.mp hy with rfl | hy
    · exact SeqAt.EqAt.int_int i u k t
    · exact ih y hy
theorem countP_map_eq {α : Type} (p : α → Bool) (l : List α) : l.countP p = (l.map p).countP id := by rw [List.countP_map]; rfl
theorem CallB.count {ns : List Int} {k : Int} : CallB G n (.builtin "list.count") [.lst (ns.map D.int), .int k] (.int (ns.count k : Nat)) := by
  intro A s M vs Q E am g r _ h
  obtain ⟨u, v, rfl, x, ⟨t, rfl⟩⟩ := r.two
  unfold Rep at x
  obtain ⟨a, vs, rfl, _, ⟨ne, hl⟩, hr⟩ := x
  have hi := hr.ints
  refine call_meets PySem.F.slot_list_count ⟨_, hl, rfl⟩ PySem.F.entry_list_count (PySem.F.args_list_count_2 _ _) (SeqAt.list_countAt a vs.toArray ne none #[] (.int k t) (isI k)) ⟨hl, fun y hy => isI_eq hi k t y (by simpa using hy), ?_⟩
  have e : vs.toArray.toList.countP (isI k) = ns.count k := by
    show vs.countP (isI k) = _
    rw [countP_map_eq, isI_at hi, ← countP_map_eq]
    rfl
  rw [e]
  exact h _ s.heap _ (Kp.refl _) ⟨_, rfl⟩

theorem CallB.index {ns : List Int} {k : Int} (hk : k ∈ ns) (hz : ns.length ≤ 1000) : CallB G n (.builtin "list.index") [.lst (ns.map D.int), .int k] (.int (ns.idxOf k : Nat)) := by
  intro A s M vs Q E am g r _ h
  obtain ⟨u, v, rfl, x, ⟨t, rfl⟩⟩ := r.two
  unfold Rep at x
  obtain ⟨a, vs, rfl, _, ⟨ne, hl⟩, hr⟩ := x
  have hi := hr.ints
  have hlen := hi.length
  have hlt : ns.idxOf k < ns.length := List.idxOf_lt_length_iff.mpr hk
  have hmap := isI_at hi k
  have at' : ∀ j (hj : j < vs.length), isI k vs[j] = (ns[j]'(by omega) == k) := by
    intro j hj
    have := congrArg (fun l => l[j]?) hmap
    simp only [List.getElem?_map, List.getElem?_eq_getElem hj, List.getElem?_eq_getElem (show j < ns.length by omega), Option.map_some, Option.some.injEq] at this
    exact this
  refine call_meets PySem.F.slot_list_index ⟨_, hl, rfl⟩ PySem.F.entry_list_index (PySem.F.args_list_index_2 _ _)
    (SeqAt.list_indexAt a vs.toArray ne none #[] (.int k t) (isI k) (ns.idxOf k) (by simpa [hlen] using hlt) (by omega) ?_ ?_) ⟨hl, fun y hy => isI_eq hi k t y (by simpa using hy), h _ s.heap _ (Kp.refl _) ⟨_, rfl⟩⟩
  · have := at' (ns.idxOf k) (by omega)
    simp only [List.getElem_toArray]
    rw [this]
    simp
  · intro j hj hlt'
    have := at' j (by simpa using hj)
    simp only [List.getElem_toArray]
    rw [this]
    have q := List.not_of_lt_findIdx (p := (· == _)) hlt'
    exact Bool.eq_false_iff.mpr (by simpa using q)

/-- the place of a list of ints among lists of ints -/
theorem CallB.indexL {nss : List (List Int)} {ks : List Int} (hk : ks ∈ nss) (hz : nss.length ≤ 1000) (hlen : ∀ ns ∈ nss, ns.length = ks.length) :
    CallB G n (.builtin "list.index") [.lst (nss.map fun ns => .lst (ns.map D.int)), .lst (ks.map D.int)] (.int (nss.idxOf ks : Nat)) := by
  intro A s M vs Q E am g r _ h
  obtain ⟨u, v, rfl, x, y⟩ := r.two
  unfold Rep at x y
  obtain ⟨a, vs, rfl, _, ⟨ne, hl⟩, hr⟩ := x
  obtain ⟨b, ws, rfl, _, hb, hrb⟩ := y
  have hlen' := hr.length
  rw [List.length_map] at hlen'
  have hlt : nss.idxOf ks < nss.length := List.idxOf_lt_length_iff.mpr hk
  have hu : A.in1.units < cLine := by have := am.units; show A.units + 1 < 9900; omega
  -- the answer at each place
  have each : ∀ j (hj : j < vs.length), SeqAt.EqAt A.in1 s vs[j] (.ref b) ((nss[j]'(by omega)) == ks) := by
    intro j hj
    obtain ⟨d, hd, hrep⟩ := hr.get (List.getElem?_eq_getElem hj)
    simp only [List.getElem?_map, List.getElem?_eq_getElem (show j < nss.length by omega), Option.map_some, Option.some.injEq] at hd
    subst hd
    unfold Rep at hrep
    obtain ⟨c, us, hc, _, hcl, hcr⟩ := hrep
    rw [hc]
    have hiu := hcr.ints
    have hiw := hrb.ints
    have hl1 := hiu.length
    have hl2 := hiw.length
    have hll : nss[j].length = ks.length := hlen _ (List.getElem_mem _)
    by_cases hcb : c = b
    · subst hcb
      obtain ⟨n1, e1⟩ := hcl
      obtain ⟨n2, e2⟩ := hb
      rw [e1] at e2
      have e3 : us = ws := by
        have := Option.some.inj e2
        simp only [Obj.mk.injEq, Data.seq.injEq] at this
        simpa using this.2.2.1.1
      subst e3
      have : nss[j] = ks := by
        have q1 := hiu.numsOf
        have q2 := hiw.numsOf
        rw [← q1, ← q2]
      rw [this, beq_self_eq_true]
      exact SeqAt.EqAt.same _
    · refine SeqAt.EqAt.of_refs hcb ?_
      have := SeqAt.RcAt.lists (A := A.in1) (s := s) (e := fun i => nss[j].getD i 0 == ks.getD i 0) hcl.isList hb.isList (by simp; omega) hu (fun i h1 h2 => by
        obtain ⟨t, ht⟩ := IntsAre.at hiu i (by simpa using h1)
        obtain ⟨t', ht'⟩ := IntsAre.at hiw i (by simpa using h2)
        have q1 : us.toArray[i] = .int (nss[j].getD i 0) t := by simpa using ht
        have q2 : ws.toArray[i] = .int (ks.getD i 0) t' := by simpa using ht'
        rw [q1, q2]
        exact SeqAt.EqAt.int_int _ _ _ _)
      have e3 : us.toArray.size = nss[j].length := by simp; omega
      rw [e3, all_eq_ints hll] at this
      have e4 : (nss[j] == ks) = decide (nss[j] = ks) := by
        by_cases q : nss[j] = ks
        · rw [q]; simp
        · simp [q]
      rw [e4]; exact this
  -- one function of the value
  let f : Value → Bool := fun v => match (List.range vs.length).find? (fun j => vs[j]? == some v) with
    | some j => nss[j]? == some ks
    | none => false
  have feq : ∀ j (hj : j < vs.length), f vs[j] = ((nss[j]'(by omega)) == ks) := by
    intro j hj
    have hex : ∃ i, (List.range vs.length).find? (fun i => vs[i]? == some vs[j]) = some i := by
      cases q : (List.range vs.length).find? (fun i => vs[i]? == some vs[j]) with
      | some i => exact ⟨i, rfl⟩
      | none =>
        have := List.find?_eq_none.mp q j (List.mem_range.mpr hj)
        simp [hj] at this
    obtain ⟨i, hi⟩ := hex
    have hi1 := List.find?_some hi
    have hi2 := List.mem_range.mp (List.mem_of_find?_eq_some hi)
    have hv : vs[i] = vs[j] := by
      rw [List.getElem?_eq_getElem hi2] at hi1
      exact Option.some.inj (eq_of_beq hi1)
    -- the same value stands for the same ints
    have same : nss[i]'(by omega) = nss[j]'(by omega) := by
      obtain ⟨d, hd, hrep⟩ := hr.get (List.getElem?_eq_getElem hi2)
      obtain ⟨d', hd', hrep'⟩ := hr.get (List.getElem?_eq_getElem hj)
      simp only [List.getElem?_map, List.getElem?_eq_getElem (show i < nss.length by omega), Option.map_some, Option.some.injEq] at hd
      simp only [List.getElem?_map, List.getElem?_eq_getElem (show j < nss.length by omega), Option.map_some, Option.some.injEq] at hd'
      subst hd hd'
      rw [hv] at hrep
      unfold Rep at hrep hrep'
      obtain ⟨c, us, hc, _, ⟨n1, e1⟩, hcr⟩ := hrep
      obtain ⟨c', us', hc', _, ⟨n2, e2⟩, hcr'⟩ := hrep'
      rw [hc] at hc'
      cases hc'
      rw [e1] at e2
      have e3 : us = us' := by
        have := Option.some.inj e2
        simp only [Obj.mk.injEq, Data.seq.injEq] at this
        simpa using this.2.2.1.1
      subst e3
      rw [← hcr.ints.numsOf, ← hcr'.ints.numsOf]
    show (match (List.range vs.length).find? (fun j' => vs[j']? == some vs[j]) with | some j => nss[j]? == some ks | none => false) = _
    rw [hi]
    show (nss[i]? == some ks) = _
    rw [List.getElem?_eq_getElem (show i < nss.length by omega), same]
    rfl
  refine call_meets PySem.F.slot_list_index ⟨_, hl, rfl⟩ PySem.F.entry_list_index (PySem.F.args_list_index_2 _ _)
    (SeqAt.list_indexAt a vs.toArray ne none #[] (.ref b) f (nss.idxOf ks) (by simpa [hlen'] using hlt) (by omega) ?_ ?_) ⟨hl, fun y hy => ?_, h _ s.heap _ (Kp.refl _) ⟨_, rfl⟩⟩
  · simp only [List.getElem_toArray]
    rw [feq (nss.idxOf ks) (by omega)]
    simp
  · intro j hj hlt'
    simp only [List.getElem_toArray]
    rw [feq j (by simpa using hj)]
    have q := List.not_of_lt_findIdx (p := (· == _)) hlt'
    exact Bool.eq_false_iff.mpr (by simpa using q)
  · have hy' : y ∈ vs := by simpa using hy
    obtain ⟨j, hj, rfl⟩ := List.getElem_of_mem hy'
    rw [feq j hj]
    exact each j hj

theorem CallB.join {x : Str} {ys : List Str} (hz : (ys.map (·.length)).sum + ys.length * x.length ≤ 16777216) : CallB G n (.builtin "str.join") [.str x, .lst (ys.map D.str)] (.str (Txt.join x ys)) := by
  intro A s M vs Q E am g r _ h
  obtain ⟨u, v, rfl, ⟨t, rfl⟩, y⟩ := r.two
  unfold Rep at y
  obtain ⟨a, vs, rfl, _, hl, hr⟩ := y
  exact join_list hl.isList hr.strs hz fun t' tk => h _ s.heap tk (Kp.refl _) ⟨t', rfl⟩

theorem RepKV.lookup : ∀ {kvs : List (Str × Int)} {l : List (Str × Value)}, RepKV kvs l → ∀ k, match kvs.lookup k with | some i => ∃ t, valueAt l k = some (.int i t) | none => valueAt l k = none
  | [], l, h, k => by unfold RepKV at h; subst h; rfl
  | p :: r, l, h, k => by
    unfold RepKV at h
    obtain ⟨t, l', rfl, h'⟩ := h
    have ih := RepKV.lookup h' k
    rw [List.lookup_cons]
    by_cases q : k = p.1
    · subst q
      rw [beq_self_eq_true]
      exact ⟨t, by unfold valueAt; rw [List.find?_cons, decide_eq_true rfl]; rfl⟩
    · have : (k == p.1) = false := by simpa using q
      rw [this]
      have e : valueAt ((p.1, Value.int p.2 t) :: l') k = valueAt l' k := by
        unfold valueAt
        rw [List.find?_cons]
        have : decide (p.1 = k) = false := by simpa using fun e => q e.symm
        simp only [this]
      show (match r.lookup k with | some i => _ | none => _)
      rw [e]; exact ih
theorem RepKV.length : ∀ {kvs : List (Str × Int)} {l : List (Str × Value)}, RepKV kvs l → l.length = kvs.length
  | [], l, h => by unfold RepKV at h; subst h; rfl
  | p :: r, l, h => by
    unfold RepKV at h
    obtain ⟨t, l', rfl, h'⟩ := h
    simp [RepKV.length h']

theorem isStrOf_self (x : Str) (t : Tok) : (strKind G.prog G.w).is x (.str x t) = true := by
  show Value.isStrOf x (.str x t) = true
  simp [Value.isStrOf]
theorem isInt_self (x : Int) (t : Tok) : (intKind G.prog G.w).is x (.int x t) = true := by
  show Value.isInt x (.int x t) = true
  simp [Value.isInt]

theorem CallB.get {kvs : List (Str × Int)} {k : Str} {i : Int} : CallB G n (.builtin "dict.get") [.dct kvs, .str k, .int i] (.int ((kvs.lookup k).getD i)) := by
  intro A s M vs Q E am g r _ h
  unfold RepL at r
  obtain ⟨u, vs', rfl, x, r⟩ := r
  obtain ⟨v, w, rfl, ⟨t, rfl⟩, ⟨t', rfl⟩⟩ := r.two
  unfold Rep at x
  obtain ⟨a, l, rfl, _, hz, hd, hkv⟩ := x
  have hlk := hkv.lookup k
  refine wpAny_call (codeAny_call_builtin F.slot_dict_get.plain F.entry_dict_get (F.slot_dict_get.check _ _ _ _ _ _ _ _ hd.typeIs (F.args_dict_get_3 _ _ _) ?_))
  refine meets_dict_get_default (strKind G.prog G.w) a (isStrOf_self k t) hz (.int i t') A (wants Q E) s ⟨valueAt l, hd.mapOf, ?_⟩
  cases q : kvs.lookup k with
  | some j =>
    rw [q] at hlk h
    obtain ⟨t2, ht2⟩ := hlk
    rw [ht2]
    exact h _ s.heap _ (Kp.refl _) ⟨t2, rfl⟩
  | none =>
    rw [q] at hlk h
    have hlk : valueAt l k = none := hlk
    rw [hlk]
    exact h _ s.heap _ (Kp.refl _) ⟨t', rfl⟩
end
end Mine
end
section
open PySem PySem.Calls PyProof.Rows
namespace Mine

section
variable {G : GC} {cx : Cx} {n : Nat} {ow : Ow} {ρ : Vs} {pos p : Pos} {e l r value slice : Expr} {d d1 d2 : D}

/-- a def of the text called -/
theorem Ev.call {f : Str} {es : List Expr} {ds : List D} {fp : Pos} {dr : DefRec} (hk : cx.env.kindOf f = some .globalImplicit) (hm : dr ∈ recsOf PySem.Challenge.pw_zn0025_01) (hf : dr.name = f) (x : EvL G cx n ow ρ es ds) (y : Fn G n f ds d)
    (pl : plainArgs es cx.env) (hd : (f == ("__debug__" : Str)) = false := by decide) : Ev G cx n ow ρ (.Call (.Name f fp) es [] pos) d := by
  intro A s M W Q E a st h
  obtain ⟨fa, o, pm, code, doc, h1, h2, h3, h4⟩ := st.gdh.fn dr hm
  rw [hf] at h1
  refine wpAny_Call_Name_kw (evName_glob st hk h1 ?_ hd)
  obtain ⟨e, r, rfl, he, hp⟩ := pl
  refine callWith_def h3 (x A s M W pos _ E a st fun vs h' t1 k1 r1 => ⟨k1 _ _ h2, ?_⟩) he
  exact y A _ M fa vs Q E a (st.kp k1).gdh h1 r1 (st.kp k1).live fun v h'' t2 k2 r2 => h v h'' t2 (k1.trans k2) r2

/-- the two tables of the text -/
theorem Ev.exact {k : Str} {i : Int} {tp : Pos} (hk : cx.env.kindOf "EXACT_TOKEN_TYPES" = some .globalImplicit) (y : Ev G cx n ow ρ slice (.str k)) (hi : exList.lookup k = some i)
    (hs : ∀ a k u, subscripted slice false (.ref a) (.str k u) = operate [.ref a, .str k u] (getItem (.ref a) (.str k u)) := by intros; with_unfolding_all rfl) :
    Ev G cx n ow ρ (.Subscript (.Name "EXACT_TOKEN_TYPES" tp) slice pos) (.int i) := by
  intro A s M W Q E a st h
  obtain ⟨b, f, h1, h2, h3, h4⟩ := st.gdh.extab
  refine Subscript_ (evName_glob st hk h1 ?_)
  refine y.to a st fun v ha t1 k1 r1 => ?_
  obtain ⟨t, rfl⟩ := r1
  have hm : ha.MapOf (PySem.strKind G.prog G.w) b f := let ⟨o, es, ep, ho, r⟩ := h3; ⟨o, es, ep, k1 _ _ ho, r⟩
  have hv := h4 k
  rw [hi] at hv
  obtain ⟨w, hw, t2, rfl⟩ := hv
  exact tail_any (s := { s with heap := ha, toks := t1 }) hm.typeIs slot_dict_getitem.lookup (wpAny_getItem_of (isStrOf_self k t) hm hw (h _ ha _ k1 ⟨t2, rfl⟩)) (hs _ _ _)
theorem EvT.exactIn {k : Str} {tp : Pos} (hk : cx.env.kindOf "EXACT_TOKEN_TYPES" = some .globalImplicit) (y : Ev G cx n ow ρ slice (.str k)) (hm : behindInMarks .In (.Name "EXACT_TOKEN_TYPES" tp) = false := by with_unfolding_all rfl) :
    EvT G cx n ow ρ (.Compare slice [.In] [.Name "EXACT_TOKEN_TYPES" tp] pos) (exList.lookup k).isSome := by
  intro A s M W Q E a st h
  refine wpAny_isTrue_Compare1 (hm := hm) (y.to a st fun v ha t1 k1 r1 => ?_)
  obtain ⟨b, f, h1, h2, h3, h4⟩ := (st.kp k1).gdh.extab
  refine evName_glob (st.kp k1) hk h1 ?_
  obtain ⟨t, rfl⟩ := r1
  refine wpAny_in_of (isStrOf_self k t) h2 h3 ?_
  have hv := h4 k
  have e : (f k).isSome = (exList.lookup k).isSome := by
    cases q : exList.lookup k with
    | some i => rw [q] at hv; obtain ⟨w, hw, _⟩ := hv; rw [hw]; rfl
    | none => rw [q] at hv; simp only at hv; rw [hv]; rfl
  rw [e]
  exact wpAny_truthy_bool (h ha _ k1)
theorem Ev.flag {k : Int} {i : Str} {tp : Pos} (hk : cx.env.kindOf "COMPILER_FLAG_NAMES" = some .globalImplicit) (y : Ev G cx n ow ρ slice (.int k)) (hi : flagList.lookup k = some i)
    (hs : ∀ a k u, subscripted slice false (.ref a) (.int k u) = operate [.ref a, .int k u] (getItem (.ref a) (.int k u)) := by intros; with_unfolding_all rfl) :
    Ev G cx n ow ρ (.Subscript (.Name "COMPILER_FLAG_NAMES" tp) slice pos) (.str i) := by
  intro A s M W Q E a st h
  obtain ⟨b, f, h1, h2, h3, h4⟩ := st.gdh.flagtab
  refine Subscript_ (evName_glob st hk h1 ?_)
  refine y.to a st fun v ha t1 k1 r1 => ?_
  obtain ⟨t, rfl⟩ := r1
  have hm : ha.MapOf (PySem.intKind G.prog G.w) b f := let ⟨o, es, ep, ho, r⟩ := h3; ⟨o, es, ep, k1 _ _ ho, r⟩
  have hv := h4 k
  rw [hi] at hv
  obtain ⟨w, hw, t2, rfl⟩ := hv
  exact tail_any (s := { s with heap := ha, toks := t1 }) hm.typeIs slot_dict_getitem.lookup (wpAny_getItem_of (isInt_self k t) hm hw (h _ ha _ k1 ⟨t2, rfl⟩)) (hs _ _ _)

/-- isinstance(an int, tuple) -/
theorem sub_int_tuple : isSubtype (.type "int") (.type "tuple") = pure false := by rw [isSubtype_type]; kernel_rfl
theorem EvT.isTuple {i : Int} {f1 f2 : Pos} (hk : cx.env.kindOf "isinstance" = some .globalImplicit) (hk2 : cx.env.kindOf "tuple" = some .globalImplicit) (y : Ev G cx n ow ρ e (.int i))
    (he : isTrue (.Call (.Name "isinstance" f1) [e, .Name "tuple" f2] [] pos) cx.env (eval (.Call (.Name "isinstance" f1) [e, .Name "tuple" f2] [] pos) cx.env) =
      (do let v ← eval (.Call (.Name "isinstance" f1) [e, .Name "tuple" f2] [] pos) cx.env; standAt (Expr.pos (.Call (.Name "isinstance" f1) [e, .Name "tuple" f2] [] pos)); holding [v] (truthy v)) := by rfl)
    (hs1 : starEach [e, .Name "tuple" f2] cx.env = (false, eval e cx.env) :: starEach [.Name "tuple" f2] cx.env := by rfl) :
    EvT G cx n ow ρ (.Call (.Name "isinstance" f1) [e, .Name "tuple" f2] [] pos) false := by
  intro A s M W Q E a st h
  refine wpAny_isTrue_value ?_ he
  refine wpAny_Call_Name_kw (evName_boot (v := .builtin "isinstance") st hk (by decide) (by decide +kernel) ?_ (by decide) (by decide))
  refine callWith_method1 (first := []) ?_ hs1 rfl
  refine wpAny_items_cons (he := hs1) (y.to a st fun v h1 t1 k1 r1 => ?_)
  refine wpAny_items_cons ?_
  refine evName_boot (v := .type "tuple") (st.kp k1) hk2 (by decide) (by decide +kernel) ?_ (by decide) (by decide)
  refine wpAny_items_nil ?_
  obtain ⟨t, rfl⟩ := r1
  refine call_isinstance (isinstance_false_int (T := "tuple") (by decide) rfl sub_int_tuple) ?_
  exact wpAny_truthy_bool (h h1 _ k1)

/-- dict displays: none, one pair -/
theorem new_ne_sys {h : Heap} (g : Gd G h) : (h.objs.size == sysModules) = false := by
  have := g.size
  show (h.objs.size == 1) = false
  rw [beq_eq_false_iff_ne]
  intro q
  rw [q] at this
  exact absurd this (by decide)
theorem Ev.dict0 : Ev G cx n ow ρ (.Dict [] [] pos) (.dct []) := by
  intro A s M W Q E a st h
  refine wpAny_Dict_empty (h _ _ _ (Kp.push _ _) ?_)
  unfold Rep
  exact ⟨_, [], rfl, new_rep (o := default) st.live, new_ne_sys st.gdh, Heap.DictOf.new _, by unfold RepKV; rfl⟩
theorem Ev.dict1 {k : Str} {i : Int} (x : Ev G cx n ow ρ l (.str k)) (y : Ev G cx n ow ρ r (.int i))
    (hshape : (evalEachOpt [some l] cx.env).zip ((evalEach [r] cx.env).map fun v => do let x ← v; standAt pos; pure x) = [(eval l cx.env, (do let x ← eval r cx.env; standAt pos; pure x))].map (fun p => (some p.1, p.2)) := by rfl) : Ev G cx n ow ρ (.Dict [some l] [r] pos) (.dct [(k, i)]) := by
  intro A s M W Q E a st h
  refine wpAny_Dict_pairs (knd := PySem.strKind G.prog G.w) (pairs := [(eval l cx.env, (do let x ← eval r cx.env; standAt pos; pure x))]) hshape (by simp) (by simp) ?_
  have st0 : St G cx M W ow ρ (s.heap.push { cls := .type "dict", data := .dict #[] }) := st.kp (Kp.push _ _)
  -- the dict's address is barred while the pair is reckoned
  have st1 : St G cx ([s.heap.objs.size] ++ M) W ow ρ (s.heap.push { cls := .type "dict", data := .dict #[] }) :=
    st.bar (Kp.push _ _) (fun a ha => by rw [List.mem_singleton.mp ha]; exact Heap.get?_none_of_le (Nat.le_refl _)) (fun a ha => by rw [List.mem_singleton.mp ha, Heap.get?_push_size _ rfl]; rfl)
  show wpAny _ _ (do let kv ← eval l cx.env; let vv ← holding [kv] (do let x ← eval r cx.env; standAt pos; pure x); return (kv, vv) :: (← holding [kv, vv] (evalPairs []))) _ _ _
  refine wpAny_bind (x A { s with heap := s.heap.push { cls := .type "dict", data := .dict #[] } } _ W _ _ a st1 fun u h1 t1 k1 r1 => ?_)
  refine wpAny_bind (wpAny_holding (wpAny_bind (y A _ _ W _ _ a (st1.kp k1) fun v h2 t2 k2 r2 => wpAny_bind (wpAny_standAt (wpAny_pure ?_)))))
  refine wpAny_bind (wpAny_holding (wpAny_pure (wpAny_pure ?_)))
  obtain ⟨t, rfl⟩ := r1
  obtain ⟨t', rfl⟩ := r2
  have hd : (s.heap.push { cls := .type "dict", data := .dict #[] }).DictOf (PySem.strKind G.prog G.w) s.heap.objs.size [] := Heap.DictOf.new _
  refine ⟨[(k, .int i t')], ⟨isStrOf_self k t, rfl, trivial⟩, (hd.at fun o e => k1 _ _ e).at fun o e => k2 _ _ e, fun h' hd' hs' => ?_⟩
  have kk : Kp s.heap h' := fun b o q => by
    have := Heap.lt_size q
    exact hs'.extBut b o (Nat.ne_of_lt this) (k2 _ _ (k1 _ _ (Heap.get?_push_of_some _ q)))
  refine h _ h' _ kk ?_
  unfold Rep
  refine ⟨_, [(k, .int i t')], rfl, new_rep (o := default) st.live, new_ne_sys st.gdh, hd', ?_⟩
  unfold RepKV
  exact ⟨t', [], rfl, by unfold RepKV; rfl⟩
end
end Mine
end
section
open PySem PySem.Calls PyProof.Rows
namespace Mine

theorem bindL_skip (kindOf : Str → Option NameKind) : ∀ (binds : List (Str × Value)) (m : Str → Option Value) (x : Str), x ∉ binds.map (·.1) → bindL kindOf binds m x = m x
  | [], m, x, _ => rfl
  | (k, v) :: r, m, x, h => by
    simp only [List.map_cons, List.mem_cons, not_or] at h
    unfold bindL
    rw [bindL_skip kindOf r _ x h.2]
    split
    · exact if_neg h.1
    · rfl
theorem bindC_skip (kindOf : Str → Option NameKind) : ∀ (binds : List (Str × Value)) (m : Str → Option Value) (x : Str), x ∉ binds.map (·.1) → bindC kindOf binds m x = m x
  | [], m, x, _ => rfl
  | (k, v) :: r, m, x, h => by
    simp only [List.map_cons, List.mem_cons, not_or] at h
    unfold bindC
    rw [bindC_skip kindOf r _ x h.2]
    split
    · rfl
    · exact if_neg h.1
theorem bindL_get (kindOf : Str → Option NameKind) : ∀ (binds : List (Str × Value)) (m : Str → Option Value) (x : Str) (v : Value), binds.lookup x = some v → (binds.map (·.1)).Nodup → kindOf x = some .local → bindL kindOf binds m x = some v
  | [], m, x, v, h, _, _ => by cases h
  | (k, u) :: r, m, x, v, h, nd, hk => by
    rw [List.map_cons, List.nodup_cons] at nd
    rw [List.lookup_cons] at h
    unfold bindL
    by_cases q : x = k
    · subst q
      simp only [beq_self_eq_true, Option.some.injEq] at h
      subst h
      rw [bindL_skip kindOf r _ x nd.1, if_pos hk, if_pos rfl]
    · have : (x == k) = false := by simpa using q
      simp only [this] at h
      exact bindL_get kindOf r _ x v h nd.2 hk
theorem bindC_get (kindOf : Str → Option NameKind) : ∀ (binds : List (Str × Value)) (m : Str → Option Value) (x : Str) (v : Value), binds.lookup x = some v → (binds.map (·.1)).Nodup → kindOf x = some .cell → bindC kindOf binds m x = some v
  | [], m, x, v, h, _, _ => by cases h
  | (k, u) :: r, m, x, v, h, nd, hk => by
    rw [List.map_cons, List.nodup_cons] at nd
    rw [List.lookup_cons] at h
    unfold bindC
    by_cases q : x = k
    · subst q
      simp only [beq_self_eq_true, Option.some.injEq] at h
      subst h
      rw [bindC_skip kindOf r _ x nd.1, if_neg (by rw [hk]; decide), if_pos rfl]
    · have : (x == k) = false := by simpa using q
      simp only [this] at h
      exact bindC_get kindOf r _ x v h nd.2 hk

/-- the frame of a def of the text -/
noncomputable def envD (dr : DefRec) (L a : Addr) (pm code doc : Value) : Env := callEnvC (docDef dr.name dr.params dr.body dr.scope pm code doc) L a
noncomputable def mkCx (dr : DefRec) (hb : Heap) (MC : List Addr) (L a : Addr) (pm code doc : Value) : Cx := { hb, MC, env := envD dr L a pm code doc, own := fun _ => true }
noncomputable def args0 (ps : List Str) (ds : List D) : Vs := fun x => (ps.zip ds).lookup x

theorem lookup_rep {G : GC} {M : List Addr} {h : Heap} : ∀ {ps : List Str} {ds : List D} {vs : List Value} {x : Str} {d : D}, RepL G M h ds vs → (ps.zip ds).lookup x = some d → ∃ v, (ps.zip vs).lookup x = some v ∧ Rep G M h d v
  | [], ds, vs, x, d, _, e => by simp at e
  | p :: ps, [], vs, x, d, _, e => by simp at e
  | p :: ps, d' :: ds, vs, x, d, r, e => by
    unfold RepL at r
    obtain ⟨v, vs', rfl, r1, r2⟩ := r
    rw [List.zip_cons_cons, List.lookup_cons] at e ⊢
    by_cases q : x = p
    · subst q
      simp only [beq_self_eq_true, Option.some.injEq] at e ⊢
      subst e
      exact ⟨v, rfl, r1⟩
    · have : (x == p) = false := by simpa using q
      simp only [this] at e ⊢
      exact lookup_rep r2 e
theorem lookup_mem_keys {α : Type} : ∀ {l : List (Str × α)} {x : Str} {v : α}, l.lookup x = some v → x ∈ l.map (·.1)
  | (k, u) :: r, x, v, h => by
    rw [List.lookup_cons] at h
    by_cases q : x = k
    · subst q; exact List.mem_cons_self
    · have : (x == k) = false := by simpa using q
      simp only [this] at h
      exact List.mem_cons_of_mem _ (lookup_mem_keys h)
theorem zip_keys {α β : Type} : ∀ {ps : List α} {vs : List β}, ps.length = vs.length → (ps.zip vs).map (·.1) = ps
  | [], [], _ => rfl
  | p :: ps, v :: vs, h => by rw [List.zip_cons_cons, List.map_cons, zip_keys (by simpa using h)]

theorem Fn.of_body {G : GC} {n : Nat} {f : Str} {dr : DefRec} {args : List D} {d : D} (ps : List Str) (hm : dr ∈ recsOf PySem.Challenge.pw_zn0025_01) (hf : dr.name = f) (hlen : args.length = ps.length)
    (hbind : ∀ (pm code doc : Value) (vs : List Value), vs.length = ps.length → bindArgs (docDef dr.name dr.params dr.body dr.scope pm code doc) ⟨vs, []⟩ = pure (ps.zip vs))
    (hnd : ps.Nodup) (hkind : ∀ x ∈ ps, dr.scope.names.lookup x = some .local ∨ dr.scope.names.lookup x = some .cell)
    (hco : dr.scope.isCoroutine = false) (hgen : dr.scope.isGenerator = false) (hk : dr.scope.kind = .function) (hndc : ((dr.scope.names.filter fun x => x.2 == .cell).map (·.1)).Nodup)
    (body : ∀ hb MC L a pm code doc, Ex G (mkCx dr hb MC L a pm code doc) n none (args0 ps args) dr.body (fun o => o = .ret d)) : Fn G (n + 1) f args d := by
  intro A s MC fa vs Q E am g hg r live h
  obtain ⟨a, o, pm, code, doc, h1, h2, h3, h4⟩ := g.fn dr hm
  rw [hf, hg] at h1
  cases h1
  refine wpAny_call ?_
  have hvl : vs.length = ps.length := by rw [r.length, hlen]
  have hkeys : (ps.zip vs).map (·.1) = ps := zip_keys hvl.symm
  refine codeAny_call_cells (o := o) (fd := docDef dr.name dr.params dr.body dr.scope pm code doc) (binds := ps.zip vs) (by have := am.depth; show A.depth < 1000; omega) h2 h3 g.nolimit h4 rfl (hbind pm code doc vs hvl) rfl (fun x hx => ?_) (fun s₁ C => ?_) hco hgen hk
  · have hxp : x.1 ∈ ps := by rw [← hkeys]; exact List.mem_map_of_mem hx
    rcases hkind x.1 hxp with q | q
    · exact .inl q
    · exact .inr ⟨q, PySem.W.cellsFrom_some _ _ _ (.inl q)⟩
  obtain ⟨h', tk, rfl⟩ := C.toInCall.same
  have keep := C.toInCall.keep
  have fresh := C.toInCall.fresh
  let cx := mkCx dr s.heap MC s.heap.objs.size fa pm code doc
  let cells := cx.env.cells
  have hLne : ∀ c, s.heap.objs.size ≤ c → s.heap.get? c = none := fun c hc => Heap.get?_none_of_le hc
  have hcl : ∀ x c, (x, c) ∈ cells → s.heap.objs.size < c := fun x c hc => C.above x c hc
  have hlookup : ∀ c, c ∈ cells.map (·.2) → ∃ x, (x, c) ∈ cells := fun c hc => by
    obtain ⟨⟨x, c'⟩, hx, rfl⟩ := List.mem_map.mp hc
    exact ⟨x, hx⟩
  have hcell : ∀ x c, (x, c) ∈ cells → ∃ v, h'.IsCell c v := fun x c hc => by
    have hnd' : (cells.map (·.1)).Nodup := by
      have : ∀ (names : List (Str × NameKind)) (k : Nat) (acc : List (Str × Addr)), ((names.filter fun x => x.2 == .cell).map (·.1)).Nodup → (acc.map (·.1)).Nodup → (∀ y ∈ acc.map (·.1), y ∉ (names.filter fun x => x.2 == .cell).map (·.1)) →
          ((cellsFrom k names acc).map (·.1)).Nodup := by
        intro names
        induction names with
        | nil => intro k acc _ h _; exact h
        | cons y names ih =>
          intro k acc hn ha hd
          obtain ⟨y, kd⟩ := y
          unfold cellsFrom
          by_cases hkd : (kd == NameKind.cell) = true
          · rw [if_pos hkd]
            simp only [List.filter_cons, hkd, if_true, List.map_cons, List.nodup_cons] at hn hd
            refine ih _ _ hn.2 ?_ ?_
            · rw [List.map_cons, List.nodup_cons]
              exact ⟨fun q => (hd y q) List.mem_cons_self, ha⟩
            · intro z hz
              rw [List.map_cons] at hz
              rcases List.mem_cons.mp hz with rfl | hz
              · exact hn.1
              · exact fun q => hd z hz (List.mem_cons_of_mem _ q)
          · rw [if_neg hkd]
            have : (kd == NameKind.cell) = false := by simpa using hkd
            simp only [List.filter_cons, this] at hn hd
            exact ih _ _ hn ha hd
      exact this _ _ _ hndc (by simp) (by simp)
    have hl : cells.lookup x = some c := by
      have : ∀ (l : List (Str × Addr)), (l.map (·.1)).Nodup → (x, c) ∈ l → l.lookup x = some c := by
        intro l
        induction l with
        | nil => intro _ h; cases h
        | cons y l ih =>
          intro hn hm
          obtain ⟨y, c'⟩ := y
          rw [List.map_cons, List.nodup_cons] at hn
          rw [List.lookup_cons]
          rcases List.mem_cons.mp hm with e | hm'
          · cases e; simp
          · have : x ≠ y := fun e => hn.1 (by subst e; exact List.mem_map.mpr ⟨(x, c), hm', rfl⟩)
            have : (x == y) = false := by simpa using this
            simp only [this]
            exact ih hn.2 hm'
      exact this _ hnd' hc
    exact ⟨_, C.cell x c hl⟩
  have hnew : ∀ a ∈ (s.heap.objs.size :: cells.map (·.2)) ++ MC, a ∈ MC ∨ s.heap.get? a = none := fun a ha => by
    rcases List.mem_append.mp ha with ha | ha
    · rcases List.mem_cons.mp ha with rfl | ha
      · exact .inr (hLne _ (Nat.le_refl _))
      · obtain ⟨x, hx⟩ := hlookup a ha
        exact .inr (hLne _ (Nat.le_of_lt (hcl x a hx)))
    · exact .inl ha
  have st : St G cx ((s.heap.objs.size :: cells.map (·.2)) ++ MC) (s.heap.objs.size :: cells.map (·.2)) none (args0 ps args) h' := by
    refine ⟨bindL (envD dr s.heap.objs.size fa pm code doc).kindOf (ps.zip vs) fun _ => none, ?_, trivial⟩
    exact {
      gd := g
      keep := keep
      sub := fun a ha => List.mem_append.mpr (.inl ha)
      mc := fun a ha => List.mem_append.mpr (.inr ha)
      mcl := live
      new := fun a ha => by
        rcases List.mem_cons.mp ha with rfl | ha
        · exact hLne _ (Nat.le_refl _)
        · obtain ⟨x, hx⟩ := hlookup a ha
          exact hLne _ (Nat.le_of_lt (hcl x a hx))
      live := fun a ha => by
        rcases List.mem_append.mp ha with ha | ha
        · rcases List.mem_cons.mp ha with rfl | ha
          · obtain ⟨o, _, _, ho, _⟩ := C.toInCall.ns
            show (h'.get? _).isSome = true
            have ho' : h'.get? s.heap.objs.size = some o := ho
            rw [ho']; rfl
          · obtain ⟨x, hx⟩ := hlookup a ha
            obtain ⟨v, o, ho, _⟩ := hcell x a hx
            rw [ho]; rfl
        · obtain ⟨o, ho⟩ := Option.isSome_iff_exists.mp (live a ha)
          rw [keep a o ho]; rfl
      ns := C.toInCall.ns
      lw := List.mem_cons_self
      fn := hk
      gl := rfl
      bl := rfl
      cell := fun x c hc => ⟨⟨_, C.cell x c hc⟩, Nat.ne_of_gt (hcl x c (mem_of_lookup hc)), List.mem_append.mpr (.inl (List.mem_cons_of_mem _ (List.mem_map.mpr ⟨(x, c), mem_of_lookup hc, rfl⟩)))⟩
      inj := fun x y c hx hy => name_of_addr C.apart (mem_of_lookup hx) (mem_of_lookup hy)
      cw := fun x c _ hc => List.mem_cons_of_mem _ (List.mem_map.mpr ⟨(x, c), mem_of_lookup hc, rfl⟩)
      vars := fun x d' hx => by
        obtain ⟨v, hv, hr⟩ := lookup_rep r hx
        have hr' : Rep G ((s.heap.objs.size :: cells.map (·.2)) ++ MC) h' d' v := (hr.more hnew).kp keep
        have hxp : x ∈ ps := by rw [← hkeys]; exact lookup_mem_keys hv
        rcases hkind x hxp with q | q
        · exact .inl ⟨q, v, bindL_get _ _ _ _ _ hv (by rw [hkeys]; exact hnd) q, hr'⟩
        · have hs : (cells.lookup x).isSome = true := PySem.W.cellsFrom_some _ _ _ (.inl q)
          obtain ⟨c, hc⟩ := Option.isSome_iff_exists.mp hs
          have := C.cell x c hc
          rw [bindC_get _ _ _ _ _ hv (by rw [hkeys]; exact hnd) q] at this
          exact .inr ⟨.inl q, c, v, hc, this, hr'⟩ }
  refine body s.heap MC s.heap.objs.size fa pm code doc _ _ _ _ _ _ (am.deeper _) st ?_ ?_
  · intro ow' ρ' M' W' h'' tk'' hp
    cases hp
  · intro d' v M' W' h'' tk'' hp t hr
    cases hp
    refine h v h'' tk'' (fun b o e => t.off b o (fun q => ?_) (keep b o e)) (hr.more fun a ha => ?_)
    · rcases List.mem_cons.mp q with rfl | q
      · rw [hLne _ (Nat.le_refl _)] at e; cases e
      · obtain ⟨x, hx⟩ := hlookup b q
        rw [hLne _ (Nat.le_of_lt (hcl x b hx))] at e; cases e
    · rcases t.m2 a (List.mem_append.mpr (.inr ha)) with q | q | q
      · exact .inl q
      · exfalso
        have hl := live a ha
        rcases List.mem_cons.mp q with rfl | q
        · rw [hLne _ (Nat.le_refl _)] at hl; cases hl
        · obtain ⟨x, hx⟩ := hlookup a q
          rw [hLne _ (Nat.le_of_lt (hcl x a hx))] at hl; cases hl
      · exfalso
        have hl := Kp.isSome (h' := h') keep (live a ha)
        have q' : h'.get? a = none := q
        rw [q'] at hl; cases hl
end Mine
end
section
open PySem PySem.Calls PyProof.Rows
namespace Mine

section
variable {G : GC} {cx : Cx} {n : Nat} {ow : Ow} {ρ : Vs} {pos p : Pos} {e l r value slice : Expr} {d d1 d2 : D} {P : Out → Prop}

noncomputable def CanStore (cx : Cx) (x : Str) : Prop := cx.env.kindOf x = some .local ∨ (cx.env.kindOf x = some .cell ∧ cx.own x = true ∧ (cx.env.cells.lookup x).isSome = true)
noncomputable def Free (ow : Ow) (x : Str) : Prop := ∀ y o, ow = some (y, o) → y ≠ x
theorem Free.none (x : Str) : Free none x := fun _ _ h => nomatch h
theorem Free.some {y x : Str} {o : OD} (h : y ≠ x) : Free (some (y, o)) x := fun _ _ e => by cases e; exact h

theorem dom_of_same {b : Addr} {h h' : Heap} (hs : Heap.SameBut b h h') (hb : (h'.get? b).isSome = true) : ∀ a, (h.get? a).isSome = true → (h'.get? a).isSome = true := fun a ha => by
  by_cases q : a = b
  · rw [q]; exact hb
  · rw [hs.2 a q]; exact ha

theorem ODok.touch {M W : List Addr} {h h' : Heap} {bad : Addr → Prop} {a b : Addr} (hx : Heap.ExtBut b h h') (hb : bad b) (hab : a ≠ b) (hbM : b ∈ M) : ∀ {o : OD}, ODok G M W h bad a o → ODok G M W h' bad a o
  | .lst _, ⟨vs, p, r⟩ => ⟨vs, PlainList.kp (fun o e => hx a o hab e) p, r.off (W := [b]) (fun c o hc e => hx c o (fun q => hc (by simp [q])) e) fun c hc => by rw [List.mem_singleton.mp hc]; exact hbM⟩
  | .dct _, ⟨l, z, p, r⟩ => ⟨l, z, DictOf.at' (fun o e => hx a o hab e) p, r⟩
  | .lol _, ⟨as, p, l, nd, q, f⟩ => ⟨as, PlainList.kp (fun o e => hx a o hab e) p, l, nd, q, fun i c ns e1 e2 => let ⟨vs, p, r⟩ := f i c ns e1 e2
      ⟨vs, PlainList.kp (fun o e => hx c o (fun q' => (q c (List.mem_of_getElem? e1)).2.2 (q' ▸ hb)) e) p, r.off (W := [b]) (fun c o hc e => hx c o (fun q => hc (by simp [q])) e) fun c hc => by rw [List.mem_singleton.mp hc]; exact hbM⟩⟩

theorem store_ok {M W : List Addr} {A : Around} {s : Shared} {x : Str} {v : Value} {Q : Unit → Shared → Prop} {E : Value → Shared → Prop} (st : St G cx M W ow ρ s.heap) (hr : Rep G M s.heap d v) (hx : CanStore cx x) (hne : Free ow x)
    (h : ∀ h' tk, Tr M W s.heap M W h' → St G cx M W ow (upd ρ x d) h' → Q () { s with heap := h', toks := tk }) : wpAny (model G.prog G.w) A (storeName cx.env x v) Q E s := by
  obtain ⟨m, z, ok⟩ := st
  -- what holds of the rest, whatever address of the frame has turned
  have vars_off : ∀ (b : Addr) (h' : Heap), b ∈ M → Heap.ExtBut b s.heap h' → ∀ {d v}, Rep G M s.heap d v → Rep G M h' d v := fun b h' hb hs d v q =>
    q.off (W := [b]) (fun c o hc e => hs c o (fun q => hc (by simp [q])) e) fun c hc => by rw [List.mem_singleton.mp hc]; exact hb
  rcases hx with hk | ⟨hk, ho, hc⟩
  · refine wpAny_storeName_local hk z.ns (fun h' hn hs => ?_) (by rw [z.fn]; rfl)
    have hLM : cx.env.locals ∈ M := z.sub _ z.lw
    have hL : (h'.get? cx.env.locals).isSome = true := by obtain ⟨o, _, _, e, _⟩ := hn; rw [e]; rfl
    have dom := dom_of_same hs hL
    have off : Off W s.heap h' := fun b o hb e => hs.extBut b o (fun q => hb (q ▸ z.lw)) e
    refine h h' _ ⟨off, dom, fun _ q => .inl q, fun _ q => .inl q, fun _ q => .inl q⟩ ⟨fun y => if y = x then some v else m y, ?_, ?_⟩
    · exact { z with
        keep := fun b o e => hs.extBut b o (fun q => by have := z.new _ z.lw; rw [← q, e] at this; cases this) (z.keep b o e)
        live := fun a ha => dom a (z.live a ha)
        ns := hn
        cell := fun y c hy => let ⟨⟨v, hv⟩, q1, q2⟩ := z.cell y c hy; ⟨⟨v, hv.sameBut hs q1⟩, q1, q2⟩
        vars := fun y d' hy => by
          unfold upd at hy
          by_cases q : y = x
          · subst q
            rw [if_pos rfl] at hy
            cases hy
            exact .inl ⟨hk, v, by simp, vars_off _ _ hLM hs.extBut hr⟩
          · rw [if_neg q] at hy
            rcases z.vars y d' hy with ⟨a1, u, a2, a3⟩ | ⟨a1, c, u, a2, a3, a4⟩
            · exact .inl ⟨a1, u, by simp [q, a2], vars_off _ _ hLM hs.extBut a3⟩
            · exact .inr ⟨a1, c, u, a2, a3.sameBut hs (z.cell y c a2).2.1, vars_off _ _ hLM hs.extBut a4⟩ }
    · cases ow with
      | none => trivial
      | some yo =>
        obtain ⟨y, o⟩ := yo
        obtain ⟨a, b1, b2, b3, b4, b5, b6⟩ := ok
        have hyx : y ≠ x := hne y o rfl
        exact ⟨a, b1, by simp [hyx, b2], b3, b4, b5, b6.touch hs.extBut (.inl rfl) b4 hLM⟩
  · obtain ⟨c, hc⟩ := Option.isSome_iff_exists.mp hc
    obtain ⟨⟨v₀, hv₀⟩, hcL, hcM⟩ := z.cell x c hc
    have hcW : c ∈ W := z.cw x c ho hc
    refine wpAny_storeName_cell z.fn hk hc hv₀ fun h' hn hs => ?_
    have hL : (h'.get? c).isSome = true := by obtain ⟨o, e, _⟩ := hn; rw [e]; rfl
    have dom := dom_of_same hs hL
    have off : Off W s.heap h' := fun b o hb e => hs.extBut b o (fun q => hb (q ▸ hcW)) e
    refine h h' _ ⟨off, dom, fun _ q => .inl q, fun _ q => .inl q, fun _ q => .inl q⟩ ⟨m, ?_, ?_⟩
    · exact { z with
        keep := fun b o e => hs.extBut b o (fun q => by have := z.new _ hcW; rw [← q, e] at this; cases this) (z.keep b o e)
        live := fun a ha => dom a (z.live a ha)
        ns := z.ns.sameBut hs (Ne.symm hcL)
        cell := fun y c' hy => by
          obtain ⟨⟨u, hu⟩, q1, q2⟩ := z.cell y c' hy
          by_cases q : c' = c
          · subst q; exact ⟨⟨_, hn⟩, q1, q2⟩
          · exact ⟨⟨u, hu.sameBut hs q⟩, q1, q2⟩
        vars := fun y d' hy => by
          unfold upd at hy
          by_cases q : y = x
          · subst q
            rw [if_pos rfl] at hy
            cases hy
            exact .inr ⟨.inl hk, c, v, hc, hn, vars_off _ _ hcM hs.extBut hr⟩
          · rw [if_neg q] at hy
            rcases z.vars y d' hy with ⟨a1, u, a2, a3⟩ | ⟨a1, c', u, a2, a3, a4⟩
            · exact .inl ⟨a1, u, a2, vars_off _ _ hcM hs.extBut a3⟩
            · have hcc : c' ≠ c := fun e => q (z.inj y x c (e ▸ a2) hc)
              exact .inr ⟨a1, c', u, a2, a3.sameBut hs hcc, vars_off _ _ hcM hs.extBut a4⟩ }
    · cases ow with
      | none => trivial
      | some yo =>
        obtain ⟨y, o⟩ := yo
        obtain ⟨a, b1, b2, b3, b4, b5, b6⟩ := ok
        exact ⟨a, b1, b2, b3, b4, b5, b6.touch hs.extBut (.inr ⟨x, hc⟩) (fun e => b5 x c hc e.symm) hcM⟩

theorem Ex.nil (h : P (.next ow ρ)) : Ex G cx n ow ρ [] P := by
  intro A s M W Q E am st h1 h2
  exact wpAny_execs_nil (h1 ow ρ M W s.heap s.toks h (Tr.refl _ _ _) st)
theorem Ex.cons {st : Stmt} {rest : List Stmt} (x : Ex1 G cx n ow ρ st (fun o => match o with | .next ow' ρ' => Ex G cx n ow' ρ' rest P | .ret d => P (.ret d))) : Ex G cx n ow ρ (st :: rest) P := by
  intro A s M W Q E am hst h1 h2
  refine wpAny_execs_cons (x A s M W _ E am hst ?_ ?_)
  · intro ow' ρ' M' W' h' tk hx t st'
    exact hx A _ M' W' Q E am st' (fun ow2 ρ2 M2 W2 hh tk2 hp t2 st2 => h1 ow2 ρ2 M2 W2 hh tk2 hp (t.trans t2) st2) fun d v M2 W2 hh tk2 hp t2 r2 => h2 d v M2 W2 hh tk2 hp (t.trans t2) r2
  · intro d v M' W' h' tk hx t r
    exact h2 d v M' W' h' tk hx t r
theorem Ex.mono {ss : List Stmt} {P' : Out → Prop} (x : Ex G cx n ow ρ ss P) (h : ∀ o, P o → P' o) : Ex G cx n ow ρ ss P' := by
  intro A s M W Q E am st h1 h2
  exact x A s M W Q E am st (fun ow' ρ' M' W' h' tk hp => h1 ow' ρ' M' W' h' tk (h _ hp)) fun d v M' W' h' tk hp => h2 d v M' W' h' tk (h _ hp)
theorem Ex1.mono {ss : Stmt} {P' : Out → Prop} (x : Ex1 G cx n ow ρ ss P) (h : ∀ o, P o → P' o) : Ex1 G cx n ow ρ ss P' := by
  intro A s M W Q E am st h1 h2
  exact x A s M W Q E am st (fun ow' ρ' M' W' h' tk hp => h1 ow' ρ' M' W' h' tk (h _ hp)) fun d v M' W' h' tk hp => h2 d v M' W' h' tk (h _ hp)

theorem Ex1.assign {x : Str} (he : Ev G cx n ow ρ e d) (hx : CanStore cx x) (hf : Free ow x) (h : P (.next ow (upd ρ x d)))
    (hs : swapsWith e (some (.Name x p)) pos.line cx.env = pure false := by rfl) : Ex1 G cx n ow ρ (.Assign [.Name x p] e pos) P := by
  intro A s M W Q E am st h1 h2
  refine wpAny_Assign_Name (hs := hs) (he.to am st fun v h' tk k r => ?_)
  exact store_ok (st.kp k) r hx hf fun h'' tk' t st' => h1 _ _ M W h'' tk' h ((Tr.of_kp k).trans t) st'

theorem Ex.ret {rest : List Stmt} (he : Ev G cx n ow ρ e d) (h : P (.ret d)) : Ex G cx n ow ρ (.Return (some e) pos :: rest) P := by
  refine Ex.cons ?_
  intro A s M W Q E am st h1 h2
  exact wpAny_Return_some (he.to am st fun v h' tk k r => h2 d v M W h' tk h (Tr.of_kp k) r)
theorem Ex1.ret (he : Ev G cx n ow ρ e d) (h : P (.ret d)) : Ex1 G cx n ow ρ (.Return (some e) pos) P := by
  intro A s M W Q E am st h1 h2
  exact wpAny_Return_some (he.to am st fun v h' tk k r => h2 d v M W h' tk h (Tr.of_kp k) r)

theorem Ex1.cond {test : Expr} {body orelse : List Stmt} {b : Bool} (ht : EvT G cx n ow ρ test b) (hb : b = true → Ex G cx n ow ρ body P) (ho : b = false → Ex G cx n ow ρ orelse P) : Ex1 G cx n ow ρ (.If test body orelse pos) P := by
  intro A s M W Q E am st h1 h2
  refine wpAny_If (ht A s M W _ E am st fun h' tk k => ?_)
  cases b with
  | true => exact hb rfl A _ M W Q E am (st.kp k) (fun ow' ρ' M' W' hh tk' hp t => h1 ow' ρ' M' W' hh tk' hp ((Tr.of_kp k).trans t)) fun d v M' W' hh tk' hp t => h2 d v M' W' hh tk' hp ((Tr.of_kp k).trans t)
  | false => exact ho rfl A _ M W Q E am (st.kp k) (fun ow' ρ' M' W' hh tk' hp t => h1 ow' ρ' M' W' hh tk' hp ((Tr.of_kp k).trans t)) fun d v M' W' hh tk' hp t => h2 d v M' W' hh tk' hp ((Tr.of_kp k).trans t)

/-- name op= value -/
noncomputable def Inp (G : GC) (n : Nat) (op : Operator) (d1 d2 d : D) : Prop :=
  ∀ (A : Around) (s : Shared) (M : List Addr) (u v : Value) (Q E : Value → Shared → Prop), Amb A n → Gd G s.heap → Rep G M s.heap d1 u → Rep G M s.heap d2 v →
    (∀ v h' tk, Kp s.heap h' → Rep G M h' d v → Q v { s with heap := h', toks := tk }) → wpAny (model G.prog G.w) A (inplaceOp op u v) Q E s
theorem Inp.cat {x y : Str} (hz : x.length + y.length ≤ sizeLine) : Inp G n .Add (.str x) (.str y) (.str (x ++ y)) := by
  rintro A s M _ _ Q E _ _ ⟨t, rfl⟩ ⟨u, rfl⟩ h
  exact iadd_str (hsz := hz) fun t' tk => h _ s.heap _ (Kp.refl _) ⟨_, rfl⟩
theorem Inp.fdiv {a b : Int} (hb : b ≠ 0) (hs : b.natAbs < 1073741824) : Inp G n .FloorDiv (.int a) (.int b) (.int (a.fdiv b)) := by
  rintro A s M _ _ Q E _ _ ⟨t, rfl⟩ ⟨u, rfl⟩ h
  exact ifloordiv_int hb (hp := .inl (PyProof.noPylong_small hs)) (h _ s.heap _ (Kp.refl _) ⟨_, rfl⟩)
theorem Inp.add {a b : Int} : Inp G n .Add (.int a) (.int b) (.int (a + b)) := by
  rintro A s M _ _ Q E _ _ ⟨t, rfl⟩ ⟨u, rfl⟩ h
  exact iadd_int (h _ s.heap _ (Kp.refl _) ⟨_, rfl⟩)
theorem load_ok {M W : List Addr} {A : Around} {s : Shared} {x : Str} {Q E : Value → Shared → Prop} (st : St G cx M W ow ρ s.heap) (hx : ρ x = some d) (h : ∀ v, Rep G M s.heap d v → Q v s) : wpAny (model G.prog G.w) A (loadName cx.env x) Q E s := by
  obtain ⟨m, z, _⟩ := st
  rcases z.vars x d hx with ⟨hk, v, hv, hr⟩ | ⟨hk, c, v, hc, hcell, hr⟩
  · exact wpAny_loadName_local z.fn hk z.ns hv (h v hr)
  · rcases hk with hk | ⟨hk, hn⟩
    · exact wpAny_loadName_cell z.fn hk hc hcell (h v hr)
    · exact wpAny_loadName_free z.fn hk hc hcell (h v hr) hn
theorem Ex1.aug {x : Str} {op : Operator} (hx : ρ x = some d1) (he : Ev G cx n ow ρ e d2) (ho : Inp G n op d1 d2 d) (hc : CanStore cx x) (hf : Free ow x) (h : P (.next ow (upd ρ x d))) : Ex1 G cx n ow ρ (.AugAssign (.Name x p) op e pos) P := by
  intro A s M W Q E am st h1 h2
  refine wpAny_AugAssign_Name (load_ok st hx fun u hu => ?_)
  refine he.to am st fun v h' tk k r => ?_
  refine ho A _ M u v _ E am (st.kp k).gdh (hu.kp k) r fun w h'' tk' k' r' => ?_
  exact store_ok ((st.kp k).kp k') r' hc hf fun h3 tk3 t st' => h1 _ _ M W h3 tk3 h ((Tr.of_kp (k.trans k')).trans t) st'

/-- a tuple of names as target -/
inductive NT : List Expr → List Str → Prop
  | nil : NT [] []
  | cons {x : Str} {p : Pos} {es : List Expr} {xs : List Str} : NT es xs → NT (.Name x p :: es) (x :: xs)
noncomputable def updAll (ρ : Vs) : List Str → List D → Vs
  | x :: xs, d :: ds => updAll (upd ρ x d) xs ds
  | _, _ => ρ
theorem NT.length {es : List Expr} {xs : List Str} (h : NT es xs) (env : Env) : (assignEach es env).length = xs.length ∧ (assignEach es env).findIdx? (·.1) = none := by
  induction h with
  | nil => exact ⟨rfl, rfl⟩
  | cons _ ih =>
    refine ⟨by show (_ :: assignEach _ env).length = _; rw [List.length_cons, ih.1, List.length_cons], ?_⟩
    show List.findIdx? (·.1) ((false, _) :: assignEach _ env) = none
    rw [List.findIdx?_cons]
    simp [ih.2]
theorem assign_names {es : List Expr} {xs : List Str} (h : NT es xs) : ∀ {ρ : Vs} {ds : List D} {vs : List Value} {M W : List Addr} {A : Around} {s : Shared} {Q : Unit → Shared → Prop} {E : Value → Shared → Prop}, St G cx M W ow ρ s.heap → RepL G M s.heap ds vs →
    ds.length = xs.length → (∀ x ∈ xs, CanStore cx x ∧ Free ow x) →
    (∀ h' tk, Tr M W s.heap M W h' → St G cx M W ow (updAll ρ xs ds) h' → Q () { s with heap := h', toks := tk }) → wpAny (model G.prog G.w) A (assignInOrder ((assignEach es cx.env).map (·.2)) vs) Q E s := by
  induction h with
  | nil =>
    intro ρ ds vs M W A s Q E st hr hl hc hq
    cases ds with
    | cons _ _ => cases hl
    | nil =>
      unfold RepL at hr
      subst hr
      exact wpAny_pure (hq s.heap s.toks (Tr.refl _ _ _) st)
  | @cons x p es xs _ ih =>
    intro ρ ds vs M W A s Q E st hr hl hc hq
    cases ds with
    | nil => cases hl
    | cons d ds =>
      unfold RepL at hr
      obtain ⟨v, vs', rfl, r1, r2⟩ := hr
      show wpAny _ A (do holding vs' (assign (.Name x p) cx.env v); assignInOrder ((assignEach es cx.env).map (·.2)) vs') Q E s
      refine wpAny_bind (wpAny_holding (wpAny_assign_Name ?_))
      refine store_ok st r1 (hc x List.mem_cons_self).1 (hc x List.mem_cons_self).2 fun h' tk t st' => ?_
      have hr' : RepL G M h' ds vs' := r2.off t.off (let ⟨_, z, _⟩ := st; z.sub)
      exact ih st' hr' (by simpa using hl) (fun y hy => hc y (List.mem_cons_of_mem _ hy)) fun h'' tk' t' st'' => hq h'' tk' (t.trans t') st''
theorem assign_tup {es : List Expr} {k : Nat} {xs : List Str} (h : NT es xs) {ds : List D} {vs : List Value} {T : Addr} {M W : List Addr} {A : Around} {s : Shared} {Q : Unit → Shared → Prop} {E : Value → Shared → Prop} (hh : A.handled = none) (st : St G cx M W ow ρ s.heap)
    (ht : s.heap.IsTuple T vs.toArray) (hr : RepL G M s.heap ds vs) (hl : ds.length = xs.length) (hc : ∀ x ∈ xs, CanStore cx x ∧ Free ow x)
    (hq : ∀ h' tk, Tr M W s.heap M W h' → St G cx M W ow (updAll ρ xs ds) h' → Q () { s with heap := h', toks := tk }) : wpAny (model G.prog G.w) A (assign (.Tuple es k p) cx.env (.ref T)) Q E s := by
  obtain ⟨e1, e2⟩ := h.length cx.env
  refine wpAny_assign_Tuple hh ht (by rw [e1]; simp [hr.length, hl]) e2 fun h' hx => ?_
  have kk : Kp s.heap h' := fun b o e => hx b o (Nat.ne_of_lt (Heap.lt_size e)) e
  exact assign_names (s := { s with heap := h' }) h (st.kp kk) (hr.kp kk) hl hc fun h'' tk t st' => hq h'' tk ((Tr.of_kp kk).trans t) st'
theorem Ex1.assignTup {es : List Expr} {k : Nat} {xs : List Str} {ds : List D} (nt : NT es xs) (he : Ev G cx n ow ρ e (.tup ds)) (hl : ds.length = xs.length) (hc : ∀ x ∈ xs, CanStore cx x ∧ Free ow x) (h : P (.next ow (updAll ρ xs ds)))
    (hs : swapsWithSole [.Tuple es k p] e pos.line cx.env = pure false := by rfl)
    (hw : swappedStores [.Tuple es k p] e cx.env = pure none := by rfl) : Ex1 G cx n ow ρ (.Assign [.Tuple es k p] e pos) P := by
  intro A s M W Q E am st h1 h2
  refine Assign_Tuple (hs := hs) (hw := hw) (he.to am st fun v h' tk kk r => ?_)
  unfold Rep at r
  obtain ⟨T, vs, rfl, _, ht, hr⟩ := r
  exact assign_tup nt am.handled (st.kp kk) ht hr hl hc fun h'' tk' t st' => h1 _ _ M W h'' tk' h ((Tr.of_kp kk).trans t) st'

/-- while -/
theorem Ex1.while {test : Expr} {body : List Stmt} (J : Nat → Ow → Vs → Prop)
    (turn : ∀ k ow ρ, J k ow ρ → ∃ b, EvT G cx n ow ρ test b ∧ (b = true → Ex G cx n ow ρ body (fun o => match o with | .next ow' ρ' => ∃ j, j < k ∧ J j ow' ρ' | .ret d => P (.ret d))) ∧ (b = false → P (.next ow ρ)))
    (k : Nat) (h : J k ow ρ) : Ex1 G cx n ow ρ (.While test body [] pos) P := by
  intro A s M W Q E am st h1 h2
  refine wpAny_While ?_
  refine codeAny_whileLoop (fun k s' => ∃ ow' ρ' M' W' h' tk, s' = { s with heap := h', toks := tk } ∧ Tr M W s.heap M' W' h' ∧ St G cx M' W' ow' ρ' h' ∧ J k ow' ρ') ?_ k
    ⟨ow, ρ, M, W, s.heap, s.toks, rfl, Tr.refl _ _ _, st, h⟩
  rintro k s' ⟨ow', ρ', M', W', h', tk, rfl, t, st', hJ⟩
  obtain ⟨b, ht, hb, ho⟩ := turn k ow' ρ' hJ
  refine ht A _ M' W' _ _ am st' fun h'' tk' kk => ?_
  cases b with
  | true =>
    refine hb rfl A _ M' W' _ _ am (st'.kp kk) ?_ ?_
    · intro ow2 ρ2 M2 W2 hh tk2 hp t2 st2
      obtain ⟨j, hj, hJ2⟩ := hp
      exact ⟨j, hj, ow2, ρ2, M2, W2, hh, tk2, rfl, (t.trans (Tr.of_kp kk)).trans t2, st2, hJ2⟩
    · intro d v M2 W2 hh tk2 hp t2 r2
      exact h2 d v M2 W2 hh tk2 hp ((t.trans (Tr.of_kp kk)).trans t2) r2
  | false =>
    refine wpAny_execs_nil ?_
    exact h1 ow' ρ' M' W' h'' tk' (ho rfl) (t.trans (Tr.of_kp kk)) (st'.kp kk)
end
end Mine
end
section
open PySem PySem.Calls PyProof.Rows
namespace Mine

/-- what a loop's target is, and the names in it -/
inductive TG : Expr → List Str → Prop
  | name {x : Str} {p : Pos} : TG (.Name x p) [x]
  | tup {es : List Expr} {k : Nat} {p : Pos} {xs : List Str} : NT es xs → TG (.Tuple es k p) xs

noncomputable def Item (G : GC) (M : List Addr) (h : Heap) (dl : List D) (v : Value) : Expr → Prop
  | .Name _ _ => ∃ d, dl = [d] ∧ Rep G M h d v
  | .Tuple _ _ _ => ∃ T vs, v = .ref T ∧ h.IsTuple T vs.toArray ∧ RepL G M h dl vs
  | _ => False

structure Itr (G : GC) (A : Around) (target : Expr) (dss : List (List D)) (M : List Addr) (h h' : Heap) (I : Addr) (fp wr : List Addr) (S : Nat → Heap → Prop) : Prop where
  new : ∀ b ∈ wr, h.get? b = none
  live : ∀ i h'', S i h'' → ∀ b ∈ wr, (h''.get? b).isSome = true
  foot : ∀ b ∈ fp, b ∈ wr ∨ (b ∉ M ∧ (h'.get? b).isSome = true)
  frame : ∀ i h1 h2, S i h1 → (∀ b ∈ fp, ∀ o, h1.get? b = some o → h2.get? b = some o) → S i h2
  item : ∀ i dl (s : Shared) (M' : List Addr) (Q : Value → Shared → Prop) (E : Value → Shared → Prop), dss[i]? = some dl → S i s.heap → (∀ b o, b ∉ wr ++ M → h'.get? b = some o → b ∉ M' ∧ s.heap.get? b = some o) → (∀ b ∈ wr, b ∈ M') →
    (∀ v h2 tk, S (i + 1) h2 → Off wr s.heap h2 → Item G M' h2 dl v target → Q v { s with heap := h2, toks := tk }) →
    wpAny (model G.prog G.w) A (pyNext (.ref I)) (fun r s₁ => match r with | none => False | some v => wpAny (model G.prog G.w) A (letOwnedTupleGo target (.ref I) v) (fun _ s₂ => Q v s₂) E s₁) E s
  done : ∀ (s : Shared) (Q : Option Value → Shared → Prop) (E : Value → Shared → Prop), S dss.length s.heap → (∀ h2 tk, Off wr s.heap h2 → Q none { s with heap := h2, toks := tk }) → wpAny (model G.prog G.w) A (pyNext (.ref I)) Q E s
  self : ∀ i (s : Shared) (Q : Value → Shared → Prop) (E : Value → Shared → Prop), S i s.heap → Q (.ref I) s → wpAny (model G.prog G.w) A (pyIter (.ref I)) Q E s

noncomputable def EvI (G : GC) (cx : Cx) (n : Nat) (ow : Ow) (ρ : Vs) (e : Expr) (target : Expr) (dss : List (List D)) : Prop :=
  ∀ (A : Around) (s : Shared) (M W : List Addr) (Q E : Value → Shared → Prop), Amb A n → St G cx M W ow ρ s.heap →
    (∀ I fp wr S h' tk, Itr G A target dss M s.heap h' I fp wr S → S 0 h' → Kp s.heap h' → Q (.ref I) { s with heap := h', toks := tk }) →
    wpAny (model G.prog G.w) A (eval e cx.env) (fun x s₁ => wpAny (model G.prog G.w) A (pyIter x) Q E s₁) E s

section
variable {G : GC} {cx : Cx} {n : Nat} {ow : Ow} {ρ : Vs} {pos p : Pos} {e l r value slice target : Expr} {d d1 d2 : D} {P : Out → Prop} {A : Around} {xs : List Str}

theorem assign_item {M W : List Addr} {s : Shared} {dl : List D} {v : Value} {Q : Unit → Shared → Prop} {E : Value → Shared → Prop} (tg : TG target xs) (hh : A.handled = none) (st : St G cx M W ow ρ s.heap) (hi : Item G M s.heap dl v target) (hl : dl.length = xs.length)
    (hc : ∀ x ∈ xs, CanStore cx x ∧ Free ow x) (hq : ∀ h' tk, Tr M W s.heap M W h' → St G cx M W ow (updAll ρ xs dl) h' → Q () { s with heap := h', toks := tk }) : wpAny (model G.prog G.w) A (assign target cx.env v) Q E s := by
  cases tg with
  | name =>
    obtain ⟨d, rfl, r⟩ := hi
    exact wpAny_assign_Name (store_ok st r (hc _ List.mem_cons_self).1 (hc _ List.mem_cons_self).2 hq)
  | tup nt =>
    obtain ⟨T, vs, rfl, ht, hr⟩ := hi
    exact assign_tup nt hh st ht hr hl hc hq

/-- the iterator's own objects turn; they are barred, and not the frame's -/
structure WrOk (cx : Cx) (M W wr : List Addr) : Prop where
  m : ∀ b ∈ wr, b ∈ M
  w : ∀ b ∈ wr, b ∉ W
  cell : ∀ y c, cx.env.cells.lookup y = some c → c ∉ wr
  hb : ∀ b ∈ wr, cx.hb.get? b = none
theorem ODok.offW {M W wr : List Addr} {h h' : Heap} {bad : Addr → Prop} {a : Addr} (hx : Off wr h h') (hM : ∀ b ∈ wr, b ∈ M) (hW : ∀ b ∈ wr, b ∉ W) (ha : a ∈ W) : ∀ {o : OD}, ODok G M W h bad a o → ODok G M W h' bad a o
  | .lst _, ⟨vs, p, r⟩ => ⟨vs, PlainList.kp (fun o e => hx a o (fun q => hW a q ha) e) p, r.off hx hM⟩
  | .dct _, ⟨l, z, p, r⟩ => ⟨l, z, DictOf.at' (fun o e => hx a o (fun q => hW a q ha) e) p, r⟩
  | .lol _, ⟨as, p, l, nd, q, f⟩ => ⟨as, PlainList.kp (fun o e => hx a o (fun q => hW a q ha) e) p, l, nd, q, fun i c ns e1 e2 => let ⟨vs, p, r⟩ := f i c ns e1 e2
      ⟨vs, PlainList.kp (fun o e => hx c o (fun q' => hW c q' (q c (List.mem_of_getElem? e1)).1) e) p, r.off hx hM⟩⟩
theorem St.wr {M W wr : List Addr} {h h' : Heap} (st : St G cx M W ow ρ h) (k : WrOk cx M W wr) (off : Off wr h h') (live : ∀ b ∈ wr, (h'.get? b).isSome = true) : St G cx M W ow ρ h' := by
  obtain ⟨m, z, ok⟩ := st
  have keepAt : ∀ a, a ∉ wr → ∀ o, h.get? a = some o → h'.get? a = some o := fun a ha o e => off a o ha e
  have hLw : cx.env.locals ∉ wr := fun q => k.w _ q z.lw
  refine ⟨m, ?_, ?_⟩
  · exact { z with
      keep := fun b o e => off b o (fun q => by rw [k.hb b q] at e; cases e) (z.keep b o e)
      live := fun a ha => by
        by_cases q : a ∈ wr
        · exact live a q
        · obtain ⟨o, ho⟩ := Option.isSome_iff_exists.mp (z.live a ha)
          rw [off a o q ho]; rfl
      ns := z.ns.at' (keepAt _ hLw)
      cell := fun y c hy => let ⟨⟨v, hv⟩, q1, q2⟩ := z.cell y c hy; ⟨⟨v, Heap.IsCell.at' hv (keepAt c (k.cell y c hy))⟩, q1, q2⟩
      vars := fun y d hy => by
        rcases z.vars y d hy with ⟨a1, u, a2, a3⟩ | ⟨a1, c, u, a2, a3, a4⟩
        · exact .inl ⟨a1, u, a2, a3.off off k.m⟩
        · exact .inr ⟨a1, c, u, a2, Heap.IsCell.at' a3 (keepAt c (k.cell y c a2)), a4.off off k.m⟩ }
  · cases ow with
    | none => trivial
    | some yo =>
      obtain ⟨y, o⟩ := yo
      obtain ⟨a, b1, b2, b3, b4, b5, b6⟩ := ok
      exact ⟨a, b1, b2, b3, b4, b5, b6.offW off k.m k.w b3⟩
/-- and dropped in the end -/
theorem St.wrDrop {M W wr : List Addr} {h h' : Heap} (st : St G cx M W ow ρ h) (k : WrOk cx M W wr) (off : Off wr h h') : St G cx (M.filter fun a => !wr.contains a) W ow ρ h' := by
  obtain ⟨m, z, ok⟩ := st
  have keepAt : ∀ a, a ∉ wr → ∀ o, h.get? a = some o → h'.get? a = some o := fun a ha o e => off a o ha e
  have hLw : cx.env.locals ∉ wr := fun q => k.w _ q z.lw
  have hm : ∀ b o, b ∉ M → h.get? b = some o → b ∉ (M.filter fun a => !wr.contains a) ∧ h'.get? b = some o := fun b o hb e => ⟨fun q => hb (List.mem_filter.mp q).1, off b o (fun q => hb (k.m b q)) e⟩
  have mem : ∀ a, a ∈ M → a ∉ wr → a ∈ (M.filter fun a => !wr.contains a) := fun a ha hn => List.mem_filter.mpr ⟨ha, by simpa using hn⟩
  refine ⟨m, ?_, ?_⟩
  · exact { z with
      keep := fun b o e => off b o (fun q => by rw [k.hb b q] at e; cases e) (z.keep b o e)
      sub := fun a ha => mem a (z.sub a ha) fun q => k.w a q ha
      mc := fun a ha => mem a (z.mc a ha) fun q => by have := z.mcl a ha; rw [k.hb a q] at this; cases this
      live := fun a ha => by
        have h1 := List.mem_filter.mp ha
        obtain ⟨o, ho⟩ := Option.isSome_iff_exists.mp (z.live a h1.1)
        rw [off a o (by simpa using h1.2) ho]; rfl
      ns := z.ns.at' (keepAt _ hLw)
      cell := fun y c hy => let ⟨⟨v, hv⟩, q1, q2⟩ := z.cell y c hy; ⟨⟨v, Heap.IsCell.at' hv (keepAt c (k.cell y c hy))⟩, q1, mem c q2 (k.cell y c hy)⟩
      vars := fun y d hy => by
        rcases z.vars y d hy with ⟨a1, u, a2, a3⟩ | ⟨a1, c, u, a2, a3, a4⟩
        · exact .inl ⟨a1, u, a2, a3.move hm⟩
        · exact .inr ⟨a1, c, u, a2, Heap.IsCell.at' a3 (keepAt c (k.cell y c a2)), a4.move hm⟩ }
  · cases ow with
    | none => trivial
    | some yo =>
      obtain ⟨y, o⟩ := yo
      obtain ⟨a, b1, b2, b3, b4, b5, b6⟩ := ok
      refine ⟨a, b1, b2, b3, b4, b5, ?_⟩
      have hka : ∀ o, h.get? a = some o → h'.get? a = some o := keepAt a fun q => k.w a q b3
      cases o with
      | lst ds => obtain ⟨vs, p, r⟩ := b6; exact ⟨vs, PlainList.kp hka p, r.move hm⟩
      | dct kvs => obtain ⟨l, zz, p, r⟩ := b6; exact ⟨l, zz, DictOf.at' hka p, r⟩
      | lol dss =>
        obtain ⟨as, p, l, nd, q, f⟩ := b6
        refine ⟨as, PlainList.kp hka p, l, nd, q, fun i c ns e1 e2 => ?_⟩
        obtain ⟨vs, p, r⟩ := f i c ns e1 e2
        exact ⟨vs, PlainList.kp (keepAt c fun q' => k.w c q' (q c (List.mem_of_getElem? e1)).1) p, r.move hm⟩

theorem Tr.wr {M W : List Addr} {h : Heap} {M' W' wr : List Addr} {h' h'' : Heap} (t : Tr M W h M' W' h') (hn : ∀ b ∈ wr, h.get? b = none) (off : Off wr h' h'') (live : ∀ b ∈ wr, (h''.get? b).isSome = true) : Tr M W h M' W' h'' where
  off := fun b o hb e => off b o (fun q => by rw [hn b q] at e; cases e) (t.off b o hb e)
  dom := fun a ha => by
    by_cases q : a ∈ wr
    · exact live a q
    · obtain ⟨o, ho⟩ := Option.isSome_iff_exists.mp (t.dom a ha)
      rw [off a o q ho]; rfl
  w := t.w
  m1 := t.m1
  m2 := t.m2
theorem Tr.wrDrop {M W : List Addr} {h : Heap} {M' W' wr : List Addr} {h' h'' : Heap} (t : Tr M W h M' W' h') (hn : ∀ b ∈ wr, h.get? b = none) (off : Off wr h' h'') : Tr M W h (M'.filter fun a => !wr.contains a) W' h'' where
  off := fun b o hb e => off b o (fun q => by rw [hn b q] at e; cases e) (t.off b o hb e)
  dom := fun a ha => by
    have q : a ∉ wr := fun q => by rw [hn a q] at ha; cases ha
    obtain ⟨o, ho⟩ := Option.isSome_iff_exists.mp (t.dom a ha)
    rw [off a o q ho]; rfl
  w := t.w
  m1 := fun a ha => t.m1 a (List.mem_filter.mp ha).1
  m2 := fun a ha => by
    rcases t.m2 a ha with q | q | q
    · by_cases q' : a ∈ wr
      · exact .inr (.inr (hn a q'))
      · exact .inl (List.mem_filter.mpr ⟨q, by simpa using q'⟩)
    · exact .inr (.inl q)
    · exact .inr (.inr q)

/-- what stood at the loop's start, outside the barred, stands on, and is no one's to turn -/
noncomputable def Frz (Mb : List Addr) (hh : Heap) (M' W' : List Addr) (h' : Heap) : Prop := ∀ b o, b ∉ Mb → hh.get? b = some o → b ∉ M' ∧ b ∉ W' ∧ h'.get? b = some o
theorem Frz.start {M W : List Addr} {h : Heap} (hs : ∀ a ∈ W, a ∈ M) : Frz M h M W h := fun b o hb e => ⟨hb, fun q => hb (hs b q), e⟩
theorem Frz.tr {Mb : List Addr} {hh : Heap} {M' W' : List Addr} {h' : Heap} {M'' W'' : List Addr} {h'' : Heap} (f : Frz Mb hh M' W' h') (t : Tr M' W' h' M'' W'' h'') : Frz Mb hh M'' W'' h'' := fun b o hb e => by
  obtain ⟨h1, h2, h3⟩ := f b o hb e
  refine ⟨fun q => ?_, fun q => ?_, t.off b o h2 h3⟩
  · rcases t.m1 b q with q | q
    · exact h1 q
    · rw [q] at h3; cases h3
  · rcases t.w b q with q | q
    · exact h2 q
    · rw [q] at h3; cases h3
theorem Frz.off {Mb wr : List Addr} {hh : Heap} {M' W' : List Addr} {h' h'' : Heap} (f : Frz Mb hh M' W' h') (hw : ∀ b ∈ wr, b ∈ Mb) (k : Off wr h' h'') : Frz Mb hh M' W' h'' := fun b o hb e =>
  let ⟨h1, h2, h3⟩ := f b o hb e; ⟨h1, h2, k b o (fun q => hb (hw b q)) h3⟩
theorem Itr.keepS {dss : List (List D)} {M Mb : List Addr} {h hh : Heap} {I : Addr} {fp wr : List Addr} {S : Nat → Heap → Prop} (it : Itr G A target dss M h hh I fp wr S) {M' W' : List Addr} {h1 h2 : Heap} (hMb : ∀ b, b ∈ Mb → b ∈ wr ∨ b ∈ M ∨ hh.get? b = none) (f : Frz Mb hh M' W' h1) (ww : ∀ b ∈ wr, b ∉ W') (k : Off W' h1 h2) {i : Nat} (hS : S i h1) : S i h2 :=
  it.frame i h1 h2 hS fun b hb o e => by
    by_cases q : b ∈ wr
    · exact k b o (ww b q) e
    · rcases it.foot b hb with q' | ⟨q1, q2⟩
      · exact absurd q' q
      · obtain ⟨o', ho'⟩ := Option.isSome_iff_exists.mp q2
        have := f b o' (fun q' => by
          rcases hMb b q' with q'' | q'' | q''
          · exact q q''
          · exact q1 q''
          · rw [q''] at ho'; cases ho') ho'
        exact k b o this.2.1 e

/-- for -/
theorem Ex1.for {body : List Stmt} {dss : List (List D)} (tg : TG target xs) (it : EvI G cx n ow ρ e target dss) (hl : ∀ dl ∈ dss, dl.length = xs.length) (hx : ∀ x ∈ xs, CanStore cx x) (J : Nat → Ow → Vs → Prop) (h0 : J 0 ow ρ)
    (hfree : ∀ i ow ρ, J i ow ρ → ∀ x ∈ xs, Free ow x)
    (step : ∀ i dl ow ρ, dss[i]? = some dl → J i ow ρ → Ex G cx n ow (updAll ρ xs dl) body (fun o => match o with | .next ow' ρ' => J (i + 1) ow' ρ' | .ret d => P (.ret d)))
    (done : ∀ ow ρ, J dss.length ow ρ → P (.next ow ρ)) (hs : ∀ x, foldedSetIterable e cx.env x = pure x := by intro _; rfl) : Ex1 G cx n ow ρ (.For target e body [] pos) P := by
  intro A s M W Q E am st h1 h2
  refine wpAny_For (hs := hs) (it A s M W _ E am st fun I fp wr S hh tk itr hS k => ?_)
  have hnew := itr.new
  have old : ∀ a, (s.heap.get? a).isSome = true → a ∉ wr := fun a ha q => by rw [hnew a q] at ha; cases ha
  have hcell : ∀ y c, cx.env.cells.lookup y = some c → c ∉ wr := fun y c hy => by obtain ⟨m, z, _⟩ := st; exact old c (z.live c (z.cell y c hy).2.2)
  have hhb : ∀ b ∈ wr, cx.hb.get? b = none := fun b hb => by
    obtain ⟨m, z, _⟩ := st
    cases q : cx.hb.get? b with
    | none => rfl
    | some o => have := z.keep b o q; rw [hnew b hb] at this; cases this
  have hsub : ∀ a ∈ W, a ∈ M := let ⟨_, z, _⟩ := st; z.sub
  have hlive := let ⟨_, z, _⟩ := st; z.live
  have st0 : St G cx (wr ++ M) W ow ρ hh := st.bar k hnew (itr.live 0 hh hS)
  refine codeAny_forLoop_any (fun k' s' => ∃ i ow' ρ' M' W' h' tk, s' = { s with heap := h', toks := tk } ∧ Tr M W s.heap M' W' h' ∧ Frz (wr ++ M) hh M' W' h' ∧ (∀ b ∈ wr, b ∈ M') ∧ (∀ b ∈ wr, b ∉ W') ∧
      St G cx M' W' ow' ρ' h' ∧ S i h' ∧ J i ow' ρ' ∧ i ≤ dss.length ∧ k' = dss.length - i) ?_ dss.length
    ⟨0, ow, ρ, wr ++ M, W, hh, tk, rfl, Tr.bar k hnew, Frz.start fun a ha => List.mem_append.mpr (.inr (hsub a ha)), fun b hb => List.mem_append.mpr (.inl hb), fun b hb q => old b (hlive b (hsub b q)) hb, st0, hS, h0, Nat.zero_le _, rfl⟩
  rintro k' s' ⟨i, ow', ρ', M', W', h', tk', rfl, t, fz, wm, ww, st', hS', hJ, hi, rfl⟩
  have wk : WrOk cx M' W' wr := ⟨wm, ww, hcell, hhb⟩
  by_cases hlt : i < dss.length
  · have hdl : dss[i]? = some dss[i] := List.getElem?_eq_getElem hlt
    refine wpAny_mono (itr.item i dss[i] { s with heap := h', toks := tk' } M' (fun v s₂ => wpAny (model G.prog G.w) A (PySem.assign target cx.env v) (fun _ s₂ => wpAny (model G.prog G.w) A (execs body cx.env) (fun f s₃ => match f with
            | .next | .cont => ∃ m, m < dss.length - i ∧ ∃ i ow' ρ' M' W' h' tk, s₃ = { s with heap := h', toks := tk } ∧ Tr M W s.heap M' W' h' ∧ Frz (wr ++ M) hh M' W' h' ∧ (∀ b ∈ wr, b ∈ M') ∧ (∀ b ∈ wr, b ∉ W') ∧
                  St G cx M' W' ow' ρ' h' ∧ S i h' ∧ J i ow' ρ' ∧ i ≤ dss.length ∧ m = dss.length - i
            | .brk => Q .next s₃
            | .ret v => Q (.ret v) s₃) (notedBy (model G.prog G.w) A cx.env fun e s' => cameBackBy (model G.prog G.w) A cx.env E e s') s₂) (notedBy (model G.prog G.w) A cx.env fun e s' => cameBackBy (model G.prog G.w) A cx.env E e s') s₂) _ hdl hS' (fun b o hb e => let ⟨h1, _, h3⟩ := fz b o hb e; ⟨h1, h3⟩) wm ?_) (fun r s₁ h₁ => ?_) fun _ _ x => x
    · intro v h2' tk2 hS2 off2 hitem
      have live2 := itr.live _ _ hS2
      have st2 := st'.wr wk off2 live2
      have t2 := t.wr hnew off2 live2
      have fz2 := fz.off (fun b hb => List.mem_append.mpr (.inl hb)) off2
      refine assign_item (s := { s with heap := h2', toks := tk2 }) tg am.handled st2 hitem (hl _ (List.getElem_mem hlt)) (fun x hx' => ⟨hx x hx', hfree i ow' ρ' hJ x hx'⟩) fun h3 tk3 t3 st3 => ?_
      have hMb : ∀ b, b ∈ wr ++ M → b ∈ wr ∨ b ∈ M ∨ hh.get? b = none := fun b hb => (List.mem_append.mp hb).elim .inl fun q => .inr (.inl q)
      have hS3 : S (i + 1) h3 := itr.keepS hMb fz2 ww t3.off hS2
      have fz3 := fz2.tr t3
      refine step i dss[i] ow' ρ' hdl hJ A _ M' W' _ _ am st3 ?_ ?_
      · intro ow4 ρ4 M4 W4 h4 tk4 hp t4 st4
        have live3 := itr.live _ _ hS3
        refine ⟨dss.length - (i + 1), by omega, i + 1, ow4, ρ4, M4, W4, h4, tk4, rfl, (t2.trans t3).trans t4, fz3.tr t4, fun b hb => ?_, fun b hb q => ?_, st4, itr.keepS hMb fz3 ww t4.off hS3, hp, hlt, rfl⟩
        · rcases t4.m2 b (wm b hb) with q | q | q
          · exact q
          · exact absurd q (ww b hb)
          · have := live3 b hb; have q' : h3.get? b = none := q; rw [q'] at this; cases this
        · rcases t4.w b q with q | q
          · exact ww b hb q
          · have := live3 b hb; have q' : h3.get? b = none := q; rw [q'] at this; cases this
      · intro d v M4 W4 h4 tk4 hp t4 r4
        exact h2 d v M4 W4 h4 tk4 hp ((t2.trans t3).trans t4) r4
    · cases r with
      | none => exact h₁.elim
      | some v => exact h₁
  · have hin : i = dss.length := by omega
    subst hin
    refine itr.done _ _ _ hS' fun h2' tk2 off2 => wpAny_execs_nil ?_
    exact h1 ow' ρ' _ W' h2' tk2 (done ow' ρ' hJ) (t.wrDrop hnew off2) (st'.wrDrop wk off2)
end
end Mine
end
section
open PySem PySem.Calls PyProof.Rows
namespace Mine

/-- the cells that a comprehension takes along -/
noncomputable def clOf (cells : List (Str × Addr)) : List (Str × NameKind) → List (Str × Addr) → List (Str × Addr)
  | [], acc => acc
  | (n, k) :: r, acc => if k == .free then clOf cells r ((n, (cells.lookup n).getD 0) :: acc) else clOf cells r acc
theorem closureFor_clOf {scope : Scope} {env : Env} (h : ∀ x ∈ scope.names, x.2 = .free → (env.cells.lookup x.1).isSome = true) : closureFor scope env = pure (clOf env.cells scope.names []) := by
  unfold closureFor
  have main : ∀ (names : List (Str × NameKind)) (acc : List (Str × Addr)), (∀ x ∈ names, x.2 = .free → (env.cells.lookup x.1).isSome = true) →
      (forIn names acc (fun (x : Str × NameKind) (r : List (Str × Addr)) => (match x with
        | (name, kind) => if kind == .free then (do let c ← cellOf env name; pure (ForInStep.yield ((name, c) :: r))) else pure (ForInStep.yield r) : Sem (ForInStep (List (Str × Addr)))))) = pure (clOf env.cells names acc) := by
    intro names
    induction names with
    | nil => intro acc _; rfl
    | cons y names ih =>
      intro acc hn
      obtain ⟨y, k⟩ := y
      rw [List.forIn_cons]
      by_cases hk : (k == NameKind.free) = true
      · have hk' : k = .free := by simpa using hk
        have := hn (y, k) List.mem_cons_self hk'
        obtain ⟨c, hc⟩ := Option.isSome_iff_exists.mp this
        simp only [hk, if_true]
        have e : cellOf env y = pure c := by unfold cellOf; rw [hc]
        rw [e]
        simp only [pure_bind]
        rw [ih _ fun x hx => hn x (List.mem_cons_of_mem _ hx)]
        conv => rhs; unfold clOf
        rw [if_pos hk, hc]; rfl
      · have hk' : (k == NameKind.free) = false := by simpa using hk
        simp only [hk', Bool.false_eq_true, if_false, pure_bind]
        rw [ih _ fun x hx => hn x (List.mem_cons_of_mem _ hx)]
        conv => rhs; unfold clOf
        rw [if_neg hk]
  have := main scope.names [] h
  first
    | exact (congrArg (fun m => m >>= fun cs => pure cs) this).trans (by simp)
    | (rw [show (forIn scope.names [] _ : Sem (List (Str × Addr))) = _ from this]; rfl)

theorem cellsFrom_append : ∀ (names : List (Str × NameKind)) (k : Nat) (acc : List (Str × Addr)), cellsFrom k names acc = cellsFrom k names [] ++ acc
  | [], k, acc => rfl
  | (n, kd) :: r, k, acc => by
    unfold cellsFrom
    split
    · rw [cellsFrom_append r (k + 1) ((n, k) :: acc), cellsFrom_append r (k + 1) [(n, k)], List.append_assoc]; rfl
    · exact cellsFrom_append r k acc
theorem lookup_append' {α : Type} : ∀ (a b : List (Str × α)) (x : Str), (a ++ b).lookup x = (a.lookup x).or (b.lookup x)
  | [], b, x => by simp
  | (k, v) :: a, b, x => by
    rw [List.cons_append, List.lookup_cons, List.lookup_cons]
    cases x == k
    · exact lookup_append' a b x
    · rfl
theorem cellsFrom_key : ∀ (names : List (Str × NameKind)) (k : Nat) (acc : List (Str × Addr)) (x : Str) (c : Addr), (x, c) ∈ cellsFrom k names acc → (x, c) ∈ acc ∨ (x, .cell) ∈ names
  | [], k, acc, x, c, h => .inl h
  | (n, kd) :: r, k, acc, x, c, h => by
    unfold cellsFrom at h
    split at h
    · rename_i hk
      rcases cellsFrom_key r (k + 1) _ x c h with q | q
      · rcases List.mem_cons.mp q with q | q
        · cases q
          have : kd = .cell := by simpa using hk
          subst this
          exact .inr List.mem_cons_self
        · exact .inl q
      · exact .inr (List.mem_cons_of_mem _ q)
    · rcases cellsFrom_key r k acc x c h with q | q
      · exact .inl q
      · exact .inr (List.mem_cons_of_mem _ q)
theorem clOf_key (cells : List (Str × Addr)) : ∀ (names : List (Str × NameKind)) (acc : List (Str × Addr)) (x : Str) (c : Addr), (x, c) ∈ clOf cells names acc → (x, c) ∈ acc ∨ ((x, .free) ∈ names ∧ c = (cells.lookup x).getD 0)
  | [], acc, x, c, h => .inl h
  | (n, kd) :: r, acc, x, c, h => by
    unfold clOf at h
    split at h
    · rename_i hk
      rcases clOf_key cells r _ x c h with q | q
      · rcases List.mem_cons.mp q with q | q
        · cases q
          have : kd = .free := by simpa using hk
          subst this
          exact .inr ⟨List.mem_cons_self, rfl⟩
        · exact .inl q
      · exact .inr ⟨List.mem_cons_of_mem _ q.1, q.2⟩
    · rcases clOf_key cells r acc x c h with q | q
      · exact .inl q
      · exact .inr ⟨List.mem_cons_of_mem _ q.1, q.2⟩
theorem clOf_has (cells : List (Str × Addr)) : ∀ (names : List (Str × NameKind)) (acc : List (Str × Addr)) (x : Str), ((x, NameKind.free) ∈ names ∨ (acc.lookup x).isSome = true) → ((clOf cells names acc).lookup x).isSome = true
  | [], acc, x, h => h.elim (fun q => nomatch q) id
  | (n, kd) :: r, acc, x, h => by
    unfold clOf
    by_cases hk : (kd == NameKind.free) = true
    · rw [if_pos hk]
      refine clOf_has cells r _ x ?_
      by_cases q : x = n
      · subst q; exact .inr (by simp [List.lookup_cons])
      · rcases h with h | h
        · rcases List.mem_cons.mp h with e | h
          · cases e; exact absurd rfl q
          · exact .inl h
        · refine .inr ?_
          have : (x == n) = false := by simpa using q
          rw [List.lookup_cons]; simp only [this]; exact h
    · rw [if_neg hk]
      refine clOf_has cells r acc x ?_
      rcases h with h | h
      · rcases List.mem_cons.mp h with e | h
        · cases e; exact absurd (by rfl) hk
        · exact .inl h
      · exact .inr h
theorem mem_of_lookup' {α : Type} {l : List (Str × α)} {x : Str} {v : α} (h : l.lookup x = some v) : (x, v) ∈ l := mem_of_lookup h
theorem lookup_of_mem {α : Type} : ∀ {l : List (Str × α)} {x : Str} {v : α}, (l.map (·.1)).Nodup → (x, v) ∈ l → l.lookup x = some v
  | (k, u) :: r, x, v, hn, hm => by
    rw [List.map_cons, List.nodup_cons] at hn
    rw [List.lookup_cons]
    rcases List.mem_cons.mp hm with e | hm'
    · cases e; simp
    · have : x ≠ k := fun e => hn.1 (by subst e; exact List.mem_map.mpr ⟨(x, v), hm', rfl⟩)
      have : (x == k) = false := by simpa using this
      simp only [this]
      exact lookup_of_mem hn.2 hm'

noncomputable def compCells (env : Env) (scope : Scope) (C : Addr) : List (Str × Addr) := cellsFrom (C + 1) scope.names (clOf env.cells scope.names [])
noncomputable def compCx (cx : Cx) (scope : Scope) (h : Heap) (C : Addr) : Cx :=
  { hb := h, MC := [], env := compEnvC scope (compCells cx.env scope C) C cx.env, own := fun x => scope.names.lookup x == some .cell }
noncomputable def compρ (ρ : Vs) (scope : Scope) : Vs := fun x => if scope.names.lookup x == some .free then ρ x else none

theorem lookup_relabel_free {env : Env} : ∀ {names : List (Str × NameKind)} {x : Str}, names.lookup x = some .free →
    (names.map fun (n, k) => if (k == NameKind.free && env.scope.kind == .function && env.kindOf n == some .cell) then (n, NameKind.cell) else (n, k)).lookup x = some (if (env.scope.kind == .function && env.kindOf x == some .cell) = true then .cell else .free)
  | [], _, h => by simp at h
  | (n, k) :: r, x, h => by
    show List.lookup x ((if (k == NameKind.free && env.scope.kind == .function && env.kindOf n == some .cell) = true then (n, NameKind.cell) else (n, k)) :: _) = _
    cases hx : x == n with
    | true =>
      have hxn : x = n := by simpa using hx
      subst hxn
      simp only [List.lookup_cons, beq_self_eq_true] at h
      cases h
      by_cases hc : (env.scope.kind == .function && env.kindOf x == some .cell) = true
      · have : ((NameKind.free == NameKind.free) && env.scope.kind == .function && env.kindOf x == some .cell) = true := by
          rw [Bool.and_assoc, hc]; rfl
        rw [if_pos this, if_pos hc]; simp [List.lookup_cons]
      · have : ¬ ((NameKind.free == NameKind.free) && env.scope.kind == .function && env.kindOf x == some .cell) = true := by
          rw [Bool.and_assoc]
          intro q
          exact hc (by simpa using q)
        rw [if_neg this, if_neg hc]; simp [List.lookup_cons]
    | false =>
      simp only [List.lookup_cons, hx] at h
      have ih := lookup_relabel_free (env := env) h
      split
      · rw [List.lookup_cons]; simp only [hx]; exact ih
      · rw [List.lookup_cons]; simp only [hx]; exact ih

section
variable {M : Model} {A : Around} {E : Value → Shared → Prop} {s : Shared}
theorem newCompEnv {scope : Scope} {env : Env} {cl : List (Str × Addr)} {Q : Env → Shared → Prop}
    (h : Q (newEnv scope s.heap.objs.size env.globals (cellsFrom (s.heap.objs.size + 1) scope.names cl) env.qual none .none (some env) builtinsNs)
      { s with heap := pushCells (s.heap.push { cls := .type "dict", data := .dict #[] }) scope.names }) :
    wpAny M A (newFunctionEnv scope env.globals cl [] env.qual none .none (some env)) Q E s := by
  simp only [newFunctionEnv, Option.isSome_some, if_true]
  refine wpAny_bind (wpAny_alloc ?_)
  refine wpAny_bind (wpAny_layCells _ (fun name kind cells => by cases hkc : kind == NameKind.cell <;> simp [hkc]) _ _ _ _ ?_)
  rw [show ({ s with heap := s.heap.push { cls := .type "dict", data := .dict #[] } } : Shared).heap.objs.size = s.heap.objs.size + 1 from Heap.size_push ..]
  refine wpAny_bind ?_
  rw [List.forIn_nil]
  exact wpAny_pure (wpAny_pure h)
end

/-- a side condition on a comprehension's scope, reckoned -/
noncomputable def compOk (env : Env) (scope : Scope) : Bool :=
  scope.names.all fun x => x.2 != .free || ((env.cells.lookup x.1).isSome && (env.kindOf x.1 == some .cell || (env.kindOf x.1 == some .free && !(x.1 == ("__classdict__" : Str)))))
structure CompOk (cx : Cx) (scope : Scope) : Prop where
  free : compOk cx.env scope = true
  kind : scope.kind = .function
  nodup : (scope.names.map (·.1)).Nodup

theorem comp_st {G : GC} {cx : Cx} {n : Nat} {ow : Ow} {ρ : Vs} {M W : List Addr} {h h3 : Heap} {scope : Scope} {new : List Addr} (ok : CompOk cx scope) (st : St G cx M W ow ρ h) (k : Kp h h3) (hn : ∀ a ∈ new, h.get? a = none) (hl : ∀ a ∈ new, (h3.get? a).isSome = true) :
    St G (compCx cx scope h h3.objs.size) ((h3.objs.size :: (cellsFrom (h3.objs.size + 1) scope.names []).map (·.2)) ++ (new ++ M)) (h3.objs.size :: (cellsFrom (h3.objs.size + 1) scope.names []).map (·.2)) none (compρ ρ scope)
      (pushCells (h3.push { cls := .type "dict", data := .dict #[] }) scope.names) ∧ Kp h3 (pushCells (h3.push { cls := .type "dict", data := .dict #[] }) scope.names) := by
  have st3 : St G cx (new ++ M) W ow ρ h3 := st.bar k hn hl
  obtain ⟨m, z, _⟩ := st3
  have keep : Kp h3 (pushCells (h3.push { cls := .type "dict", data := .dict #[] }) scope.names) := fun b o e => pushCells_keeps _ _ b o (Heap.get?_push_of_some _ e)
  refine ⟨?_, keep⟩
  have okc := cellsFrom_ok scope.names (h3.push { cls := .type "dict", data := .dict #[] }) (h3.objs.size + 1) [] ⟨fun _ _ hm => (nomatch hm), List.Pairwise.nil⟩ (by rw [Heap.size_push]; exact Nat.le_refl _)
  rw [Heap.size_push] at okc
  have hcells : compCells cx.env scope h3.objs.size = cellsFrom (h3.objs.size + 1) scope.names [] ++ clOf cx.env.cells scope.names [] := cellsFrom_append _ _ _
  generalize hown : cellsFrom (h3.objs.size + 1) scope.names [] = own at okc hcells ⊢
  have hLnew : ∀ c, h3.objs.size ≤ c → h3.get? c = none := fun c hc => Heap.get?_none_of_le hc
  have ownMem : ∀ c ∈ own.map (·.2), ∃ x, (x, c) ∈ own := fun c hc => by
    obtain ⟨⟨x, c'⟩, hx, rfl⟩ := List.mem_map.mp hc
    exact ⟨x, hx⟩
  have newW : ∀ a ∈ h3.objs.size :: own.map (·.2), h3.get? a = none := fun a ha => by
    rcases List.mem_cons.mp ha with rfl | ha
    · exact hLnew _ (Nat.le_refl _)
    · obtain ⟨x, hx⟩ := ownMem a ha
      exact hLnew _ (Nat.le_of_lt (okc.empty x a hx).2)
  have more : ∀ a ∈ (h3.objs.size :: own.map (·.2)) ++ (new ++ M), a ∈ new ++ M ∨ h3.get? a = none := fun a ha => by
    rcases List.mem_append.mp ha with q | q
    · exact .inr (newW a q)
    · exact .inl q
  -- what the closure's cells are
  have clFact : ∀ x c, (x, c) ∈ clOf cx.env.cells scope.names [] → (x, NameKind.free) ∈ scope.names ∧ cx.env.cells.lookup x = some c := fun x c hc => by
    rcases clOf_key _ _ _ x c hc with q | ⟨q1, q2⟩
    · cases q
    · refine ⟨q1, ?_⟩
      have := List.all_eq_true.mp ok.free (x, .free) q1
      simp only [bne_self_eq_false, Bool.false_or, Bool.and_eq_true] at this
      obtain ⟨c', hc'⟩ := Option.isSome_iff_exists.mp this.1
      rw [hc'] at q2 ⊢
      simpa using q2.symm
  have cellFact : ∀ x c, (compCells cx.env scope h3.objs.size).lookup x = some c → (x, c) ∈ own ∨ (cx.env.cells.lookup x = some c ∧ (x, NameKind.free) ∈ scope.names) := fun x c hc => by
    rw [hcells] at hc
    rcases List.mem_append.mp (mem_of_lookup hc) with q | q
    · exact .inl q
    · have := clFact x c q; exact .inr ⟨this.2, this.1⟩
  have lowC : ∀ x c, cx.env.cells.lookup x = some c → c < h3.objs.size := fun x c hc => by
    obtain ⟨⟨v, o, ho, _⟩, _⟩ := z.cell x c hc
    exact Heap.lt_size ho
  refine ⟨fun _ => none, ?_, trivial⟩
  exact {
    gd := st.gdh
    keep := k.trans keep
    sub := fun a ha => List.mem_append.mpr (.inl ha)
    mc := fun a ha => nomatch ha
    mcl := fun a ha => nomatch ha
    new := fun a ha => by
      show h.get? a = none
      cases e : h.get? a with
      | none => rfl
      | some o => have := newW a ha; rw [k a o e] at this; cases this
    live := fun a ha => by
      rcases List.mem_append.mp ha with ha | ha
      · rcases List.mem_cons.mp ha with rfl | ha
        · have : (h3.push { cls := .type "dict", data := .dict #[] }).get? h3.objs.size = some _ := Heap.get?_push_size _ rfl
          rw [pushCells_keeps _ _ _ _ this]; rfl
        · obtain ⟨x, hx⟩ := ownMem a ha
          obtain ⟨⟨o, ho, _⟩, _⟩ := okc.empty x a hx
          rw [ho]; rfl
      · exact keep.isSome (z.live a ha)
    ns := (Heap.Ns.new h3 (.type "dict")).keeps (pushCells_keeps _ _)
    lw := List.mem_cons_self
    fn := ok.kind
    gl := z.gl
    bl := z.bl
    cell := fun x c hc => by
      rcases cellFact x c hc with q | ⟨q, _⟩
      · exact ⟨⟨_, (okc.empty x c q).1⟩, Nat.ne_of_gt (okc.empty x c q).2, List.mem_append.mpr (.inl (List.mem_cons_of_mem _ (List.mem_map.mpr ⟨(x, c), q, rfl⟩)))⟩
      · obtain ⟨⟨v, hv⟩, _, hM⟩ := z.cell x c q
        exact ⟨⟨v, hv.keeps keep⟩, Nat.ne_of_lt (lowC x c q), List.mem_append.mpr (.inr hM)⟩
    inj := fun x y c hx hy => by
      rcases cellFact x c hx with q | ⟨q, _⟩ <;> rcases cellFact y c hy with q' | ⟨q', _⟩
      · exact name_of_addr okc.apart q q'
      · exact absurd (lowC y c q') (Nat.not_lt.mpr (Nat.le_of_succ_le (okc.empty x c q).2))
      · exact absurd (lowC x c q) (Nat.not_lt.mpr (Nat.le_of_succ_le (okc.empty y c q').2))
      · exact z.inj x y c q q'
    cw := fun x c ho hc => by
      have ho' : (scope.names.lookup x == some NameKind.cell) = true := ho
      have hx : (x, NameKind.cell) ∈ scope.names := mem_of_lookup (by simpa using ho')
      rcases cellFact x c hc with q | ⟨_, q⟩
      · exact List.mem_cons_of_mem _ (List.mem_map.mpr ⟨(x, c), q, rfl⟩)
      · have e1 := lookup_of_mem ok.nodup hx
        have e2 := lookup_of_mem ok.nodup q
        rw [e1] at e2; cases e2
    vars := fun x d hx => by
      unfold compρ at hx
      by_cases q : (scope.names.lookup x == some NameKind.free) = true
      · rw [if_pos q] at hx
        have q' : scope.names.lookup x = some .free := by simpa using q
        have hmem := mem_of_lookup q'
        have side := List.all_eq_true.mp ok.free (x, .free) hmem
        simp only [bne_self_eq_false, Bool.false_or, Bool.and_eq_true, Bool.or_eq_true, beq_iff_eq] at side
        have hk' : (compCx cx scope h h3.objs.size).env.kindOf x = some (if (cx.env.scope.kind == .function && cx.env.kindOf x == some .cell) = true then .cell else .free) := lookup_relabel_free q'
        rw [z.fn] at hk'
        -- the outer variable lies in a cell
        have outer : ∃ c v, cx.env.cells.lookup x = some c ∧ h3.IsCell c (some v) ∧ Rep G (new ++ M) h3 d v := by
          rcases z.vars x d hx with ⟨a1, _⟩ | ⟨_, c, v, a2, a3, a4⟩
          · exfalso
            rcases side.2 with e | e
            · rw [a1] at e; cases e
            · have e := e.1; rw [a1] at e; cases e
          · exact ⟨c, v, a2, a3, a4⟩
        obtain ⟨c, v, hc, hv, hr⟩ := outer
        have hown' : own.lookup x = none := by
          cases e : own.lookup x with
          | none => rfl
          | some c' =>
            have := mem_of_lookup e
            rw [← hown] at this
            rcases cellsFrom_key _ _ _ _ _ this with e' | e'
            · cases e'
            · have e1 := lookup_of_mem ok.nodup e'
              rw [e1] at q'; cases q'
        have hlk : (compCells cx.env scope h3.objs.size).lookup x = some c := by
          rw [hcells, lookup_append', hown', Option.none_or]
          obtain ⟨c2, hc2⟩ := Option.isSome_iff_exists.mp (clOf_has cx.env.cells scope.names [] x (.inl hmem))
          have := clFact x c2 (mem_of_lookup hc2)
          rw [hc2]
          rw [hc] at this
          exact this.2.symm
        refine .inr ⟨?_, c, v, hlk, hv.keeps keep, (hr.more more).kp keep⟩
        rcases side.2 with e | e
        · rw [e] at hk'; exact .inl hk'
        · have hne : (x == ("__classdict__" : Str)) = false := by simpa using e.2
          rw [e.1] at hk'
          exact .inr ⟨hk', hne⟩
      · rw [if_neg q] at hx; cases hx }
end Mine
end
section
open PySem PySem.Calls PyProof.Rows
namespace Mine

section
variable {prog : Program} {w : World} {A : Around} {E : Value → Shared → Prop} {R : Result → Shared → Prop} {s : Shared}
theorem compLoop_any {elt target iter : Expr} {ifs : List Expr} {scope : Scope} {pos : Pos} {it acc : Value} {env : Env} (I : Nat → Shared → Prop)
    (turn : ∀ n s, I n s → wpAny (model prog w) A (pyNext it) (fun r s₁ => match r with
      | none => R (.ok .next) s₁
      | some v => wpAny (model prog w) A (letOwnedTupleGo target it v) (fun _ s₁' => wpAny (model prog w) A (PySem.assign target env v) (fun _ s₂ =>
          wpAny (model prog w) A (forIn ifs true fun c r => if r = true then do let ok ← isTrue c env (eval c env); pure (ForInStep.yield ok) else pure (ForInStep.yield r)) (fun ok s₃ =>
            if ok = true then wpAny (model prog w) A (eval elt env) (fun x s₄ =>
              wpAny (model prog w) A (PySem.call (.builtin "list.append") [acc, x]) (fun _ s₅ => ∃ m, m < n ∧ I m s₅) (notedBy (model prog w) A env fun e s' => R (.error e) s') s₄) (notedBy (model prog w) A env fun e s' => R (.error e) s') s₃
            else ∃ m, m < n ∧ I m s₃) (notedBy (model prog w) A env fun e s' => R (.error e) s') s₂) (notedBy (model prog w) A env fun e s' => R (.error e) s') s₁') (notedBy (model prog w) A env fun e s' => R (.error e) s') s₁) (notedBy (model prog w) A env fun e s' => R (.error e) s') s)
    (n : Nat) (h : I n s) : codeAny (model prog w) A (.compLoop (.ListComp elt [⟨target, iter, ifs, 0⟩] scope pos) 0 it acc env) R s := by
  refine codeAny_loop rfl I (fun n s hI => ?_) n h
  show wpAny _ A ((compTurn (.ListComp elt [⟨target, iter, ifs, 0⟩] scope pos) 0 it acc env).onRaise (fun x => do noteFrame x env; theTreesLotGoes x)) _ _ s
  refine wpAny_noted ?_
  rw [compTurn_list]
  refine wpAny_bind (wpAny_standAt (wpAny_bind (wpAny_mono (turn n s hI) (fun r s₁ h₁ => ?_) fun _ _ h' => h')))
  cases r with
  | none => exact wpAny_pure h₁
  | some v =>
    refine wpAny_bind (wpAny_mono h₁ (fun _ s₁' h₁' => ?_) fun _ _ h' => h')
    refine wpAny_bind (wpAny_mono h₁' (fun _ s₂ h₂ => wpAny_bind (wpAny_mono h₂ (fun ok s₃ h₃ => ?_) fun _ _ h' => h')) fun _ _ h' => h')
    cases ok with
    | false => exact wpAny_pure ⟨rfl, h₃⟩
    | true =>
      exact wpAny_bind (wpAny_bind (wpAny_mono h₃ (fun x s₄ h₄ => wpAny_bind (wpAny_mono h₄ (fun _ s₅ h₅ => wpAny_pure (wpAny_pure ⟨rfl, h₅⟩)) fun _ _ h' => h')) fun _ _ h' => h'))
end

/-- a comprehension's tests *)-/
noncomputable def EvTs (G : GC) (cx : Cx) (n : Nat) (ow : Ow) (ρ : Vs) : List Expr → Bool → Prop
  | [], b => b = true
  | [c], b => EvT G cx n ow ρ c b
  | _, _ => False

theorem St.weak {G : GC} {cx : Cx} {M W : List Addr} {ow : Ow} {ρ ρ' : Vs} {h : Heap} (st : St G cx M W ow ρ h) (hw : ∀ x d, ρ' x = some d → ρ x = some d) : St G cx M W ow ρ' h := by
  obtain ⟨m, z, ok⟩ := st
  exact ⟨m, { z with vars := fun x d hx => z.vars x d (hw x d hx) }, ok⟩
theorem updAll_ne : ∀ (xs : List Str) (ds : List D) (ρ : Vs) (y : Str), y ∉ xs → updAll ρ xs ds y = ρ y
  | [], ds, ρ, y, _ => by cases ds <;> rfl
  | x :: xs, [], ρ, y, _ => rfl
  | x :: xs, d :: ds, ρ, y, h => by
    simp only [List.mem_cons, not_or] at h
    show updAll (upd ρ x d) xs ds y = _
    rw [updAll_ne xs ds _ y h.2]
    exact if_neg h.1

theorem filter_map_snoc {α β : Type} (p : α → Bool) (f : α → β) (l : List α) (i : Nat) (x : α) (h : l[i]? = some x) :
    ((l.take (i + 1)).filter p).map f = ((l.take i).filter p).map f ++ (if p x then [f x] else []) := by
  rw [List.take_add_one, h, List.filter_append, List.map_append]
  cases hp : p x <;> simp [hp]

theorem comp_core {G : GC} {cx : Cx} {n : Nat} {ow : Ow} {ρ : Vs} {M W : List Addr} {A : Around} {s : Shared} {E : Value → Shared → Prop} {elt target iter : Expr} {xs : List Str} {ifs : List Expr} {scope : Scope} {spos fpos : Pos} {use : Option (Value → Sem Unit)} {Q : Value → Shared → Prop}
    {α : Type} {as : List α} {dl : α → List D} (p : α → Bool) (f : α → D) (am : Amb A n) (st : St G cx M W ow ρ s.heap) (tg : TG target xs) (it : EvI G cx n ow ρ iter target (as.map dl)) (hl : ∀ a ∈ as, (dl a).length = xs.length) (ok : CompOk cx scope)
    (hx : ∀ x ∈ xs, ∀ h C, CanStore (compCx cx scope h C) x) (hxf : ∀ x ∈ xs, scope.names.lookup x ≠ some .free)
    (tests : ∀ a ∈ as, ∀ h C, EvTs G (compCx cx scope h C) n none (updAll (compρ ρ scope) xs (dl a)) ifs (p a))
    (elts : ∀ a ∈ as, p a = true → ∀ h C, Ev G (compCx cx scope h C) n none (updAll (compρ ρ scope) xs (dl a)) elt (f a))
    (hz : as.length ≤ sizeLine)
    (fin : ∀ hE tk C D, Kp s.heap hE → s.heap.get? C = none → (∃ m, hE.Ns C m) → Rep G ([C] ++ M) hE (.lst ((as.filter p).map f)) (.ref D) → compPost (model G.prog G.w) A E use Q (.ref D) C (.ok .next) { s with heap := hE, toks := tk })
    (hs : ∀ x, foldedSetIterable iter cx.env x = pure x) :
    wpAny (model G.prog G.w) A (PySem.comprehension (.ListComp elt [⟨target, iter, ifs, 0⟩] scope spos) scope cx.env fpos (newList []) false (eval iter cx.env) use) Q E s := by
  obtain ⟨dss, hdss⟩ : ∃ dss, dss = as.map dl := ⟨_, rfl⟩
  rw [← hdss] at it
  have hlenA : dss.length = as.length := by rw [hdss, List.length_map]
  have hclos : closureFor scope cx.env = pure (clOf cx.env.cells scope.names []) := closureFor_clOf fun x hx hk => by
    have := List.all_eq_true.mp ok.free x hx
    rw [hk] at this
    simp only [bne_self_eq_false, Bool.false_or, Bool.and_eq_true] at this
    exact this.1
  refine wpAny_comprehension_free (g := ⟨target, iter, ifs, 0⟩) (gs := []) rfl hs hclos ok.kind (fun x hx hk => lookup_of_mem ok.nodup (by rw [← hk]; exact hx)) ?_
  refine it A s M W _ E am st fun I fp wr S hh tk itr hS k => ?_
  refine wpAny_newObj_type ?_
  refine newCompEnv ?_
  dsimp only
  -- the names of what is new
  have hnew := itr.new
  have hlive0 := let ⟨_, z, _⟩ := st; z.live
  have hsub := let ⟨_, z, _⟩ := st; z.sub
  generalize hH3 : hh.push { cls := .type "list", dict := none, data := .seq ([] : List Value).toArray } = h3
  have hD3 : h3.objs.size = hh.objs.size + 1 := by rw [← hH3, Heap.size_push]
  have hDl : h3.get? hh.objs.size = some { cls := .type "list", dict := none, data := .seq ([] : List Value).toArray } := by rw [← hH3]; exact Heap.get?_push_size _ rfl
  have k3 : Kp hh h3 := by rw [← hH3]; exact Kp.push _ _
  have hsz : ∀ {a}, (hh.get? a).isSome = true → a < hh.objs.size := fun {a} ha => by obtain ⟨o, ho⟩ := Option.isSome_iff_exists.mp ha; exact Heap.lt_size ho
  have wrlt : ∀ b ∈ wr, b < hh.objs.size := fun b hb => hsz (itr.live 0 hh hS b hb)
  have newN : ∀ a ∈ hh.objs.size :: wr, s.heap.get? a = none := fun a ha => by
    rcases List.mem_cons.mp ha with rfl | ha
    · cases e : s.heap.get? hh.objs.size with
      | none => rfl
      | some o => exact absurd (Heap.lt_size (k _ _ e)) (Nat.lt_irrefl _)
    · exact hnew a ha
  have newL : ∀ a ∈ hh.objs.size :: wr, (h3.get? a).isSome = true := fun a ha => by
    rcases List.mem_cons.mp ha with rfl | ha
    · rw [hDl]; rfl
    · exact k3.isSome (itr.live 0 hh hS a ha)
  obtain ⟨st4, k4⟩ := comp_st (n := n) (new := hh.objs.size :: wr) ok st (k.trans k3) newN newL
  generalize hh4 : pushCells (h3.push { cls := .type "dict", data := .dict #[] }) scope.names = h4 at st4 k4 ⊢
  generalize hW0 : (h3.objs.size :: (cellsFrom (h3.objs.size + 1) scope.names []).map (·.2)) = W0 at st4
  generalize hcx : compCx cx scope s.heap h3.objs.size = cx' at st4
  have henv : cx'.env = compEnvC scope (compCells cx.env scope h3.objs.size) h3.objs.size cx.env := by rw [← hcx]; rfl
  have hloc : cx'.env.locals = h3.objs.size := by rw [henv]; rfl
  have W0new : ∀ a ∈ W0, h3.get? a = none := fun a ha => by
    rw [← hW0] at ha
    rcases List.mem_cons.mp ha with rfl | ha
    · exact Heap.get?_none_of_le (Nat.le_refl _)
    · obtain ⟨⟨x, c⟩, hx, rfl⟩ := List.mem_map.mp ha
      have okc := cellsFrom_ok scope.names (h3.push { cls := .type "dict", data := .dict #[] }) (h3.objs.size + 1) [] ⟨fun _ _ hm => (nomatch hm), List.Pairwise.nil⟩ (by rw [Heap.size_push]; exact Nat.le_refl _)
      rw [Heap.size_push] at okc
      exact Heap.get?_none_of_le (Nat.le_of_succ_le (okc.empty x c hx).2)
  have hlw : h3.objs.size ∈ W0 := by rw [← hW0]; exact List.mem_cons_self
  have W0M : ∀ a ∈ W0, a ∈ W0 ++ ((hh.objs.size :: wr) ++ M) := fun a ha => List.mem_append.mpr (.inl ha)
  have DM : hh.objs.size ∈ W0 ++ ((hh.objs.size :: wr) ++ M) := List.mem_append.mpr (.inr (List.mem_append.mpr (.inl List.mem_cons_self)))
  have wrM : ∀ b ∈ wr, b ∈ W0 ++ ((hh.objs.size :: wr) ++ M) := fun b hb => List.mem_append.mpr (.inr (List.mem_append.mpr (.inl (List.mem_cons_of_mem _ hb))))
  have liveW0 : ∀ {a}, (h3.get? a).isSome = true → a ∉ W0 := fun {a} ha q => by rw [W0new a q] at ha; cases ha
  have DW0 : hh.objs.size ∉ W0 := liveW0 (newL _ List.mem_cons_self)
  have wrW0 : ∀ b ∈ wr, b ∉ W0 := fun b hb => liveW0 (newL b (List.mem_cons_of_mem _ hb))
  have wrD : ∀ b ∈ wr, b ≠ hh.objs.size := fun b hb => Nat.ne_of_lt (wrlt b hb)
  have hcellLow : ∀ y c, cx'.env.cells.lookup y = some c → c ∉ wr ∧ c ≠ hh.objs.size := fun y c hy => by
    have h1 := let ⟨_, z, _⟩ := st4; z.cell y c hy
    rw [henv] at hy
    have hy' : (compCells cx.env scope h3.objs.size).lookup y = some c := hy
    unfold compCells at hy'
    rw [cellsFrom_append, lookup_append'] at hy'
    cases e : (cellsFrom (h3.objs.size + 1) scope.names []).lookup y with
    | some c' =>
      rw [e, Option.some_or] at hy'
      have : c' = c := by simpa using hy'
      subst this
      have hcW : c' ∈ W0 := by rw [← hW0]; exact List.mem_cons_of_mem _ (List.mem_map.mpr ⟨(y, c'), mem_of_lookup e, rfl⟩)
      exact ⟨fun q => wrW0 _ q hcW, fun q => DW0 (q ▸ hcW)⟩
    | none =>
      rw [e, Option.none_or] at hy'
      have hl2 : cx.env.cells.lookup y = some c := by
        rcases clOf_key _ _ _ _ _ (mem_of_lookup hy') with q | ⟨q1, q2⟩
        · cases q
        · have := List.all_eq_true.mp ok.free (y, .free) q1
          simp only [bne_self_eq_false, Bool.false_or, Bool.and_eq_true] at this
          obtain ⟨c', hc'⟩ := Option.isSome_iff_exists.mp this.1
          rw [hc'] at q2 ⊢
          simpa using q2.symm
      have hlc : (s.heap.get? c).isSome = true := by
        obtain ⟨_, z, _⟩ := st
        obtain ⟨⟨v, o, ho, _⟩, _⟩ := z.cell y c hl2
        rw [ho]; rfl
      exact ⟨fun q => (by rw [hnew c q] at hlc; exact nomatch hlc), fun q => (by rw [q, newN _ List.mem_cons_self] at hlc; exact nomatch hlc)⟩
  have hbwr : ∀ b ∈ hh.objs.size :: wr, True := fun _ _ => trivial
  -- S stands whatever turns in the frame or in the list
  have keepS : ∀ {i h1 h2}, Off (hh.objs.size :: W0) h1 h2 → S i h1 → S i h2 := fun {i h1 h2} kk hS' => itr.frame i h1 h2 hS' fun b hb o e => kk b o (fun q => by
    have hbl : (hh.get? b).isSome = true := by
      rcases itr.foot b hb with q' | ⟨_, q'⟩
      · exact itr.live 0 hh hS b q'
      · exact q'
    rcases List.mem_cons.mp q with rfl | q
    · exact absurd (hsz hbl) (Nat.lt_irrefl _)
    · exact liveW0 (k3.isSome hbl) q) e
  have S4 : S 0 h4 := itr.frame 0 hh h4 hS fun b _ o e => k4 b o (k3 b o e)
  have goal : ∀ s₀ : Shared, s₀ = { s with heap := h4, toks := tk } → codeAny (model G.prog G.w) A (.compLoop (.ListComp elt [⟨target, iter, ifs, 0⟩] scope spos) 0 (.ref I) (.ref hh.objs.size) cx'.env) (compPost (model G.prog G.w) A E use Q (.ref hh.objs.size) h3.objs.size) s₀ := by
    rintro s₀ rfl
    refine compLoop_any (fun kk s' => ∃ i h' tk' ys, s' = { s with heap := h', toks := tk' } ∧ St G cx' (W0 ++ ((hh.objs.size :: wr) ++ M)) W0 none (compρ ρ scope) h' ∧ S i h' ∧ h'.PlainList hh.objs.size (ys : List Value).toArray ∧
      RepL G (W0 ++ ((hh.objs.size :: wr) ++ M)) h' (((as.take i).filter p).map f) ys ∧ Off (W0 ++ (hh.objs.size :: wr)) h4 h' ∧ i ≤ dss.length ∧ kk = dss.length - i) ?_ dss.length
      ⟨0, h4, tk, [], rfl, st4, S4, ⟨0, k4 _ _ hDl⟩, by simpa using RepL.nil, fun _ _ _ e => e, Nat.zero_le _, rfl⟩
    rintro kk s' ⟨i, h', tk', ys, rfl, st', hS', hD', hys, off', hi, rfl⟩
    by_cases hlt : i < dss.length
    · obtain ⟨a, haA, hdl⟩ : ∃ a, as[i]? = some a ∧ dss[i]? = some (dl a) := by
        have h1 : as[i]? = some (as[i]'(by omega)) := List.getElem?_eq_getElem _
        exact ⟨_, h1, (congrArg (·[i]?) hdss).trans (by simp [h1])⟩
      have hmem : a ∈ as := List.mem_of_getElem? haA
      refine wpAny_mono (itr.item i (dl a) { s with heap := h', toks := tk' } (W0 ++ ((hh.objs.size :: wr) ++ M)) (fun v s₂ => wpAny (model G.prog G.w) A (PySem.assign target cx'.env v) (fun _ s₂ =>
          wpAny (model G.prog G.w) A (forIn ifs true fun c r => if r = true then do let ok ← isTrue c cx'.env (eval c cx'.env); pure (ForInStep.yield ok) else pure (ForInStep.yield r)) (fun ok s₃ =>
            if ok = true then wpAny (model G.prog G.w) A (eval elt cx'.env) (fun x s₄ =>
              wpAny (model G.prog G.w) A (PySem.call (.builtin "list.append") [.ref hh.objs.size, x]) (fun _ s₅ => ∃ m, m < dss.length - i ∧ ∃ i h' tk' ys, s₅ = { s with heap := h', toks := tk' } ∧ St G cx' (W0 ++ ((hh.objs.size :: wr) ++ M)) W0 none (compρ ρ scope) h' ∧ S i h' ∧ h'.PlainList hh.objs.size (ys : List Value).toArray ∧
      RepL G (W0 ++ ((hh.objs.size :: wr) ++ M)) h' (((as.take i).filter p).map f) ys ∧ Off (W0 ++ (hh.objs.size :: wr)) h4 h' ∧ i ≤ dss.length ∧ m = dss.length - i) (notedBy (model G.prog G.w) A cx'.env fun e s' => compPost (model G.prog G.w) A E use Q (.ref hh.objs.size) h3.objs.size (.error e) s') s₄) (notedBy (model G.prog G.w) A cx'.env fun e s' => compPost (model G.prog G.w) A E use Q (.ref hh.objs.size) h3.objs.size (.error e) s') s₃
            else ∃ m, m < dss.length - i ∧ ∃ i h' tk' ys, s₃ = { s with heap := h', toks := tk' } ∧ St G cx' (W0 ++ ((hh.objs.size :: wr) ++ M)) W0 none (compρ ρ scope) h' ∧ S i h' ∧ h'.PlainList hh.objs.size (ys : List Value).toArray ∧
      RepL G (W0 ++ ((hh.objs.size :: wr) ++ M)) h' (((as.take i).filter p).map f) ys ∧ Off (W0 ++ (hh.objs.size :: wr)) h4 h' ∧ i ≤ dss.length ∧ m = dss.length - i) (notedBy (model G.prog G.w) A cx'.env fun e s' => compPost (model G.prog G.w) A E use Q (.ref hh.objs.size) h3.objs.size (.error e) s') s₂) (notedBy (model G.prog G.w) A cx'.env fun e s' => compPost (model G.prog G.w) A E use Q (.ref hh.objs.size) h3.objs.size (.error e) s') s₂) _ hdl hS' ?_ wrM ?_) (fun r s₁ h₁ => ?_) fun _ _ x => x
      · intro b o hb e
        have hbl : (h3.get? b).isSome = true := by rw [k3 b o e]; rfl
        have hbD : b ≠ hh.objs.size := Nat.ne_of_lt (Heap.lt_size e)
        have hbwr : b ∉ wr := fun q => hb (List.mem_append.mpr (.inl q))
        refine ⟨fun q => ?_, off' b o (fun q => ?_) (k4 b o (k3 b o e))⟩
        · rcases List.mem_append.mp q with q | q
          · exact liveW0 hbl q
          · rcases List.mem_append.mp q with q | q
            · rcases List.mem_cons.mp q with q | q
              · exact hbD q
              · exact hbwr q
            · exact hb (List.mem_append.mpr (.inr q))
        · rcases List.mem_append.mp q with q | q
          · exact liveW0 hbl q
          · rcases List.mem_cons.mp q with q | q
            · exact hbD q
            · exact hbwr q
      · intro v h2 tk2 hS2 off2 hitem
        have live2 := itr.live _ _ hS2
        have wk : WrOk cx' (W0 ++ ((hh.objs.size :: wr) ++ M)) W0 wr := ⟨wrM, wrW0, fun y c hy => (hcellLow y c hy).1, fun b hb => by rw [← hcx]; exact hnew b hb⟩
        have wkD : WrOk cx' (W0 ++ ((hh.objs.size :: wr) ++ M)) W0 [hh.objs.size] := ⟨fun b hb => by rw [List.mem_singleton.mp hb]; exact DM, fun b hb => by rw [List.mem_singleton.mp hb]; exact DW0, fun y c hy q => (hcellLow y c hy).2 (List.mem_singleton.mp q), fun b hb => by
          rw [← hcx, List.mem_singleton.mp hb]; exact newN _ List.mem_cons_self⟩
        have st2 := st'.wr wk off2 live2
        have hD2 : h2.PlainList hh.objs.size ys.toArray := PlainList.kp (fun o e => off2 _ o (fun q => wrD _ q rfl) e) hD'
        have ys2 := hys.off off2 wrM
        refine assign_item (s := { s with heap := h2, toks := tk2 }) tg am.handled st2 hitem (hl a hmem) (fun x hx' => ⟨by rw [← hcx]; exact hx x hx' _ _, Free.none x⟩) fun h5 tk5 t5 st5 => ?_
        have S5 : S (i + 1) h5 := keepS (fun b o hb e => t5.off b o (fun q => hb (List.mem_cons_of_mem _ q)) e) hS2
        have hD5 : h5.PlainList hh.objs.size ys.toArray := PlainList.kp (fun o e => t5.off _ o DW0 e) hD2
        have ys5 := ys2.off t5.off W0M
        have off5 : Off (W0 ++ (hh.objs.size :: wr)) h4 h5 := fun b o hb e => t5.off b o (fun q => hb (List.mem_append.mpr (.inl q))) (off2 b o (fun q => hb (List.mem_append.mpr (.inr (List.mem_cons_of_mem _ q)))) (off' b o hb e))
        have weak5 : ∀ {h}, St G cx' (W0 ++ ((hh.objs.size :: wr) ++ M)) W0 none (updAll (compρ ρ scope) xs (dl a)) h → St G cx' (W0 ++ ((hh.objs.size :: wr) ++ M)) W0 none (compρ ρ scope) h := fun st => st.weak fun y d hy => by
          have : y ∉ xs := fun q => by
            have := hxf y q
            unfold compρ at hy
            rw [if_neg (by simpa using this)] at hy
            cases hy
          rw [updAll_ne _ _ _ _ this]; exact hy
        -- the tests
        have test : ∀ (R' : Bool → Shared → Prop) (E' : Value → Shared → Prop), (∀ h6 tk6, Kp h5 h6 → R' (p a) { s with heap := h6, toks := tk6 }) →
            wpAny (model G.prog G.w) A (forIn ifs true fun c r => if r = true then do let ok ← isTrue c cx'.env (eval c cx'.env); pure (ForInStep.yield ok) else pure (ForInStep.yield r)) R' E' { s with heap := h5, toks := tk5 } := by
          intro R' E' hR
          have ht := tests a hmem s.heap h3.objs.size
          rw [hcx] at ht
          cases ifs with
          | nil =>
            have e : p a = true := ht
            rw [e] at hR
            exact wpAny_tests_nil (hR h5 tk5 (Kp.refl _))
          | cons c r =>
            cases r with
            | nil => exact wpAny_tests_one (ht A _ _ _ _ _ am st5 fun h6 tk6 k6 => hR h6 tk6 k6)
            | cons _ _ => exact ht.elim
        refine test _ _ fun h6 tk6 k6 => ?_
        have S6 : S (i + 1) h6 := keepS k6.off S5
        have hD6 : h6.PlainList hh.objs.size ys.toArray := PlainList.kp (k6 _) hD5
        have ys6 := ys5.kp k6
        have off6 : Off (W0 ++ (hh.objs.size :: wr)) h4 h6 := fun b o hb e => k6 b o (off5 b o hb e)
        have st6 := st5.kp k6
        have step := filter_map_snoc p f as i a haA
        cases hp : p a with
        | false =>
          rw [hp] at step
          simp only [Bool.false_eq_true, if_false, List.append_nil] at step ⊢
          exact ⟨dss.length - (i + 1), by omega, i + 1, h6, tk6, ys, rfl, weak5 st6, S6, hD6, by rw [step]; exact ys6, off6, hlt, rfl⟩
        | true =>
          rw [hp] at step
          simp only [if_true] at step ⊢
          have he := elts a hmem hp s.heap h3.objs.size
          rw [hcx] at he
          refine he A _ _ _ _ _ am st6 fun x h7 tk7 k7 r7 => ?_
          have hD7 : h7.PlainList hh.objs.size ys.toArray := PlainList.kp (k7 _) hD6
          have hlen : ys.length ≤ sizeLine := by
            rw [hys.length, List.length_map]
            have e1 := List.length_filter_le p (as.take i)
            have e2 : (as.take i).length ≤ as.length := by rw [List.length_take]; omega
            omega
          refine wpAny_list_append_plain (hsz := by simpa using hlen) hD7 fun h8 hD8 hs8 => ?_
          have off8 : Off [hh.objs.size] h7 h8 := fun b o hb e => hs8.extBut b o (fun q => hb (by simp [q])) e
          have live8 : ∀ b ∈ [hh.objs.size], (h8.get? b).isSome = true := fun b hb => by
            rw [List.mem_singleton.mp hb]; obtain ⟨n, e⟩ := hD8; rw [e]; rfl
          have DM1 : ∀ a ∈ [hh.objs.size], a ∈ W0 ++ ((hh.objs.size :: wr) ++ M) := fun a ha => by rw [List.mem_singleton.mp ha]; exact DM
          refine ⟨dss.length - (i + 1), by omega, i + 1, h8, tk7, ys ++ [x], rfl, weak5 ((st6.kp k7).wr wkD off8 live8), keepS (fun b o hb e => off8 b o (fun q => hb (by rw [List.mem_singleton.mp q]; exact List.mem_cons_self)) (k7 b o e)) S6, by simpa using hD8, ?_, ?_, hlt, rfl⟩
          · rw [step]
            exact ((ys6.kp k7).append (.cons r7 .nil)).off off8 DM1
          · exact fun b o hb e => off8 b o (fun q => hb (by rw [List.mem_singleton.mp q]; exact List.mem_append.mpr (.inr List.mem_cons_self))) (k7 b o (off6 b o hb e))
      · cases r with
        | none => exact h₁.elim
        | some v => exact h₁
    · have hin : i = dss.length := by omega
      subst hin
      refine itr.done _ _ _ hS' fun h9 tk9 off9 => ?_
      rw [hlenA, List.take_length] at hys
      have hC9 : ∃ m, h9.Ns h3.objs.size m := by
        obtain ⟨m, z, _⟩ := st'
        have := z.ns
        rw [hloc] at this
        exact ⟨m, this.at' fun o e => off9 _ o (fun q => wrW0 _ q hlw) e⟩
      refine fin h9 tk9 h3.objs.size hh.objs.size ?_ ?_ hC9 ?_
      · intro b o e
        have hbl : (h3.get? b).isSome = true := by rw [k3 _ _ (k _ _ e)]; rfl
        have hbn : b ∉ hh.objs.size :: wr := fun q => by rw [newN b q] at e; cases e
        refine off9 b o (fun q => hbn (List.mem_cons_of_mem _ q)) (off' b o (fun q => ?_) (k4 b o (k3 b o (k b o e))))
        rcases List.mem_append.mp q with q | q
        · exact liveW0 hbl q
        · exact hbn q
      · cases e : s.heap.get? h3.objs.size with
        | none => rfl
        | some o => exact absurd (Heap.lt_size (k3 _ _ (k _ _ e))) (Nat.lt_irrefl _)
      · have r9 : RepL G (W0 ++ ((hh.objs.size :: wr) ++ M)) h9 ((as.filter p).map f) ys := hys.off off9 wrM
        unfold Rep
        refine ⟨_, ys, rfl, ?_, PlainList.kp (fun o e => off9 _ o (fun q => wrD _ q rfl) e) hD', r9.more fun a ha => .inl ?_⟩
        · intro q
          rcases List.mem_append.mp q with q | q
          · have := List.mem_singleton.mp q
            rw [hD3] at this
            exact absurd this (Nat.ne_of_lt (Nat.lt_succ_self _))
          · have := hsz (k.isSome (hlive0 _ q))
            exact absurd this (Nat.lt_irrefl _)
        · rcases List.mem_append.mp ha with q | q
          · rw [List.mem_singleton.mp q]; exact List.mem_append.mpr (.inl hlw)
          · exact List.mem_append.mpr (.inr (List.mem_append.mpr (.inr q)))
  have := goal _ rfl
  rw [henv] at this
  exact codeAny_compStart_list this (itr.self 0 _ _ _ S4 this)
end Mine
end
section
open PySem PySem.Calls PyProof.Rows
namespace Mine

section
variable {G : GC} {cx : Cx} {n : Nat} {ow : Ow} {ρ : Vs} {pos p : Pos} {e l r value slice target : Expr} {d d1 d2 : D} {P : Out → Prop} {A : Around} {xs : List Str}

theorem Itr.ofWalks {M : List Addr} {h h' : Heap} {I : Addr} {fp wr : List Addr} {k : Nat} {Pv : Nat → Value → Prop} {S : Nat → Heap → Prop} {dss : List (List D)}
    (W : Walks G.prog G.w A I fp wr k Pv S) (hk : k = dss.length) (new : ∀ b ∈ wr, h.get? b = none) (live : ∀ i h'', S i h'' → ∀ b ∈ wr, (h''.get? b).isSome = true)
    (foot : ∀ b ∈ fp, b ∈ wr ∨ (b ∉ M ∧ (h'.get? b).isSome = true))
    (go : ∀ i v (s : Shared) (Q : Unit → Shared → Prop) (E : Value → Shared → Prop), S (i + 1) s.heap → Pv i v → Q () s → wpAny (model G.prog G.w) A (letOwnedTupleGo target (.ref I) v) Q E s)
    (item : ∀ i dl v M' h2, dss[i]? = some dl → Pv i v → (∀ b o, b ∉ wr ++ M → h'.get? b = some o → b ∉ M' ∧ h2.get? b = some o) → Item G M' h2 dl v target) :
    Itr G A target dss M h h' I fp wr S where
  new := new
  live := live
  foot := foot
  frame := W.frame
  item := by
    intro i dl s M' Q E hdl hS hk' hwr hQ
    have hi : i < dss.length := by
      rcases Nat.lt_or_ge i dss.length with q | q
      · exact q
      · rw [List.getElem?_eq_none q] at hdl; cases hdl
    refine W.item i s _ E (by omega) hS fun v h2 tk hp hS2 off => ?_
    refine go i v _ _ E hS2 hp ?_
    exact hQ v h2 tk hS2 off (item i dl v M' h2 hdl hp fun b o hb e => ⟨(hk' b o hb e).1, off b o (fun q => hb (List.mem_append.mpr (.inl q))) (hk' b o hb e).2⟩)
  done := by
    intro s Q E hS hQ
    rw [← hk] at hS
    exact W.done s Q E hS hQ
  self := W.self

theorem Itr.ofWalksT {M : List Addr} {h h' : Heap} {I : Addr} {fp wr : List Addr} {k : Nat} {Pt : Nat → Array Value → Prop} {S : Nat → Heap → Prop} {Mid : Nat → Addr → Heap → Prop} {dss : List (List D)} {es : List Expr} {j : Nat}
    (W : WalksT G.prog G.w A I fp wr k Pt S Mid) (hk : k = dss.length) (new : ∀ b ∈ wr, h.get? b = none) (live : ∀ i h'', S i h'' → ∀ b ∈ wr, (h''.get? b).isSome = true)
    (foot : ∀ b ∈ fp, b ∈ wr ∨ (b ∉ M ∧ (h'.get? b).isSome = true))
    (item : ∀ i dl vals M' h2, dss[i]? = some dl → Pt i vals → (∀ b o, b ∉ wr ++ M → h'.get? b = some o → b ∉ M' ∧ h2.get? b = some o) → RepL G M' h2 dl vals.toList) :
    Itr G A (.Tuple es j p) dss M h h' I fp wr S where
  new := new
  live := live
  foot := foot
  frame := W.frame
  item := by
    intro i dl s M' Q E hdl hS hk' hwr hQ
    have hi : i < dss.length := by
      rcases Nat.lt_or_ge i dss.length with q | q
      · exact q
      · rw [List.getElem?_eq_none q] at hdl; cases hdl
    refine W.item i s _ E (by omega) hS fun T vals h2 tk hp _ hT hM off => ?_
    have hTw := W.apart i T h2 hM
    refine W.go es j p i T _ _ E hM fun h3 hS3 off3 => ?_
    obtain ⟨oT, hoT, rT⟩ := hT
    refine hQ (.ref T) h3 tk hS3 (fun b o hb e => off3 b o hb (off b o hb e)) ⟨T, vals.toList, rfl, ⟨oT, off3 _ _ hTw hoT, by simpa using rT⟩, ?_⟩
    exact item i dl vals M' h3 hdl hp fun b o hb e => ⟨(hk' b o hb e).1, off3 b o (fun q => hb (List.mem_append.mpr (.inl q))) (off b o (fun q => hb (List.mem_append.mpr (.inl q))) (hk' b o hb e).2)⟩
  done := by
    intro s Q E hS hQ
    rw [← hk] at hS
    exact W.done s Q E hS hQ
  self := W.self

theorem go_name {x : Str} {I v : Value} {s : Shared} {Q : Unit → Shared → Prop} {E : Value → Shared → Prop} (h : Q () s) : wpAny (model G.prog G.w) A (letOwnedTupleGo (.Name x p) I v) Q E s := wpAny_pure h
theorem size_none {h h1 : Heap} (k : Kp h h1) (j : Nat) : h.get? (h1.objs.size + j) = none := by
  cases e : h.get? (h1.objs.size + j) with
  | none => rfl
  | some o => exact absurd (Heap.lt_size (k _ _ e)) (Nat.not_lt.mpr (Nat.le_add_right _ _))
theorem listIter_live {h : Heap} {I a : Addr} {i : Nat} (x : h.IsListIter I a i) : (h.get? I).isSome = true := by obtain ⟨o, ho, _⟩ := x; rw [ho]; rfl
theorem rep_at {M : List Addr} {h1 h' h2 : Heap} {M' wr : List Addr} (hw : ∀ b ∈ wr, h1.get? b = none) (k : Kp h1 h') (hk : ∀ b o, b ∉ wr ++ M → h'.get? b = some o → b ∉ M' ∧ h2.get? b = some o) : ∀ b o, b ∉ M → h1.get? b = some o → b ∉ M' ∧ h2.get? b = some o := fun b o hb e =>
  hk b o (fun q => (List.mem_append.mp q).elim (fun q => by rw [hw b q] at e; cases e) hb) (k b o e)

theorem EvI.list {x : Str} {ds : List D} (he : Ev G cx n ow ρ e (.lst ds)) : EvI G cx n ow ρ e (.Name x p) (ds.map fun d => [d]) := by
  intro A s M W Q E am st h
  refine he A s M W _ E am st fun v h1 tk k r => ?_
  unfold Rep at r
  obtain ⟨a, vs, rfl, ha, hl, hr⟩ := r
  have hne : a ≠ h1.objs.size := by obtain ⟨j, e⟩ := hl; exact Nat.ne_of_lt (Heap.lt_size e)
  refine wpAny_pyIter_list (s := { s with heap := h1, toks := tk }) hl.isList ?_
  have kp : Kp h1 (h1.push { cls := .type "list_iterator", data := .fields #[.ref a, .int 0 0] }) := Kp.push _ _
  refine h _ _ _ _ _ _ (Itr.ofWalks (Walks.list am.handled h1.objs.size a hne vs.toArray) (by simp [hr.length]) ?_ ?_ ?_ ?_ ?_) ⟨⟨_, Heap.get?_push_size _ rfl, rfl, rfl⟩, hl.isList.at fun o e => kp _ _ e⟩ (k.trans kp)
  · intro b hb; rw [List.mem_singleton.mp hb]; exact size_none k 0
  · intro i h'' hS b hb; rw [List.mem_singleton.mp hb]; exact listIter_live hS.1
  · intro b hb
    rcases List.mem_cons.mp hb with rfl | hb
    · exact .inl (List.mem_singleton.mpr rfl)
    · rw [List.mem_singleton.mp hb]
      obtain ⟨j, e⟩ := hl
      exact .inr ⟨ha, by rw [kp _ _ e]; rfl⟩
  · intro i v s' Q' E' _ _ hq; exact go_name hq
  · intro i dl v M' h2 hdl hv hk
    rw [List.getElem?_map] at hdl
    cases hd : ds[i]? with
    | none => rw [hd] at hdl; cases hdl
    | some d =>
      rw [hd] at hdl
      cases hdl
      obtain ⟨d', hd', r'⟩ := hr.get (i := i) (v := v) (by simpa using hv)
      rw [hd] at hd'; cases hd'
      exact ⟨d, rfl, r'.move (rep_at (fun b hb => by rw [List.mem_singleton.mp hb]; exact Heap.get?_none_of_le (Nat.le_refl _)) kp hk)⟩

theorem EvI.listT {es : List Expr} {j : Nat} {dss : List (List D)} (he : Ev G cx n ow ρ e (.lst (dss.map .tup))) : EvI G cx n ow ρ e (.Tuple es j p) dss := by
  intro A s M W Q E am st h
  refine he A s M W _ E am st fun v h1 tk k r => ?_
  unfold Rep at r
  obtain ⟨a, vs, rfl, ha, hl, hr⟩ := r
  have hne : a ≠ h1.objs.size := by obtain ⟨j, e⟩ := hl; exact Nat.ne_of_lt (Heap.lt_size e)
  refine wpAny_pyIter_list (s := { s with heap := h1, toks := tk }) hl.isList ?_
  have kp : Kp h1 (h1.push { cls := .type "list_iterator", data := .fields #[.ref a, .int 0 0] }) := Kp.push _ _
  refine h _ _ _ _ _ _ (Itr.ofWalks (Walks.list am.handled h1.objs.size a hne vs.toArray) (by simp [hr.length]) ?_ ?_ ?_ ?_ ?_) ⟨⟨_, Heap.get?_push_size _ rfl, rfl, rfl⟩, hl.isList.at fun o e => kp _ _ e⟩ (k.trans kp)
  · intro b hb; rw [List.mem_singleton.mp hb]; exact size_none k 0
  · intro i h'' hS b hb; rw [List.mem_singleton.mp hb]; exact listIter_live hS.1
  · intro b hb
    rcases List.mem_cons.mp hb with rfl | hb
    · exact .inl (List.mem_singleton.mpr rfl)
    · rw [List.mem_singleton.mp hb]
      obtain ⟨j, e⟩ := hl
      exact .inr ⟨ha, by rw [kp _ _ e]; rfl⟩
  · intro i v s' Q' E' hS hv hq
    obtain ⟨d, _, r'⟩ := hr.get (i := i) (v := v) (by simpa using hv)
    have : ∃ T, v = .ref T := by
      have hd : ((dss.map D.tup)[i]?) = some d := by assumption
      rw [List.getElem?_map] at hd
      cases hx : dss[i]? with
      | none => rw [hx] at hd; cases hd
      | some dl =>
        rw [hx] at hd; cases hd
        unfold Rep at r'
        obtain ⟨T, _, e, _⟩ := r'
        exact ⟨T, e⟩
    obtain ⟨T, rfl⟩ := this
    exact wpAny_letOwnedTupleGo_listiter hS.1 hq
  · intro i dl v M' h2 hdl hv hk
    obtain ⟨d', hd', r'⟩ := hr.get (i := i) (v := v) (by simpa using hv)
    rw [List.getElem?_map, hdl] at hd'
    cases hd'
    have r2 := r'.move (rep_at (fun b hb => by rw [List.mem_singleton.mp hb]; exact Heap.get?_none_of_le (Nat.le_refl _)) kp hk)
    unfold Rep at r2
    obtain ⟨T, us, e1, _, e2, e3⟩ := r2
    exact ⟨T, us, e1, e2, e3⟩

theorem EvI.tuple {x : Str} {ds : List D} (he : Ev G cx n ow ρ e (.tup ds)) : EvI G cx n ow ρ e (.Name x p) (ds.map fun d => [d]) := by
  intro A s M W Q E am st h
  refine he A s M W _ E am st fun v h1 tk k r => ?_
  unfold Rep at r
  obtain ⟨a, vs, rfl, ha, hl, hr⟩ := r
  have hsome : (h1.get? a).isSome = true := by obtain ⟨j, e, _⟩ := hl; rw [e]; rfl
  have hne : a ≠ h1.objs.size := by obtain ⟨j, e, _⟩ := hl; exact Nat.ne_of_lt (Heap.lt_size e)
  refine wpAny_pyIter_tuple (s := { s with heap := h1, toks := tk }) hl ?_
  have kp : Kp h1 (h1.push { cls := .type "tuple_iterator", data := .fields #[.ref a, .int 0 0] }) := Kp.push _ _
  refine h _ _ _ _ _ _ (Itr.ofWalks (Walks.tuple am.handled h1.objs.size a hne vs.toArray) (by simp [hr.length]) ?_ ?_ ?_ ?_ ?_) ⟨⟨_, Heap.get?_push_size _ rfl, rfl, rfl⟩, hl.at fun o e => kp _ _ e⟩ (k.trans kp)
  · intro b hb; rw [List.mem_singleton.mp hb]; exact size_none k 0
  · intro i h'' hS b hb; rw [List.mem_singleton.mp hb]; obtain ⟨o, ho, _⟩ := hS.1; rw [ho]; rfl
  · intro b hb
    rcases List.mem_cons.mp hb with rfl | hb
    · exact .inl (List.mem_singleton.mpr rfl)
    · rw [List.mem_singleton.mp hb]
      exact .inr ⟨ha, kp.isSome hsome⟩
  · intro i v s' Q' E' _ _ hq; exact go_name hq
  · intro i dl v M' h2 hdl hv hk
    rw [List.getElem?_map] at hdl
    cases hd : ds[i]? with
    | none => rw [hd] at hdl; cases hdl
    | some d =>
      rw [hd] at hdl
      cases hdl
      obtain ⟨d', hd', r'⟩ := hr.get (i := i) (v := v) (by simpa using hv)
      rw [hd] at hd'; cases hd'
      exact ⟨d, rfl, r'.move (rep_at (fun b hb => by rw [List.mem_singleton.mp hb]; exact Heap.get?_none_of_le (Nat.le_refl _)) kp hk)⟩

theorem EvI.str {x : Str} {cs : List Nat} (he : Ev G cx n ow ρ e (.str (T cs))) (ha : (T cs).cps.all (· < 128) = true) : EvI G cx n ow ρ e (.Name x p) (cs.map fun c => [.str (T [c])]) := by
  intro A s M W Q E am st h
  refine he A s M W _ E am st fun v h1 tk k r => ?_
  obtain ⟨t, rfl⟩ := r
  refine wpAny_pyIter_ascii (s := { s with heap := h1, toks := tk }) ha ?_
  have kp : Kp h1 (h1.push { cls := .type "str_ascii_iterator", data := .fields #[.str (T cs) t, .int 0 0] }) := Kp.push _ _
  refine h _ _ _ _ _ _ (Itr.ofWalks (Walks.strAscii am.handled h1.objs.size (T cs) t) (by simp [T]) ?_ ?_ ?_ ?_ ?_) ⟨_, Heap.get?_push_size _ rfl, rfl, rfl⟩ (k.trans kp)
  · intro b hb; rw [List.mem_singleton.mp hb]; exact size_none k 0
  · intro i h'' hS b hb; rw [List.mem_singleton.mp hb]; obtain ⟨o, ho, _⟩ := hS; rw [ho]; rfl
  · intro b hb; exact .inl hb
  · intro i v s' Q' E' _ _ hq; exact go_name hq
  · intro i dl v M' h2 hdl hv hk
    rw [List.getElem?_map] at hdl
    cases hd : cs[i]? with
    | none => rw [hd] at hdl; cases hdl
    | some c =>
      rw [hd] at hdl
      cases hdl
      obtain ⟨c', u, hc', rfl⟩ := hv
      have : c' = c := by
        simp only [T, List.getElem?_toArray] at hc'
        rw [hd] at hc'; cases hc'; rfl
      subst this
      exact ⟨_, rfl, ⟨u, rfl⟩⟩
end
end Mine
end
section
open PySem PySem.Calls PyProof.Rows
namespace Mine

section
variable {G : GC} {cx : Cx} {n : Nat} {ow : Ow} {ρ : Vs} {pos p fp : Pos} {e l r value slice target : Expr} {d d1 d2 : D} {P : Out → Prop} {A : Around} {xs : List Str}

/-- a type called by its name -/
theorem evType {f : Str} {ty : String} {es : List Expr} {ds : List D} {A : Around} {s : Shared} {M W : List Addr} {Q E : Value → Shared → Prop} (hk : cx.env.kindOf f = some .globalImplicit) (hx : f ∈ bNames) (hv : bootBuiltins f = some (.type ty)) (x : EvL G cx n ow ρ es ds)
    (am : Amb A n) (st : St G cx M W ow ρ s.heap)
    (pa : plainArgs es cx.env) (h : ∀ vs h' tk, Kp s.heap h' → RepL G M h' ds vs → wpAny (model G.prog G.w) A (PySem.call (.type ty) vs) Q E { s with heap := h', toks := tk })
    (hd : (f == ("__debug__" : Str)) = false := by decide) (hn : f ≠ "__name__" := by decide) :
    wpAny (model G.prog G.w) A (eval (.Call (.Name f fp) es [] pos) cx.env) Q E s := by
  refine wpAny_Call_Name_kw (evName_boot st hk hx hv ?_ hd hn)
  obtain ⟨e, r, rfl, he, hp⟩ := pa
  exact callWith_type1 (x A s M W pos _ E am st fun vs h1 t1 k1 r1 => h vs h1 t1 k1 r1) he (hp pos)

theorem RepL.three {d3 : D} {M : List Addr} {h : Heap} {vs : List Value} (x : RepL G M h [d1, d2, d3] vs) : ∃ u v w, vs = [u, v, w] ∧ Rep G M h d1 u ∧ Rep G M h d2 v ∧ Rep G M h d3 w := by
  unfold RepL at x
  obtain ⟨u, vs', rfl, r, q⟩ := x
  obtain ⟨v, w, rfl, r', r''⟩ := RepL.two q
  exact ⟨u, v, w, rfl, r, r', r''⟩

theorem boot_range' : bootBuiltins "range" = some (.type "range") := by decide +kernel
theorem boot_enum' : bootBuiltins "enumerate" = some (.type "enumerate") := by decide +kernel
theorem boot_zip' : bootBuiltins "zip" = some (.type "zip") := by decide +kernel

theorem EvI.range {x : Str} {k : Nat} (hk : cx.env.kindOf "range" = some .globalImplicit) (he : Ev G cx n ow ρ e (.int k)) (hz : k ≤ 1000000) (pa : plainArgs [e] cx.env := by exact ⟨_, _, rfl, rfl, fun _ => rfl⟩)
    (hst : starEach [e] cx.env = (false, eval e cx.env) :: starEach [] cx.env := by rfl) :
    EvI G cx n ow ρ (.Call (.Name "range" fp) [e] [] pos) (.Name x p) ((List.range k).map fun i => [.int (i : Nat)]) := by
  intro A s M W Q E am st h
  refine evType hk (by decide) boot_range' (EvL.cons he EvL.nil hst) am st pa fun vs h1 t1 k1 r1 => ?_
  obtain ⟨v, rfl, t, rfl⟩ := r1.one
  refine call_range_1 ?_
  have kp1 : Kp h1 (h1.push { cls := .type "range", data := .fields #[.int 0 t1, .int (k : Nat) t, .int 1 (t1 + 1)] }) := Kp.push _ _
  generalize hh2 : h1.push { cls := .type "range", data := .fields #[.int 0 t1, .int (k : Nat) t, .int 1 (t1 + 1)] } = h2 at kp1
  have hR : IsRange h2 h1.objs.size 0 k 1 t1 t (t1 + 1) := by rw [← hh2]; exact Heap.get?_push_size _ rfl
  refine wpAny_pyIter_range (s := { s with heap := h2, toks := t1 + 1 + 1 }) hR (small_one (by omega) (by omega) (by omega) (by omega)) ?_
  have er : Builtin.Range.rangeSize 0 (k : Nat) 1 = ((k : Nat) : Int) := by rw [rangeSize_one]; split <;> omega
  rw [er]
  have kp : Kp h2 (h2.push { cls := .type "range_iterator", data := .fields #[rawInt 0, rawInt (k : Nat), rawInt 1] }) := Kp.push _ _
  refine h _ _ _ _ _ _ (Itr.ofWalks (Walks.range am.handled h2.objs.size 0 1 k) (by simp) ?_ ?_ ?_ ?_ ?_) ?_ ((k1.trans kp1).trans kp)
  · intro b hb; rw [List.mem_singleton.mp hb]; exact size_none (k1.trans kp1) 0
  · intro i h'' hS b hb; rw [List.mem_singleton.mp hb, show h''.get? h2.objs.size = _ from hS]; rfl
  · intro b hb; exact .inl hb
  · intro i v s' Q' E' _ _ hq; exact go_name hq
  · intro i dl v M' h3 hdl hv hk
    obtain ⟨t', rfl⟩ := hv
    rw [List.getElem?_map] at hdl
    cases hd : (List.range k)[i]? with
    | none => rw [hd] at hdl; cases hdl
    | some d =>
      rw [hd] at hdl
      cases hdl
      have : d = i := by
        rcases Nat.lt_or_ge i k with q | q
        · rw [List.getElem?_range q] at hd; cases hd; rfl
        · rw [List.getElem?_eq_none (by simpa using q)] at hd; cases hd
      subst this
      exact ⟨_, rfl, t', by simp⟩
  · show IsRangeIter (h2.push _) h2.objs.size (0 + ((0 : Nat) : Int) * 1) ((k : Int) - ((0 : Nat) : Int)) 1
    have e1 : (0 : Int) + ((0 : Nat) : Int) * 1 = 0 := by simp
    have e2 : ((k : Nat) : Int) - ((0 : Nat) : Int) = k := by simp
    rw [e1, e2]
    exact Heap.get?_push_size _ rfl

theorem foot_in {M wr : List Addr} {h1 h' : Heap} {l : Addr} (hl : l ∉ M) (ho : (h1.get? l).isSome = true) (k : Kp h1 h') : l ∈ wr ∨ (l ∉ M ∧ (h'.get? l).isSome = true) := .inr ⟨hl, k.isSome ho⟩

theorem EvI.enumerate {es : List Expr} {j : Nat} {ds : List D} (hk : cx.env.kindOf "enumerate" = some .globalImplicit) (he : Ev G cx n ow ρ e (.lst ds)) (pa : plainArgs [e] cx.env := by exact ⟨_, _, rfl, rfl, fun _ => rfl⟩)
    (hst : starEach [e] cx.env = (false, eval e cx.env) :: starEach [] cx.env := by rfl) :
    EvI G cx n ow ρ (.Call (.Name "enumerate" fp) [e] [] pos) (.Tuple es j p) (ds.zipIdx.map fun x => [.int (x.2 : Nat), x.1]) := by
  intro A s M W Q E am st h
  refine evType hk (by decide) boot_enum' (EvL.cons he EvL.nil hst) am st pa fun vs h1 t1 k1 r1 => ?_
  obtain ⟨v, rfl, r⟩ := r1.one
  unfold Rep at r
  obtain ⟨a, us, rfl, ha, hl, hr⟩ := r
  have hsome : (h1.get? a).isSome = true := by obtain ⟨j, e⟩ := hl; rw [e]; rfl
  have halt : a < h1.objs.size := by obtain ⟨j, e⟩ := hl; exact Heap.lt_size e
  refine call_enumerate_list (s := { s with heap := h1, toks := t1 }) hl.isList fun h2 hE hIt hz2 kp => ?_
  dsimp only at hE hIt hz2 kp
  refine wpAny_pyIter_enum (s := { s with heap := h2, toks := t1 }) hE ?_
  refine h _ _ _ _ _ _ (Itr.ofWalksT (WalksT.enumerate am.handled (h1.objs.size + 1) h1.objs.size a (Nat.succ_ne_self _) (Nat.ne_of_lt (Nat.lt_succ_of_lt halt)) (Nat.ne_of_lt halt) us.toArray) (by simp [hr.length]) ?_ ?_ ?_ ?_) ⟨⟨_, hE⟩, hIt, hl.isList.at fun o e => kp _ _ e⟩ (k1.trans kp)
  · intro b hb
    rcases List.mem_cons.mp hb with rfl | hb
    · exact size_none k1 1
    · rw [List.mem_singleton.mp hb]; exact size_none k1 0
  · intro i h'' hS b hb
    obtain ⟨⟨old, q⟩, q2, _⟩ := hS
    rcases List.mem_cons.mp hb with rfl | hb
    · rw [q]; rfl
    · rw [List.mem_singleton.mp hb]; exact listIter_live q2
  · intro b hb
    rcases List.mem_cons.mp hb with rfl | hb
    · exact .inl (by simp)
    · rcases List.mem_cons.mp hb with rfl | hb
      · exact .inl (by simp)
      · rw [List.mem_singleton.mp hb]; exact foot_in ha hsome kp
  · intro i dl vals M' h3 hdl hv hk
    obtain ⟨t, x, hx, rfl⟩ := hv
    obtain ⟨d', hd', r'⟩ := hr.get (i := i) (v := x) (by simpa using hx)
    rw [List.getElem?_map, List.getElem?_zipIdx, hd'] at hdl
    cases hdl
    refine .cons ⟨t, by simp⟩ (.cons (r'.move (rep_at (fun b hb => ?_) kp hk)) .nil)
    rcases List.mem_cons.mp hb with rfl | hb
    · exact Heap.get?_none_of_le (Nat.le_succ _)
    · rw [List.mem_singleton.mp hb]; exact Heap.get?_none_of_le (Nat.le_refl _)

theorem EvI.zip2 {es : List Expr} {e2 : Expr} {j : Nat} {ds ds2 : List D} (hk : cx.env.kindOf "zip" = some .globalImplicit) (he : Ev G cx n ow ρ e (.lst ds)) (he2 : Ev G cx n ow ρ e2 (.lst ds2)) (hlen : ds.length = ds2.length) (pa : plainArgs [e, e2] cx.env := by exact ⟨_, _, rfl, rfl, fun _ => rfl⟩)
    (hst : starEach [e, e2] cx.env = (false, eval e cx.env) :: starEach [e2] cx.env := by rfl) (hst2 : starEach [e2] cx.env = (false, eval e2 cx.env) :: starEach [] cx.env := by rfl) :
    EvI G cx n ow ρ (.Call (.Name "zip" fp) [e, e2] [] pos) (.Tuple es j p) ((ds.zip ds2).map fun x => [x.1, x.2]) := by
  intro A s M W Q E am st h
  refine evType hk (by decide) boot_zip' (EvL.cons he (EvL.cons he2 EvL.nil hst2) hst) am st pa fun vs h1 t1 k1 r1 => ?_
  obtain ⟨v, v2, rfl, r, r2⟩ := r1.two
  unfold Rep at r r2
  obtain ⟨a, us, rfl, ha, hl, hr⟩ := r
  obtain ⟨a2, us2, rfl, ha2, hl2, hr2⟩ := r2
  have hsome : (h1.get? a).isSome = true := by obtain ⟨j, e⟩ := hl; rw [e]; rfl
  have halt : a < h1.objs.size := by obtain ⟨j, e⟩ := hl; exact Heap.lt_size e
  have hsome2 : (h1.get? a2).isSome = true := by obtain ⟨j, e⟩ := hl2; rw [e]; rfl
  have halt2 : a2 < h1.objs.size := by obtain ⟨j, e⟩ := hl2; exact Heap.lt_size e
  refine call_zip_2 (s := { s with heap := h1, toks := t1 }) hl.isList hl2.isList fun h2 hZ hTI hTO hi1 hi2 hz2 kp => ?_
  dsimp only at hZ hTI hTO hi1 hi2 hz2 kp
  refine wpAny_pyIter_zip (s := { s with heap := h2, toks := t1 }) hZ ?_
  refine h _ _ _ _ _ _ (Itr.ofWalksT (WalksT.zip2 am.handled (h1.objs.size + 4) (h1.objs.size + 2) (h1.objs.size + 3) h1.objs.size (h1.objs.size + 1) a a2 (zipApart_new halt halt2) us.toArray us2.toArray) (by simp [hr.length, hr2.length]) ?_ ?_ ?_ ?_)
    ⟨hZ, hTI, ⟨_, _, hTO⟩, hi1, hi2, hl.isList.at fun o e => kp _ _ e, hl2.isList.at fun o e => kp _ _ e⟩ (k1.trans kp)
  · intro b hb
    simp only [List.mem_cons, List.not_mem_nil, or_false] at hb
    rcases hb with rfl | rfl | rfl | rfl
    · exact size_none k1 4
    · exact size_none k1 3
    · exact size_none k1 0
    · exact size_none k1 1
  · intro i h'' hS b hb
    obtain ⟨q1, _, ⟨_, _, q2⟩, q3, q4, _⟩ := hS
    simp only [List.mem_cons, List.not_mem_nil, or_false] at hb
    rcases hb with rfl | rfl | rfl | rfl
    · rw [q1]; rfl
    · rw [q2]; rfl
    · exact listIter_live q3
    · exact listIter_live q4
  · intro b hb
    simp only [List.mem_cons, List.not_mem_nil, or_false] at hb
    rcases hb with rfl | rfl | rfl | rfl | rfl | rfl | rfl
    · exact .inl (by simp)
    · refine .inr ⟨fun q => ?_, by rw [hTI]; rfl⟩
      have := st.live _ q
      rw [size_none k1 2] at this; cases this
    · exact .inl (by simp)
    · exact .inl (by simp)
    · exact .inl (by simp)
    · exact foot_in ha hsome kp
    · exact foot_in ha2 hsome2 kp
  · intro i dl vals M' h3 hdl hv hk
    obtain ⟨x, y, hx, hy, rfl⟩ := hv
    obtain ⟨d', hd', r'⟩ := hr.get (i := i) (v := x) (by simpa using hx)
    obtain ⟨d2', hd2', r2'⟩ := hr2.get (i := i) (v := y) (by simpa using hy)
    rw [List.getElem?_map, List.getElem?_zip_eq_some (z := (d', d2')).mpr ⟨hd', hd2'⟩] at hdl
    cases hdl
    have mv := rep_at (h1 := h1) (fun b hb => by
      simp only [List.mem_cons, List.not_mem_nil, or_false] at hb
      rcases hb with rfl | rfl | rfl | rfl
      · exact Heap.get?_none_of_le (Nat.le_add_right _ _)
      · exact Heap.get?_none_of_le (Nat.le_add_right _ _)
      · exact Heap.get?_none_of_le (Nat.le_refl _)
      · exact Heap.get?_none_of_le (Nat.le_add_right _ _)) kp hk
    exact .cons (r'.move mv) (.cons (r2'.move mv) .nil)

/-- the items of a dict -/
theorem entry_items_iter : entryFor table "dict_itemiterator.__iter__" = some Builtin.«dict_keyiterator.__iter__» :=
  entryFor_alias (id' := "dict_keyiterator.__iter__") (by kernel_rfl) (by first | rfl | decide +kernel | (unfold String.splitOn; simp +decide [String.splitOnAux])) (by decide +kernel) (by kernel_rfl)
theorem RepKV.at : ∀ {kvs : List (Str × Int)} {l : List (Str × Value)} {i : Nat} {k : Str} {v : Value}, RepKV kvs l → l[i]? = some (k, v) → ∃ j t, kvs[i]? = some (k, j) ∧ v = .int j t
  | [], l, i, k, v, r, e => by unfold RepKV at r; subst r; simp at e
  | p :: rest, l, i, k, v, r, e => by
    unfold RepKV at r
    obtain ⟨t, l', rfl, r'⟩ := r
    cases i with
    | zero => simp at e; obtain ⟨rfl, rfl⟩ := e; exact ⟨p.2, t, rfl, rfl⟩
    | succ i => rw [List.getElem?_cons_succ] at e ⊢; exact RepKV.at r' e

theorem Itr.items {M : List Addr} {h h' : Heap} {I a : Addr} {ep j : Nat} {kvs : List (Str × Int)} {l : List (Str × Value)} {es : List Expr} (hh : A.handled = none) (hne : a ≠ I) (hkv : RepKV kvs l) (new : h.get? I = none) (foot : a ∉ M ∧ (h'.get? a).isSome = true) :
    Itr G A (.Tuple es j p) (kvs.map fun x => [.str x.1, .int x.2]) M h h' I [I, a] [I] (fun i h => (∃ ok ov, IsItemIter h I a i l.length ep ok ov) ∧ h.DictAt (strKind G.prog G.w) a l ep) where
  new := fun b hb => by rw [List.mem_singleton.mp hb]; exact new
  live := fun i h'' hS b hb => by rw [List.mem_singleton.mp hb]; obtain ⟨⟨ok, ov, q⟩, _⟩ := hS; rw [q]; rfl
  foot := fun b hb => by
    rcases List.mem_cons.mp hb with rfl | hb
    · exact .inl (by simp)
    · rw [List.mem_singleton.mp hb]; exact .inr foot
  frame := fun i h1 h2 hS hk => by
    obtain ⟨⟨ok, ov, q⟩, q2⟩ := hS
    exact ⟨⟨ok, ov, hk I (by simp) _ q⟩, q2.at fun o e => hk a (by simp) o e⟩
  item := by
    intro i dl s M' Q E hdl hS hk hwr hQ
    obtain ⟨⟨ok, ov, q⟩, q2⟩ := hS
    rw [List.getElem?_map] at hdl
    cases hd : kvs[i]? with
    | none => rw [hd] at hdl; cases hdl
    | some kv =>
      rw [hd] at hdl
      cases hdl
      have hi : i < l.length := by
        rw [hkv.length]
        rcases Nat.lt_or_ge i kvs.length with q | q
        · exact q
        · rw [List.getElem?_eq_none q] at hd; cases hd
      have hl : l[i]? = some (l[i].1, l[i].2) := List.getElem?_eq_getElem hi
      obtain ⟨jv, t, e1, e2⟩ := hkv.at hl
      rw [hd] at e1
      cases e1
      refine wpAny_pyNext_items_item q q2 hl fun key h2 hkey hO hT hsz up => ?_
      obtain ⟨tk, rfl⟩ := Value.isStrOf_shape hkey
      have hIlt : I < s.heap.objs.size := Heap.lt_size q
      refine wpAny_letOwnedTupleGo_items (s := { s with heap := h2 }) hO fun h3 hI3 hs3 => ?_
      refine hQ _ h3 s.toks ⟨⟨_, _, hI3⟩, (q2.at fun o e => up a o hne e).extBut hs3.extBut hne⟩ (fun b o hb e => hs3.extBut b o (fun x => hb (by simp [x])) (up b o (fun x => hb (by simp [x])) e)) ?_
      refine ⟨s.heap.objs.size, [.str l[i].1 tk, l[i].2], rfl, ⟨_, hs3.extBut _ _ (Nat.ne_of_gt hIlt) hT, rfl, _, rfl⟩, .cons ⟨tk, rfl⟩ (.cons ⟨t, e2⟩ .nil)⟩
  done := by
    intro s Q E hS hQ
    obtain ⟨⟨ok, ov, q⟩, q2⟩ := hS
    exact wpAny_pyNext_items_end hh q q2 (by rw [List.length_map, ← hkv.length]; simp) fun h' hx => hQ h' s.toks fun b o hb e => hx b o (fun x => hb (by simp [x])) e
  self := fun i s Q E hS hq => by
    obtain ⟨⟨ok, ov, q⟩, q2⟩ := hS
    have hT : s.TypeIs (.ref I) "dict_itemiterator" := ⟨_, q, rfl⟩
    refine wpAny_pyIter_slot hT F.slot_dict_itemiterator_iter (wpAny_call_entry F.slot_dict_itemiterator_iter hT entry_items_iter ?_ (F.args_dict_itemiterator_iter_1 _))
    show wpAny _ _ (ret (.ref I)) _ _ s
    exact wpAny_pure ⟨_, rfl, "dict_itemiterator", _, hT, F.slot_dict_itemiterator_next.lookup, hq⟩

theorem EvI.items {o : Expr} {apos : Pos} {es : List Expr} {j : Nat} {kvs : List (Str × Int)} (he : Ev G cx n ow ρ o (.dct kvs))
    (hbase : attributeBase o "items" cx.env (eval o cx.env) = eval o cx.env := by rfl) (hline : (apos.endLine == pos.line) = true := by rfl) :
    EvI G cx n ow ρ (.Call (.Attribute o "items" apos) [] [] pos) (.Tuple es j p) (kvs.map fun x => [.str x.1, .int x.2]) := by
  intro A s M W Q E am st h
  refine wpAny_Call_method (T := "dict") (id := "dict.items") hbase rfl hline F.plainAttrs_dict F.slot_dict_items F.type_dict_items (he A s M W _ E am st fun v h1 tk k r => ?_)
  unfold Rep at r
  obtain ⟨a, l, rfl, ha, hz, hm, hkv⟩ := r
  refine ⟨hm.typeIs (s := { s with heap := h1, toks := tk }), hm.mapOf.noDict, ?_⟩
  show wpAny _ _ (callWith pos (.builtin "dict.items") [.ref a] [] []) _ E _
  refine method_meetsIn F.slot_dict_items F.entry_dict_items rfl (PySem.evalArgs_none ⟨rfl, hm.typeIs (s := { s with heap := h1, toks := tk }), F.args_dict_items_1 _, _, meets_dict_items (strKind G.prog G.w) a hz, ⟨l, hm⟩, ?_⟩)
  dsimp only
  have kp : Kp h1 (h1.push { cls := .type "dict_items", data := .fields #[.ref a] }) := Kp.push _ _
  have hV : (h1.push { cls := .type "dict_items", data := .fields #[.ref a] }).IsItemsView h1.objs.size a := ⟨_, Heap.get?_push_size _ rfl, rfl, rfl⟩
  generalize h1.push { cls := .type "dict_items", data := .fields #[.ref a] } = h2 at kp hV
  obtain ⟨o', es', ep, ho', hr'⟩ := id hm
  have hA : h2.DictAt (strKind G.prog G.w) a l ep := ⟨o', es', kp _ _ ho', hr'⟩
  refine wpAny_pyIter_items (s := { s with heap := h2, toks := tk }) hV hA ?_
  dsimp only
  have kp2 : Kp h2 (h2.push { cls := .type "dict_itemiterator", data := .fields #[.none, .bool false, .ref a, .int 0 0, .int l.length 0, .int ep 0, .none, .none] }) := Kp.push _ _
  have hI : IsItemIter (h2.push { cls := .type "dict_itemiterator", data := .fields #[.none, .bool false, .ref a, .int 0 0, .int l.length 0, .int ep 0, .none, .none] }) h2.objs.size a 0 l.length ep .none .none := Heap.get?_push_size _ rfl
  refine h _ _ _ _ _ _ (Itr.items am.handled (Nat.ne_of_lt hA.lt_size) hkv (size_none (k.trans kp) 0) ⟨ha, by rw [kp2 _ _ (kp _ _ ho')]; rfl⟩) ⟨⟨_, _, hI⟩, hA.push _⟩ ((k.trans kp).trans kp2)
end
end Mine
end
section
open PySem PySem.Calls PyProof.Rows
open Sem (wp)
set_option maxRecDepth 100000
namespace Mine

noncomputable abbrev IsTrip (h : Heap) (T : Addr) (a b c : Value) : Prop := h.get? T = some { cls := .type "tuple", data := .seq #[a, b, c] }
theorem typeCall_zip_3 (a b c : Value) : checkTypeCall "zip" ⟨[a, b, c], []⟩ = pure () := by kernel_rfl
theorem newCall_zip_3 (a b c : Value) : checkBuiltinCall "zip.__new__" ⟨[.type "zip", a, b, c], []⟩ = pure () := by kernel_rfl
theorem args_object_init_4 (a b c d : Value) : argsOk "object.__init__" ⟨[a, b, c, d], []⟩ := by
  unfold argsOk; rw [signature?_of (id := "object.__init__") (n := ['_', '_', 't', 'i', 'n', 'i', '_', '_']) (o := ['t', 'c', 'e', 'j', 'b', 'o']) (by kernel_rfl) F.owner_object]; kernel_rfl

theorem ne_up {k : Nat} {i j : Nat} (h : i ≠ j := by decide) : k + i ≠ k + j := fun e => h (Nat.add_left_cancel e)
theorem ne_low {k a : Nat} (h : a < k) (j : Nat) : a ≠ k + j := Nat.ne_of_lt (Nat.lt_of_lt_of_le h (Nat.le_add_right _ _))

section
variable {prog : Program} {w : World} {A : Around} {E : Value → Shared → Prop} {s : Shared}
theorem updateSeq_trip {T : Addr} {a b c x : Value} {k : Nat} {Q : Unit → Shared → Prop} (hT : IsTrip s.heap T a b c)
    (h : ∀ h', h'.get? T = some { cls := .type "tuple", data := .seq ((#[a, b, c] : Array Value).setIfInBounds k x) } → Heap.SameBut T s.heap h' → Q () { s with heap := h' }) :
    wpAny (model prog w) A (updateSeq T (·.setIfInBounds k x)) Q E s := by
  refine wpAny_updateSeq hT rfl (h _ ?_ (Heap.SameBut.update ..))
  rw [Heap.get?_update_self _ hT rfl]
  simp [Obj.mapSeq]

/-- a zip of three lists, laid at k and behind -/
structure Z3 (k a1 a2 a3 : Nat) (xs ys zs : Array Value) (i : Nat) (f0 : Value) (h : Heap) : Prop where
  z : IsZip h (k + 5) (k + 3) (k + 4) f0
  ti : IsTrip h (k + 3) (.ref k) (.ref (k + 1)) (.ref (k + 2))
  to : ∃ a b c, IsTrip h (k + 4) a b c
  i1 : h.IsListIter k a1 i
  i2 : h.IsListIter (k + 1) a2 i
  i3 : h.IsListIter (k + 2) a3 i
  l1 : h.IsList a1 xs
  l2 : h.IsList a2 ys
  l3 : h.IsList a3 zs
noncomputable def zw (k : Nat) : List Addr := [k + 5, k + 4, k, k + 1, k + 2]
theorem not_zw {k b : Nat} (h : b ∉ zw k) : b ≠ k + 5 ∧ b ≠ k + 4 ∧ b ≠ k ∧ b ≠ k + 1 ∧ b ≠ k + 2 := by
  unfold zw at h
  simp only [List.mem_cons, List.not_mem_nil, or_false, not_or] at h
  exact h

theorem zip3_next_item {k a1 a2 a3 : Nat} {xs ys zs : Array Value} {i : Nat} {x y u : Value} {Q : Value → Shared → Prop} (h1 : a1 < k) (h2 : a2 < k) (h3 : a3 < k) (S : Z3 k a1 a2 a3 xs ys zs i .none s.heap)
    (hx : xs[i]? = some x) (hy : ys[i]? = some y) (hu : zs[i]? = some u)
    (hQ : ∀ h', Z3 k a1 a2 a3 xs ys zs (i + 1) (rawInt s.heap.objs.size) h' → IsTrip h' s.heap.objs.size x y u → (∀ c o, c ∉ zw k → s.heap.get? c = some o → h'.get? c = some o) → Q (.ref s.heap.objs.size) { s with heap := h' }) :
    wpAny (model prog w) A (Builtin.«zip.__next__» ⟨[.ref (k + 5)], []⟩) (fun fin s' => ∃ v, fin = .done (.ret v) ∧ Q v s') E s := by
  obtain ⟨hz, hTI, ⟨a, b, c, hTO⟩, i1, i2, i3, l1, l2, l3⟩ := S
  have d1 : k ≠ k + 5 := ne_up (i := 0)
  have d2 : k ≠ k + 4 := ne_up (i := 0)
  have d3 : k ≠ k + 1 := ne_up (i := 0)
  have d4 : k ≠ k + 2 := ne_up (i := 0)
  show wpAny _ _ (field (.ref (k + 5)) 2 >>= _) _ _ _
  refine wpAny_bind (wpAny_field hz rfl (x := .bool false) rfl ?_)
  show wpAny _ _ (field (.ref (k + 5)) 3 >>= _) _ _ _
  refine wpAny_bind (wpAny_field hz rfl (x := .ref (k + 3)) rfl ?_)
  refine wpAny_bind (wpAny_seqItems hTI rfl ?_)
  show wpAny _ _ (Builtin.SmallTypes.ownedTupleIsFree (.ref (k + 5)) >>= _) _ _ _
  refine wpAny_bind ?_
  unfold Builtin.SmallTypes.ownedTupleIsFree
  refine wpAny_bind (wpAny_field hz rfl (x := .none) rfl (wpAny_pure ?_))
  simp only [if_true]
  refine wpAny_bind (wpAny_rule ?_)
  refine wpAny_bind (wpAny_field hz rfl (x := .ref (k + 4)) rfl ?_)
  refine wpAny_bind (wpAny_setField_rec hz (by simp) fun h₁ hz₁ hs₁ => ?_)
  replace hz₁ : IsZip h₁ (k + 5) (k + 3) (k + 4) .ellipsis := hz₁
  refine wpAny_bind ?_
  simp only [List.zipIdx_cons, List.zipIdx_nil, List.forIn_cons, List.forIn_nil]
  -- the first
  refine wpAny_bind (wpAny_bind (wpAny_onRaise ?_))
  show wpAny _ _ (Builtin.SmallTypes.nextOf (.ref k) >>= _) _ _ _
  refine wpAny_bind (wpAny_nextOf_list_item (i1.extBut hs₁.extBut d1) (l1.extBut hs₁.extBut (ne_low h1 5)) hx fun h₂ i1₂ hs₂ => wpAny_pure ?_)
  have hTO₂ : IsTrip h₂ (k + 4) a b c := hs₂.extBut _ _ d2.symm (hs₁.extBut _ _ ne_up hTO)
  refine wpAny_bind (wpAny_seqItems hTO₂ rfl ?_)
  refine wpAny_bind (updateSeq_trip hTO₂ fun h₃ hTO₃ hs₃ => ?_)
  replace hTO₃ : IsTrip h₃ (k + 4) x b c := hTO₃
  refine wpAny_bind (wpAny_letGo (wpAny_pure ?_))
  -- the second
  refine wpAny_bind (wpAny_bind (wpAny_onRaise ?_))
  show wpAny _ _ (Builtin.SmallTypes.nextOf (.ref (k + 1)) >>= _) _ _ _
  have i2₃ := ((i2.extBut hs₁.extBut ne_up).extBut hs₂.extBut d3.symm).extBut hs₃.extBut ne_up
  have l2₃ := ((l2.extBut hs₁.extBut (ne_low h2 5)).extBut hs₂.extBut (Nat.ne_of_lt h2)).extBut hs₃.extBut (ne_low h2 4)
  refine wpAny_bind (wpAny_nextOf_list_item i2₃ l2₃ hy fun h₄ i2₄ hs₄ => wpAny_pure ?_)
  have hTO₄ : IsTrip h₄ (k + 4) x b c := hs₄.extBut _ _ ne_up hTO₃
  refine wpAny_bind (wpAny_seqItems hTO₄ rfl ?_)
  refine wpAny_bind (updateSeq_trip hTO₄ fun h₅ hTO₅ hs₅ => ?_)
  replace hTO₅ : IsTrip h₅ (k + 4) x y c := hTO₅
  refine wpAny_bind (wpAny_letGo (wpAny_pure ?_))
  -- the third
  refine wpAny_bind (wpAny_bind (wpAny_onRaise ?_))
  show wpAny _ _ (Builtin.SmallTypes.nextOf (.ref (k + 2)) >>= _) _ _ _
  have i3₅ := ((((i3.extBut hs₁.extBut ne_up).extBut hs₂.extBut d4.symm).extBut hs₃.extBut ne_up).extBut hs₄.extBut ne_up).extBut hs₅.extBut ne_up
  have l3₅ := ((((l3.extBut hs₁.extBut (ne_low h3 5)).extBut hs₂.extBut (Nat.ne_of_lt h3)).extBut hs₃.extBut (ne_low h3 4)).extBut hs₄.extBut (ne_low h3 1)).extBut hs₅.extBut (ne_low h3 4)
  refine wpAny_bind (wpAny_nextOf_list_item i3₅ l3₅ hu fun h₆ i3₆ hs₆ => wpAny_pure ?_)
  have hTO₆ : IsTrip h₆ (k + 4) x y c := hs₆.extBut _ _ ne_up hTO₅
  refine wpAny_bind (wpAny_seqItems hTO₆ rfl ?_)
  refine wpAny_bind (updateSeq_trip hTO₆ fun h₇ hTO₇ hs₇ => ?_)
  replace hTO₇ : IsTrip h₇ (k + 4) x y u := hTO₇
  refine wpAny_bind (wpAny_letGo (wpAny_pure (wpAny_pure ?_)))
  -- the tuple
  refine wpAny_bind (wpAny_seqItems hTO₇ rfl ?_)
  refine wpAny_bind (wpAny_newTuple ?_)
  have hk₇ : ∀ c o, c ≠ k + 5 → c ≠ k + 4 → c ≠ k → c ≠ k + 1 → c ≠ k + 2 → s.heap.get? c = some o → h₇.get? c = some o := fun c o c1 c2 c3 c4 c5 e =>
    hs₇.extBut _ _ c2 (hs₆.extBut _ _ c5 (hs₅.extBut _ _ c2 (hs₄.extBut _ _ c4 (hs₃.extBut _ _ c2 (hs₂.extBut _ _ c3 (hs₁.extBut _ _ c1 e))))))
  have hsz : h₇.objs.size = s.heap.objs.size := by rw [hs₇.1, hs₆.1, hs₅.1, hs₄.1, hs₃.1, hs₂.1, hs₁.1]
  have hz₇ : IsZip h₇ (k + 5) (k + 3) (k + 4) .ellipsis := hs₇.extBut _ _ ne_up (hs₆.extBut _ _ ne_up (hs₅.extBut _ _ ne_up (hs₄.extBut _ _ ne_up (hs₃.extBut _ _ ne_up (hs₂.extBut _ _ d1.symm hz₁)))))
  have i1₇ : h₇.IsListIter k a1 (i + 1) := ((((i1₂.extBut hs₃.extBut d2).extBut hs₄.extBut d3).extBut hs₅.extBut d2).extBut hs₆.extBut d4).extBut hs₇.extBut d2
  have i2₇ : h₇.IsListIter (k + 1) a2 (i + 1) := ((i2₄.extBut hs₅.extBut ne_up).extBut hs₆.extBut ne_up).extBut hs₇.extBut ne_up
  have i3₇ : h₇.IsListIter (k + 2) a3 (i + 1) := i3₆.extBut hs₇.extBut ne_up
  have hzlt : k + 5 < h₇.objs.size := Heap.lt_size hz₇
  show wpAny _ _ (Builtin.SmallTypes.ownedTupleHandOut (.ref (k + 5)) (.ref h₇.objs.size) >>= _) _ _ _
  refine wpAny_bind ?_
  unfold Builtin.SmallTypes.ownedTupleHandOut
  have hz₈ : IsZip (h₇.push { cls := .type "tuple", data := .seq #[x, y, u] }) (k + 5) (k + 3) (k + 4) .ellipsis := Heap.get?_push_of_some _ hz₇
  refine wpAny_bind (wpAny_setField_rec hz₈ (by simp) fun h₉ hz₉ hs₉ => ?_)
  replace hz₉ : IsZip h₉ (k + 5) (k + 3) (k + 4) (rawInt h₇.objs.size) := hz₉
  refine wpAny_setField_rec hz₉ (by simp) fun g hzg hsg => ?_
  replace hzg : IsZip g (k + 5) (k + 3) (k + 4) (rawInt h₇.objs.size) := hzg
  have up : ∀ c o, c ≠ k + 5 → h₇.get? c = some o → g.get? c = some o := fun c o c1 e => hsg.extBut _ _ c1 (hs₉.extBut _ _ c1 (Heap.get?_push_of_some _ e))
  have hTg : IsTrip g h₇.objs.size x y u := hsg.extBut _ _ (Nat.ne_of_gt hzlt) (hs₉.extBut _ _ (Nat.ne_of_gt hzlt) (Heap.get?_push_size _ rfl))
  rw [hsz] at hzg hTg
  refine wpAny_pure ⟨_, rfl, ?_⟩
  show Q (.ref h₇.objs.size) _
  rw [hsz]
  have upL : ∀ {c : Nat} {items}, c < k → s.heap.IsList c items → g.IsList c items := fun {c items} hc hl => hl.at fun o e => up _ o (ne_low hc 5) (hk₇ _ o (ne_low hc 5) (ne_low hc 4) (Nat.ne_of_lt hc) (ne_low hc 1) (ne_low hc 2) e)
  refine hQ g ⟨hzg, up _ _ ne_up (hk₇ _ _ ne_up ne_up (ne_up (i := 3) (j := 0)) ne_up ne_up hTI), ⟨_, _, _, up _ _ ne_up hTO₇⟩, i1₇.at fun o e => up _ o d1 e, i2₇.at fun o e => up _ o ne_up e, i3₇.at fun o e => up _ o ne_up e, upL h1 l1, upL h2 l2, upL h3 l3⟩ hTg fun c o hc e => ?_
  obtain ⟨c1, c2, c3, c4, c5⟩ := not_zw hc
  exact up _ _ c1 (hk₇ _ _ c1 c2 c3 c4 c5 e)

theorem zip3_next_end {k a1 a2 a3 : Nat} {xs ys zs : Array Value} {i : Nat} {Q : Fin → Shared → Prop} (hh : A.handled = none) (h1 : a1 < k) (S : Z3 k a1 a2 a3 xs ys zs i .none s.heap) (hx : xs[i]? = none)
    (hE : ∀ h' e, (∀ c o, c ∉ zw k → s.heap.get? c = some o → h'.get? c = some o) → (∃ o, h'.get? e = some o ∧ o.cls = .type "StopIteration") → E (.ref e) { s with heap := h' }) :
    wpAny (model prog w) A (Builtin.«zip.__next__» ⟨[.ref (k + 5)], []⟩) Q E s := by
  obtain ⟨hz, hTI, ⟨a, b, c, hTO⟩, i1, i2, i3, l1, l2, l3⟩ := S
  have d1 : k ≠ k + 5 := ne_up (i := 0)
  show wpAny _ _ (field (.ref (k + 5)) 2 >>= _) _ _ _
  refine wpAny_bind (wpAny_field hz rfl (x := .bool false) rfl ?_)
  show wpAny _ _ (field (.ref (k + 5)) 3 >>= _) _ _ _
  refine wpAny_bind (wpAny_field hz rfl (x := .ref (k + 3)) rfl ?_)
  refine wpAny_bind (wpAny_seqItems hTI rfl ?_)
  show wpAny _ _ (Builtin.SmallTypes.ownedTupleIsFree (.ref (k + 5)) >>= _) _ _ _
  refine wpAny_bind ?_
  unfold Builtin.SmallTypes.ownedTupleIsFree
  refine wpAny_bind (wpAny_field hz rfl (x := .none) rfl (wpAny_pure ?_))
  simp only [if_true]
  refine wpAny_bind (wpAny_rule ?_)
  refine wpAny_bind (wpAny_field hz rfl (x := .ref (k + 4)) rfl ?_)
  refine wpAny_bind (wpAny_setField_rec hz (by simp) fun h₁ hz₁ hs₁ => ?_)
  replace hz₁ : IsZip h₁ (k + 5) (k + 3) (k + 4) .ellipsis := hz₁
  refine wpAny_bind ?_
  simp only [List.zipIdx_cons, List.zipIdx_nil, List.forIn_cons, List.forIn_nil]
  refine wpAny_bind (wpAny_bind (wpAny_onRaise ?_))
  show wpAny _ _ (Builtin.SmallTypes.nextOf (.ref k) >>= _) _ _ _
  refine wpAny_bind (wpAny_nextOf_list_end hh (i1.extBut hs₁.extBut d1) (l1.extBut hs₁.extBut (ne_low h1 5)) hx fun h₂ e hs₂ he => ?_)
  obtain ⟨oe, hoe, hce⟩ := he
  have hz₂ : IsZip h₂ (k + 5) (k + 3) (k + 4) .ellipsis := hs₂ _ _ d1.symm hz₁
  have hez : e ≠ k + 5 := fun x => by subst x; rw [hz₂] at hoe; cases hoe; simp at hce
  refine wpAny_setField_rec hz₂ (by simp) fun h₃ _ hs₃ => hE h₃ e (fun c o hc x => ?_) ⟨oe, hs₃.extBut _ _ hez hoe, hce⟩
  obtain ⟨c1, c2, c3, c4, c5⟩ := not_zw hc
  exact hs₃.extBut _ _ c1 (hs₂ _ _ c3 (hs₁.extBut _ _ c1 x))

end
noncomputable abbrev zH1 (h : Heap) (l1 : Addr) : Heap := h.push { cls := .type "list_iterator", data := .fields #[.ref l1, .int 0 0] }
noncomputable abbrev zH2 (h : Heap) (l1 l2 : Addr) : Heap := (zH1 h l1).push { cls := .type "list_iterator", data := .fields #[.ref l2, .int 0 0] }
noncomputable abbrev zH3 (h : Heap) (l1 l2 l3 : Addr) : Heap := (zH2 h l1 l2).push { cls := .type "list_iterator", data := .fields #[.ref l3, .int 0 0] }
noncomputable abbrev zH4 (h : Heap) (l1 l2 l3 : Addr) : Heap := (zH3 h l1 l2 l3).push { cls := .type "tuple", data := .seq #[.ref h.objs.size, .ref (zH1 h l1).objs.size, .ref (zH2 h l1 l2).objs.size] }
noncomputable abbrev zH5 (h : Heap) (l1 l2 l3 : Addr) : Heap := (zH4 h l1 l2 l3).push { cls := .type "tuple", data := .seq #[.none, .none, .none] }
noncomputable abbrev zH6 (h : Heap) (l1 l2 l3 : Addr) : Heap := (zH5 h l1 l2 l3).push { cls := .type "zip", data := .fields #[.none, .bool false, .bool false, .ref (zH3 h l1 l2 l3).objs.size, .ref (zH4 h l1 l2 l3).objs.size] }
set_option maxHeartbeats 4000000 in
theorem meets_zip_new3 (l1 l2 l3 : Addr) (xs ys zs : Array Value) :
    Meets (Builtin.«zip.__new__» ⟨[.type "zip", .ref l1, .ref l2, .ref l3], []⟩) (fun _ R s => s.heap.IsList l1 xs ∧ s.heap.IsList l2 ys ∧ s.heap.IsList l3 zs ∧
      R (.ok (.ret (.ref (zH5 s.heap l1 l2 l3).objs.size))) { s with heap := zH6 s.heap l1 l2 l3 }) :=
  .of_wp fun prog w A R s h => by
    obtain ⟨hp, g, d, tk, os⟩ := s; obtain ⟨hl1, hl2, hl3, h⟩ := h
    have hsub := sub_zip
    have hL1 : Heap.IsList (Shared.heap ⟨hp, g, d, tk, os⟩) l1 xs := hl1
    have hL2 : Heap.IsList (Shared.heap ⟨hp.push { cls := .type "list_iterator", data := .fields #[.ref l1, .int 0 0] }, g, d, tk, os⟩) l2 ys := Heap.IsList.push hl2 _
    have hL3 : Heap.IsList (Shared.heap ⟨(hp.push { cls := .type "list_iterator", data := .fields #[.ref l1, .int 0 0] }).push { cls := .type "list_iterator", data := .fields #[.ref l2, .int 0 0] }, g, d, tk, os⟩) l3 zs := Heap.IsList.push (Heap.IsList.push hl3 _) _
    wp_walk using wpAny_pyIter_list hL1, wpAny_pyIter_list hL2, wpAny_pyIter_list hL3
    exact ⟨_, rfl, h⟩

section
variable {prog : Program} {w : World} {A : Around} {E : Value → Shared → Prop} {s : Shared}
theorem call_zip_3 {l1 l2 l3 : Addr} {xs ys zs : Array Value} {Q : Value → Shared → Prop} (hl1 : s.heap.IsList l1 xs) (hl2 : s.heap.IsList l2 ys) (hl3 : s.heap.IsList l3 zs)
    (h : ∀ h', Z3 s.heap.objs.size l1 l2 l3 xs ys zs 0 .none h' → Kp s.heap h' → Q (.ref (s.heap.objs.size + 5)) { s with heap := h' }) :
    wpAny (model prog w) A (call (.type "zip") [.ref l1, .ref l2, .ref l3]) Q E s := by
  refine callType_new F.called_zip (by decide) (typeCall_zip_3 _ _ _) (newCall_zip_3 _ _ _) (fun obj => args_object_init_4 obj _ _ _) F.entry_zip_new
    (meets_zip_new3 l1 l2 l3 xs ys zs) ⟨hl1, hl2, hl3, ?_⟩
  suffices hh : ∀ h1 h2 h3 h4 h5 h6, h1 = s.heap.push { cls := .type "list_iterator", data := .fields #[.ref l1, .int 0 0] } → h2 = h1.push { cls := .type "list_iterator", data := .fields #[.ref l2, .int 0 0] } → h3 = h2.push { cls := .type "list_iterator", data := .fields #[.ref l3, .int 0 0] } →
        h4 = h3.push { cls := .type "tuple", data := .seq #[.ref s.heap.objs.size, .ref h1.objs.size, .ref h2.objs.size] } → h5 = h4.push { cls := .type "tuple", data := .seq #[.none, .none, .none] } →
        h6 = h5.push { cls := .type "zip", data := .fields #[.none, .bool false, .bool false, .ref h3.objs.size, .ref h4.objs.size] } → Shared.TypeIs { s with heap := h6 } (.ref h5.objs.size) "zip" ∧ Q (.ref h5.objs.size) { s with heap := h6 } from hh _ _ _ _ _ _ rfl rfl rfl rfl rfl rfl
  intro h1 h2 h3 h4 h5 h6 e1 e2 e3 e4 e5 e6
  have z1 : h1.objs.size = s.heap.objs.size + 1 := by rw [e1, Heap.size_push]
  have z2 : h2.objs.size = s.heap.objs.size + 2 := by rw [e2, Heap.size_push, z1]
  have z3 : h3.objs.size = s.heap.objs.size + 3 := by rw [e3, Heap.size_push, z2]
  have z4 : h4.objs.size = s.heap.objs.size + 4 := by rw [e4, Heap.size_push, z3]
  have z5 : h5.objs.size = s.heap.objs.size + 5 := by rw [e5, Heap.size_push, z4]
  have p6 : ∀ {c o}, h5.get? c = some o → h6.get? c = some o := fun e => by rw [e6]; exact Heap.get?_push_of_some _ e
  have p5 : ∀ {c o}, h4.get? c = some o → h6.get? c = some o := fun e => p6 (by rw [e5]; exact Heap.get?_push_of_some _ e)
  have p4 : ∀ {c o}, h3.get? c = some o → h6.get? c = some o := fun e => p5 (by rw [e4]; exact Heap.get?_push_of_some _ e)
  have p3 : ∀ {c o}, h2.get? c = some o → h6.get? c = some o := fun e => p4 (by rw [e3]; exact Heap.get?_push_of_some _ e)
  have p2 : ∀ {c o}, h1.get? c = some o → h6.get? c = some o := fun e => p3 (by rw [e2]; exact Heap.get?_push_of_some _ e)
  have p1 : Kp s.heap h6 := fun c o e => p2 (by rw [e1]; exact Heap.get?_push_of_some _ e)
  have g6 : h6.get? (s.heap.objs.size + 5) = some { cls := .type "zip", data := .fields #[.none, .bool false, .bool false, .ref (s.heap.objs.size + 3), .ref (s.heap.objs.size + 4)] } := by rw [e6, ← z5, ← z3, ← z4]; exact Heap.get?_push_size _ rfl
  have g5 : h6.get? (s.heap.objs.size + 4) = some { cls := .type "tuple", data := .seq #[.none, .none, .none] } := p6 (by rw [e5, ← z4]; exact Heap.get?_push_size _ rfl)
  have g4 : h6.get? (s.heap.objs.size + 3) = some { cls := .type "tuple", data := .seq #[.ref s.heap.objs.size, .ref (s.heap.objs.size + 1), .ref (s.heap.objs.size + 2)] } := p5 (by rw [e4, ← z3, ← z1, ← z2]; exact Heap.get?_push_size _ rfl)
  have g3 : h6.get? (s.heap.objs.size + 2) = some { cls := .type "list_iterator", data := .fields #[.ref l3, .int 0 0] } := p4 (by rw [e3, ← z2]; exact Heap.get?_push_size _ rfl)
  have g2 : h6.get? (s.heap.objs.size + 1) = some { cls := .type "list_iterator", data := .fields #[.ref l2, .int 0 0] } := p3 (by rw [e2, ← z1]; exact Heap.get?_push_size _ rfl)
  have g1 : h6.get? s.heap.objs.size = some { cls := .type "list_iterator", data := .fields #[.ref l1, .int 0 0] } := p2 (by rw [e1]; exact Heap.get?_push_size _ rfl)
  rw [z5]
  exact ⟨⟨_, g6, rfl⟩, h h6 ⟨g6, g4, ⟨_, _, _, g5⟩, ⟨_, g1, rfl, rfl⟩, ⟨_, g2, rfl, rfl⟩, ⟨_, g3, rfl, rfl⟩, hl1.at fun o e => p1 _ _ e, hl2.at fun o e => p1 _ _ e, hl3.at fun o e => p1 _ _ e⟩ p1⟩
end

section
variable {G : GC} {cx : Cx} {n : Nat} {ow : Ow} {ρ : Vs} {pos p fp : Pos} {e e2 e3 : Expr} {A : Around}

theorem Z3.move {k a1 a2 a3 : Nat} {xs ys zs : Array Value} {i : Nat} {f0 : Value} {h h' : Heap} (S : Z3 k a1 a2 a3 xs ys zs i f0 h) (hk : ∀ b ∈ [k + 5, k + 3, k + 4, k, k + 1, k + 2, a1, a2, a3], ∀ o, h.get? b = some o → h'.get? b = some o) : Z3 k a1 a2 a3 xs ys zs i f0 h' where
  z := hk _ (by simp) _ S.z
  ti := hk _ (by simp) _ S.ti
  to := let ⟨a, b, c, e⟩ := S.to; ⟨a, b, c, hk _ (by simp) _ e⟩
  i1 := S.i1.at fun o e => hk _ (by simp) o e
  i2 := S.i2.at fun o e => hk _ (by simp) o e
  i3 := S.i3.at fun o e => hk _ (by simp) o e
  l1 := S.l1.at fun o e => hk _ (by simp) o e
  l2 := S.l2.at fun o e => hk _ (by simp) o e
  l3 := S.l3.at fun o e => hk _ (by simp) o e

theorem EvI.zip3 {es : List Expr} {j : Nat} {dss : List (List D)} {ds ds2 ds3 : List D} (hk : cx.env.kindOf "zip" = some .globalImplicit) (he : Ev G cx n ow ρ e (.lst ds)) (he2 : Ev G cx n ow ρ e2 (.lst ds2)) (he3 : Ev G cx n ow ρ e3 (.lst ds3))
    (hl1 : ds.length = dss.length) (hl2 : ds2.length = dss.length) (hl3 : ds3.length = dss.length)
    (hall : ∀ (i : Nat) (a b c : D) (dl : List D), ds[i]? = some a → ds2[i]? = some b → ds3[i]? = some c → dss[i]? = some dl → dl = [a, b, c])
    (pa : plainArgs [e, e2, e3] cx.env := by exact ⟨_, _, rfl, rfl, fun _ => rfl⟩)
    (hst : starEach [e, e2, e3] cx.env = (false, eval e cx.env) :: starEach [e2, e3] cx.env := by rfl) (hst2 : starEach [e2, e3] cx.env = (false, eval e2 cx.env) :: starEach [e3] cx.env := by rfl) (hst3 : starEach [e3] cx.env = (false, eval e3 cx.env) :: starEach [] cx.env := by rfl) :
    EvI G cx n ow ρ (.Call (.Name "zip" fp) [e, e2, e3] [] pos) (.Tuple es j p) dss := by
  intro A s M W Q E am st h
  refine evType hk (by decide) boot_zip' (EvL.cons he (EvL.cons he2 (EvL.cons he3 EvL.nil hst3) hst2) hst) am st pa fun vs h1 t1 k1 r1 => ?_
  obtain ⟨v, v2, v3, rfl, r, r2, r3⟩ := r1.three
  unfold Rep at r r2 r3
  obtain ⟨a, us, rfl, ha, hl, hr⟩ := r
  obtain ⟨a2, us2, rfl, ha2, hl2', hr2⟩ := r2
  obtain ⟨a3, us3, rfl, ha3, hl3', hr3⟩ := r3
  have lv : ∀ {a vs}, h1.PlainList a vs → (h1.get? a).isSome = true ∧ a < h1.objs.size := fun hl => by obtain ⟨j, e⟩ := hl; exact ⟨by rw [e]; rfl, Heap.lt_size e⟩
  have hsome := lv hl
  have hsome2 := lv hl2'
  have hsome3 := lv hl3'
  refine call_zip_3 (s := { s with heap := h1, toks := t1 }) hl.isList hl2'.isList hl3'.isList fun h2 hZ kp => ?_
  dsimp only at hZ kp
  refine wpAny_pyIter_zip (s := { s with heap := h2, toks := t1 }) hZ.z ?_
  have szs : ∀ b ∈ zw h1.objs.size, h1.get? b = none := fun b hb => by
    unfold zw at hb
    simp only [List.mem_cons, List.not_mem_nil, or_false] at hb
    rcases hb with rfl | rfl | rfl | rfl | rfl
    · exact Heap.get?_none_of_le (Nat.le_add_right _ _)
    · exact Heap.get?_none_of_le (Nat.le_add_right _ _)
    · exact Heap.get?_none_of_le (Nat.le_refl _)
    · exact Heap.get?_none_of_le (Nat.le_add_right _ _)
    · exact Heap.get?_none_of_le (Nat.le_add_right _ _)
  have w5 : h1.objs.size + 5 ∈ zw h1.objs.size := by simp [zw]
  refine h _ [h1.objs.size + 5, h1.objs.size + 3, h1.objs.size + 4, h1.objs.size, h1.objs.size + 1, h1.objs.size + 2, a, a2, a3] (zw h1.objs.size) (fun i h => Z3 h1.objs.size a a2 a3 us.toArray us2.toArray us3.toArray i .none h) _ _
    { new := ?_, live := ?_, foot := ?_, frame := fun i h1 h2 S hk => S.move hk, item := ?_, done := ?_, self := fun i s Q E S hq => wpAny_pyIter_zip S.z hq } hZ (k1.trans kp)
  · intro b hb
    cases e : s.heap.get? b with
    | none => rfl
    | some o => have := k1 b o e; rw [szs b hb] at this; cases this
  · intro i h'' S b hb
    unfold zw at hb
    simp only [List.mem_cons, List.not_mem_nil, or_false] at hb
    rcases hb with rfl | rfl | rfl | rfl | rfl
    · rw [S.z]; rfl
    · obtain ⟨_, _, _, q⟩ := S.to; rw [q]; rfl
    · exact listIter_live S.i1
    · exact listIter_live S.i2
    · exact listIter_live S.i3
  · intro b hb
    simp only [List.mem_cons, List.not_mem_nil, or_false] at hb
    rcases hb with rfl | rfl | rfl | rfl | rfl | rfl | rfl | rfl | rfl
    · exact .inl w5
    · refine .inr ⟨fun q => ?_, by rw [hZ.ti]; rfl⟩
      have := st.live _ q
      rw [size_none k1 3] at this; cases this
    · exact .inl (by simp [zw])
    · exact .inl (by simp [zw])
    · exact .inl (by simp [zw])
    · exact .inl (by simp [zw])
    · exact foot_in ha hsome.1 kp
    · exact foot_in ha2 hsome2.1 kp
    · exact foot_in ha3 hsome3.1 kp
  · intro i dl s' M' Q' E' hdl S hk' hwr hQ'
    have hi : i < dss.length := by
      rcases Nat.lt_or_ge i dss.length with q | q
      · exact q
      · rw [List.getElem?_eq_none q] at hdl; cases hdl
    have g1 : ds[i]? = some (ds[i]'(by omega)) := List.getElem?_eq_getElem _
    have g2 : ds2[i]? = some (ds2[i]'(by omega)) := List.getElem?_eq_getElem _
    have g3 : ds3[i]? = some (ds3[i]'(by omega)) := List.getElem?_eq_getElem _
    obtain ⟨x, hx, rx⟩ := hr.get' g1
    obtain ⟨y, hy, ry⟩ := hr2.get' g2
    obtain ⟨u, hu, ru⟩ := hr3.get' g3
    have hT : s'.TypeIs (.ref (h1.objs.size + 5)) "zip" := ⟨_, S.z, rfl⟩
    unfold pyNext
    refine wpAny_bind (wpAny_attempt (wpAny_callSpecial?_slot (name := Str.ofString "__next__") hT F.slot_zip_next
      (wpAny_call_entry F.slot_zip_next hT F.entry_zip_next (zip3_next_item hsome.2 hsome2.2 hsome3.2 S (by simpa using hx) (by simpa using hy) (by simpa using hu) fun h3 S3 hT3 up => ?_) (F.args_zip_next_1 _))))
    refine wpAny_pure ?_
    have hzlt : h1.objs.size + 5 < s'.heap.objs.size := Heap.lt_size S.z
    refine wpAny_letOwnedTupleGo_zip (s := { s' with heap := h3 }) S3.z fun h4 hz4 hs4 => ?_
    refine hQ' _ h4 s'.toks ?_ (fun b o hb e => hs4.extBut b o (fun q => hb (q ▸ w5)) (up b o hb e)) ?_
    · have mv : ∀ {c o}, c ≠ h1.objs.size + 5 → h3.get? c = some o → h4.get? c = some o := fun hc e => hs4.extBut _ _ hc e
      exact ⟨hz4, mv ne_up S3.ti, (let ⟨a, b, c, e⟩ := S3.to; ⟨a, b, c, mv ne_up e⟩), S3.i1.at fun o e => mv (ne_up (i := 0)) e, S3.i2.at fun o e => mv ne_up e, S3.i3.at fun o e => mv ne_up e,
        S3.l1.at fun o e => mv (ne_low hsome.2 5) e, S3.l2.at fun o e => mv (ne_low hsome2.2 5) e, S3.l3.at fun o e => mv (ne_low hsome3.2 5) e⟩
    · have hd := hall i _ _ _ _ g1 g2 g3 hdl
      subst hd
      have mv : ∀ b o, b ∉ M → h1.get? b = some o → b ∉ M' ∧ h4.get? b = some o := fun b o hb e => by
        obtain ⟨q1, q2⟩ := rep_at szs kp hk' b o hb e
        have hbw : b ∉ zw h1.objs.size := fun q => by rw [szs b q] at e; cases e
        exact ⟨q1, hs4.extBut b o (fun q => hbw (q ▸ w5)) (up b o hbw q2)⟩
      exact ⟨s'.heap.objs.size, [x, y, u], rfl, ⟨_, hs4.extBut _ _ (Nat.ne_of_gt hzlt) hT3, rfl, _, rfl⟩, .cons (rx.move mv) (.cons (ry.move mv) (.cons (ru.move mv) .nil))⟩
  · intro s' Q' E' S hQ'
    have hT : s'.TypeIs (.ref (h1.objs.size + 5)) "zip" := ⟨_, S.z, rfl⟩
    unfold pyNext
    refine wpAny_bind (wpAny_attempt (wpAny_callSpecial?_slot (name := Str.ofString "__next__") hT F.slot_zip_next
      (wpAny_call_entry F.slot_zip_next hT F.entry_zip_next (zip3_next_end am.handled hsome.2 S (by simp [hr.length, hl1]) fun h' e hk he => ?_) (F.args_zip_next_1 _))))
    obtain ⟨o, ho, hc⟩ := he
    refine wpAny_bind (wpAny_isInstance (T := "StopIteration") (b := true) ⟨o, ho, hc⟩ isSubtype_stop ?_)
    exact wpAny_pure (hQ' _ s'.toks hk)
end
end Mine
end
section
open PySem PySem.Calls PyProof.Rows
namespace Mine

section
variable {G : GC} {cx : Cx} {n : Nat} {ow : Ow} {ρ : Vs} {pos p fp : Pos} {e l r value slice target : Expr} {d d1 d2 : D} {P : Out → Prop} {A : Around} {xs : List Str}
  {elt iter : Expr} {ifs : List Expr} {scope : Scope} {spos : Pos} {α : Type} {as : List α} {dl : α → List D}

theorem Ev.lcomp (pr : α → Bool) (f : α → D) (tg : TG target xs) (it : EvI G cx n ow ρ iter target (as.map dl)) (hl : ∀ a ∈ as, (dl a).length = xs.length) (ok : CompOk cx scope)
    (hx : ∀ x ∈ xs, ∀ h C, CanStore (compCx cx scope h C) x) (hxf : ∀ x ∈ xs, scope.names.lookup x ≠ some .free)
    (tests : ∀ a ∈ as, ∀ h C, EvTs G (compCx cx scope h C) n none (updAll (compρ ρ scope) xs (dl a)) ifs (pr a))
    (elts : ∀ a ∈ as, pr a = true → ∀ h C, Ev G (compCx cx scope h C) n none (updAll (compρ ρ scope) xs (dl a)) elt (f a))
    (hz : as.length ≤ sizeLine) (hd : d = .lst ((as.filter pr).map f))
    (hs : ∀ x, foldedSetIterable iter cx.env x = pure x := by intro _; rfl) : Ev G cx n ow ρ (.ListComp elt [⟨target, iter, ifs, 0⟩] scope spos) d := by
  intro A s M W Q E am st h
  subst hd
  rw [eval_ListComp]
  refine comp_core pr f am st tg it hl ok hx hxf tests elts hz ?_ hs
  intro hE tk C Da k hC hn hr
  obtain ⟨m, hn⟩ := hn
  refine ⟨m, hn, fun h' hs' => ?_⟩
  have hne : ∀ b o, s.heap.get? b = some o → b ≠ C := fun b o e q => by rw [q, hC] at e; cases e
  refine h _ h' tk (fun b o e => hs'.extBut b o (hne b o e) (k b o e)) (hr.move fun b o hb e => ⟨fun q => hb (List.mem_append.mpr (.inr q)), hs'.extBut b o (fun q => hb (List.mem_append.mpr (.inl (by simp [q])))) e⟩)

theorem Ex1.assignComp {x : Str} (pr : α → Bool) (f : α → D) (tg : TG target xs) (it : EvI G cx n ow ρ iter target (as.map dl)) (hl : ∀ a ∈ as, (dl a).length = xs.length) (ok : CompOk cx scope)
    (hx : ∀ x ∈ xs, ∀ h C, CanStore (compCx cx scope h C) x) (hxf : ∀ x ∈ xs, scope.names.lookup x ≠ some .free)
    (tests : ∀ a ∈ as, ∀ h C, EvTs G (compCx cx scope h C) n Option.none (updAll (compρ ρ scope) xs (dl a)) ifs (pr a))
    (elts : ∀ a ∈ as, pr a = true → ∀ h C, Ev G (compCx cx scope h C) n Option.none (updAll (compρ ρ scope) xs (dl a)) elt (f a))
    (hz : as.length ≤ sizeLine) (hd : d = .lst ((as.filter pr).map f)) (hc : CanStore cx x) (hf : Free ow x) (hP : P (.next ow (upd ρ x d)))
    (hsw : swapsWith (.ListComp elt [⟨target, iter, ifs, 0⟩] scope spos) (some (.Name x p)) pos.line cx.env = pure true := by rfl)
    (hs : ∀ x, foldedSetIterable iter cx.env x = pure x := by intro _; rfl) : Ex1 G cx n ow ρ (.Assign [.Name x p] (.ListComp elt [⟨target, iter, ifs, 0⟩] scope spos) pos) P := by
  intro A s M W Q E am st h1 h2
  subst hd
  rw [exec_Assign_Name_used _ _ _ _ hsw]
  refine wpAny_bind (wpAny_standAt (wpAny_bind ?_))
  show wpAny _ A (do let _ ← PySem.comprehension (.ListComp elt [⟨target, iter, ifs, 0⟩] scope spos) scope cx.env _ (newList []) false (eval iter cx.env) (some (PySem.assign (.Name x p) cx.env))) _ _ s
  refine wpAny_bind (wpAny_mono (comp_core (Q := fun _ s' => Q .next s') pr f am st tg it hl ok hx hxf tests elts hz ?_ hs) (fun _ s' hq => wpAny_pure (wpAny_pure hq)) fun _ _ e => e)
  intro hE tk C Da k hC hn hr
  obtain ⟨m, hn⟩ := hn
  have hCl : (hE.get? C).isSome = true := by obtain ⟨o, _, _, e, _⟩ := hn; rw [e]; rfl
  have stE : St G cx ([C] ++ M) W ow ρ hE := st.bar k (fun a ha => by rw [List.mem_singleton.mp ha]; exact hC) (fun a ha => by rw [List.mem_singleton.mp ha]; exact hCl)
  have hCM : C ∉ M := fun q => by have := st.live C q; rw [hC] at this; cases this
  have hCW : C ∉ W := fun q => by obtain ⟨_, z, _⟩ := st; exact hCM (z.sub C q)
  show wpAny _ A (PySem.assign (.Name x p) cx.env (.ref Da)) _ _ _
  refine wpAny_assign_Name (store_ok (s := { s with heap := hE, toks := tk }) stE hr hc hf fun h' tk' t st' => ?_)
  have hn' : h'.Ns C m := hn.at' fun o e => t.off C o hCW e
  refine ⟨m, hn', fun h'' hs'' => ?_⟩
  have off : Off [C] h' h'' := fun b o hb e => hs''.extBut b o (fun q => hb (by simp [q])) e
  have wk : WrOk cx ([C] ++ M) W [C] := ⟨fun b hb => List.mem_append.mpr (.inl hb), fun b hb => by rw [List.mem_singleton.mp hb]; exact hCW, fun y c hy q => by
      rw [List.mem_singleton.mp q] at hy
      obtain ⟨_, z, _⟩ := st
      exact hCM (z.cell y C hy).2.2, fun b hb => by
      rw [List.mem_singleton.mp hb]
      obtain ⟨_, z, _⟩ := st
      cases e : cx.hb.get? C with
      | none => rfl
      | some o => have := z.keep C o e; rw [hC] at this; cases this⟩
  have nw : ∀ b ∈ [C], s.heap.get? b = Option.none := fun b hb => by rw [List.mem_singleton.mp hb]; exact hC
  have tr : Tr M W s.heap ([C] ++ M) W h' := (Tr.bar k nw).trans t
  exact h1 _ _ _ W h'' tk' hP (tr.wrDrop nw off) (st'.wrDrop wk off)
end
end Mine
end
section
open PySem PySem.Calls PyProof.Rows
namespace Mine
structure AccOk (D : Addr) (Acc : Nat → List Addr → Heap → Prop) : Prop where
  keep : ∀ i M4 W' h h', Acc i M4 h → Off W' h h' → (∀ a ∈ W', a ∈ M4) → D ∉ W' → Acc i M4 h'
  live : ∀ i M4 h, Acc i M4 h → (h.get? D).isSome = true

theorem Itr.step {G : GC} {A : Around} {target : Expr} {dss : List (List D)} {M : List Addr} {h h' : Heap} {I : Addr} {fp wr : List Addr} {S : Nat → Heap → Prop} (it : Itr G A target dss M h h' I fp wr S) {α : Type} {no : Sem α} {rest : Value → Sem α}
    {i : Nat} {dl : List D} {s : Shared} {M' : List Addr} {Q : α → Shared → Prop} {E : Value → Shared → Prop} (hd : dss[i]? = some dl) (hS : S i s.heap) (hk : ∀ b o, b ∉ wr ++ M → h'.get? b = some o → b ∉ M' ∧ s.heap.get? b = some o) (hw : ∀ b ∈ wr, b ∈ M')
    (k : ∀ v h2 tk, S (i + 1) h2 → Off wr s.heap h2 → Item G M' h2 dl v target → wpAny (model G.prog G.w) A (rest v) Q E { s with heap := h2, toks := tk }) :
    wpAny (model G.prog G.w) A (pyNext (.ref I)) (fun r s₁ => wpAny (model G.prog G.w) A (match r with | none => no | some v => letOwnedTupleGo target (.ref I) v >>= fun _ => rest v) Q E s₁) E s := by
  refine wpAny_mono (it.item i dl s M' (fun v s₂ => wpAny (model G.prog G.w) A (rest v) Q E s₂) E hd hS hk hw k) (fun r s₁ h₁ => ?_) fun _ _ x => x
  cases r with
  | none => exact h₁.elim
  | some v => exact wpAny_bind h₁

theorem comp_gen {G : GC} {cx : Cx} {n : Nat} {ow : Ow} {ρ : Vs} {M W : List Addr} {A : Around} {s : Shared} {E : Value → Shared → Prop} {e target iter : Expr} {xs : List Str} {scope : Scope} {fpos : Pos} {use : Option (Value → Sem Unit)} {Q : Value → Shared → Prop}
    {dss : List (List D)} {gs : List Comprehension} {newAcc : Sem Value} {obj : Obj} {emit : Value → Env → Sem Unit} {d : D} (Acc : Addr → Nat → List Addr → Heap → Prop)
    (hcl : clausesOf e = ⟨target, iter, [], 0⟩ :: gs)
    (hstart : ∀ (A : Around) (R : Result → Shared → Prop) it acc env s, codeAny (model G.prog G.w) A (.compLoop e 0 it acc env) R s → wpAny (model G.prog G.w) A (pyIter it) (fun it' s' => codeAny (model G.prog G.w) A (.compLoop e 0 it' acc env) R s') (notedBy (model G.prog G.w) A env fun x s' => R (.error x) s') s → codeAny (model G.prog G.w) A (.compStart e 0 it acc env) R s)
    (hturn : ∀ it D env, compTurn e 0 it (.ref D) env = (standAt iter.pos >>= fun _ => pyNext it >>= fun r => match r with
      | none => pure (.done .next)
      | some v => letOwnedTupleGo target it v >>= fun _ => PySem.assign target env v >>= fun _ => emit (.ref D) env >>= fun _ => again (.compLoop e 0 it (.ref D) env)))
    (hq : ∀ it acc env, Code.quiet (.compLoop e 0 it acc env) = true) (hden : ∀ it acc env, (model G.prog G.w).den (.compLoop e 0 it acc env) = (compTurn e 0 it acc env).onRaise (fun x => do noteFrame x env; theTreesLotGoes x))
    (hund : ∀ it acc env, A.under (.compLoop e 0 it acc env) = A)
    (hnew : ∀ (A : Around) (Q E : Value → Shared → Prop) (s : Shared), Q (.ref s.heap.objs.size) { s with heap := s.heap.push obj } → wpAny (model G.prog G.w) A newAcc Q E s) (hobj : obj.isFreed = false)
    (am : Amb A n) (st : St G cx M W ow ρ s.heap) (tg : TG target xs) (it : EvI G cx n ow ρ iter target dss) (hl : ∀ dl ∈ dss, dl.length = xs.length) (ok : CompOk cx scope)
    (hx : ∀ x ∈ xs, ∀ h C, CanStore (compCx cx scope h C) x) (hxf : ∀ x ∈ xs, scope.names.lookup x ≠ some .free)
    (hAcc : ∀ D, AccOk D (Acc D))
    (acc0 : ∀ D M4 h, h.get? D = some obj → 2 < D → Acc D 0 M4 h)
    (emits : ∀ (i : Nat) dl, dss[i]? = some dl → (∀ {h C M4 W4 hh}, St G (compCx cx scope h C) M4 W4 none (updAll (compρ ρ scope) xs dl) hh → St G (compCx cx scope h C) M4 W4 none (compρ ρ scope) hh) → ∀ h C D M4 W4 (s5 : Shared) (Q' : Unit → Shared → Prop) (E' : Value → Shared → Prop), St G (compCx cx scope h C) M4 W4 none (updAll (compρ ρ scope) xs dl) s5.heap → Acc D i M4 s5.heap → D ∈ M4 → D ∉ W4 →
      WrOk (compCx cx scope h C) M4 W4 [D] →
      (∀ h8 tk8, Off (D :: W4) s5.heap h8 → Acc D (i + 1) M4 h8 → St G (compCx cx scope h C) M4 W4 none (compρ ρ scope) h8 → Q' () { s5 with heap := h8, toks := tk8 }) → wpAny (model G.prog G.w) A (emit (.ref D) (compCx cx scope h C).env) Q' E' s5)
    (accEnd : ∀ D M4 M' hA h', Acc D dss.length M4 hA → D ∉ M' → (∀ b o, b ∉ M4 → hA.get? b = some o → b ∉ M' ∧ h'.get? b = some o) → (∀ o, hA.get? D = some o → h'.get? D = some o) → Rep G M' h' d (.ref D))
    (fin : ∀ hE tk C D, Kp s.heap hE → s.heap.get? C = none → (∃ m, hE.Ns C m) → Rep G ([C] ++ M) hE d (.ref D) → compPost (model G.prog G.w) A E use Q (.ref D) C (.ok .next) { s with heap := hE, toks := tk })
    (hs : ∀ x, foldedSetIterable iter cx.env x = pure x) :
    wpAny (model G.prog G.w) A (PySem.comprehension e scope cx.env fpos newAcc false (eval iter cx.env) use) Q E s := by
  have hclos : closureFor scope cx.env = pure (clOf cx.env.cells scope.names []) := closureFor_clOf fun x hx hk => by
    have := List.all_eq_true.mp ok.free x hx
    rw [hk] at this
    simp only [bne_self_eq_false, Bool.false_or, Bool.and_eq_true] at this
    exact this.1
  refine wpAny_comprehension_free (g := ⟨target, iter, [], 0⟩) (gs := gs) hcl hs hclos ok.kind (fun x hx hk => lookup_of_mem ok.nodup (by rw [← hk]; exact hx)) ?_
  refine it A s M W _ E am st fun I fp wr S hh tk itr hS k => ?_
  refine hnew _ _ _ _ ?_
  refine newCompEnv ?_
  dsimp only
  -- the names of what is new
  have hnewI := itr.new
  have hlive0 := let ⟨_, z, _⟩ := st; z.live
  have hsub := let ⟨_, z, _⟩ := st; z.sub
  generalize hH3 : hh.push obj = h3
  have hD3 : h3.objs.size = hh.objs.size + 1 := by rw [← hH3, Heap.size_push]
  have hDl : h3.get? hh.objs.size = some obj := by rw [← hH3]; exact Heap.get?_push_size _ hobj
  have k3 : Kp hh h3 := by rw [← hH3]; exact Kp.push _ _
  have hsz : ∀ {a}, (hh.get? a).isSome = true → a < hh.objs.size := fun {a} ha => by obtain ⟨o, ho⟩ := Option.isSome_iff_exists.mp ha; exact Heap.lt_size ho
  have wrlt : ∀ b ∈ wr, b < hh.objs.size := fun b hb => hsz (itr.live 0 hh hS b hb)
  have newN : ∀ a ∈ hh.objs.size :: wr, s.heap.get? a = none := fun a ha => by
    rcases List.mem_cons.mp ha with rfl | ha
    · cases e : s.heap.get? hh.objs.size with
      | none => rfl
      | some o => exact absurd (Heap.lt_size (k _ _ e)) (Nat.lt_irrefl _)
    · exact hnewI a ha
  have newL : ∀ a ∈ hh.objs.size :: wr, (h3.get? a).isSome = true := fun a ha => by
    rcases List.mem_cons.mp ha with rfl | ha
    · rw [hDl]; rfl
    · exact k3.isSome (itr.live 0 hh hS a ha)
  obtain ⟨st4, k4⟩ := comp_st (n := n) (new := hh.objs.size :: wr) ok st (k.trans k3) newN newL
  generalize hh4 : pushCells (h3.push { cls := .type "dict", data := .dict #[] }) scope.names = h4 at st4 k4 ⊢
  generalize hW0 : (h3.objs.size :: (cellsFrom (h3.objs.size + 1) scope.names []).map (·.2)) = W0 at st4
  generalize hcx : compCx cx scope s.heap h3.objs.size = cx' at st4
  have henv : cx'.env = compEnvC scope (compCells cx.env scope h3.objs.size) h3.objs.size cx.env := by rw [← hcx]; rfl
  have hloc : cx'.env.locals = h3.objs.size := by rw [henv]; rfl
  have W0new : ∀ a ∈ W0, h3.get? a = none := fun a ha => by
    rw [← hW0] at ha
    rcases List.mem_cons.mp ha with rfl | ha
    · exact Heap.get?_none_of_le (Nat.le_refl _)
    · obtain ⟨⟨x, c⟩, hx, rfl⟩ := List.mem_map.mp ha
      have okc := cellsFrom_ok scope.names (h3.push { cls := .type "dict", data := .dict #[] }) (h3.objs.size + 1) [] ⟨fun _ _ hm => (nomatch hm), List.Pairwise.nil⟩ (by rw [Heap.size_push]; exact Nat.le_refl _)
      rw [Heap.size_push] at okc
      exact Heap.get?_none_of_le (Nat.le_of_succ_le (okc.empty x c hx).2)
  have hlw : h3.objs.size ∈ W0 := by rw [← hW0]; exact List.mem_cons_self
  have W0M : ∀ a ∈ W0, a ∈ W0 ++ ((hh.objs.size :: wr) ++ M) := fun a ha => List.mem_append.mpr (.inl ha)
  have DM : hh.objs.size ∈ W0 ++ ((hh.objs.size :: wr) ++ M) := List.mem_append.mpr (.inr (List.mem_append.mpr (.inl List.mem_cons_self)))
  have wrM : ∀ b ∈ wr, b ∈ W0 ++ ((hh.objs.size :: wr) ++ M) := fun b hb => List.mem_append.mpr (.inr (List.mem_append.mpr (.inl (List.mem_cons_of_mem _ hb))))
  have liveW0 : ∀ {a}, (h3.get? a).isSome = true → a ∉ W0 := fun {a} ha q => by rw [W0new a q] at ha; cases ha
  have DW0 : hh.objs.size ∉ W0 := liveW0 (newL _ List.mem_cons_self)
  have wrW0 : ∀ b ∈ wr, b ∉ W0 := fun b hb => liveW0 (newL b (List.mem_cons_of_mem _ hb))
  have wrD : ∀ b ∈ wr, b ≠ hh.objs.size := fun b hb => Nat.ne_of_lt (wrlt b hb)
  have hcellLow : ∀ y c, cx'.env.cells.lookup y = some c → c ∉ wr ∧ c ≠ hh.objs.size := fun y c hy => by
    have h1 := let ⟨_, z, _⟩ := st4; z.cell y c hy
    rw [henv] at hy
    have hy' : (compCells cx.env scope h3.objs.size).lookup y = some c := hy
    unfold compCells at hy'
    rw [cellsFrom_append, lookup_append'] at hy'
    cases e : (cellsFrom (h3.objs.size + 1) scope.names []).lookup y with
    | some c' =>
      rw [e, Option.some_or] at hy'
      have : c' = c := by simpa using hy'
      subst this
      have hcW : c' ∈ W0 := by rw [← hW0]; exact List.mem_cons_of_mem _ (List.mem_map.mpr ⟨(y, c'), mem_of_lookup e, rfl⟩)
      exact ⟨fun q => wrW0 _ q hcW, fun q => DW0 (q ▸ hcW)⟩
    | none =>
      rw [e, Option.none_or] at hy'
      have hl2 : cx.env.cells.lookup y = some c := by
        rcases clOf_key _ _ _ _ _ (mem_of_lookup hy') with q | ⟨q1, q2⟩
        · cases q
        · have := List.all_eq_true.mp ok.free (y, .free) q1
          simp only [bne_self_eq_false, Bool.false_or, Bool.and_eq_true] at this
          obtain ⟨c', hc'⟩ := Option.isSome_iff_exists.mp this.1
          rw [hc'] at q2 ⊢
          simpa using q2.symm
      have hlc : (s.heap.get? c).isSome = true := by
        obtain ⟨_, z, _⟩ := st
        obtain ⟨⟨v, o, ho, _⟩, _⟩ := z.cell y c hl2
        rw [ho]; rfl
      exact ⟨fun q => (by rw [hnewI c q] at hlc; exact nomatch hlc), fun q => (by rw [q, newN _ List.mem_cons_self] at hlc; exact nomatch hlc)⟩
  have hbwr : ∀ b ∈ hh.objs.size :: wr, True := fun _ _ => trivial
  -- S stands whatever turns in the frame or in the list
  have keepS : ∀ {i h1 h2}, Off (hh.objs.size :: W0) h1 h2 → S i h1 → S i h2 := fun {i h1 h2} kk hS' => itr.frame i h1 h2 hS' fun b hb o e => kk b o (fun q => by
    have hbl : (hh.get? b).isSome = true := by
      rcases itr.foot b hb with q' | ⟨_, q'⟩
      · exact itr.live 0 hh hS b q'
      · exact q'
    rcases List.mem_cons.mp q with rfl | q
    · exact absurd (hsz hbl) (Nat.lt_irrefl _)
    · exact liveW0 (k3.isSome hbl) q) e
  have S4 : S 0 h4 := itr.frame 0 hh h4 hS fun b _ o e => k4 b o (k3 b o e)
  have goal : ∀ s₀ : Shared, s₀ = { s with heap := h4, toks := tk } → codeAny (model G.prog G.w) A (.compLoop e 0 (.ref I) (.ref hh.objs.size) cx'.env) (compPost (model G.prog G.w) A E use Q (.ref hh.objs.size) h3.objs.size) s₀ := by
    rintro s₀ rfl
    have h4D : h4.get? hh.objs.size = some obj := k4 _ _ hDl
    have hgt : 2 < hh.objs.size := ((st.kp k).gdh).size
    refine codeAny_loop (hq _ _ _) (fun kk s' => ∃ i h' tk', s' = { s with heap := h', toks := tk' } ∧ St G cx' (W0 ++ ((hh.objs.size :: wr) ++ M)) W0 none (compρ ρ scope) h' ∧ S i h' ∧ Acc hh.objs.size i (W0 ++ ((hh.objs.size :: wr) ++ M)) h' ∧ Off (W0 ++ (hh.objs.size :: wr)) h4 h' ∧ i ≤ dss.length ∧ kk = dss.length - i) (fun kk s' hI => ?_) dss.length
      ⟨0, h4, tk, rfl, st4, S4, acc0 _ _ _ h4D hgt, fun _ _ _ e => e, Nat.zero_le _, rfl⟩
    obtain ⟨i, h', tk', rfl, st', hS', hA', off', hi, rfl⟩ := hI
    rw [hden, hund]
    refine wpAny_noted ?_
    rw [hturn]
    refine wpAny_bind (wpAny_standAt (wpAny_bind ?_))
    by_cases hlt : i < dss.length
    · have hdl : dss[i]? = some dss[i] := List.getElem?_eq_getElem hlt
      have hmem : dss[i] ∈ dss := List.getElem_mem hlt
      refine itr.step hdl hS' ?_ wrM ?_
      · intro b o hb e
        have hbl : (h3.get? b).isSome = true := by rw [k3 b o e]; rfl
        have hbD : b ≠ hh.objs.size := Nat.ne_of_lt (Heap.lt_size e)
        have hbwr : b ∉ wr := fun q => hb (List.mem_append.mpr (.inl q))
        refine ⟨fun q => ?_, off' b o (fun q => ?_) (k4 b o (k3 b o e))⟩
        · rcases List.mem_append.mp q with q | q
          · exact liveW0 hbl q
          · rcases List.mem_append.mp q with q | q
            · rcases List.mem_cons.mp q with q | q
              · exact hbD q
              · exact hbwr q
            · exact hb (List.mem_append.mpr (.inr q))
        · rcases List.mem_append.mp q with q | q
          · exact liveW0 hbl q
          · rcases List.mem_cons.mp q with q | q
            · exact hbD q
            · exact hbwr q
      · intro v h2 tk2 hS2 off2 hitem
        have live2 := itr.live _ _ hS2
        have wk : WrOk cx' (W0 ++ ((hh.objs.size :: wr) ++ M)) W0 wr := ⟨wrM, wrW0, fun y c hy => (hcellLow y c hy).1, fun b hb => by rw [← hcx]; exact hnewI b hb⟩
        have wkD : WrOk cx' (W0 ++ ((hh.objs.size :: wr) ++ M)) W0 [hh.objs.size] := ⟨fun b hb => by rw [List.mem_singleton.mp hb]; exact DM, fun b hb => by rw [List.mem_singleton.mp hb]; exact DW0, fun y c hy q => (hcellLow y c hy).2 (List.mem_singleton.mp q), fun b hb => by
          rw [← hcx, List.mem_singleton.mp hb]; exact newN _ List.mem_cons_self⟩
        have st2 := st'.wr wk off2 live2
        have A2 := (hAcc hh.objs.size).keep i _ wr h' h2 hA' off2 wrM (fun q => wrD _ q rfl)
        refine wpAny_bind (assign_item (s := { s with heap := h2, toks := tk2 }) tg am.handled st2 hitem (hl _ hmem) (fun x hx' => ⟨by rw [← hcx]; exact hx x hx' _ _, Free.none x⟩) fun h5 tk5 t5 st5 => ?_)
        have S5 : S (i + 1) h5 := keepS (fun b o hb e => t5.off b o (fun q => hb (List.mem_cons_of_mem _ q)) e) hS2
        have A5 := (hAcc hh.objs.size).keep i _ W0 h2 h5 A2 t5.off W0M DW0
        have off5 : Off (W0 ++ (hh.objs.size :: wr)) h4 h5 := fun b o hb e => t5.off b o (fun q => hb (List.mem_append.mpr (.inl q))) (off2 b o (fun q => hb (List.mem_append.mpr (.inr (List.mem_cons_of_mem _ q)))) (off' b o hb e))
        have he := emits i dss[i] hdl (fun {h C M4 W4 hh} st => st.weak fun y d hy => by
          have : y ∉ xs := fun q => by
            have := hxf y q
            unfold compρ at hy
            rw [if_neg (by simpa using this)] at hy
            cases hy
          rw [updAll_ne _ _ _ _ this]; exact hy) s.heap h3.objs.size hh.objs.size (W0 ++ ((hh.objs.size :: wr) ++ M)) W0
        rw [hcx] at he
        refine wpAny_bind (he _ _ _ st5 A5 DM DW0 wkD fun h8 tk8 off8 A8 st8 => wpAny_pure ?_)
        refine ⟨rfl, dss.length - (i + 1), by omega, i + 1, h8, tk8, rfl, st8, keepS off8 S5, A8, ?_, hlt, rfl⟩
        refine fun b o hb e => off8 b o (fun q => hb ?_) (off5 b o hb e)
        rcases List.mem_cons.mp q with rfl | q
        · exact List.mem_append.mpr (.inr List.mem_cons_self)
        · exact List.mem_append.mpr (.inl q)
    · have hin : i = dss.length := by omega
      subst hin
      refine itr.done _ _ _ hS' fun h9 tk9 off9 => wpAny_pure ?_
      have hC9 : ∃ m, h9.Ns h3.objs.size m := by
        obtain ⟨m, z, _⟩ := st'
        have := z.ns
        rw [hloc] at this
        exact ⟨m, this.at' fun o e => off9 _ o (fun q => wrW0 _ q hlw) e⟩
      refine fin h9 tk9 h3.objs.size hh.objs.size ?_ ?_ hC9 ?_
      · intro b o e
        have hbl : (h3.get? b).isSome = true := by rw [k3 _ _ (k _ _ e)]; rfl
        have hbn : b ∉ hh.objs.size :: wr := fun q => by rw [newN b q] at e; cases e
        refine off9 b o (fun q => hbn (List.mem_cons_of_mem _ q)) (off' b o (fun q => ?_) (k4 b o (k3 b o (k b o e))))
        rcases List.mem_append.mp q with q | q
        · exact liveW0 hbl q
        · exact hbn q
      · cases e : s.heap.get? h3.objs.size with
        | none => rfl
        | some o => exact absurd (Heap.lt_size (k3 _ _ (k _ _ e))) (Nat.lt_irrefl _)
      · refine accEnd _ _ _ h' h9 hA' ?_ ?_ fun o e => off9 _ o (fun q => wrD _ q rfl) e
        · intro q
          rcases List.mem_append.mp q with q | q
          · have := List.mem_singleton.mp q
            rw [hD3] at this
            exact absurd this (Nat.ne_of_lt (Nat.lt_succ_self _))
          · have := hsz (k.isSome (hlive0 _ q))
            exact absurd this (Nat.lt_irrefl _)
        · intro b o hb e
          refine ⟨fun q => hb ?_, off9 b o (fun q => hb (wrM b q)) e⟩
          rcases List.mem_append.mp q with q | q
          · rw [List.mem_singleton.mp q]; exact List.mem_append.mpr (.inl hlw)
          · exact List.mem_append.mpr (.inr (List.mem_append.mpr (.inr q)))
  have := goal _ rfl
  rw [henv] at this
  exact hstart _ _ _ _ _ _ this (itr.self 0 _ _ _ S4 this)
end Mine
end
section
open PySem PySem.Calls PyProof.Rows
namespace Mine

/-- what a comprehension makes, whoever takes it -/
noncomputable def CompIs (G : GC) (cx : Cx) (n : Nat) (ow : Ow) (ρ : Vs) (cm : Option (Value → Sem Unit) → Sem Value) (d : D) : Prop :=
  ∀ (A : Around) (s : Shared) (M W : List Addr) (Q E : Value → Shared → Prop) (use : Option (Value → Sem Unit)), Amb A n → St G cx M W ow ρ s.heap →
    (∀ hE tk C D, Kp s.heap hE → s.heap.get? C = none → (∃ m, hE.Ns C m) → Rep G ([C] ++ M) hE d (.ref D) → compPost (model G.prog G.w) A E use Q (.ref D) C (.ok .next) { s with heap := hE, toks := tk }) →
    wpAny (model G.prog G.w) A (cm use) Q E s

section
variable {G : GC} {cx : Cx} {n : Nat} {ow : Ow} {ρ : Vs} {pos p fp : Pos} {e l r value slice target : Expr} {d d1 d2 : D} {P : Out → Prop} {A : Around} {xs : List Str}
  {elt iter : Expr} {ifs : List Expr} {scope : Scope} {spos : Pos} {dss : List (List D)} {cm : Option (Value → Sem Unit) → Sem Value}

theorem Ev.ofComp (x : CompIs G cx n ow ρ cm d) (he : eval e cx.env = cm none) : Ev G cx n ow ρ e d := by
  intro A s M W Q E am st h
  rw [he]
  refine x A s M W Q E none am st ?_
  intro hE tk C Da k hC hn hr
  obtain ⟨m, hn⟩ := hn
  refine ⟨m, hn, fun h' hs' => ?_⟩
  have hne : ∀ b o, s.heap.get? b = some o → b ≠ C := fun b o e q => by rw [q, hC] at e; cases e
  refine h _ h' tk (fun b o e => hs'.extBut b o (hne b o e) (k b o e)) (hr.move fun b o hb e => ⟨fun q => hb (List.mem_append.mpr (.inr q)), hs'.extBut b o (fun q => hb (List.mem_append.mpr (.inl (by simp [q])))) e⟩)

theorem Ex1.ofComp {x : Str} (y : CompIs G cx n ow ρ cm d) (hc : CanStore cx x) (hf : Free ow x) (hP : P (.next ow (upd ρ x d)))
    (hu : evalThenUse e cx.env (PySem.assign (.Name x p) cx.env) = (do let _ ← cm (some (PySem.assign (.Name x p) cx.env))))
    (hsw : swapsWith e (some (.Name x p)) pos.line cx.env = pure true := by rfl) : Ex1 G cx n ow ρ (.Assign [.Name x p] e pos) P := by
  intro A s M W Q E am st h1 h2
  rw [exec_Assign_Name_used _ _ _ _ hsw, hu]
  refine wpAny_bind (wpAny_standAt (wpAny_bind ?_))
  refine wpAny_bind (wpAny_mono (y A s M W (fun _ s' => Q .next s') _ _ am st ?_) (fun _ s' hq => wpAny_pure (wpAny_pure hq)) fun _ _ e => e)
  intro hE tk C Da k hC hn hr
  obtain ⟨m, hn⟩ := hn
  have hCl : (hE.get? C).isSome = true := by obtain ⟨o, _, _, e, _⟩ := hn; rw [e]; rfl
  have stE : St G cx ([C] ++ M) W ow ρ hE := st.bar k (fun a ha => by rw [List.mem_singleton.mp ha]; exact hC) (fun a ha => by rw [List.mem_singleton.mp ha]; exact hCl)
  have hCM : C ∉ M := fun q => by have := st.live C q; rw [hC] at this; cases this
  have hCW : C ∉ W := fun q => by obtain ⟨_, z, _⟩ := st; exact hCM (z.sub C q)
  show wpAny _ A (PySem.assign (.Name x p) cx.env (.ref Da)) _ _ _
  refine wpAny_assign_Name (store_ok (s := { s with heap := hE, toks := tk }) stE hr hc hf fun h' tk' t st' => ?_)
  have hn' : h'.Ns C m := hn.at' fun o e => t.off C o hCW e
  refine ⟨m, hn', fun h'' hs'' => ?_⟩
  have off : Off [C] h' h'' := fun b o hb e => hs''.extBut b o (fun q => hb (by simp [q])) e
  have wk : WrOk cx ([C] ++ M) W [C] := ⟨fun b hb => List.mem_append.mpr (.inl hb), fun b hb => by rw [List.mem_singleton.mp hb]; exact hCW, fun y c hy q => by
      rw [List.mem_singleton.mp q] at hy
      obtain ⟨_, z, _⟩ := st
      exact hCM (z.cell y C hy).2.2, fun b hb => by
      rw [List.mem_singleton.mp hb]
      obtain ⟨_, z, _⟩ := st
      cases e : cx.hb.get? C with
      | none => rfl
      | some o => have := z.keep C o e; rw [hC] at this; cases this⟩
  have nw : ∀ b ∈ [C], s.heap.get? b = Option.none := fun b hb => by rw [List.mem_singleton.mp hb]; exact hC
  have tr : Tr M W s.heap ([C] ++ M) W h' := (Tr.bar k nw).trans t
  exact h1 _ _ _ W h'' tk' hP (tr.wrDrop nw off) (st'.wrDrop wk off)

/-- a dict's new pair -/
noncomputable def stK (kvs : List (Str × Int)) (k : Str) (i : Int) : List (Str × Int) :=
  if kvs.any (fun kv => kv.1 = k) then kvs.map (fun kv => if kv.1 = k then (kv.1, i) else kv) else kvs ++ [(k, i)]
theorem RepKV.any : ∀ {kvs : List (Str × Int)} {l : List (Str × Value)} (k : Str), RepKV kvs l → l.any (fun kv => decide (kv.1 = k)) = kvs.any (fun kv => decide (kv.1 = k))
  | [], l, k, r => by unfold RepKV at r; subst r; rfl
  | q :: rest, l, k, r => by
    unfold RepKV at r
    obtain ⟨t, l', rfl, r'⟩ := r
    simp only [List.any_cons, RepKV.any k r']
theorem RepKV.putAll : ∀ {kvs : List (Str × Int)} {l : List (Str × Value)} (k : Str) (i : Int) (t : Tok), RepKV kvs l → RepKV (kvs.map (fun kv => if kv.1 = k then (kv.1, i) else kv)) (l.map (fun kv => if kv.1 = k then (kv.1, .int i t) else kv))
  | [], l, k, i, t, r => by unfold RepKV at r; subst r; unfold RepKV; rfl
  | q :: rest, l, k, i, t, r => by
    unfold RepKV at r
    obtain ⟨u, l', rfl, r'⟩ := r
    simp only [List.map_cons]
    by_cases h : q.1 = k
    · simp only [h, if_true]
      unfold RepKV
      exact ⟨t, _, rfl, RepKV.putAll k i t r'⟩
    · simp only [h, if_false]
      unfold RepKV
      exact ⟨u, _, rfl, RepKV.putAll k i t r'⟩
theorem RepKV.snoc : ∀ {kvs : List (Str × Int)} {l : List (Str × Value)} (k : Str) (i : Int) (t : Tok), RepKV kvs l → RepKV (kvs ++ [(k, i)]) (l ++ [(k, .int i t)])
  | [], l, k, i, t, r => by unfold RepKV at r; subst r; exact ⟨t, [], rfl, rfl⟩
  | q :: rest, l, k, i, t, r => by
    unfold RepKV at r
    obtain ⟨u, l', rfl, r'⟩ := r
    exact ⟨u, _, rfl, RepKV.snoc k i t r'⟩
theorem RepKV.stored {kvs : List (Str × Int)} {l : List (Str × Value)} (k : Str) (i : Int) (t : Tok) (r : RepKV kvs l) : RepKV (stK kvs k i) (PySem.stored l k (.int i t)) := by
  unfold stK PySem.stored
  rw [r.any k]
  split
  · exact r.putAll k i t
  · exact r.snoc k i t
theorem stK_length (kvs : List (Str × Int)) (k : Str) (i : Int) : (stK kvs k i).length ≤ kvs.length + 1 := by
  unfold stK
  split <;> simp
noncomputable def kvAll (fk : List D → Str) (fv : List D → Int) (dss : List (List D)) : List (Str × Int) := dss.foldl (fun acc dl => stK acc (fk dl) (fv dl)) []
theorem kvAll_take (fk : List D → Str) (fv : List D → Int) (dss : List (List D)) (i : Nat) (dl : List D) (h : dss[i]? = some dl) : kvAll fk fv (dss.take (i + 1)) = stK (kvAll fk fv (dss.take i)) (fk dl) (fv dl) := by
  unfold kvAll
  rw [List.take_add_one, h, List.foldl_append]
  rfl
theorem kvAll_length (fk : List D → Str) (fv : List D → Int) : ∀ (dss : List (List D)) (acc : List (Str × Int)), (dss.foldl (fun acc dl => stK acc (fk dl) (fv dl)) acc).length ≤ acc.length + dss.length
  | [], acc => by simp
  | dl :: r, acc => by
    have := kvAll_length fk fv r (stK acc (fk dl) (fv dl))
    have := stK_length acc (fk dl) (fv dl)
    simp only [List.foldl_cons, List.length_cons]
    omega

noncomputable def dAcc (G : GC) (kv : Nat → List (Str × Int)) (D : Addr) (i : Nat) (M4 : List Addr) (h : Heap) : Prop := (D == sysModules) = false ∧ ∃ l, h.DictOf (strKind G.prog G.w) D l ∧ RepKV (kv i) l

theorem CompIs.dict {kx vx : Expr} (fk : List D → Str) (fv : List D → Int) (tg : TG target xs) (it : EvI G cx n ow ρ iter target dss) (hl : ∀ dl ∈ dss, dl.length = xs.length) (ok : CompOk cx scope)
    (hx : ∀ x ∈ xs, ∀ h C, CanStore (compCx cx scope h C) x) (hxf : ∀ x ∈ xs, scope.names.lookup x ≠ some .free)
    (keys : ∀ dl ∈ dss, ∀ h C, Ev G (compCx cx scope h C) n none (updAll (compρ ρ scope) xs dl) kx (.str (fk dl)))
    (vals : ∀ dl ∈ dss, ∀ h C, Ev G (compCx cx scope h C) n none (updAll (compρ ρ scope) xs dl) vx (.int (fv dl)))
    (hz : dss.length ≤ sizeLine)
    (hs : ∀ x, foldedSetIterable iter cx.env x = pure x := by intro _; rfl) :
    CompIs G cx n ow ρ (fun use => PySem.comprehension (.DictComp kx vx [⟨target, iter, [], 0⟩] scope spos) scope cx.env fp newDict false (eval iter cx.env) use) (.dct (kvAll fk fv dss)) := by
  intro A s M W Q E use am st fin
  refine comp_gen (e := .DictComp kx vx [⟨target, iter, [], 0⟩] scope spos) (obj := { cls := .type "dict", data := .dict #[] }) (dAcc G fun i => kvAll fk fv (dss.take i)) (gs := [])
    (emit := fun acc env => do
            let kv ← eval kx env
            let vv ← holding [kv] (eval vx env)
            match acc with
            | .ref D => do
              standAt { kx.pos with endLine := vx.pos.endLine, endCol := vx.pos.endCol }
              holding [kv, vv] (dictSet D kv vv)
            | _ => unsupported "internal:dictcomp") rfl
    (fun A R it acc env s h1 h2 => codeAny_compStart_dict h1 h2) (fun it D env => rfl) (fun _ _ _ => rfl) (fun _ _ _ => rfl) (fun _ _ _ => rfl)
    (fun A Q E s h => wpAny_newObj_type h) rfl am st tg it hl ok hx hxf ?_ ?_ ?_ ?_ fin hs
  · intro D
    refine ⟨?_, ?_⟩
    · rintro i M4 W' h h' ⟨hz, l, hd, hr⟩ off sub nD
      exact ⟨hz, l, DictOf.at' (fun o e => off D o nD e) hd, hr⟩
    · rintro i M4 h ⟨hz, l, ⟨o, es, ep, e, _⟩, hr⟩
      rw [e]; rfl
  · intro D M4 h hD hgt
    refine ⟨?_, [], ⟨_, #[], 0, hD, ⟨rfl, rfl, rfl⟩, rfl, fun _ he => by simp at he, Pairs.nil, List.nodup_nil⟩, by simp [kvAll, RepKV]⟩
    show (D == 1) = false
    rw [beq_eq_false_iff_ne]
    intro q
    rw [q] at hgt
    exact absurd hgt (by decide)
  · intro i dl hdl weak h C D M4 W4 s5 Q' E' st5 hA hDM hDW wkD hq
    have hmem : dl ∈ dss := List.mem_of_getElem? hdl
    refine wpAny_bind (keys dl hmem h C A s5 M4 W4 _ _ am st5 fun kv h6 tk6 k6 rk => ?_)
    obtain ⟨tk, rfl⟩ := rk
    refine wpAny_bind (wpAny_holding (vals dl hmem h C A _ M4 W4 _ _ am (st5.kp k6) fun vv h7 tk7 k7 rv => ?_))
    obtain ⟨tv, rfl⟩ := rv
    dsimp only at k7
    obtain ⟨hz', l, hd, hr⟩ := hA
    have hd7 : h7.DictOf (strKind G.prog G.w) D l := DictOf.at' (fun o e => k7 _ _ (k6 _ _ e)) hd
    refine wpAny_bind (wpAny_standAt (wpAny_holding ?_))
    have hlen : l.length ≤ sizeLine := by
      rw [hr.length]
      have e1 := kvAll_length fk fv (dss.take i) []
      have e2 : (dss.take i).length ≤ dss.length := by rw [List.length_take]; omega
      simp only [List.length_nil, Nat.zero_add] at e1
      exact Nat.le_trans e1 (Nat.le_trans e2 hz)
    refine wpAny_dictSet_pairs (s := { s5 with heap := h7, toks := tk7 }) (strKind_is _ _ _ _) hd7 (fun h8 hd8 hs8 => ?_) hlen
    have off8 : Off [D] h7 h8 := fun b o hb e => hs8.extBut b o (fun q => hb (by simp [q])) e
    have live8 : ∀ b ∈ [D], (h8.get? b).isSome = true := fun b hb => by rw [List.mem_singleton.mp hb]; obtain ⟨o, es, ep, e, _⟩ := hd8; rw [e]; rfl
    refine hq h8 _ (fun b o hb e => off8 b o (fun q => hb (by rw [List.mem_singleton.mp q]; exact List.mem_cons_self)) (k7 _ _ (k6 _ _ e))) ⟨hz', _, hd8, ?_⟩ (weak (((st5.kp k6).kp k7).wr wkD off8 live8))
    show RepKV (kvAll fk fv (dss.take (i + 1))) _
    rw [kvAll_take fk fv dss i dl hdl]
    exact hr.stored _ _ _
  · rintro D M4 M' hA h' ⟨hz', l, hd, hr⟩ hDM hk hkD
    unfold Rep
    replace hr : RepKV (kvAll fk fv (dss.take dss.length)) l := hr
    rw [List.take_length] at hr
    exact ⟨D, l, rfl, hDM, hz', DictOf.at' hkD hd, hr⟩

/-- two clauses -/
noncomputable def lAcc (G : GC) (vals : Nat → List D) (D : Addr) (i : Nat) (M4 : List Addr) (h : Heap) : Prop := ∃ ys : List Value, h.PlainList D ys.toArray ∧ RepL G M4 h (vals i) ys
theorem lAcc_ok (vals : Nat → List D) (D : Addr) : AccOk D (lAcc G vals D) := by
  refine ⟨?_, ?_⟩
  · rintro i M4 W' h h' ⟨ys, hp, hr⟩ off sub nD
    exact ⟨ys, PlainList.kp (fun o e => off D o nD e) hp, hr.off off sub⟩
  · rintro i M4 h ⟨ys, ⟨j, e⟩, hr⟩
    rw [e]; rfl
theorem mark_none (hh : A.handled = none) : A.mark none = A := by
  unfold Around.mark
  cases A
  simp only at hh
  subst hh
  rfl
theorem compStart_in {target2 iter2 elt : Expr} {g : Comprehension} {A : Around} {R : Result → Shared → Prop} {it acc : Value} {env : Env} {s : Shared}
    (h0 : codeAny (model G.prog G.w) A (.compLoop (.ListComp elt [g, ⟨target2, iter2, [], 0⟩] scope pos) 1 it acc env) R s)
    (h : wpAny (model G.prog G.w) A (pyIter it) (fun it' s' => codeAny (model G.prog G.w) A (.compLoop (.ListComp elt [g, ⟨target2, iter2, [], 0⟩] scope pos) 1 it' acc env) R s')
      (notedBy (model G.prog G.w) A env fun x s' => R (.error x) s') s) :
    codeAny (model G.prog G.w) A (.compStart (.ListComp elt [g, ⟨target2, iter2, [], 0⟩] scope pos) 1 it acc env) R s := by
  refine codeAny_of_tree ?_
  show wpAny _ _ ((compStart (.ListComp elt [g, ⟨target2, iter2, [], 0⟩] scope pos) 1 it acc env).onRaise (fun x => do noteFrame x env; standAt theWindowsPlace)) _ _ s
  refine wpAny_notedAt ?_
  unfold compStart
  show wpAny _ _ (ask >>= _) _ _ s
  refine wpAny_bind (wpAny_askSetting (wpAny_ite ?_))
  split
  · first
      | exact wpAny_bind (wpAny_pure (wpAny_pure (And.intro rfl h0)))
      | exact wpAny_pure (And.intro rfl h0)
  · first
      | exact wpAny_bind (wpAny_rule (wpAny_bind (wpAny_standAt (wpAny_bind (wpAny_mono h (fun it' s' h' => wpAny_pure (And.intro rfl h')) fun _ _ x => x)))))
      | (refine wpAny_bind (wpAny_rule ?_); show wpAny _ _ (standAt iter2.pos >>= _) _ _ s; exact wpAny_bind (wpAny_standAt (wpAny_bind (wpAny_mono h (fun it' s' h' => wpAny_pure (And.intro rfl h')) fun _ _ x => x))))

theorem CompIs.two {target2 iter2 elt : Expr} {xs2 : List Str} (ds2 : List D → List (List D)) (f : List D → List D → D) (tg : TG target xs) (it : EvI G cx n ow ρ iter target dss) (hl : ∀ dl ∈ dss, dl.length = xs.length) (ok : CompOk cx scope)
    (hx : ∀ x ∈ xs, ∀ h C, CanStore (compCx cx scope h C) x) (hxf : ∀ x ∈ xs, scope.names.lookup x ≠ some .free)
    (tg2 : TG target2 xs2) (it2 : ∀ dl ∈ dss, ∀ h C, EvI G (compCx cx scope h C) n none (updAll (compρ ρ scope) xs dl) iter2 target2 (ds2 dl)) (hl2 : ∀ dl ∈ dss, ∀ dl2 ∈ ds2 dl, dl2.length = xs2.length)
    (hx2 : ∀ x ∈ xs2, ∀ h C, CanStore (compCx cx scope h C) x) (hxf2 : ∀ x ∈ xs2, scope.names.lookup x ≠ some .free ∧ x ∉ xs)
    (elts : ∀ dl ∈ dss, ∀ dl2 ∈ ds2 dl, ∀ h C, Ev G (compCx cx scope h C) n none (updAll (updAll (compρ ρ scope) xs dl) xs2 dl2) elt (f dl dl2))
    (hz : (dss.flatMap ds2).length ≤ sizeLine)
    (hs : ∀ x, foldedSetIterable iter cx.env x = pure x := by intro _; rfl)
    (hs2 : ∀ h C x, foldedSetIterable iter2 (compCx cx scope h C).env x = pure x := by intro _ _ _; rfl) :
    CompIs G cx n ow ρ (fun use => PySem.comprehension (.ListComp elt [⟨target, iter, [], 0⟩, ⟨target2, iter2, [], 0⟩] scope spos) scope cx.env fp (newList []) false (eval iter cx.env) use) (.lst (dss.flatMap fun dl => (ds2 dl).map (f dl))) := by
  intro A s M W Q E use am st fin
  refine comp_gen (e := .ListComp elt [⟨target, iter, [], 0⟩, ⟨target2, iter2, [], 0⟩] scope spos) (obj := { cls := .type "list", data := .seq ([] : List Value).toArray }) (lAcc G fun i => (dss.take i).flatMap fun dl => (ds2 dl).map (f dl)) (gs := [⟨target2, iter2, [], 0⟩])
    (emit := fun acc env => do
        let x ← eval iter2 env
        standAt iter2.pos
        let x ← foldedSetIterable iter2 env x
        let _ ← runOwn (.compStart (.ListComp elt [⟨target, iter, [], 0⟩, ⟨target2, iter2, [], 0⟩] scope spos) 1 (← holding [x] (pyIter x)) acc env) env) rfl
    (fun A R it acc env s h1 h2 => codeAny_compStart_list h1 h2) (fun it D env => by simp only [bind_assoc, pure_bind]; rfl) (fun _ _ _ => rfl) (fun _ _ _ => rfl) (fun _ _ _ => rfl)
    (fun A Q E s h => wpAny_newObj_type h) rfl am st tg it hl ok hx hxf (fun D => lAcc_ok _ D) ?_ ?_ ?_ fin hs
  · intro D M4 h hD hgt
    exact ⟨[], ⟨0, hD⟩, by simpa using RepL.nil⟩
  · intro i dl hdl weak h C D M4 W4 s5 Q' E' st5 hA hDM hDW wkD hq
    have hmem : dl ∈ dss := List.mem_of_getElem? hdl
    have he2 := it2 dl hmem h C
    have helts := fun dl2 hm => elts dl hmem dl2 hm h C
    have hx2' := fun x hm => hx2 x hm h C
    have hs2' := hs2 h C
    have weak' : ∀ hh, St G (compCx cx scope h C) M4 W4 none (updAll (compρ ρ scope) xs dl) hh → St G (compCx cx scope h C) M4 W4 none (compρ ρ scope) hh := fun hh => weak
    generalize compCx cx scope h C = cx' at *
    have it0 : ∀ itv, (do let _ ← runOwn (.compStart (.ListComp elt [⟨target, iter, [], 0⟩, ⟨target2, iter2, [], 0⟩] scope spos) 1 itv (.ref D) cx'.env) cx'.env : Sem Unit) = (runOwn (.compStart (.ListComp elt [⟨target, iter, [], 0⟩, ⟨target2, iter2, [], 0⟩] scope spos) 1 itv (.ref D) cx'.env) cx'.env >>= fun _ => pure ()) := fun _ => rfl
    refine wpAny_bind (wpAny_mono (he2 A s5 M4 W4 (fun itv s => wpAny (model G.prog G.w) A (runOwn (.compStart (.ListComp elt [⟨target, iter, [], 0⟩, ⟨target2, iter2, [], 0⟩] scope spos) 1 itv (.ref D) cx'.env) cx'.env >>= fun _ => pure ()) Q' E' s) E' am st5 ?_)
      (fun x s1 h1 => wpAny_bind (wpAny_standAt (wpAny_bind (wpAny_of_eq (hs2' x) (wpAny_bind (wpAny_holding (wpAny_mono h1 (fun _ _ q => q) fun _ _ q => q))))))) fun _ _ q => q)
    intro I fp2 wr S hh tk itr hS k
    refine wpAny_bind (wpAny_runOwn (h := none) ?_)
    rw [mark_none am.handled]
    obtain ⟨ys, hp, hr⟩ := hA
    have hnew := itr.new
    have hlive5 := st5.live
    have hsub5 : ∀ a ∈ W4, a ∈ M4 := let ⟨_, z, _⟩ := st5; z.sub
    have old : ∀ a, (s5.heap.get? a).isSome = true → a ∉ wr := fun a ha q => by rw [hnew a q] at ha; cases ha
    have hDlive : (s5.heap.get? D).isSome = true := by obtain ⟨j, e⟩ := hp; rw [e]; rfl
    have hDwr : D ∉ wr := old D hDlive
    have hhb : ∀ b ∈ wr, cx'.hb.get? b = none := fun b hb => by
      obtain ⟨m, z, _⟩ := st5
      cases q : cx'.hb.get? b with
      | none => rfl
      | some o => have := z.keep b o q; rw [hnew b hb] at this; cases this
    have wk : WrOk cx' (wr ++ M4) W4 wr := ⟨fun b hb => List.mem_append.mpr (.inl hb), fun b hb q => old b (hlive5 b (hsub5 b q)) hb, fun y c hy => by obtain ⟨m, z, _⟩ := st5; exact old c (z.live c (z.cell y c hy).2.2), hhb⟩
    have wkD' : WrOk cx' (wr ++ M4) W4 [D] := ⟨fun b hb => List.mem_append.mpr (.inr (wkD.m b hb)), wkD.w, wkD.cell, wkD.hb⟩
    have st0 : St G cx' (wr ++ M4) W4 none (updAll (compρ ρ scope) xs dl) hh := st5.bar k hnew (itr.live 0 hh hS)
    have moreM : ∀ a ∈ wr ++ M4, a ∈ M4 ∨ s5.heap.get? a = none := fun a ha => (List.mem_append.mp ha).elim (fun q => .inr (hnew a q)) .inl
    have hr0 : RepL G (wr ++ M4) hh ((dss.take i).flatMap fun dl => (ds2 dl).map (f dl)) ys := (hr.more moreM).kp k
    have hlenAll : ∀ j, j < (ds2 dl).length → ((dss.take i).flatMap fun dl => (ds2 dl).map (f dl)).length + j ≤ sizeLine := by
      intro j hj
      have e1 : dss = dss.take i ++ (dl :: dss.drop (i + 1)) := by
        have := List.take_append_drop i dss
        rw [List.drop_eq_getElem?_toList_append, hdl] at this
        exact this.symm
      have e2 : (dss.flatMap ds2).length = ((dss.take i).flatMap ds2).length + ((ds2 dl).length + ((dss.drop (i + 1)).flatMap ds2).length) := by
        conv => lhs; rw [e1]
        rw [List.flatMap_append, List.flatMap_cons, List.length_append, List.length_append]
      have e3 : ((dss.take i).flatMap fun dl => (ds2 dl).map (f dl)).length = ((dss.take i).flatMap ds2).length := by
        simp only [List.length_flatMap, List.length_map]
      omega
    have goal : codeAny (model G.prog G.w) A (.compLoop (.ListComp elt [⟨target, iter, [], 0⟩, ⟨target2, iter2, [], 0⟩] scope spos) 1 (.ref I) (.ref D) cx'.env)
        (fun r s' => match r with | .ok f => wpAny (model G.prog G.w) A (pure ()) Q' E' s' | .error e => cameBackBy (model G.prog G.w) A cx'.env E' e s') { s5 with heap := hh, toks := tk } := by
      refine codeAny_loop rfl (fun kk s' => ∃ j h' tk' ys, s' = { s5 with heap := h', toks := tk' } ∧ St G cx' (wr ++ M4) W4 none (updAll (compρ ρ scope) xs dl) h' ∧ S j h' ∧ h'.PlainList D (ys : List Value).toArray ∧
          RepL G (wr ++ M4) h' (((dss.take i).flatMap fun dl => (ds2 dl).map (f dl)) ++ ((ds2 dl).take j).map (f dl)) ys ∧ Off (D :: (W4 ++ wr)) hh h' ∧ j ≤ (ds2 dl).length ∧ kk = (ds2 dl).length - j) (fun kk s' hI => ?_) (ds2 dl).length
        ⟨0, hh, tk, ys, rfl, st0, hS, PlainList.kp (k D) hp, by simpa using hr0, fun _ _ _ e => e, Nat.zero_le _, rfl⟩
      obtain ⟨j, h', tk', ys', rfl, st', hS', hp', hr', off', hj, rfl⟩ := hI
      show wpAny _ A ((standAt iter2.pos >>= fun _ => pyNext (.ref I) >>= fun r => match r with
      | none => pure (.done .next)
      | some v => letOwnedTupleGo target2 (.ref I) v >>= fun _ => PySem.assign target2 cx'.env v >>= fun _ => (eval elt cx'.env >>= fun x => PySem.call (.builtin "list.append") [.ref D, x] >>= fun _ => pure ()) >>= fun _ => again (.compLoop (.ListComp elt [⟨target, iter, [], 0⟩, ⟨target2, iter2, [], 0⟩] scope spos) 1 (.ref I) (.ref D) cx'.env)).onRaise (fun x => do noteFrame x cx'.env; theTreesLotGoes x)) _ _ _
      refine wpAny_noted ?_
      refine wpAny_bind (wpAny_standAt (wpAny_bind ?_))
      by_cases hlt : j < (ds2 dl).length
      · have hdl2 : (ds2 dl)[j]? = some (ds2 dl)[j] := List.getElem?_eq_getElem hlt
        have hmem2 : (ds2 dl)[j] ∈ ds2 dl := List.getElem_mem hlt
        refine itr.step (M' := wr ++ M4) hdl2 hS' ?_ (fun b hb => List.mem_append.mpr (.inl hb)) ?_
        · intro b o hb e
          refine ⟨hb, off' b o (fun q => hb ?_) e⟩
          rcases List.mem_cons.mp q with rfl | q
          · exact List.mem_append.mpr (.inr hDM)
          · rcases List.mem_append.mp q with q | q
            · exact List.mem_append.mpr (.inr (hsub5 b q))
            · exact List.mem_append.mpr (.inl q)
        · intro v h2 tk2 hS2 off2 hitem
          have live2 := itr.live _ _ hS2
          have st2 := st'.wr wk off2 live2
          have hp2 : h2.PlainList D ys'.toArray := PlainList.kp (fun o e => off2 D o hDwr e) hp'
          have hr2 := hr'.off off2 wk.m
          refine wpAny_bind (assign_item (s := { s5 with heap := h2, toks := tk2 }) tg2 am.handled st2 hitem (hl2 dl hmem _ hmem2) (fun x hx' => ⟨hx2' x hx', Free.none x⟩) fun h5 tk5 t5 st5' => ?_)
          have frameS : ∀ {h1 h2 : Heap} {j}, Off (D :: W4) h1 h2 → S j h1 → S j h2 := fun {h1 h2 j} kk hS' => itr.frame j h1 h2 hS' fun b hb o e => by
            refine kk b o (fun q => ?_) e
            rcases itr.foot b hb with q' | ⟨q1, q2⟩
            · rcases List.mem_cons.mp q with rfl | q
              · exact hDwr q'
              · exact wk.w b q' q
            · rcases List.mem_cons.mp q with rfl | q
              · exact q1 hDM
              · exact q1 (hsub5 b q)
          have subW : ∀ a ∈ W4, a ∈ wr ++ M4 := fun a ha => List.mem_append.mpr (.inr (hsub5 a ha))
          have S5 : S (j + 1) h5 := frameS (fun b o hb e => t5.off b o (fun q => hb (List.mem_cons_of_mem _ q)) e) hS2
          have hp5 : h5.PlainList D ys'.toArray := PlainList.kp (fun o e => t5.off D o hDW e) hp2
          have hr5 := hr2.off t5.off subW
          refine wpAny_bind (wpAny_bind (helts _ hmem2 A _ _ _ _ _ am st5' fun x h7 tk7 k7 r7 => ?_))
          dsimp only at k7
          have hp7 : h7.PlainList D ys'.toArray := PlainList.kp (k7 D) hp5
          have hlen : ys'.length ≤ sizeLine := by
            rw [hr'.length, List.length_append, List.length_map, List.length_take, Nat.min_eq_left hj]
            exact hlenAll j hlt
          refine wpAny_bind (wpAny_list_append_plain (s := { s5 with heap := h7, toks := tk7 }) (hsz := by simpa using hlen) hp7 fun h8 hp8 hs8 => wpAny_pure (wpAny_pure ?_))
          have off8 : Off [D] h7 h8 := fun b o hb e => hs8.extBut b o (fun q => hb (by simp [q])) e
          have live8 : ∀ b ∈ [D], (h8.get? b).isSome = true := fun b hb => by
            rw [List.mem_singleton.mp hb]; obtain ⟨n, e⟩ := hp8; rw [e]; rfl
          refine ⟨rfl, (ds2 dl).length - (j + 1), by omega, j + 1, h8, tk7, ys' ++ [x], rfl, ?_, frameS (fun b o hb e => off8 b o (fun q => hb (by rw [List.mem_singleton.mp q]; exact List.mem_cons_self)) (k7 b o e)) S5, by simpa using hp8, ?_, ?_, hlt, rfl⟩
          · refine ((st5'.kp k7).wr wkD' off8 live8).weak fun y d hy => ?_
            by_cases q : y ∈ xs2
            · have h1 := (hxf2 y q).1
              rw [updAll_ne _ _ _ _ (hxf2 y q).2] at hy
              unfold compρ at hy
              rw [if_neg (by simpa using h1)] at hy
              cases hy
            · rw [updAll_ne _ _ _ _ q]; exact hy
          · rw [List.take_add_one, hdl2, List.map_append, ← List.append_assoc]
            exact ((hr5.kp k7).append (.cons r7 .nil)).off off8 fun a ha => wkD'.m a ha
          · intro b o hb e
            have q1 : b ∉ W4 := fun q => hb (List.mem_cons_of_mem _ (List.mem_append.mpr (.inl q)))
            have q2 : b ∉ wr := fun q => hb (List.mem_cons_of_mem _ (List.mem_append.mpr (.inr q)))
            have q3 : b ∉ [D] := fun q => hb (by rw [List.mem_singleton.mp q]; exact List.mem_cons_self)
            exact off8 b o q3 (k7 _ _ (t5.off b o q1 (off2 b o q2 (off' b o hb e))))
      · have hin : j = (ds2 dl).length := by omega
        subst hin
        refine itr.done _ _ _ hS' fun h9 tk9 off9 => wpAny_pure (wpAny_pure ?_)
        have hp9 : h9.PlainList D ys'.toArray := PlainList.kp (fun o e => off9 D o hDwr e) hp'
        have hr9 := hr'.off off9 wk.m
        have efil : (wr ++ M4).filter (fun a => !wr.contains a) = M4 := by
          rw [List.filter_append]
          have e1 : wr.filter (fun a => !wr.contains a) = [] := List.filter_eq_nil_iff.mpr fun a ha => by simpa using ha
          have e2 : M4.filter (fun a => !wr.contains a) = M4 := List.filter_eq_self.mpr fun a ha => by simpa using old a (hlive5 a ha)
          rw [e1, e2]; rfl
        have st9 := st'.wrDrop wk off9
        rw [efil] at st9
        refine hq h9 tk9 ?_ ⟨ys', hp9, ?_⟩ (weak' _ st9)
        · intro b o hb e
          have q1 : b ∉ wr := fun q => by rw [hnew b q] at e; cases e
          refine off9 b o q1 (off' b o (fun q => ?_) (k b o e))
          rcases List.mem_cons.mp q with rfl | q
          · exact hb List.mem_cons_self
          · rcases List.mem_append.mp q with q | q
            · exact hb (List.mem_cons_of_mem _ q)
            · exact q1 q
        · have e1 : (dss.take (i + 1)).flatMap (fun dl => (ds2 dl).map (f dl)) = ((dss.take i).flatMap fun dl => (ds2 dl).map (f dl)) ++ ((ds2 dl).take (ds2 dl).length).map (f dl) := by
            rw [List.take_add_one, hdl, List.flatMap_append, List.take_length]
            simp
          show RepL G M4 h9 ((dss.take (i + 1)).flatMap (fun dl => (ds2 dl).map (f dl))) ys'
          rw [e1]
          exact hr9.more fun a ha => .inl (List.mem_append.mpr (.inr ha))
    exact compStart_in goal (itr.self 0 _ _ _ hS goal)
  · rintro D M4 M' hA h' ⟨ys, hp, hr⟩ hDM hk hkD
    replace hr : RepL G M4 hA ((dss.take dss.length).flatMap fun dl => (ds2 dl).map (f dl)) ys := hr
    rw [List.take_length] at hr
    unfold Rep
    exact ⟨D, ys, rfl, hDM, PlainList.kp hkD hp, hr.move hk⟩
end
end Mine
end
section
open PySem PySem.Calls PyProof.Rows
namespace Mine

section
variable {prog : Program} {w : World} {A : Around} {E : Value → Shared → Prop} {s : Shared}
theorem setItem_plain {l : Addr} {items : Array Value} {k : Int} {t : Tok} {v : Value} {Q : Unit → Shared → Prop} (hp : s.heap.PlainList l items)
    (h0 : 0 ≤ k) (hfit : k < 2 ^ 63) (hn : k < items.size)
    (hQ : ∀ h', h'.PlainList l (items.setIfInBounds k.toNat v) → Heap.SameBut l s.heap h' → Q () { s with heap := h' }) :
    wpAny (model prog w) A (setItem (.ref l) (.int k t) v) Q E s := by
  have hl := hp.isList
  obtain ⟨n0, ho⟩ := id hp
  unfold setItem
  try with_reducible refine wpAny_holding ?_
  first | refine wpAny_bind (wpAny_pure ?_) | skip
  refine wpAny_bind (wpAny_sequenceKey hl.typeIs (by decide) ?_)
  refine wpAny_bind (wpAny_callSpecial?_slot (name := Str.ofString "__setitem__") hl.typeIs slot_list_setitem
    (wpAny_call_entry slot_list_setitem hl.typeIs entry_list_setitem ?_ (args_list_setitem _ _ _)))
  show wpAny _ _ (Builtin.List.listSubscript? (.int k t) >>= _) _ _ s
  refine wpAny_bind (wpAny_listSubscript_int (fitsIndex_of h0 hfit) ?_)
  clear hfit
  obtain ⟨j, rfl⟩ := Int.eq_ofNat_of_zero_le h0
  have hj : j < items.size := by omega
  have hx' : items[j]? = some items[j] := Array.getElem?_eq_getElem hj
  show wpAny _ _ ((seqItemAt l j >>= fun r => pure (r.map (j, ·))) >>= _) _ _ s
  refine wpAny_bind (wpAny_bind (wpAny_seqItemAt ho rfl (wpAny_pure ?_)))
  rw [hx']
  show wpAny _ _ (setSeqItemAt l j v >>= _) _ _ s
  obtain ⟨n', hd'⟩ := Obj.data_mapSeq (o := { cls := .type "list", data := .seq items n0 }) rfl (·.setIfInBounds j v)
  have hfin : (s.heap.update l (Obj.mapSeq (·.setIfInBounds j v))).PlainList l (items.setIfInBounds j v) := by
    refine ⟨n', ?_⟩
    rw [Heap.get?_update_self _ ho (Obj.isFreed_of_seq hd')]
    unfold Obj.mapSeq at hd' ⊢
    simp only at hd' ⊢
    rw [hd']
  refine wpAny_bind (wpAny_setSeqItemAt ho rfl ?_)
  first
    | exact wpAny_bind (wpAny_pure (wpAny_pure ⟨.none, rfl, wpAny_pure (hQ _ hfin (Heap.SameBut.update ..))⟩))
    | exact wpAny_pure ⟨.none, rfl, wpAny_pure (hQ _ hfin (Heap.SameBut.update ..))⟩
end

noncomputable def OD.toD : OD → D
  | .lst ds => .lst ds
  | .dct kvs => .dct kvs
  | .lol dss => .lst (dss.map fun ns => .lst (ns.map D.int))
noncomputable def del (ρ : Vs) (x : Str) : Vs := fun y => if y = x then none else ρ y

section
variable {G : GC} {cx : Cx} {n : Nat} {ow : Ow} {ρ : Vs} {pos p fp : Pos} {e l r value slice target : Expr} {d d1 d2 : D} {P : Out → Prop} {A : Around} {x : Str} {o : OD}
  {M W : List Addr} {h h' : Heap}

/-- what is owned is given out -/
theorem St.freeze (st : St G cx M W (some (x, o)) ρ h) : ∃ M' W', Tr M W h M' W' h ∧ St G cx M' W' none (upd ρ x o.toD) h := by
  obtain ⟨m, z, a, hk, hm, haW, haL, haC, ok⟩ := st
  -- what goes
  obtain ⟨rem, hremA, hremW, hremL, hremC, hok⟩ : ∃ rem : List Addr, a ∈ rem ∧ (∀ b ∈ rem, b ∈ W) ∧ cx.env.locals ∉ rem ∧ (∀ y c, cx.env.cells.lookup y = some c → c ∉ rem) ∧ Rep G (M.filter fun b => !rem.contains b) h o.toD (.ref a) := by
    have lessM : ∀ rem : List Addr, ∀ b ∈ (M.filter fun b => !rem.contains b), b ∈ M ∨ h.get? b = none := fun rem b hb => .inl (List.mem_filter.mp hb).1
    have notIn : ∀ (rem : List Addr) b, b ∈ rem → b ∉ (M.filter fun b => !rem.contains b) := fun rem b hb q => by
      have := (List.mem_filter.mp q).2
      simp [hb] at this
    cases o with
    | lst ds =>
      obtain ⟨vs, p, r⟩ := ok
      refine ⟨[a], by simp, fun b hb => by rw [List.mem_singleton.mp hb]; exact haW, fun q => haL (List.mem_singleton.mp q).symm, fun y c hc q => haC y c hc (List.mem_singleton.mp q), ?_⟩
      unfold OD.toD Rep
      exact ⟨a, vs, rfl, notIn _ _ (by simp), p, r.more (lessM _)⟩
    | dct kvs =>
      obtain ⟨l, z', p, r⟩ := ok
      refine ⟨[a], by simp, fun b hb => by rw [List.mem_singleton.mp hb]; exact haW, fun q => haL (List.mem_singleton.mp q).symm, fun y c hc q => haC y c hc (List.mem_singleton.mp q), ?_⟩
      unfold OD.toD Rep
      exact ⟨a, l, rfl, notIn _ _ (by simp), z', p, r⟩
    | lol dss =>
      obtain ⟨as, p, hl, nd, q, f⟩ := ok
      refine ⟨a :: as, by simp, fun b hb => ?_, fun qq => ?_, fun y c hc qq => ?_, ?_⟩
      · rcases List.mem_cons.mp hb with rfl | hb
        · exact haW
        · exact (q b hb).1
      · rcases List.mem_cons.mp qq with e | qq
        · exact haL e.symm
        · exact (q _ qq).2.2 (.inl rfl)
      · rcases List.mem_cons.mp qq with e | qq
        · exact haC y c hc e
        · exact (q _ qq).2.2 (.inr ⟨y, hc⟩)
      · unfold OD.toD Rep
        refine ⟨a, as.map Value.ref, rfl, notIn _ _ (by simp), p, RepL.of_get (by simp [hl]) fun i d v hd hv => ?_⟩
        rw [List.getElem?_map] at hd hv
        cases e1 : dss[i]? with
        | none => rw [e1] at hd; cases hd
        | some ns =>
          cases e2 : as[i]? with
          | none => rw [e2] at hv; cases hv
          | some b =>
            rw [e1] at hd
            rw [e2] at hv
            cases hd
            cases hv
            obtain ⟨vs, pb, rb⟩ := f i b ns e2 e1
            unfold Rep
            exact ⟨b, vs, rfl, notIn _ _ (List.mem_cons_of_mem _ (List.mem_of_getElem? e2)), pb, rb.more (lessM _)⟩
  have mem : ∀ b, b ∈ M → b ∉ rem → b ∈ (M.filter fun b => !rem.contains b) := fun b hb hn => List.mem_filter.mpr ⟨hb, by simpa using hn⟩
  have memW : ∀ b, b ∈ W → b ∉ rem → b ∈ (W.filter fun b => !rem.contains b) := fun b hb hn => List.mem_filter.mpr ⟨hb, by simpa using hn⟩
  refine ⟨M.filter fun b => !rem.contains b, W.filter fun b => !rem.contains b, ⟨fun b o _ e => e, fun b hb => hb, fun b hb => .inl (List.mem_filter.mp hb).1, fun b hb => .inl (List.mem_filter.mp hb).1, fun b hb => ?_⟩, m, ?_, trivial⟩
  · by_cases q : b ∈ rem
    · exact .inr (.inl (hremW b q))
    · exact .inl (mem b hb q)
  · exact { z with
      sub := fun b hb => mem b (z.sub b (List.mem_filter.mp hb).1) (by simpa using (List.mem_filter.mp hb).2)
      mc := fun b hb => mem b (z.mc b hb) fun q => by have := z.mcl b hb; rw [z.new b (hremW b q)] at this; cases this
      new := fun b hb => z.new b (List.mem_filter.mp hb).1
      live := fun b hb => z.live b (List.mem_filter.mp hb).1
      lw := memW _ z.lw hremL
      cell := fun y c hc => let ⟨q1, q2, q3⟩ := z.cell y c hc; ⟨q1, q2, mem c q3 (hremC y c hc)⟩
      cw := fun y c ho hc => memW c (z.cw y c ho hc) (hremC y c hc)
      vars := fun y d hy => by
        unfold upd at hy
        by_cases q : y = x
        · subst q
          rw [if_pos rfl] at hy
          cases hy
          exact .inl ⟨hk, _, hm, hok⟩
        · rw [if_neg q] at hy
          exact (z.vars y d hy).more fun b hb => .inl (List.mem_filter.mp hb).1 }

theorem Ex.freeze {ss : List Stmt} (y : Ex G cx n none (upd ρ x o.toD) ss P) : Ex G cx n (some (x, o)) ρ ss P := by
  intro A s M W Q E am st h1 h2
  obtain ⟨M', W', t, st'⟩ := st.freeze
  exact y A s M' W' Q E am st' (fun ow2 ρ2 M2 W2 hh tk2 hp t2 st2 => h1 ow2 ρ2 M2 W2 hh tk2 hp (t.trans t2) st2) fun d v M2 W2 hh tk2 hp t2 r2 => h2 d v M2 W2 hh tk2 hp (t.trans t2) r2
theorem Ex.weak {ρ' : Vs} {ss : List Stmt} (y : Ex G cx n ow ρ' ss P) (hw : ∀ x d, ρ' x = some d → ρ x = some d) : Ex G cx n ow ρ ss P := by
  intro A s M W Q E am st h1 h2
  exact y A s M W Q E am (st.weak hw) h1 h2

/-- what is owned is new -/
noncomputable def EvO (G : GC) (cx : Cx) (n : Nat) (ow : Ow) (ρ : Vs) (e : Expr) (o : OD) : Prop :=
  ∀ (A : Around) (s : Shared) (M W : List Addr) (Q E : Value → Shared → Prop), Amb A n → St G cx M W ow ρ s.heap →
    (∀ a h' tk new, Kp s.heap h' → a ∈ new → (∀ b ∈ new, s.heap.get? b = none) → (∀ b ∈ new, (h'.get? b).isSome = true) →
      (∀ bad : Addr → Prop, (∀ b ∈ new, ¬ bad b) → ODok G (new ++ M) (new ++ W) h' bad a o) → Q (.ref a) { s with heap := h', toks := tk }) → wpAny (model G.prog G.w) A (eval e cx.env) Q E s

theorem ODok.name {bad : Addr → Prop} {a : Addr} (q : ODok G M W h bad a o) (hx : Heap.ExtBut cx.env.locals h h') (hL : cx.env.locals ∈ M) (hbad : bad cx.env.locals) (ha : a ≠ cx.env.locals) : ODok G M W h' bad a o := q.touch hx hbad ha hL

theorem Ex1.own (he : EvO G cx n none ρ e o) (hk : cx.env.kindOf x = some .local) (hP : P (.next (some (x, o)) (del ρ x)))
    (hs : swapsWith e (some (.Name x p)) pos.line cx.env = pure false := by rfl) : Ex1 G cx n none ρ (.Assign [.Name x p] e pos) P := by
  intro A s M W Q E am st h1 h2
  refine wpAny_Assign_Name (hs := hs) (he A s M W _ E am st fun a h' tk new k haN hN hLv hO => ?_)
  have st1 : St G cx (new ++ M) W none ρ h' := st.bar k hN hLv
  obtain ⟨m, z, _⟩ := st1
  obtain ⟨m0, z0, _⟩ := id st
  have nbad : ∀ b ∈ new, ¬ (b = cx.env.locals ∨ ∃ y, cx.env.cells.lookup y = some b) := fun b hb q => by
    rcases q with rfl | ⟨y, hy⟩
    · have := z0.live _ (z0.sub _ z0.lw); rw [hN _ hb] at this; cases this
    · have := z0.live _ (z0.cell y b hy).2.2; rw [hN _ hb] at this; cases this
  have hOk := hO _ nbad
  refine wpAny_storeName_local hk z.ns (fun h'' hn hs => ?_) (by rw [z.fn]; rfl)
  dsimp only at hs hn
  have hLM : cx.env.locals ∈ new ++ M := z.sub _ z.lw
  have hL : (h''.get? cx.env.locals).isSome = true := by obtain ⟨o, _, _, e, _⟩ := hn; rw [e]; rfl
  have dom := dom_of_same hs hL
  have rep : ∀ {d v}, Rep G (new ++ M) h' d v → Rep G (new ++ M) h'' d v := fun q =>
    q.off (W := [cx.env.locals]) (fun c o hc e => hs.extBut c o (fun q => hc (by simp [q])) e) fun c hc => by rw [List.mem_singleton.mp hc]; exact hLM
  refine h1 (some (x, o)) (del ρ x) (new ++ M) (new ++ W) h'' _ hP ?_ ⟨fun y => if y = x then some (.ref a) else m y, ?_, ?_⟩
  · refine ⟨fun b o hb e => hs.extBut b o (fun q => hb (q ▸ z.lw)) (k b o e), fun b hb => dom b (k.isSome hb), fun b hb => ?_, fun b hb => ?_, fun b hb => .inl (List.mem_append.mpr (.inr hb))⟩
    · rcases List.mem_append.mp hb with q | q
      · exact .inr (hN b q)
      · exact .inl q
    · rcases List.mem_append.mp hb with q | q
      · exact .inr (hN b q)
      · exact .inl q
  · exact { z with
      sub := fun b hb => by
        rcases List.mem_append.mp hb with q | q
        · exact List.mem_append.mpr (.inl q)
        · exact z.sub b q
      keep := fun b o e => hs.extBut b o (fun q => by have := z.new _ z.lw; rw [← q, e] at this; cases this) (z.keep b o e)
      new := fun b hb => by
        rcases List.mem_append.mp hb with q | q
        · cases e : cx.hb.get? b with
          | none => rfl
          | some o => have := z0.keep b o e; rw [hN b q] at this; cases this
        · exact z.new b q
      live := fun a ha => dom a (z.live a ha)
      ns := hn
      lw := List.mem_append.mpr (.inr z.lw)
      cell := fun y c hy => let ⟨⟨v, hv⟩, q1, q2⟩ := z.cell y c hy; ⟨⟨v, hv.sameBut hs q1⟩, q1, q2⟩
      cw := fun y c ho hc => List.mem_append.mpr (.inr (z.cw y c ho hc))
      vars := fun y d' hy => by
        unfold del at hy
        by_cases q : y = x
        · rw [if_pos q] at hy; cases hy
        · rw [if_neg q] at hy
          rcases z.vars y d' hy with ⟨a1, u, a2, a3⟩ | ⟨a1, c, u, a2, a3, a4⟩
          · exact .inl ⟨a1, u, by simp [q, a2], rep a3⟩
          · exact .inr ⟨a1, c, u, a2, a3.sameBut hs (z.cell y c a2).2.1, rep a4⟩ }
  · exact ⟨a, hk, by simp, List.mem_append.mpr (.inl haN), fun q => nbad a haN (.inl q), fun y c hc q => nbad a haN (.inr ⟨y, q ▸ hc⟩), hOk.touch hs.extBut (.inl rfl) (fun q => nbad a haN (.inl q)) hLM⟩

/-- an owned object turns -/
theorem Stm.turn {m : Str → Option Value} {b : Addr} (z : Stm G cx M W m ρ h) (hb : b ∈ W) (hL : b ≠ cx.env.locals) (hC : ∀ y c, cx.env.cells.lookup y = some c → c ≠ b) (off : Off [b] h h') (live : (h'.get? b).isSome = true) : Stm G cx M W m ρ h' := by
  have sub1 : ∀ a ∈ [b], a ∈ M := fun a ha => by rw [List.mem_singleton.mp ha]; exact z.sub _ hb
  have keepAt : ∀ a, a ≠ b → ∀ o, h.get? a = some o → h'.get? a = some o := fun a ha o e => off a o (by simpa using ha) e
  exact { z with
    keep := fun a o e => keepAt a (fun q => by have := z.new b hb; rw [← q, e] at this; cases this) o (z.keep a o e)
    live := fun a ha => by
      by_cases q : a = b
      · rw [q]; exact live
      · obtain ⟨o, ho⟩ := Option.isSome_iff_exists.mp (z.live a ha)
        rw [keepAt a q o ho]; rfl
    ns := z.ns.at' (keepAt _ (Ne.symm hL))
    cell := fun y c hy => let ⟨⟨v, hv⟩, q1, q2⟩ := z.cell y c hy; ⟨⟨v, Heap.IsCell.at' hv (keepAt c (hC y c hy))⟩, q1, q2⟩
    vars := fun y d hy => by
      rcases z.vars y d hy with ⟨a1, u, a2, a3⟩ | ⟨a1, c, u, a2, a3, a4⟩
      · exact .inl ⟨a1, u, a2, a3.off off sub1⟩
      · exact .inr ⟨a1, c, u, a2, Heap.IsCell.at' a3 (keepAt c (hC y c a2)), a4.off off sub1⟩ }
theorem Tr.turn {b : Addr} (hb : b ∈ W) (off : Off [b] h h') (live : (h'.get? b).isSome = true) : Tr M W h M W h' where
  off := fun a o ha e => off a o (fun q => ha (by rw [List.mem_singleton.mp q]; exact hb)) e
  dom := fun a ha => by
    by_cases q : a = b
    · rw [q]; exact live
    · obtain ⟨o, ho⟩ := Option.isSome_iff_exists.mp ha
      rw [off a o (by simpa using q) ho]; rfl
  w := fun _ e => .inl e
  m1 := fun _ e => .inl e
  m2 := fun _ e => .inl e

theorem EvO.list {es : List Expr} {ds : List D} (y : EvL G cx n ow ρ es ds) (hz : ds.length ≤ sizeLine) : EvO G cx n ow ρ (.List es pos) (.lst ds) := by
  intro A s M W Q E am st h
  refine wpAny_List (y A s M W pos _ E am st fun vs h1 t1 k1 r1 => ⟨by rw [r1.length]; exact hz, ?_⟩)
  refine h h1.objs.size _ _ [h1.objs.size] (k1.trans (Kp.push h1 _)) (by simp) (fun b hb => by rw [List.mem_singleton.mp hb]; exact size_none k1 0) (fun b hb => by rw [List.mem_singleton.mp hb, Heap.get?_push_size _ rfl]; rfl) fun bad _ => ?_
  refine ⟨vs, ⟨_, Heap.get?_push_size _ rfl⟩, (r1.more fun b hb => ?_).kp (Kp.push _ _)⟩
  rcases List.mem_append.mp hb with q | q
  · rw [List.mem_singleton.mp q]; exact .inr (Heap.get?_none_of_le (Nat.le_refl _))
  · exact .inl q
theorem EvO.dict : EvO G cx n ow ρ (.Dict [] [] pos) (.dct []) := by
  intro A s M W Q E am st h
  refine wpAny_Dict_empty (h s.heap.objs.size _ _ [s.heap.objs.size] (Kp.push _ _) (by simp) (fun b hb => by rw [List.mem_singleton.mp hb]; exact Heap.get?_none_of_le (Nat.le_refl _)) (fun b hb => by rw [List.mem_singleton.mp hb, Heap.get?_push_size _ rfl]; rfl) fun bad _ => ?_)
  exact ⟨[], new_ne_sys st.gdh, Heap.DictOf.new _, by unfold RepKV; rfl⟩

theorem own_name {A : Around} {s : Shared} {Q E : Value → Shared → Prop} (st : St G cx M W (some (x, o)) ρ s.heap) (hQ : ∀ a, OwOk G cx.env M W (fun y => if y = x then some (.ref a) else none) s.heap (some (x, o)) → Q (.ref a) s) (hd : (x == ("__debug__" : Str)) = false := by decide) :
    wpAny (model G.prog G.w) A (eval (.Name x p) cx.env) Q E s := by
  obtain ⟨m, z, a, hk, hm, haW, haL, haC, ok⟩ := st
  exact wpAny_Name (wpAny_loadName_local z.fn hk z.ns hm (hQ a ⟨a, hk, by simp, haW, haL, haC, ok⟩)) hd
/-- the owned address stays -/
noncomputable def OwAt (G : GC) (cx : Cx) (x : Str) (o : OD) (a : Addr) (M W : List Addr) (ρ : Vs) (h : Heap) : Prop :=
  ∃ m, Stm G cx M W m ρ h ∧ cx.env.kindOf x = some .local ∧ m x = some (.ref a) ∧ a ∈ W ∧ a ≠ cx.env.locals ∧ (∀ y c, cx.env.cells.lookup y = some c → c ≠ a) ∧ ODok G M W h (fun b => b = cx.env.locals ∨ ∃ y, cx.env.cells.lookup y = some b) a o
theorem OwAt.st {a : Addr} (x1 : OwAt G cx x o a M W ρ h) : St G cx M W (some (x, o)) ρ h := let ⟨m, z, h1, h2, h3, h4, h5, h6⟩ := x1; ⟨m, z, a, h1, h2, h3, h4, h5, h6⟩
theorem OwAt.kp {a : Addr} (x1 : OwAt G cx x o a M W ρ h) (k : Kp h h') : OwAt G cx x o a M W ρ h' := let ⟨m, z, h1, h2, h3, h4, h5, h6⟩ := x1; ⟨m, z.kp k, h1, h2, h3, h4, h5, h6.kp k⟩
theorem own_at {A : Around} {s : Shared} {Q E : Value → Shared → Prop} (st : St G cx M W (some (x, o)) ρ s.heap) (hQ : ∀ a, OwAt G cx x o a M W ρ s.heap → Q (.ref a) s) (hd : (x == ("__debug__" : Str)) = false := by decide) :
    wpAny (model G.prog G.w) A (eval (.Name x p) cx.env) Q E s := by
  obtain ⟨m, z, a, hk, hm, haW, haL, haC, ok⟩ := st
  exact wpAny_Name (wpAny_loadName_local z.fn hk z.ns hm (hQ a ⟨m, z, hk, hm, haW, haL, haC, ok⟩)) hd
/-- the owned object itself turns -/
theorem OwAt.turn {a : Addr} {o' : OD} (q : OwAt G cx x o a M W ρ h) (off : Off [a] h h') (live : (h'.get? a).isSome = true) (ok' : ODok G M W h' (fun b => b = cx.env.locals ∨ ∃ y, cx.env.cells.lookup y = some b) a o') : St G cx M W (some (x, o')) ρ h' ∧ Tr M W h M W h' := by
  obtain ⟨m, z, h1, h2, h3, h4, h5, h6⟩ := q
  exact ⟨⟨m, z.turn h3 h4 h5 off live, a, h1, h2, h3, h4, h5, ok'⟩, Tr.turn h3 off live⟩
theorem same_off {a : Addr} (hs : Heap.SameBut a h h') : Off [a] h h' := fun b o hb e => hs.extBut b o (by simpa using hb) e
theorem RepL.offW {W' : List Addr} {ds : List D} {vs : List Value} (r : RepL G M h ds vs) (off : Off W' h h') (hs : ∀ a ∈ W', a ∈ M) : RepL G M h' ds vs := r.off off hs
theorem OwAt.sub {a : Addr} (q : OwAt G cx x o a M W ρ h) : ∀ b ∈ [a], b ∈ M := let ⟨m, z, h1, h2, h3, _⟩ := q; fun b hb => by rw [List.mem_singleton.mp hb]; exact z.sub _ h3
theorem plain_live {a : Addr} {vs : Array Value} (hp : h.PlainList a vs) : (h.get? a).isSome = true := by obtain ⟨n, e⟩ := hp; rw [e]; rfl

/-- x.append(e) -/
theorem Ex1.append {ds : List D} {p1 p2 p3 : Pos} (he : Ev G cx n (some (x, .lst ds)) ρ e d) (hz : ds.length ≤ sizeLine) (hP : P (.next (some (x, .lst (ds ++ [d]))) ρ))
    (pa : plainArgs [e] cx.env := by exact ⟨_, _, rfl, rfl, fun _ => rfl⟩) (hst : starEach [e] cx.env = (false, eval e cx.env) :: starEach [] cx.env := by rfl)
    (hbase : attributeBase (.Name x p1) "append" cx.env (eval (.Name x p1) cx.env) = eval (.Name x p1) cx.env := by rfl)
    (hfew : ((backTo p3 (starEach [e] cx.env)).all (fun x => !x.1) && (backToKw p3 (keywordEach [] cx.env)).all (fun x => x.1.isSome)
      && decide ([e].length + ([] : List Keyword).length + (if ([] : List Keyword).isEmpty then 0 else 1) < 30)) = true := by rfl)
    (hline : (p2.endLine == p3.line) = true := by rfl) (hd : (x == ("__debug__" : Str)) = false := by decide)
    (hi : interactive cx.env = false := by rfl) (hs : swapsWith (.Call (.Attribute (.Name x p1) "append" p2) [e] [] p3) Option.none pos.line cx.env = pure false := by rfl) :
    Ex1 G cx n (some (x, .lst ds)) ρ (.Expr (.Call (.Attribute (.Name x p1) "append" p2) [e] [] p3) pos) P := by
  intro A s M W Q E am st h1 h2
  refine wpAny_Expr (hi := hi) (hs := hs) ?_
  refine wpAny_Call_method hbase hfew hline F.plainAttrs_list F.slot_list_append F.type_list_append (own_at st (fun a q => ?_) hd)
  obtain ⟨vs, hp, hr⟩ := let ⟨m, z, h1, h2, h3, h4, h5, h6⟩ := id q; h6
  refine ⟨hp.isList.typeIs, fun b e => by cases e; obtain ⟨j, e⟩ := hp; exact ⟨_, e, rfl⟩, ?_⟩
  obtain ⟨e', r', hl, he', hp'⟩ := pa
  cases hl
  refine callWith_method1 (first := [.ref a]) (EvL.cons he EvL.nil hst A s M W p3 _ E am st fun us h3 t3 k3 r3 => ?_) hst (hp' p3)
  obtain ⟨v, rfl, rv⟩ := r3.one
  have hp3 : h3.PlainList a vs.toArray := PlainList.kp (k3 a) hp
  refine wpAny_list_append_plain (s := { s with heap := h3, toks := t3 }) (hsz := by simpa [hr.length] using hz) hp3 fun h4 hp4 hs4 => ?_
  have q3 := q.kp k3
  obtain ⟨st4, t4⟩ := q3.turn (o' := .lst (ds ++ [d])) (same_off hs4) (plain_live hp4) ⟨vs ++ [v], by simpa using hp4, ((hr.kp k3).append (.cons rv .nil)).off (same_off hs4) q3.sub⟩
  exact h1 _ _ M W h4 t3 hP ((Tr.of_kp k3).trans t4) st4

/-- x[k] += e -/
theorem Ex1.augItem {ds : List D} {p1 p2 : Pos} {k i j : Int} (hkE : Ev G cx n (some (x, .lst ds)) ρ slice (.int k)) (he : Ev G cx n (some (x, .lst ds)) ρ e (.int j)) (h0 : 0 ≤ k) (hkf : k < 1000000) (hget : ds[k.toNat]? = some (.int i))
    (hP : P (.next (some (x, .lst (ds.set k.toNat (.int (i + j))))) ρ)) (hd : (x == ("__debug__" : Str)) = false := by decide)
    (ha : ∀ ov iv new, augStore slice ov iv new = (do holding [new, ov, iv] (setItem ov iv new); release [new, ov, iv] []; pure .next) := by intro _ _ _; rfl) :
    Ex1 G cx n (some (x, .lst ds)) ρ (.AugAssign (.Subscript (.Name x p1) slice p2) .Add e pos) P := by
  intro A s M W Q E am st h1 h2
  refine wpAny_AugAssign_Subscript_any (ha := ha) (own_at st (fun a q => ?_) hd)
  refine hkE A s M W _ E am st fun kv h3 t3 k3 r3 => ?_
  obtain ⟨tk, rfl⟩ := r3
  have q3 := q.kp k3
  obtain ⟨vs, hp, hr⟩ := let ⟨m, z, h1, h2, h3, h4, h5, h6⟩ := id q3; h6
  obtain ⟨v, hv, t1, rfl⟩ := hr.get' hget
  refine wpAny_getItem_list (s := { s with heap := h3, toks := t3 }) hp.isList h0 (by omega) (by simpa using hv) ?_
  refine he A _ M W _ E am q3.st fun ev h4 t4 k4 r4 => ?_
  obtain ⟨te, rfl⟩ := r4
  refine iadd_int ?_
  dsimp only at k4
  have hp4 : h4.PlainList a vs.toArray := PlainList.kp (k4 a) hp
  have hlt : k.toNat < vs.length := by
    rcases Nat.lt_or_ge k.toNat vs.length with q | q
    · exact q
    · rw [List.getElem?_eq_none q] at hv; cases hv
  refine setItem_plain (s := { s with heap := h4, toks := _ }) hp4 h0 (by omega) (by simp; omega) fun h5 hp5 hs5 => ?_
  have q4 := q3.kp k4
  have hr5 : RepL G M h5 (ds.set k.toNat (.int (i + j))) (vs.set k.toNat (.int (i + j) t4)) := by
    have hr' := ((hr.kp k4).off (same_off hs5) q4.sub)
    refine RepL.of_get (by simp [hr.length]) fun i' d' v' hd' hv' => ?_
    rw [List.getElem?_set] at hd' hv'
    have hltd : k.toNat < ds.length := by rw [← hr.length]; exact hlt
    by_cases c : k.toNat = i'
    · rw [if_pos c, if_pos hltd] at hd'
      rw [if_pos c, if_pos hlt] at hv'
      cases hd'; cases hv'
      exact ⟨_, rfl⟩
    · rw [if_neg c] at hd' hv'
      obtain ⟨d2, hd2, r2⟩ := hr'.get hv'
      rw [hd'] at hd2; cases hd2
      exact r2
  obtain ⟨st5, t5⟩ := q4.turn (o' := .lst (ds.set k.toNat (.int (i + j)))) (same_off hs5) (plain_live hp5) ⟨_, by simpa using hp5, hr5⟩
  exact h1 _ _ M W h5 _ hP ((Tr.of_kp (k3.trans k4)).trans t5) st5
end
end Mine
end
section
open PySem PySem.Calls PyProof.Rows
namespace Mine

section
variable {G : GC} {cx : Cx} {n : Nat} {ow : Ow} {ρ : Vs} {pos p fp : Pos} {e l r value slice target : Expr} {d d1 d2 : D} {P : Out → Prop} {A : Around} {x : Str} {o : OD}
  {M W : List Addr} {h h' : Heap}

theorem OwAt.dct {a : Addr} {kvs : List (Str × Int)} (q : OwAt G cx x (.dct kvs) a M W ρ h) : ∃ l, (a == sysModules) = false ∧ h.DictOf (strKind G.prog G.w) a l ∧ RepKV kvs l := let ⟨m, z, h1, h2, h3, h4, h5, h6⟩ := q; h6
theorem OwAt.lst {a : Addr} {ds : List D} (q : OwAt G cx x (.lst ds) a M W ρ h) : ∃ vs, h.PlainList a vs.toArray ∧ RepL G M h ds vs := let ⟨m, z, h1, h2, h3, h4, h5, h6⟩ := q; h6
theorem dict_live {a : Addr} {l : List (Str × Value)} (hd : h.DictOf (strKind G.prog G.w) a l) : (h.get? a).isSome = true := by obtain ⟨o, es, ep, e, _⟩ := hd; rw [e]; rfl

/-- x[k] = e -/
theorem Ex1.put {kvs : List (Str × Int)} {p1 p2 : Pos} {k : Str} {i : Int} (he : Ev G cx n (some (x, .dct kvs)) ρ e (.int i)) (hkE : Ev G cx n (some (x, .dct kvs)) ρ slice (.str k)) (hz : kvs.length ≤ sizeLine)
    (hP : P (.next (some (x, .dct (stK kvs k i))) ρ)) (hd : (x == ("__debug__" : Str)) = false := by decide)
    (hs : swapsWith e (some (.Subscript (.Name x p1) slice p2)) pos.line cx.env = pure false := by rfl) :
    Ex1 G cx n (some (x, .dct kvs)) ρ (.Assign [.Subscript (.Name x p1) slice p2] e pos) P := by
  intro A s M W Q E am st h1 h2
  refine wpAny_Assign_Subscript (hs := hs) (he A s M W _ E am st fun v h3 t3 k3 r3 => ?_)
  obtain ⟨tv, rfl⟩ := r3
  refine own_at (st.kp k3) (fun a q => ?_) hd
  refine hkE A _ M W _ E am q.st fun kv h4 t4 k4 r4 => ?_
  obtain ⟨tk, rfl⟩ := r4
  dsimp only at k4
  have q4 := q.kp k4
  obtain ⟨l, hz', hdict, hkv⟩ := q4.dct
  refine wpAny_setItem_pairs (s := { s with heap := h4, toks := t4 }) (strKind_is _ _ k tk) hdict (fun h5 hd5 hs5 => ?_) (by rw [hkv.length]; exact hz)
  obtain ⟨st5, t5⟩ := q4.turn (o' := .dct (stK kvs k i)) (same_off hs5) (dict_live hd5) ⟨_, hz', hd5, hkv.stored k i tv⟩
  exact h1 _ _ M W h5 _ hP ((Tr.of_kp (k3.trans k4)).trans t5) st5

/-- x[k] += e -/
theorem Ex1.augPut {kvs : List (Str × Int)} {p1 p2 : Pos} {k : Str} {i j : Int} (hkE : Ev G cx n (some (x, .dct kvs)) ρ slice (.str k)) (he : Ev G cx n (some (x, .dct kvs)) ρ e (.int j)) (hget : kvs.lookup k = some i) (hz : kvs.length ≤ sizeLine)
    (hP : P (.next (some (x, .dct (stK kvs k (i + j)))) ρ)) (hd : (x == ("__debug__" : Str)) = false := by decide)
    (ha : ∀ ov iv new, augStore slice ov iv new = (do holding [new, ov, iv] (setItem ov iv new); release [new, ov, iv] []; pure .next) := by intro _ _ _; rfl) :
    Ex1 G cx n (some (x, .dct kvs)) ρ (.AugAssign (.Subscript (.Name x p1) slice p2) .Add e pos) P := by
  intro A s M W Q E am st h1 h2
  refine wpAny_AugAssign_Subscript_any (ha := ha) (own_at st (fun a q => ?_) hd)
  refine hkE A s M W _ E am st fun kv h3 t3 k3 r3 => ?_
  obtain ⟨tk, rfl⟩ := r3
  have q3 := q.kp k3
  obtain ⟨l, hz', hdict, hkv⟩ := q3.dct
  have hlk := hkv.lookup k
  rw [hget] at hlk
  obtain ⟨t1, hv⟩ := hlk
  refine wpAny_getItem_of (s := { s with heap := h3, toks := t3 }) (strKind_is _ _ k tk) hdict.mapOf hv ?_
  refine he A _ M W _ E am q3.st fun ev h4 t4 k4 r4 => ?_
  obtain ⟨te, rfl⟩ := r4
  refine iadd_int ?_
  dsimp only at k4
  have q4 := q3.kp k4
  have hd4 : h4.DictOf (strKind G.prog G.w) a l := DictOf.at' (k4 a) hdict
  refine wpAny_setItem_pairs (s := { s with heap := h4, toks := t4 + 1 }) (strKind_is _ _ k tk) hd4 (fun h5 hd5 hs5 => ?_) (by rw [hkv.length]; exact hz)
  obtain ⟨st5, t5⟩ := q4.turn (o' := .dct (stK kvs k (i + j))) (same_off hs5) (dict_live hd5) ⟨_, hz', hd5, hkv.stored k (i + j) _⟩
  exact h1 _ _ M W h5 _ hP ((Tr.of_kp (k3.trans k4)).trans t5) st5

/-- k in x -/
theorem EvT.inOwn {kvs : List (Str × Int)} {p1 : Pos} {k : Str} (hkE : Ev G cx n (some (x, .dct kvs)) ρ l (.str k)) (hd : (x == ("__debug__" : Str)) = false := by decide) (hm : behindInMarks .In (.Name x p1) = false := by with_unfolding_all rfl) :
    EvT G cx n (some (x, .dct kvs)) ρ (.Compare l [.In] [.Name x p1] pos) (kvs.lookup k).isSome := by
  intro A s M W Q E am st h
  refine wpAny_isTrue_Compare1 (hm := hm) (hkE A s M W _ E am st fun v ha t1 k1 r1 => ?_)
  obtain ⟨t, rfl⟩ := r1
  refine own_at (st.kp k1) (fun a q => ?_) hd
  obtain ⟨l', hz', hdict, hkv⟩ := q.dct
  refine wpAny_in_of (strKind_is _ _ k t) hz' hdict.mapOf ?_
  have hlk := hkv.lookup k
  have e : (valueAt l' k).isSome = (kvs.lookup k).isSome := by
    cases q : kvs.lookup k with
    | some i => rw [q] at hlk; obtain ⟨w, hw⟩ := hlk; rw [hw]; rfl
    | none => rw [q] at hlk; have hlk : valueAt l' k = none := hlk; rw [hlk]; rfl
  rw [e]
  exact wpAny_truthy_bool (h ha _ k1)

/-- rows of ints -/
theorem EvO.lol1 {es : List Expr} {ns : List Int} {p1 : Pos} (y : EvL G cx n ow ρ es (ns.map D.int)) (hz : ns.length ≤ sizeLine) (hst : starEach [.List es p1] cx.env = (false, eval (.List es p1) cx.env) :: starEach [] cx.env := by rfl) : EvO G cx n ow ρ (.List [.List es p1] pos) (.lol [ns]) := by
  intro A s M W Q E am st h
  refine wpAny_List (wpAny_items_cons (he := hst) (wpAny_List (y A s M W p1 _ E am st fun vs h1 t1 k1 r1 => ⟨by rw [r1.length, List.length_map]; exact hz, wpAny_items_nil ⟨by rw [sizeLine_eq]; simp, ?_⟩⟩)))
  dsimp only
  have kp1 : Kp h1 (h1.push { cls := .type "list", data := .seq vs.toArray }) := Kp.push _ _
  have g1 : (h1.push { cls := .type "list", data := .seq vs.toArray }).get? h1.objs.size = some { cls := .type "list", data := .seq vs.toArray } := Heap.get?_push_size _ rfl
  have hsz : (h1.push { cls := .type "list", data := .seq vs.toArray }).objs.size = h1.objs.size + 1 := Heap.size_push ..
  generalize h1.push { cls := .type "list", data := .seq vs.toArray } = h2 at *
  have kp2 : Kp h2 (h2.push { cls := .type "list", data := .seq #[.ref h1.objs.size] }) := Kp.push _ _
  have g2 : (h2.push { cls := .type "list", data := .seq #[.ref h1.objs.size] }).get? (h1.objs.size + 1) = some { cls := .type "list", data := .seq #[.ref h1.objs.size] } := by rw [← hsz]; exact Heap.get?_push_size _ rfl
  rw [hsz]
  generalize h2.push { cls := .type "list", data := .seq #[.ref h1.objs.size] } = h3 at *
  refine h (h1.objs.size + 1) h3 _ [h1.objs.size + 1, h1.objs.size] ((k1.trans kp1).trans kp2) (by simp) (fun b hb => ?_) (fun b hb => ?_) fun bad hbad => ?_
  · rcases List.mem_cons.mp hb with rfl | hb
    · exact size_none k1 1
    · rw [List.mem_singleton.mp hb]; exact size_none k1 0
  · rcases List.mem_cons.mp hb with rfl | hb
    · rw [g2]; rfl
    · rw [List.mem_singleton.mp hb, kp2 _ _ g1]; rfl
  · refine ⟨[h1.objs.size], ⟨_, g2⟩, rfl, by simp, fun b hb => ?_, fun i b ns' e1 e2 => ?_⟩
    · rw [List.mem_singleton.mp hb]
      exact ⟨by simp, Nat.ne_of_lt (Nat.lt_succ_self _), hbad _ (by simp)⟩
    · cases i with
      | succ i => simp at e1
      | zero =>
        simp at e1 e2
        subst e1 e2
        refine ⟨vs, ⟨_, kp2 _ _ g1⟩, ((r1.more fun b hb => ?_).kp kp1).kp kp2⟩
        rcases List.mem_append.mp hb with q | q
        · rcases List.mem_cons.mp q with rfl | q
          · exact .inr (Heap.get?_none_of_le (Nat.le_succ _))
          · rw [List.mem_singleton.mp q]; exact .inr (Heap.get?_none_of_le (Nat.le_refl _))
        · exact .inl q

theorem OwAt.lol {a : Addr} {dss : List (List Int)} (q : OwAt G cx x (.lol dss) a M W ρ h) : ∃ as : List Addr, h.PlainList a (as.map Value.ref).toArray ∧ as.length = dss.length ∧ as.Nodup ∧ (∀ b ∈ as, b ∈ W ∧ b ≠ a ∧ ¬ (b = cx.env.locals ∨ ∃ y, cx.env.cells.lookup y = some b)) ∧
      ∀ (i : Nat) (b : Addr) (ns : List Int), as[i]? = some b → dss[i]? = some ns → ∃ vs, h.PlainList b vs.toArray ∧ RepL G M h (ns.map D.int) vs := let ⟨m, z, h1, h2, h3, h4, h5, h6⟩ := q; h6

/-- x.append([…]) -/
theorem Ex1.appendRow {dss : List (List Int)} {es : List Expr} {ns : List Int} {p1 p2 p3 p4 : Pos} (y : EvL G cx n (some (x, .lol dss)) ρ es (ns.map D.int)) (hz : ns.length ≤ sizeLine) (hz2 : dss.length ≤ sizeLine) (hP : P (.next (some (x, .lol (dss ++ [ns]))) ρ))
    (hst : starEach [.List es p4] cx.env = (false, eval (.List es p4) cx.env) :: starEach [] cx.env := by rfl)
    (hbase : attributeBase (.Name x p1) "append" cx.env (eval (.Name x p1) cx.env) = eval (.Name x p1) cx.env := by rfl)
    (hfew : ((backTo p3 (starEach [.List es p4] cx.env)).all (fun x => !x.1) && (backToKw p3 (keywordEach [] cx.env)).all (fun x => x.1.isSome)
      && decide ([Expr.List es p4].length + ([] : List Keyword).length + (if ([] : List Keyword).isEmpty then 0 else 1) < 30)) = true := by rfl)
    (hline : (p2.endLine == p3.line) = true := by rfl) (hd : (x == ("__debug__" : Str)) = false := by decide)
    (hi : interactive cx.env = false := by rfl) (hs : swapsWith (.Call (.Attribute (.Name x p1) "append" p2) [.List es p4] [] p3) Option.none pos.line cx.env = pure false := by rfl) :
    Ex1 G cx n (some (x, .lol dss)) ρ (.Expr (.Call (.Attribute (.Name x p1) "append" p2) [.List es p4] [] p3) pos) P := by
  intro A s M W Q E am st h1 h2
  refine wpAny_Expr (hi := hi) (hs := hs) ?_
  refine wpAny_Call_method hbase hfew hline F.plainAttrs_list F.slot_list_append F.type_list_append (own_at st (fun a q => ?_) hd)
  obtain ⟨as, hp, hal, hnd, hall, hrow⟩ := q.lol
  refine ⟨hp.isList.typeIs, fun b e => by cases e; obtain ⟨j, e⟩ := hp; exact ⟨_, e, rfl⟩, ?_⟩
  refine callWith_method1 (first := [.ref a]) ?_ hst rfl
  refine wpAny_items_cons (he := hst) (wpAny_List (y A s M W p4 _ E am st fun vs h3 t3 k3 r3 => ⟨by rw [r3.length, List.length_map]; exact hz, wpAny_items_nil ?_⟩))
  dsimp only
  have kp1 : Kp h3 (h3.push { cls := .type "list", data := .seq vs.toArray }) := Kp.push _ _
  have g1 : (h3.push { cls := .type "list", data := .seq vs.toArray }).get? h3.objs.size = some { cls := .type "list", data := .seq vs.toArray } := Heap.get?_push_size _ rfl
  have hb0 : h3.get? h3.objs.size = none := Heap.get?_none_of_le (Nat.le_refl _)
  generalize hb : h3.objs.size = b at *
  generalize h3.push { cls := .type "list", data := .seq vs.toArray } = h4 at *
  have hbs : s.heap.get? b = none := by
    cases e : s.heap.get? b with
    | none => rfl
    | some o => have := k3 b o e; rw [hb0] at this; cases this
  have hp4 : h4.PlainList a (as.map Value.ref).toArray := PlainList.kp (fun o e => kp1 _ _ (k3 a o e)) hp
  refine wpAny_list_append_plain (s := { s with heap := h4, toks := t3 }) (hsz := by simpa [hal] using hz2) hp4 fun h5 hp5 hs5 => ?_
  -- the new state
  have q3 := q.kp k3
  obtain ⟨m, z, hk, hm, haW, haL, haC, ok⟩ := q3
  have stb : St G cx ([b] ++ M) W (some (x, .lol dss)) ρ h4 := St.bar kp1 (fun a ha => by rw [List.mem_singleton.mp ha]; exact hb0) (fun a ha => by rw [List.mem_singleton.mp ha, g1]; rfl) ⟨m, z, a, hk, hm, haW, haL, haC, ok⟩
  have hba : b ≠ a := fun e => by have := plain_live hp; rw [← e, hbs] at this; cases this
  have hsM := z.sub
  have alive := st.live
  have notbad : ¬ (b = cx.env.locals ∨ ∃ y, cx.env.cells.lookup y = some b) := fun qb => by
    rcases qb with rfl | ⟨y, hy⟩
    · have := alive _ (hsM _ z.lw); rw [hbs] at this; cases this
    · have := alive _ (z.cell y b hy).2.2; rw [hbs] at this; cases this
  have off5 : Off [a] h4 h5 := same_off hs5
  have mono : ∀ c ∈ [b] ++ M, c ∈ M ∨ h3.get? c = none := fun c hc => by
    rcases List.mem_append.mp hc with q | q
    · rw [List.mem_singleton.mp q]; exact .inr hb0
    · exact .inl q
  have aM : ∀ c ∈ [a], c ∈ [b] ++ M := fun c hc => by rw [List.mem_singleton.mp hc]; exact List.mem_append.mpr (.inr (hsM _ haW))
  have hrow5 : ∀ (i : Nat) (c : Addr) (ns' : List Int), (as ++ [b])[i]? = some c → (dss ++ [ns])[i]? = some ns' → ∃ vs, h5.PlainList c vs.toArray ∧ RepL G ([b] ++ M) h5 (ns'.map D.int) vs := by
    intro i c ns' e1 e2
    by_cases hi : i < as.length
    · rw [List.getElem?_append_left hi] at e1
      rw [List.getElem?_append_left (by omega)] at e2
      obtain ⟨us, p1, p2⟩ := hrow i c ns' e1 e2
      have hca : c ≠ a := (hall c (List.mem_of_getElem? e1)).2.1
      exact ⟨us, PlainList.kp (fun o e => off5 c o (by simpa using hca) (kp1 _ _ (k3 _ _ e))) p1, ((((p2.kp k3).more mono).kp kp1).off off5 aM)⟩
    · rw [List.getElem?_append_right (by omega)] at e1
      rw [List.getElem?_append_right (by omega)] at e2
      have hlt1 : i - as.length < 1 := by
        rcases Nat.lt_or_ge (i - as.length) 1 with q | q
        · exact q
        · rw [List.getElem?_eq_none (by simpa using q)] at e1; cases e1
      have e3 : i - as.length = 0 := by omega
      have e4 : i - dss.length = 0 := by omega
      rw [e3] at e1
      rw [e4] at e2
      simp at e1 e2
      subst e1 e2
      exact ⟨vs, ⟨_, off5 _ _ (by simpa using hba) g1⟩, ((r3.more mono).kp kp1).off off5 aM⟩
  have nw : ∀ c ∈ [b], s.heap.get? c = none := fun c hc => by rw [List.mem_singleton.mp hc]; exact hbs
  obtain ⟨m1, z1, _⟩ := stb
  have tr0 : Tr M W s.heap ([b] ++ M) ([b] ++ W) h5 := by
    refine ⟨fun c o hc e => off5 c o (fun q => hc (by rw [List.mem_singleton.mp q]; exact haW)) (kp1 _ _ (k3 _ _ e)), fun c hc => dom_of_same hs5 (plain_live hp5) c (kp1.isSome (k3.isSome hc)), fun c hc => ?_, fun c hc => ?_, fun c hc => .inl (List.mem_append.mpr (.inr hc))⟩
    · rcases List.mem_append.mp hc with q | q
      · exact .inr (nw c q)
      · exact .inl q
    · rcases List.mem_append.mp hc with q | q
      · exact .inr (nw c q)
      · exact .inl q
  have z2 : Stm G cx ([b] ++ M) ([b] ++ W) m ρ h4 := by
    have zb : Stm G cx M W m ρ h4 := z.kp kp1
    exact { zb with
      sub := fun c hc => by
        rcases List.mem_append.mp hc with q | q
        · exact List.mem_append.mpr (.inl q)
        · exact List.mem_append.mpr (.inr (zb.sub c q))
      mc := fun c hc => List.mem_append.mpr (.inr (zb.mc c hc))
      new := fun c hc => by
        rcases List.mem_append.mp hc with q | q
        · obtain ⟨m0, z0, _⟩ := st
          cases e : cx.hb.get? c with
          | none => rfl
          | some o => have := z0.keep c o e; rw [nw c q] at this; cases this
        · exact zb.new c q
      live := fun c hc => by
        rcases List.mem_append.mp hc with q | q
        · rw [List.mem_singleton.mp q, g1]; rfl
        · exact zb.live c q
      lw := List.mem_append.mpr (.inr zb.lw)
      cell := fun y c hc => let ⟨q1, q2, q3⟩ := zb.cell y c hc; ⟨q1, q2, List.mem_append.mpr (.inr q3)⟩
      cw := fun y c ho hc => List.mem_append.mpr (.inr (zb.cw y c ho hc))
      vars := fun y d hy => ((z.vars y d hy).more mono).kp kp1 }
  refine h1 (some (x, .lol (dss ++ [ns]))) ρ ([b] ++ M) ([b] ++ W) h5 t3 hP tr0 ⟨m, z2.turn (List.mem_append.mpr (.inr haW)) haL haC off5 (plain_live hp5), a, hk, hm, List.mem_append.mpr (.inr haW), haL, haC, ?_⟩
  refine ⟨as ++ [b], by simpa using hp5, by simp [hal], ?_, fun c hc => ?_, hrow5⟩
  · rw [List.nodup_append]
    refine ⟨hnd, by simp, fun c hc c' hc' e => ?_⟩
    rw [List.mem_singleton.mp hc'] at e
    subst e
    have h1' := (hall c hc).1
    have := alive c (hsM c h1')
    rw [hbs] at this; cases this
  · rcases List.mem_append.mp hc with q | q
    · exact ⟨List.mem_append.mpr (.inr (hall c q).1), (hall c q).2⟩
    · rw [List.mem_singleton.mp q]
      exact ⟨List.mem_append.mpr (.inl (by simp)), hba, notbad⟩

/-- x[-1][k] += e -/
theorem Ex1.augLast {dss : List (List Int)} {ns : List Int} {p1 p2 p3 p4 p5 : Pos} {k i j : Int} (hkE : Ev G cx n (some (x, .lol (dss ++ [ns]))) ρ slice (.int k)) (he : Ev G cx n (some (x, .lol (dss ++ [ns]))) ρ e (.int j)) (h0 : 0 ≤ k) (hkf : k < 1000000) (hget : ns[k.toNat]? = some i)
    (hone : Ev G cx n (some (x, .lol (dss ++ [ns]))) ρ l (.int (-1)))
    (hsub : ∀ a k u, subscripted l false (.ref a) (.int k u) = operate [.ref a, .int k u] (getItem (.ref a) (.int k u)))
    (hz : dss.length ≤ 1000000)
    (hP : P (.next (some (x, .lol (dss ++ [ns.set k.toNat (i + j)]))) ρ)) (hd : (x == ("__debug__" : Str)) = false := by decide)
    (ha : ∀ ov iv new, augStore slice ov iv new = (do holding [new, ov, iv] (setItem ov iv new); release [new, ov, iv] []; pure .next) := by intro _ _ _; rfl) :
    Ex1 G cx n (some (x, .lol (dss ++ [ns]))) ρ (.AugAssign (.Subscript (.Subscript (.Name x p1) l p2) slice p3) .Add e pos) P := by
  intro A s M W Q E am st h1 h2
  refine wpAny_AugAssign_Subscript_any (ha := ha) (Subscript_ (own_at st (fun a q => ?_) hd))
  refine hone A s M W _ E am st fun mv h0' t0 k0 r0 => ?_
  obtain ⟨tm, rfl⟩ := r0
  obtain ⟨as, hp, hal, hnd, hall, hrow⟩ := (q.kp k0).lol
  have hlast : as.length = dss.length + 1 := by rw [hal]; simp
  have hb : as[dss.length]? = some (as[dss.length]'(by omega)) := List.getElem?_eq_getElem _
  generalize as[dss.length]'(by omega) = b at hb
  refine tail_any (s := { s with heap := h0', toks := t0 }) hp.isList.typeIs slot_list_getitem.lookup (wpAny_getItem_list_neg hp.isList (by omega) (by simp; omega) (by omega) (x := .ref b) ?_ ?_) (hsub _ _ _)
  · have : ((-1 : Int) + ((as.map Value.ref).toArray.size : Nat)).toNat = dss.length := by simp; omega
    rw [this]
    simpa using hb
  refine hkE A _ M W _ E am ((q.kp k0).st) fun kv h3 t3 k3 r3 => ?_
  obtain ⟨tk, rfl⟩ := r3
  dsimp only at k3
  have hrb := hrow dss.length b ns hb (by simp)
  obtain ⟨vs, hpb, hrb⟩ := hrb
  have hpb3 : h3.PlainList b vs.toArray := PlainList.kp (k3 b) hpb
  have hrb3 := hrb.kp k3
  obtain ⟨v, hv, t1, rfl⟩ := hrb3.get' (i := k.toNat) (d := .int i) (by rw [List.getElem?_map, hget]; rfl)
  refine wpAny_getItem_list (s := { s with heap := h3, toks := t3 }) hpb3.isList h0 (by omega) (by simpa using hv) ?_
  refine he A _ M W _ E am (((q.kp k0).kp k3).st) fun ev h4 t4 k4 r4 => ?_
  obtain ⟨te, rfl⟩ := r4
  refine iadd_int ?_
  dsimp only at k4
  have hpb4 : h4.PlainList b vs.toArray := PlainList.kp (k4 b) hpb3
  have hlt : k.toNat < vs.length := by
    rcases Nat.lt_or_ge k.toNat vs.length with q | q
    · exact q
    · rw [List.getElem?_eq_none q] at hv; cases hv
  refine setItem_plain (s := { s with heap := h4, toks := _ }) hpb4 h0 (by omega) (by simp; omega) fun h5 hp5 hs5 => ?_
  have q4 := ((q.kp k0).kp k3).kp k4
  obtain ⟨m, z, hk, hm, haW, haL, haC, ok⟩ := q4
  obtain ⟨hbW, hba, hbad⟩ := hall b (List.mem_of_getElem? hb)
  have off5 : Off [b] h4 h5 := same_off hs5
  have bM : ∀ c ∈ [b], c ∈ M := fun c hc => by rw [List.mem_singleton.mp hc]; exact z.sub _ hbW
  have z5 := z.turn hbW (fun e => hbad (.inl e)) (fun y c hc e => hbad (.inr ⟨y, by rw [← e]; exact hc⟩)) off5 (plain_live hp5)
  refine h1 _ _ M W h5 _ hP ((Tr.of_kp ((k0.trans k3).trans k4)).trans (Tr.turn hbW off5 (plain_live hp5))) ⟨m, z5, a, hk, hm, haW, haL, haC, as, ?_, by rw [hal]; simp, hnd, hall, ?_⟩
  · exact PlainList.kp (fun o e => off5 a o (by simpa using Ne.symm hba) (k4 _ _ (k3 _ _ e))) hp
  · intro i' c ns' e1 e2
    by_cases hi : i' < dss.length
    · rw [List.getElem?_append_left hi] at e2
      obtain ⟨us, u1, u2⟩ := hrow i' c ns' e1 (by rw [List.getElem?_append_left hi]; exact e2)
      have hcb : c ≠ b := fun e => by
        subst e
        have := (List.getElem?_inj (by omega) hnd).mp (e1.trans hb.symm)
        omega
      exact ⟨us, PlainList.kp (fun o e => off5 c o (by simpa using hcb) (k4 _ _ (k3 _ _ e))) u1, ((u2.kp k3).kp k4).off off5 bM⟩
    · have hlt2 : i' < as.length := by
        rcases Nat.lt_or_ge i' as.length with q | q
        · exact q
        · rw [List.getElem?_eq_none q] at e1; cases e1
      have e3 : i' = dss.length := by omega
      subst e3
      rw [hb] at e1
      cases e1
      simp at e2
      subst e2
      have hr' := (hrb3.kp k4).off off5 bM
      refine ⟨vs.set k.toNat (.int (i + j) t4), by simpa using hp5, RepL.of_get (by have := hrb.length; simp at this; simp [this]) fun i2 d' v' hd' hv' => ?_⟩
      rw [List.getElem?_map, List.getElem?_set] at hd'
      rw [List.getElem?_set] at hv'
      have hltd : k.toNat < ns.length := by have := hrb.length; simp at this; omega
      by_cases c : k.toNat = i2
      · rw [if_pos c, if_pos hltd] at hd'
        rw [if_pos c, if_pos hlt] at hv'
        cases hd'; cases hv'
        exact ⟨_, rfl⟩
      · rw [if_neg c] at hd' hv'
        obtain ⟨d2, hd2, r2⟩ := hr'.get hv'
        rw [List.getElem?_map] at hd2
        rw [hd'] at hd2; cases hd2
        exact r2
end
end Mine
end
section
open PySem PySem.Calls PyProof.Rows
namespace Mine

section
variable {prog : Program} {w : World} {A : Around} {E : Value → Shared → Prop} {s : Shared}
theorem adjust_to (b n : Nat) (hb : b ≤ n) : Builtin.Slice.sliceAdjust none (some (b : Int)) 1 (n : Int) = (0, (b : Int)) := by
  unfold Builtin.Slice.sliceAdjust
  have h1 : ¬ ((1 : Int) < 0) := by omega
  have h2 : ¬ ((b : Int) < 0) := by omega
  simp only [h1, h2, if_false]
  congr 1
  omega
theorem places_to (b : Nat) : Builtin.Slice.slicePlaces 0 (b : Int) 1 = b := by
  unfold Builtin.Slice.slicePlaces
  have h1 : (1 : Int) > 0 := by omega
  simp only [h1, if_true, Int.ediv_one]
  split <;> omega
theorem sliceApplied_to {sl : Addr} {b n : Nat} {u : Tok} {Q : Int × Int × Nat → Shared → Prop} (hs : s.heap.IsSliceOf sl .none (.int b u) .none) (hb : b ≤ n) (h : Q (0, 1, b) s) :
    wpAny (model prog w) A (Builtin.Slice.sliceApplied (.ref sl) (pure (n : Int))) Q E s := by
  obtain ⟨os, hos, hcs, hds⟩ := id hs
  unfold Builtin.Slice.sliceApplied Builtin.Slice.sliceFields
  refine wpAny_bind (wpAny_bind (wpAny_field hos hds (x := .none) rfl (wpAny_bind (wpAny_field hos hds (x := .int b u) rfl (wpAny_bind (wpAny_field hos hds (x := .none) rfl (wpAny_pure ?_)))))))
  refine wpAny_bind (slicePart_none ?_)
  show wpAny _ _ (if ((1 : Int) == 0) = true then _ else _) _ _ s
  rw [if_neg (by decide)]
  refine wpAny_bind (slicePart_none (wpAny_bind (slicePart_int (wpAny_bind (wpAny_pure ?_)))))
  show wpAny _ _ (match Builtin.Slice.sliceAdjust none (some (b : Int)) 1 (n : Int) with | (lo, hi) => pure (lo, (1 : Int), Builtin.Slice.slicePlaces lo hi 1)) _ _ s
  rw [adjust_to b n hb]
  show wpAny _ _ (pure ((0 : Int), (1 : Int), Builtin.Slice.slicePlaces 0 (b : Int) 1)) _ _ s
  rw [places_to b]
  exact wpAny_pure h
theorem pick_to (xs : Array Value) (b : Nat) (hb : b ≤ xs.size) : ((List.range b).filterMap fun (k : Nat) => xs[((0 : Int) + (k : Int) * 1).toNat]?).toArray = (xs.toList.take b).toArray := by
  have e : (fun (k : Nat) => xs[((0 : Int) + (k : Int) * 1).toNat]?) = fun k => xs[0 + k]? := by
    funext k
    have : ((0 : Int) + (k : Int) * 1).toNat = 0 + k := by omega
    rw [this]
  rw [e]
  have := pick_run xs 0 b
  rw [List.filterMap_map] at this
  have e2 : ((fun x => xs[x]?) ∘ fun x => 0 + x) = fun k => xs[0 + k]? := rfl
  rw [e2] at this
  rw [this]; rfl
theorem getItem_tuple_to {t sl : Addr} {items : Array Value} {b : Nat} {u : Tok} {Q : Value → Shared → Prop} (ht : s.heap.IsTuple t items) (hs : s.heap.IsSliceOf sl .none (.int b u) .none) (hb : b < items.size)
    (h : Q (.ref s.heap.objs.size) { s with heap := s.heap.push { cls := .type "tuple", data := .seq (items.toList.take b).toArray } })
    (hsz : items.size ≤ sizeLine) : wpAny (model prog w) A (getItem (.ref t) (.ref sl)) Q E s := by
  have htake : sizeOk (.seq (items.toList.take b).toArray) := by
    show (items.toList.take b).toArray.size ≤ sizeLine
    rw [List.size_toArray, List.length_take, Array.length_toList]
    omega
  obtain ⟨os, hos, hcs, hds⟩ := id hs
  have hTs : s.TypeIs (.ref sl) "slice" := ⟨os, hos, hcs⟩
  unfold getItem
  try with_reducible refine wpAny_holding ?_
  first | refine wpAny_bind (wpAny_pure ?_) | skip
  refine wpAny_bind (wpAny_sequenceKey ht.typeIs (by decide) ?_)
  refine wpAny_bind (wpAny_callSpecial?_slot (name := Str.ofString "__getitem__") ht.typeIs slot_tuple_getitem
    (wpAny_call_entry slot_tuple_getitem ht.typeIs entry_tuple_getitem ?_ (args_tuple_getitem _ _)))
  show wpAny _ _ (Builtin.Tuple.tupleItemsOf (.ref t) >>= _) _ _ s
  obtain ⟨ot, hot, hct, nt, hdt⟩ := id ht
  refine wpAny_bind ?_
  first
    | exact wpAny_tupleItemsOf ht ?_
    | (unfold Builtin.Tuple.tupleItemsOf
       show wpAny _ _ (seqItems? (.ref t) >>= _) _ _ s
       refine wpAny_bind (wpAny_seqItems hot hdt (wpAny_pure ?_)))
  refine wpAny_bind (wpAny_typeOf hTs ?_)
  rw [if_pos (by decide)]
  refine wpAny_bind (sliceApplied_to hs (Nat.le_of_lt hb) ?_)
  have hno : ¬ (((0 : Int) == 0 && (1 : Int) == 1 && b == items.size) = true) := by
    have : (b == items.size) = false := by rw [beq_eq_false_iff_ne]; omega
    rw [this]; simp
  show wpAny _ _ (if ((0 : Int) == 0 && (1 : Int) == 1 && b == items.size) = true then _ else _) _ _ s
  rw [if_neg hno, pick_to items b (Nat.le_of_lt hb)]
  first
    | exact wpAny_bind (m := Builtin.Tuple.tupleExact _) (wpAny_newObj_type (wpAny_pure ⟨_, rfl, wpAny_pure h⟩) htake)
    | exact wpAny_bind (m := Builtin.Tuple.tupleExact _) (wpAny_newObj_type (wpAny_bind (wpAny_pure (wpAny_pure ⟨_, rfl, wpAny_pure h⟩))) htake)
    | exact wpAny_bind (wpAny_bind (m := Builtin.Tuple.tupleExact _) (wpAny_newObj_type (wpAny_pure (wpAny_pure ⟨_, rfl, wpAny_pure h⟩)) htake))
    | exact wpAny_bind (wpAny_bind (m := Builtin.Tuple.tupleExact _) (wpAny_newObj_type (wpAny_pure ⟨_, rfl, wpAny_pure h⟩) htake))
end

section
variable {G : GC} {cx : Cx} {n : Nat} {ow : Ow} {ρ : Vs} {pos p fp : Pos} {e l r value slice target : Expr} {d d1 d2 : D} {P : Out → Prop} {A : Around} {x : Str} {o : OD}
  {M W : List Addr} {h h' : Heap}
theorem Ev.cutT {ds : List D} {upper : Expr} {b : Nat} (x : Ev G cx n ow ρ value (.tup ds)) (z : Ev G cx n ow ρ upper (.int b)) (hb : b < ds.length) (hz : ds.length ≤ sizeLine)
    (hs : ∀ a k : Addr, subscripted (.Slice none (some upper) none p) false (.ref a) (.ref k) = operate [.ref k, .ref a] (getItem (.ref a) (.ref k)) := by intros; with_unfolding_all rfl) :
    Ev G cx n ow ρ (.Subscript value (.Slice none (some upper) none p) pos) (.tup (ds.take b)) := by
  intro A s M W Q E a st h
  refine Subscript_ (x.to a st fun u ha t1 k1 r1 => ?_)
  refine wpAny_Slice ?_
  rw [evalPart_none]
  refine wpAny_pure ?_
  rw [evalPart_some]
  refine z.to a (st.kp k1) fun v hc t3 k3 r3 => ?_
  obtain ⟨tb, rfl⟩ := r3
  refine wpAny_pure ?_
  unfold Rep at r1
  obtain ⟨c, vs, rfl, hbm, hl, hr⟩ := r1
  have hl2 : hc.IsTuple c vs.toArray := hl.at fun o e => k3 c o e
  refine tail_any (s := { s with heap := hc.push { cls := .type "slice", data := .fields #[.none, .int b tb, .none] }, toks := t3 }) (ops := [.ref hc.objs.size, .ref c]) (Heap.IsTuple.at hl2 fun o e => Heap.get?_push_of_some _ e).typeIs slot_tuple_getitem.lookup
    (getItem_tuple_to (Heap.IsTuple.at hl2 fun o e => Heap.get?_push_of_some _ e) (Heap.IsSliceOf.new ..) (by simpa [hr.length] using hb) ?_ (by simpa [hr.length] using hz)) (hs _ _)
  have kk : Kp s.heap ((hc.push { cls := .type "slice", data := .fields #[.none, .int b tb, .none] }).push { cls := .type "tuple", data := .seq (vs.take b).toArray }) := (k1.trans k3).trans ((Kp.push _ _).trans (Kp.push _ _))
  refine h _ _ _ kk ?_
  unfold Rep
  refine ⟨_, vs.take b, rfl, ?_, ⟨_, Heap.get?_push_size _ rfl, rfl, _, rfl⟩, RepL.take b ((hr.kp k3).kp ((Kp.push _ _).trans (Kp.push _ _)))⟩
  exact new_rep (o := default) fun a ha => ((k1.trans k3).trans (Kp.push _ _)).isSome (st.live a ha)
end
end Mine
end
section
open PySem PySem.Calls PyProof.Rows
set_option maxRecDepth 100000
namespace Mine
theorem recs_len : (recsOf PySem.Challenge.pw_zn0025_01).length = 15 := by decide +kernel
noncomputable def dr (i : Nat) (h : i < 15 := by decide) : DefRec := (recsOf PySem.Challenge.pw_zn0025_01)[i]'(by rw [recs_len]; exact h)
theorem dr_mem {i : Nat} {h : i < 15} : dr i h ∈ recsOf PySem.Challenge.pw_zn0025_01 := List.getElem_mem _
theorem Fn.enter {G : GC} {n : Nat} {f : Str} {dr : DefRec} {args : List D} (ps : List Str) (hm : dr ∈ recsOf PySem.Challenge.pw_zn0025_01) (hf : dr.name = f) (hlen : args.length = ps.length)
    (hbind : ∀ (pm code doc : Value) (vs : List Value), vs.length = ps.length → bindArgs (docDef dr.name dr.params dr.body dr.scope pm code doc) ⟨vs, []⟩ = pure (ps.zip vs))
    (hnd : ps.Nodup) (hkind : ∀ x ∈ ps, dr.scope.names.lookup x = some .local ∨ dr.scope.names.lookup x = some .cell)
    (hco : dr.scope.isCoroutine = false) (hgen : dr.scope.isGenerator = false) (hk : dr.scope.kind = .function) (hndc : ((dr.scope.names.filter fun x => x.2 == .cell).map (·.1)).Nodup)
    {A : Around} {s : Shared} {MC : List Addr} {fa : Addr} {vs : List Value} {Q E : Value → Shared → Prop} (am : Amb A (n + 1)) (g : Gd G s.heap) (hg : G.mg f = some (.ref fa)) (r : RepL G MC s.heap args vs) (live : ∀ a ∈ MC, (s.heap.get? a).isSome = true)
    (body : ∀ L pm code doc h' tk M W A' (Qf : Flow → Shared → Prop) (Ef : Value → Shared → Prop), Amb A' n → St G (mkCx dr s.heap MC L fa pm code doc) M W none (args0 ps args) h' → Kp s.heap h' → (∀ a ∈ W, s.heap.get? a = none) → (∀ v s', Q v s' → Qf (.ret v) s') →
      wpAny (model G.prog G.w) A' (execs dr.body (mkCx dr s.heap MC L fa pm code doc).env) Qf Ef { s with heap := h', toks := tk }) : wpAny (model G.prog G.w) A (call (.ref fa) vs) Q E s := by
  obtain ⟨a, o, pm, code, doc, h1, h2, h3, h4⟩ := g.fn dr hm
  rw [hf, hg] at h1
  cases h1
  refine wpAny_call ?_
  have hvl : vs.length = ps.length := by rw [r.length, hlen]
  have hkeys : (ps.zip vs).map (·.1) = ps := zip_keys hvl.symm
  refine codeAny_call_cells (o := o) (fd := docDef dr.name dr.params dr.body dr.scope pm code doc) (binds := ps.zip vs) (by have := am.depth; show A.depth < 1000; omega) h2 h3 g.nolimit h4 rfl (hbind pm code doc vs hvl) rfl (fun x hx => ?_) (fun s₁ C => ?_) hco hgen hk
  · have hxp : x.1 ∈ ps := by rw [← hkeys]; exact List.mem_map_of_mem hx
    rcases hkind x.1 hxp with q | q
    · exact .inl q
    · exact .inr ⟨q, PySem.W.cellsFrom_some _ _ _ (.inl q)⟩
  obtain ⟨h', tk, rfl⟩ := C.toInCall.same
  have keep := C.toInCall.keep
  have fresh := C.toInCall.fresh
  let cx := mkCx dr s.heap MC s.heap.objs.size fa pm code doc
  let cells := cx.env.cells
  have hLne : ∀ c, s.heap.objs.size ≤ c → s.heap.get? c = none := fun c hc => Heap.get?_none_of_le hc
  have hcl : ∀ x c, (x, c) ∈ cells → s.heap.objs.size < c := fun x c hc => C.above x c hc
  have hlookup : ∀ c, c ∈ cells.map (·.2) → ∃ x, (x, c) ∈ cells := fun c hc => by
    obtain ⟨⟨x, c'⟩, hx, rfl⟩ := List.mem_map.mp hc
    exact ⟨x, hx⟩
  have hcell : ∀ x c, (x, c) ∈ cells → ∃ v, h'.IsCell c v := fun x c hc => by
    have hnd' : (cells.map (·.1)).Nodup := by
      have : ∀ (names : List (Str × NameKind)) (k : Nat) (acc : List (Str × Addr)), ((names.filter fun x => x.2 == .cell).map (·.1)).Nodup → (acc.map (·.1)).Nodup → (∀ y ∈ acc.map (·.1), y ∉ (names.filter fun x => x.2 == .cell).map (·.1)) →
          ((cellsFrom k names acc).map (·.1)).Nodup := by
        intro names
        induction names with
        | nil => intro k acc _ h _; exact h
        | cons y names ih =>
          intro k acc hn ha hd
          obtain ⟨y, kd⟩ := y
          unfold cellsFrom
          by_cases hkd : (kd == NameKind.cell) = true
          · rw [if_pos hkd]
            simp only [List.filter_cons, hkd, if_true, List.map_cons, List.nodup_cons] at hn hd
            refine ih _ _ hn.2 ?_ ?_
            · rw [List.map_cons, List.nodup_cons]
              exact ⟨fun q => (hd y q) List.mem_cons_self, ha⟩
            · intro z hz
              rw [List.map_cons] at hz
              rcases List.mem_cons.mp hz with rfl | hz
              · exact hn.1
              · exact fun q => hd z hz (List.mem_cons_of_mem _ q)
          · rw [if_neg hkd]
            have : (kd == NameKind.cell) = false := by simpa using hkd
            simp only [List.filter_cons, this] at hn hd
            exact ih _ _ hn ha hd
      exact this _ _ _ hndc (by simp) (by simp)
    have hl : cells.lookup x = some c := by
      have : ∀ (l : List (Str × Addr)), (l.map (·.1)).Nodup → (x, c) ∈ l → l.lookup x = some c := by
        intro l
        induction l with
        | nil => intro _ h; cases h
        | cons y l ih =>
          intro hn hm
          obtain ⟨y, c'⟩ := y
          rw [List.map_cons, List.nodup_cons] at hn
          rw [List.lookup_cons]
          rcases List.mem_cons.mp hm with e | hm'
          · cases e; simp
          · have : x ≠ y := fun e => hn.1 (by subst e; exact List.mem_map.mpr ⟨(x, c), hm', rfl⟩)
            have : (x == y) = false := by simpa using this
            simp only [this]
            exact ih hn.2 hm'
      exact this _ hnd' hc
    exact ⟨_, C.cell x c hl⟩
  have hnew : ∀ a ∈ (s.heap.objs.size :: cells.map (·.2)) ++ MC, a ∈ MC ∨ s.heap.get? a = none := fun a ha => by
    rcases List.mem_append.mp ha with ha | ha
    · rcases List.mem_cons.mp ha with rfl | ha
      · exact .inr (hLne _ (Nat.le_refl _))
      · obtain ⟨x, hx⟩ := hlookup a ha
        exact .inr (hLne _ (Nat.le_of_lt (hcl x a hx)))
    · exact .inl ha
  have st : St G cx ((s.heap.objs.size :: cells.map (·.2)) ++ MC) (s.heap.objs.size :: cells.map (·.2)) none (args0 ps args) h' := by
    refine ⟨bindL (envD dr s.heap.objs.size fa pm code doc).kindOf (ps.zip vs) fun _ => none, ?_, trivial⟩
    exact {
      gd := g
      keep := keep
      sub := fun a ha => List.mem_append.mpr (.inl ha)
      mc := fun a ha => List.mem_append.mpr (.inr ha)
      mcl := live
      new := fun a ha => by
        rcases List.mem_cons.mp ha with rfl | ha
        · exact hLne _ (Nat.le_refl _)
        · obtain ⟨x, hx⟩ := hlookup a ha
          exact hLne _ (Nat.le_of_lt (hcl x a hx))
      live := fun a ha => by
        rcases List.mem_append.mp ha with ha | ha
        · rcases List.mem_cons.mp ha with rfl | ha
          · obtain ⟨o, _, _, ho, _⟩ := C.toInCall.ns
            show (h'.get? _).isSome = true
            have ho' : h'.get? s.heap.objs.size = some o := ho
            rw [ho']; rfl
          · obtain ⟨x, hx⟩ := hlookup a ha
            obtain ⟨v, o, ho, _⟩ := hcell x a hx
            rw [ho]; rfl
        · obtain ⟨o, ho⟩ := Option.isSome_iff_exists.mp (live a ha)
          rw [keep a o ho]; rfl
      ns := C.toInCall.ns
      lw := List.mem_cons_self
      fn := hk
      gl := rfl
      bl := rfl
      cell := fun x c hc => ⟨⟨_, C.cell x c hc⟩, Nat.ne_of_gt (hcl x c (mem_of_lookup hc)), List.mem_append.mpr (.inl (List.mem_cons_of_mem _ (List.mem_map.mpr ⟨(x, c), mem_of_lookup hc, rfl⟩)))⟩
      inj := fun x y c hx hy => name_of_addr C.apart (mem_of_lookup hx) (mem_of_lookup hy)
      cw := fun x c _ hc => List.mem_cons_of_mem _ (List.mem_map.mpr ⟨(x, c), mem_of_lookup hc, rfl⟩)
      vars := fun x d' hx => by
        obtain ⟨v, hv, hr⟩ := lookup_rep r hx
        have hr' : Rep G ((s.heap.objs.size :: cells.map (·.2)) ++ MC) h' d' v := (hr.more hnew).kp keep
        have hxp : x ∈ ps := by rw [← hkeys]; exact lookup_mem_keys hv
        rcases hkind x hxp with q | q
        · exact .inl ⟨q, v, bindL_get _ _ _ _ _ hv (by rw [hkeys]; exact hnd) q, hr'⟩
        · have hs : (cells.lookup x).isSome = true := PySem.W.cellsFrom_some _ _ _ (.inl q)
          obtain ⟨c, hc⟩ := Option.isSome_iff_exists.mp hs
          have := C.cell x c hc
          rw [bindC_get _ _ _ _ _ hv (by rw [hkeys]; exact hnd) q] at this
          exact .inr ⟨.inl q, c, v, hc, this, hr'⟩ }
  refine body s.heap.objs.size pm code doc h' tk _ _ _ _ _ (am.deeper _) st keep ?_ ?_
  · intro a ha
    rcases List.mem_cons.mp ha with rfl | ha
    · exact hLne _ (Nat.le_refl _)
    · obtain ⟨x, hx⟩ := hlookup a ha
      exact hLne _ (Nat.le_of_lt (hcl x a hx))
  · intro v s' hq; exact hq

theorem St.hb {G : GC} {cx : Cx} {M W : List Addr} {ow : Ow} {ρ : Vs} {h h0 : Heap} (st : St G cx M W ow ρ h) (g : Gd G h0) (k : Kp h0 cx.hb) : St G { cx with hb := h0, MC := [] } M W ow ρ h := by
  obtain ⟨m, z, ok⟩ := st
  refine ⟨m, { z with
    gd := g
    keep := k.trans z.keep
    mc := fun a ha => nomatch ha
    mcl := fun a ha => nomatch ha
    new := fun a ha => by
      show h0.get? a = none
      cases e : h0.get? a with
      | none => rfl
      | some o => have := z.new a ha; rw [k a o e] at this; cases this }, ok⟩

theorem call_next {prog : Program} {w : World} {A : Around} {E : Value → Shared → Prop} {s : Shared} {I l : Addr} {i : Nat} {items : Array Value} {x : Value} {Q : Value → Shared → Prop} (hit : s.heap.IsListIter I l i) (hl : s.heap.IsList l items) (hx : items[i]? = some x)
    (hQ : ∀ h', h'.IsListIter I l (i + 1) → Heap.SameBut I s.heap h' → Q x { s with heap := h' }) : wpAny (model prog w) A (call (.builtin "next") [.ref I]) Q E s := by
  refine call_function_entry (by decide +kernel) (by decide +kernel) PySem.W.kdk_entry_next (PySem.W.kdk_args_next _) ?_
  unfold Builtin.«next»
  refine wpAny_bind (m := someArgs "next" 1 2 _) (wpAny_of_eq (a := [Value.ref I]) (by first | rfl | kernel_rfl!) ?_)
  dsimp only
  refine wpAny_bind (wpAny_specialOf (name := Str.ofString "__next__") hit.typeIs slot_listiter_next.lookup ?_)
  refine wpAny_ite_split (fun hab => absurd hab (by decide)) (fun _ => ?_)
  obtain ⟨o, ho, hc, hd⟩ := id hit
  obtain ⟨ol, hol, _, nl, hdl⟩ := hl
  refine wpAny_bind (wpAny_callSpecial?_slot (name := Str.ofString "__next__") hit.typeIs slot_listiter_next
    (wpAny_call_entry slot_listiter_next hit.typeIs entry_listiter_next ?_ (args_listiter_next _)))
  show wpAny _ _ (field (.ref I) 0 >>= _) _ _ s
  refine wpAny_bind (wpAny_field ho hd (x := .ref l) rfl ?_)
  show wpAny _ _ (if (Value.ref l == Value.none) = true then _ else _) _ _ s
  rw [if_neg (show ¬ ((Value.ref l == Value.none) = true) from Bool.false_ne_true)]
  show wpAny _ _ (field (.ref I) 1 >>= _) _ _ s
  refine wpAny_bind (wpAny_field ho hd (x := .int i 0) rfl ?_)
  show wpAny _ _ (seqItems? (.ref l) >>= _) _ _ s
  refine wpAny_bind (wpAny_seqItems hol hdl ?_)
  simp only [Int.toNat_natCast, hx]
  refine wpAny_bind (wpAny_setField ho hd (by simp) (wpAny_pure ⟨x, rfl, wpAny_pure ⟨_, rfl, hQ _ ?_ (Heap.SameBut.update ..)⟩⟩))
  exact ⟨_, Heap.get?_update_self _ ho (Obj.isFreed_of_fields (Obj.data_mapFields hd _)), (Obj.cls_mapFields ..).trans hc, by
    rw [Obj.data_mapFields hd]; simp [rawInt]⟩
theorem call_iter {prog : Program} {w : World} {A : Around} {E : Value → Shared → Prop} {s : Shared} {l : Addr} {items : Array Value} {Q : Value → Shared → Prop} (hl : s.heap.IsList l items)
    (hQ : Q (.ref s.heap.objs.size) { s with heap := s.heap.push { cls := .type "list_iterator", data := .fields #[.ref l, .int 0 0] } }) : wpAny (model prog w) A (call (.builtin "iter") [.ref l]) Q E s := by
  refine call_function_entry (by decide +kernel) (by decide +kernel) PySem.W.kdk_entry_iter (PySem.W.kdk_args_iter _) ?_
  unfold Builtin.«iter»
  refine wpAny_bind (m := someArgs "iter" 1 2 _) (wpAny_of_eq (a := [Value.ref l]) (by first | rfl | kernel_rfl!) ?_)
  show wpAny _ _ (pyIter (.ref l) >>= _) _ _ _
  refine wpAny_bind (wpAny_pyIter_list hl ?_)
  exact wpAny_pure ⟨_, rfl, hQ⟩

section
variable {G : GC} {cx : Cx} {n : Nat} {ow : Ow} {ρ : Vs} {pos p fp : Pos} {e l r value slice target : Expr} {d d1 d2 : D} {P : Out → Prop} {A : Around}
theorem EvT.int {b : Int} (he : Ev G cx n ow ρ e (.int b)) (hp : isTrue e cx.env (eval e cx.env) = (do let v ← eval e cx.env; standAt e.pos; holding [v] (truthy v)) := by rfl) : EvT G cx n ow ρ e (b != 0) := by
  intro A s M W Q E am st h
  refine wpAny_isTrue_value (he A s M W _ E am st fun v h1 t1 k1 r1 => ?_) hp
  obtain ⟨t, rfl⟩ := r1
  exact truthy_int (h h1 t1 k1)
theorem Inp.shl {a b : Int} (h0 : 0 ≤ b) (h1 : b ≤ 1000000) (ha : a.natAbs < 2 ^ 64) : Inp G n .LShift (.int a) (.int b) (.int (a * 2 ^ b.toNat)) := by
  rintro A s M _ _ Q E _ _ ⟨t, rfl⟩ ⟨u, rfl⟩ h
  exact ilshift_int_small h0 h1 ha (h _ s.heap _ (Kp.refl _) ⟨_, rfl⟩)
theorem Inp.bor {a b : Int} : Inp G n .BitOr (.int a) (.int b) (.int (Builtin.bitOr a b)) := by
  rintro A s M _ _ Q E _ _ ⟨t, rfl⟩ ⟨u, rfl⟩ h
  exact ior_int (h _ s.heap _ (Kp.refl _) ⟨_, rfl⟩)

/-- the frame of _parse_varint, its iterator at a place -/
structure VS (G : GC) (cx : Cx) (I l : Addr) (items : Array Value) (M W : List Addr) (ρ : Vs) (j : Nat) (h : Heap) : Prop where
  st : St G cx M W none ρ h
  hI : cx.hb.get? I = none
  iM : I ∈ M
  iW : I ∉ W
  lW : l ∉ W
  li : l ≠ I
  iC : ∀ y c, cx.env.cells.lookup y = some c → c ≠ I
  it : h.IsListIter I l j
  ls : h.IsList l items
theorem VS.tr {I l : Addr} {items : Array Value} {M W M' W' : List Addr} {ρ ρ' : Vs} {j : Nat} {h h' : Heap} (v : VS G cx I l items M W ρ j h) (t : Tr M W h M' W' h') (st : St G cx M' W' none ρ' h') : VS G cx I l items M' W' ρ' j h' := by
  have hIs := listIter_live v.it
  have hls : (h.get? l).isSome = true := by obtain ⟨o, e, _⟩ := v.ls; rw [e]; rfl
  refine ⟨st, v.hI, ?_, fun q => ?_, fun q => ?_, v.li, v.iC, v.it.at fun o e => t.off I o v.iW e, v.ls.at fun o e => t.off l o v.lW e⟩
  · rcases t.m2 I v.iM with q | q | q
    · exact q
    · exact absurd q v.iW
    · rw [q] at hIs; cases hIs
  · rcases t.w I q with q | q
    · exact v.iW q
    · rw [q] at hIs; cases hIs
  · rcases t.w l q with q | q
    · exact v.lW q
    · rw [q] at hls; cases hls
/-- b = next(iterator) -/
theorem next_step {I l : Addr} {items : Array Value} {M W : List Addr} {j : Nat} {x f ix : Str} {p1 p2 p3 : Pos} {b : Int} {tb : Tok} {s : Shared} {Q : Flow → Shared → Prop} {E : Value → Shared → Prop} (am : Amb A n) (v : VS G cx I l items M W ρ j s.heap)
    (hf : f = "next") (hk : cx.env.kindOf f = some .globalImplicit) (hix : ρ ix = some (.val (.ref I))) (hx : CanStore cx x) (hb : items[j]? = some (.int b tb))
    (h : ∀ h' tk, (∀ c o, c ∉ W → c ≠ I → s.heap.get? c = some o → h'.get? c = some o) → VS G cx I l items M W (upd ρ x (.int b)) (j + 1) h' → Q .next { s with heap := h', toks := tk })
    (hd : (ix == ("__debug__" : Str)) = false := by decide)
    (pa : plainArgs [.Name ix p3] cx.env := by exact ⟨_, _, rfl, rfl, fun _ => rfl⟩)
    (hst : starEach [.Name ix p3] cx.env = (false, eval (.Name ix p3) cx.env) :: starEach [] cx.env := by rfl)
    (hs : swapsWith (.Call (.Name f p2) [.Name ix p3] [] fp) (some (.Name x p1)) pos.line cx.env = pure false := by rfl) :
    wpAny (model G.prog G.w) A (exec (.Assign [.Name x p1] (.Call (.Name f p2) [.Name ix p3] [] fp) pos) cx.env) Q E s := by
  subst hf
  refine wpAny_Assign_Name (hs := hs) (wpAny_Call_Name_kw (evName_boot v.st hk (by decide) boot_next ?_ (by decide) (by decide)))
  obtain ⟨e', r', hl, he', hp'⟩ := pa
  cases hl
  refine callWith_method1 (first := []) (EvL.cons (Ev.name hix hd) EvL.nil hst A s M W fp _ E am v.st fun us h3 t3 k3 r3 => ?_) hst (hp' fp)
  obtain ⟨u, rfl, ru⟩ := r3.one
  unfold Rep at ru
  subst ru
  have v3 : VS G cx I l items M W ρ j h3 := v.tr (Tr.of_kp k3) (v.st.kp k3)
  refine call_next (s := { s with heap := h3, toks := t3 }) v3.it v3.ls hb fun h4 hit4 hs4 => ?_
  dsimp only at hs4
  have off4 : Off [I] h3 h4 := same_off hs4
  have wk : WrOk cx M W [I] := ⟨fun b hb => by rw [List.mem_singleton.mp hb]; exact v.iM, fun b hb => by rw [List.mem_singleton.mp hb]; exact v.iW, fun y c hy q => v.iC y c hy (List.mem_singleton.mp q), fun b hb => by rw [List.mem_singleton.mp hb]; exact v.hI⟩
  have st4 : St G cx M W none ρ h4 := v3.st.wr wk off4 fun b hb => by rw [List.mem_singleton.mp hb]; exact listIter_live hit4
  have v4 : VS G cx I l items M W ρ (j + 1) h4 := ⟨st4, v.hI, v.iM, v.iW, v.lW, v.li, v.iC, hit4, v3.ls.extBut hs4.extBut v.li⟩
  refine store_ok (s := { s with heap := h4, toks := t3 }) (d := .int b) st4 ⟨tb, rfl⟩ hx (Free.none x) fun h5 tk5 t5 st5 => ?_
  exact h h5 tk5 (fun c o c1 c2 e => t5.off c o c1 (off4 c o (by simpa using c2) (k3 c o e))) (v4.tr t5 st5)

/-- three octets read -/
noncomputable def vint (a b c : Int) : Int := Builtin.bitOr (Builtin.bitOr (Builtin.bitAnd a 63 * 2 ^ 6) (Builtin.bitAnd b 63) * 2 ^ 6) (Builtin.bitAnd c 63)
structure VOk (a b c : Int) : Prop where
  a1 : (Builtin.bitAnd a 64 != 0) = true
  b1 : (Builtin.bitAnd b 64 != 0) = true
  c1 : (Builtin.bitAnd c 64 != 0) = false
  s1 : (Builtin.bitAnd a 63).natAbs < 2 ^ 64
  s2 : (Builtin.bitOr (Builtin.bitAnd a 63 * 2 ^ 6) (Builtin.bitAnd b 63)).natAbs < 2 ^ 64

noncomputable abbrev vcx (h h0 : Heap) (I L fa : Addr) (pm code doc : Value) : Cx := { mkCx (dr 2) h [I] L fa pm code doc with hb := h0, MC := [] }
theorem parse_ok {A : Around} {s : Shared} {fa I l : Addr} {a b c : Int} {ta tb tc : Tok} {h0 : Heap} {Q E : Value → Shared → Prop} (am : Amb A (n + 1)) (g0 : Gd G h0) (k0 : Kp h0 s.heap) (hI0 : h0.get? I = none) (hIn : I ≠ l) (hit : s.heap.IsListIter I l 0) (hls : s.heap.IsList l #[.int a ta, .int b tb, .int c tc])
    (hg : G.mg "_parse_varint" = some (.ref fa)) (ok : VOk a b c) (hQ : ∀ t h' tk, Kp h0 h' → Q (.int (vint a b c) t) { s with heap := h', toks := tk }) : wpAny (model G.prog G.w) A (call (.ref fa) [.ref I]) Q E s := by
  have hIs := listIter_live hit
  have hls' : (s.heap.get? l).isSome = true := by obtain ⟨o, e, _⟩ := hls; rw [e]; rfl
  refine Fn.enter (n := n) (f := "_parse_varint") (dr := dr 2) (args := [.val (.ref I)]) ["iterator"] dr_mem (by rfl) rfl (fun pm code doc vs hv => by
    match vs, hv with
    | [v], _ => rfl) (by decide) (by decide +kernel) (by rfl) (by rfl) (by rfl) (by decide +kernel) am (g0.kp k0) hg (MC := [I]) (.cons (by unfold Rep; rfl) .nil) (fun x hx => by rw [List.mem_singleton.mp hx]; exact hIs) fun L pm code doc h' tk M W A' Qf Ef am' st k hW hQf => ?_
  have hIM : I ∈ M := let ⟨_, z, _⟩ := st; z.mc I (by exact List.mem_singleton.mpr rfl)
  have hIW : I ∉ W := fun q => by rw [hW I q] at hIs; cases hIs
  have hlW : l ∉ W := fun q => by rw [hW l q] at hls'; cases hls'
  have st0 := st.hb (h0 := h0) g0 k0
  have hcl0 : ∀ y c, (mkCx (dr 2) s.heap [I] L fa pm code doc).env.cells.lookup y = some c → c ≠ I := fun y c hc => nomatch hc
  have v0 : VS G (vcx s.heap h0 I L fa pm code doc) I l #[.int a ta, .int b tb, .int c tc] M W (args0 ["iterator"] [.val (.ref I)]) 0 h' := ⟨st0, hI0, hIM, hIW, hlW, hIn.symm, hcl0, hit.at fun o e => k I o e, hls.at fun o e => k l o e⟩
  show wpAny (model G.prog G.w) A' (execs (dr 2).body (vcx s.heap h0 I L fa pm code doc).env) Qf Ef _
  refine wpAny_execs_cons (next_step am' v0 rfl (by rfl) (by rfl) (.inl (by rfl)) (by rfl) fun h1 tk1 _ v1 => ?_)
  refine wpAny_execs_cons (Ex1.assign (G := G) (cx := vcx s.heap h0 I L fa pm code doc) (n := n) (P := fun o => o = .next none (upd (upd (args0 ["iterator"] [.val (.ref I)]) "b" (.int a)) "val" (.int (Builtin.bitAnd a 63)))) (Ev.bin (Ev.name (by rfl)) Ev.cint Bin.band) (.inl (by rfl)) (Free.none _) rfl (by rfl) A' _ M W _ _ am' v1.st (fun ow2 ρ2 M2 W2 h2 tk2 hp2 t2 st2 => ?_) fun d v M2 W2 h2 tk2 hp2 => nomatch hp2)
  cases hp2
  have v2 := v1.tr t2 st2
  let bs : Nat → Int := fun j => match j with | 1 => a | 2 => b | _ => c
  let vals : Nat → Int := fun j => match j with | 1 => Builtin.bitAnd a 63 | 2 => Builtin.bitOr (Builtin.bitAnd a 63 * 2 ^ 6) (Builtin.bitAnd b 63) | _ => vint a b c
  refine wpAny_execs_cons (wpAny_While ?_)
  refine codeAny_whileLoop (fun kk s' => ∃ j M W ρ h' tk, s' = { s with heap := h', toks := tk } ∧ VS G (vcx s.heap h0 I L fa pm code doc) I l #[.int a ta, .int b tb, .int c tc] M W ρ j h' ∧ ρ "iterator" = some (.val (.ref I)) ∧ ρ "b" = some (.int (bs j)) ∧ ρ "val" = some (.int (vals j)) ∧ kk = 3 - j ∧ 1 ≤ j ∧ j ≤ 3) ?_ 2
    ⟨1, M2, W2, _, h2, tk2, rfl, v2, by rfl, by rfl, by rfl, rfl, by decide, by decide⟩
  rintro kk s' ⟨j, M3, W3, ρ3, h3, tk3, rfl, v3, e1, e2, e3, rfl, hj1, hj3⟩
  refine EvT.int (G := G) (cx := vcx s.heap h0 I L fa pm code doc) (n := n) (ow := none) (ρ := ρ3) (Ev.bin (Ev.name e2) Ev.cint Bin.band) (by rfl) A' _ M3 W3 _ _ am' v3.st fun h4 tk4 k4 => ?_
  have v4 := v3.tr (Tr.of_kp k4) (v3.st.kp k4)
  have last : j = 3 → (Builtin.bitAnd (bs j) 64 != 0) = false := fun e => by rw [e]; exact ok.c1
  have more : j = 1 ∨ j = 2 → (Builtin.bitAnd (bs j) 64 != 0) = true := fun e => by
    rcases e with e | e
    · rw [e]; exact ok.a1
    · rw [e]; exact ok.b1
  by_cases hj : j = 3
  · subst hj
    rw [last rfl]
    refine wpAny_execs_nil ?_
    refine wpAny_execs_cons (wpAny_Return_some (Ev.name (G := G) (cx := vcx s.heap h0 I L fa pm code doc) (n := n) (ow := none) e3 (by decide) A' _ M3 W3 _ _ am' v4.st fun v5 h5 tk5 k5 r5 => ?_))
    obtain ⟨t5, rfl⟩ := r5
    refine hQf _ _ (hQ t5 h5 tk5 ?_)
    obtain ⟨_, z5, _⟩ := v4.st.kp k5
    exact z5.keep
  · have hj12 : j = 1 ∨ j = 2 := by omega
    rw [more hj12]
    have hb : (#[.int a ta, .int b tb, .int c tc] : Array Value)[j]? = some (.int (bs (j + 1)) (match j with | 1 => tb | _ => tc)) := by
      rcases hj12 with rfl | rfl <;> rfl
    have hsm : (vals j).natAbs < 2 ^ 64 := by
      rcases hj12 with rfl | rfl
      · exact ok.s1
      · exact ok.s2
    have hval : Builtin.bitOr (vals j * 2 ^ 6) (Builtin.bitAnd (bs (j + 1)) 63) = vals (j + 1) := by
      rcases hj12 with rfl | rfl <;> rfl
    refine wpAny_execs_cons (Ex1.aug (G := G) (cx := vcx s.heap h0 I L fa pm code doc) (n := n) (P := fun o => o = .next none (upd ρ3 "val" (.int (vals j * 2 ^ (6 : Int).toNat)))) e3 Ev.cint (Inp.shl (by decide) (by decide) hsm) (.inl (by rfl)) (Free.none _) rfl A' _ M3 W3 _ _ am' v4.st (fun ow5 ρ5 M5 W5 h5 tk5 hp5 t5 st5 => ?_) fun d v M2 W2 h2 tk2 hp2 => nomatch hp2)
    cases hp5
    have v5 := v4.tr t5 st5
    refine wpAny_execs_cons (next_step am' v5 rfl (by rfl) (by exact e1) (.inl (by rfl)) hb fun h6 tk6 _ v6 => ?_)
    refine wpAny_execs_cons (Ex1.aug (G := G) (cx := vcx s.heap h0 I L fa pm code doc) (n := n) (ρ := upd (upd ρ3 "val" (.int (vals j * 2 ^ (6 : Int).toNat))) "b" (.int (bs (j + 1)))) (P := fun o => o = .next none (upd (upd (upd ρ3 "val" (.int (vals j * 2 ^ (6 : Int).toNat))) "b" (.int (bs (j + 1)))) "val" (.int (Builtin.bitOr (vals j * 2 ^ (6 : Int).toNat) (Builtin.bitAnd (bs (j + 1)) 63))))) (by rfl) (Ev.bin (Ev.name (by rfl)) Ev.cint Bin.band) Inp.bor (.inl (by rfl)) (Free.none _) rfl A' _ M5 W5 _ _ am' v6.st (fun ow7 ρ7 M7 W7 h7 tk7 hp7 t7 st7 => ?_) fun d v M2 W2 h2 tk2 hp2 => nomatch hp2)
    cases hp7
    have v7 := v6.tr t7 st7
    refine wpAny_execs_nil ⟨3 - (j + 1), by omega, j + 1, M7, W7, _, h7, tk7, rfl, v7, by exact e1, by rfl, ?_, rfl, by omega, by omega⟩
    show some (D.int (Builtin.bitOr (vals j * 2 ^ 6) (Builtin.bitAnd (bs (j + 1)) 63))) = some (.int (vals (j + 1)))
    rw [hval]

theorem Ev.varint {e1 e2 e3 : Expr} {a b c : Int} {p1 p2 p3 p4 p5 : Pos} {fx ix : Str} (hfx : fx = "_parse_varint") (hix : ix = "iter") (hk : cx.env.kindOf fx = some .globalImplicit) (hk2 : cx.env.kindOf ix = some .globalImplicit)
    (y : EvL G cx (n + 1) ow ρ [e1, e2, e3] [.int a, .int b, .int c]) (ok : VOk a b c)
    (pa : plainArgs [.List [e1, e2, e3] p3] cx.env := by exact ⟨_, _, rfl, rfl, fun _ => rfl⟩)
    (hst : starEach [.List [e1, e2, e3] p3] cx.env = (false, eval (.List [e1, e2, e3] p3) cx.env) :: starEach [] cx.env := by rfl)
    (pa2 : plainArgs [.Call (.Name ix p2) [.List [e1, e2, e3] p3] [] p4] cx.env := by exact ⟨_, _, rfl, rfl, fun _ => rfl⟩)
    (hst2 : starEach [.Call (.Name ix p2) [.List [e1, e2, e3] p3] [] p4] cx.env = (false, eval (.Call (.Name ix p2) [.List [e1, e2, e3] p3] [] p4) cx.env) :: starEach [] cx.env := by rfl) :
    Ev G cx (n + 1) ow ρ (.Call (.Name fx p1) [.Call (.Name ix p2) [.List [e1, e2, e3] p3] [] p4] [] p5) (.int (vint a b c)) := by
  intro A s M W Q E am st h
  subst hfx hix
  obtain ⟨fa, o, pm, code, doc, h1, h2, h3, h4⟩ := st.gdh.fn (dr 2) dr_mem
  have h1' : G.mg "_parse_varint" = some (.ref fa) := h1
  refine wpAny_Call_Name_kw (evName_glob st hk h1' ?_ (by decide))
  refine callWith_def h3 ?_ hst2
  refine wpAny_items_cons (he := hst2) (wpAny_Call_Name_kw (evName_boot st hk2 (by decide) boot_iter ?_ (by decide) (by decide)))
  obtain ⟨e', r', hl, he', hp'⟩ := pa
  cases hl
  refine callWith_method1 (first := []) (wpAny_items_cons (he := hst) (wpAny_List (y A s M W p3 _ E am st fun vs h5 t5 k5 r5 => ⟨by rw [r5.length, sizeLine_eq]; simp, wpAny_items_nil ?_⟩))) hst (hp' p4)
  obtain ⟨v1, v2, v3, rfl, ⟨ta, rfl⟩, ⟨tb, rfl⟩, ⟨tc, rfl⟩⟩ := r5.three
  dsimp only
  have kp1 : Kp h5 (h5.push { cls := .type "list", data := .seq #[.int a ta, .int b tb, .int c tc] }) := Kp.push _ _
  have g1 : (h5.push { cls := .type "list", data := .seq #[.int a ta, .int b tb, .int c tc] }).get? h5.objs.size = some { cls := .type "list", data := .seq #[.int a ta, .int b tb, .int c tc] } := Heap.get?_push_size _ rfl
  have hsz6 : (h5.push { cls := .type "list", data := .seq #[.int a ta, .int b tb, .int c tc] }).objs.size = h5.objs.size + 1 := Heap.size_push ..
  show wpAny _ A (PySem.call (Value.builtin "iter") [.ref h5.objs.size]) _ E { s with heap := h5.push { cls := .type "list", data := .seq #[.int a ta, .int b tb, .int c tc] }, toks := t5 }
  generalize h5.push { cls := .type "list", data := .seq #[.int a ta, .int b tb, .int c tc] } = h6 at *
  refine call_iter (s := { s with heap := h6, toks := t5 }) (items := #[.int a ta, .int b tb, .int c tc]) ⟨_, g1, rfl, _, rfl⟩ (wpAny_items_nil ?_)
  dsimp only
  have kp2 : Kp h6 (h6.push { cls := .type "list_iterator", data := .fields #[.ref h5.objs.size, .int 0 0] }) := Kp.push _ _
  have g2 : (h6.push { cls := .type "list_iterator", data := .fields #[.ref h5.objs.size, .int 0 0] }).IsListIter h6.objs.size h5.objs.size 0 := ⟨_, Heap.get?_push_size _ rfl, rfl, rfl⟩
  refine ⟨kp2 _ _ (kp1 _ _ (k5 _ _ h2)), ?_⟩
  have hI0 : h5.get? h6.objs.size = none := by rw [hsz6]; exact Heap.get?_none_of_le (Nat.le_succ _)
  have hne : h6.objs.size ≠ h5.objs.size := by rw [hsz6]; exact Nat.succ_ne_self _
  generalize h6.push { cls := .type "list_iterator", data := .fields #[.ref h5.objs.size, .int 0 0] } = h7 at *
  refine parse_ok (n := n) (s := { s with heap := h7, toks := t5 }) (h0 := h5) am (st.kp k5).gdh (kp1.trans kp2) hI0 hne g2 ⟨_, kp2 _ _ g1, rfl, _, rfl⟩ h1' ok fun t h8 tk8 k8 => ?_
  exact h _ h8 tk8 (k5.trans k8) ⟨t, rfl⟩
end
end Mine
end
section
open PySem PySem.Calls PyProof.Rows
set_option maxRecDepth 100000
namespace Mine
noncomputable def mkCxF (fd : FuncData) (hb : Heap) (MC : List Addr) (L a : Addr) : Cx := { hb, MC, env := callEnvC fd L a, own := fun _ => true }
theorem Fn.enterF {G : GC} {n : Nat} {fd : FuncData} {bd : List Stmt} {args : List D} (ps : List Str) (hlen : args.length = ps.length)
    (hnd : ps.Nodup) (hkind : ∀ x ∈ ps, fd.scope.names.lookup x = some .local ∨ fd.scope.names.lookup x = some .cell)
    (hco : fd.scope.isCoroutine = false) (hgen : fd.scope.isGenerator = false) (hk : fd.scope.kind = .function) (hndc : ((fd.scope.names.filter fun x => x.2 == .cell).map (·.1)).Nodup)
    {A : Around} {s : Shared} {MC : List Addr} {fa : Addr} {o : Obj} {vs : List Value} {R : Result → Shared → Prop} (am : Amb A (n + 1)) (g : Gd G s.heap) (h2 : s.heap.get? fa = some o) (h3 : o.data = .func fd) (h4 : s.heap.CodeRec fd.code fd.qualname)
    (hbody : fd.body = .stmts bd) (hgl : fd.globals = mainGlobals) (hbl : fd.builtins = builtinsNs) (hclo : fd.closure = []) (hbind : bindArgs fd ⟨vs, []⟩ = pure (ps.zip vs))
    (r : RepL G MC s.heap args vs) (live : ∀ a ∈ MC, (s.heap.get? a).isSome = true)
    (body : ∀ h' tk M W A' (Qf : Flow → Shared → Prop) (Ef : Value → Shared → Prop), Amb A' n → St G (mkCxF fd s.heap MC s.heap.objs.size fa) M W none (args0 ps args) h' → Kp s.heap h' → (∀ a ∈ W, s.heap.get? a = none) →
      (∀ f s', R (.ok (.ret (match f with | .ret v => v | _ => .none))) s' → Qf f s') →
      wpAny (model G.prog G.w) A' (execs bd (mkCxF fd s.heap MC s.heap.objs.size fa).env) Qf Ef { s with heap := h', toks := tk }) : codeAny (model G.prog G.w) A (.call (.ref fa) ⟨vs, []⟩) R s := by
  have hvl : vs.length = ps.length := by rw [r.length, hlen]
  have hkeys : (ps.zip vs).map (·.1) = ps := zip_keys hvl.symm
  refine codeAny_call_cells (o := o) (fd := fd) (binds := ps.zip vs) (by have := am.depth; show A.depth < 1000; omega) h2 h3 g.nolimit h4 hbody hbind hclo (fun x hx => ?_) (fun s₁ C => ?_) hco hgen hk
  · have hxp : x.1 ∈ ps := by rw [← hkeys]; exact List.mem_map_of_mem hx
    rcases hkind x.1 hxp with q | q
    · exact .inl q
    · exact .inr ⟨q, PySem.W.cellsFrom_some _ _ _ (.inl q)⟩
  obtain ⟨h', tk, rfl⟩ := C.toInCall.same
  have keep := C.toInCall.keep
  have fresh := C.toInCall.fresh
  let cx := mkCxF fd s.heap MC s.heap.objs.size fa
  let cells := cx.env.cells
  have hLne : ∀ c, s.heap.objs.size ≤ c → s.heap.get? c = none := fun c hc => Heap.get?_none_of_le hc
  have hcl : ∀ x c, (x, c) ∈ cells → s.heap.objs.size < c := fun x c hc => C.above x c hc
  have hlookup : ∀ c, c ∈ cells.map (·.2) → ∃ x, (x, c) ∈ cells := fun c hc => by
    obtain ⟨⟨x, c'⟩, hx, rfl⟩ := List.mem_map.mp hc
    exact ⟨x, hx⟩
  have hcell : ∀ x c, (x, c) ∈ cells → ∃ v, h'.IsCell c v := fun x c hc => by
    have hnd' : (cells.map (·.1)).Nodup := by
      have : ∀ (names : List (Str × NameKind)) (k : Nat) (acc : List (Str × Addr)), ((names.filter fun x => x.2 == .cell).map (·.1)).Nodup → (acc.map (·.1)).Nodup → (∀ y ∈ acc.map (·.1), y ∉ (names.filter fun x => x.2 == .cell).map (·.1)) →
          ((cellsFrom k names acc).map (·.1)).Nodup := by
        intro names
        induction names with
        | nil => intro k acc _ h _; exact h
        | cons y names ih =>
          intro k acc hn ha hd
          obtain ⟨y, kd⟩ := y
          unfold cellsFrom
          by_cases hkd : (kd == NameKind.cell) = true
          · rw [if_pos hkd]
            simp only [List.filter_cons, hkd, if_true, List.map_cons, List.nodup_cons] at hn hd
            refine ih _ _ hn.2 ?_ ?_
            · rw [List.map_cons, List.nodup_cons]
              exact ⟨fun q => (hd y q) List.mem_cons_self, ha⟩
            · intro z hz
              rw [List.map_cons] at hz
              rcases List.mem_cons.mp hz with rfl | hz
              · exact hn.1
              · exact fun q => hd z hz (List.mem_cons_of_mem _ q)
          · rw [if_neg hkd]
            have : (kd == NameKind.cell) = false := by simpa using hkd
            simp only [List.filter_cons, this] at hn hd
            exact ih _ _ hn ha hd
      exact this _ _ _ hndc (by simp) (by simp)
    have hl : cells.lookup x = some c := by
      have : ∀ (l : List (Str × Addr)), (l.map (·.1)).Nodup → (x, c) ∈ l → l.lookup x = some c := by
        intro l
        induction l with
        | nil => intro _ h; cases h
        | cons y l ih =>
          intro hn hm
          obtain ⟨y, c'⟩ := y
          rw [List.map_cons, List.nodup_cons] at hn
          rw [List.lookup_cons]
          rcases List.mem_cons.mp hm with e | hm'
          · cases e; simp
          · have : x ≠ y := fun e => hn.1 (by subst e; exact List.mem_map.mpr ⟨(x, c), hm', rfl⟩)
            have : (x == y) = false := by simpa using this
            simp only [this]
            exact ih hn.2 hm'
      exact this _ hnd' hc
    exact ⟨_, C.cell x c hl⟩
  have hnew : ∀ a ∈ (s.heap.objs.size :: cells.map (·.2)) ++ MC, a ∈ MC ∨ s.heap.get? a = none := fun a ha => by
    rcases List.mem_append.mp ha with ha | ha
    · rcases List.mem_cons.mp ha with rfl | ha
      · exact .inr (hLne _ (Nat.le_refl _))
      · obtain ⟨x, hx⟩ := hlookup a ha
        exact .inr (hLne _ (Nat.le_of_lt (hcl x a hx)))
    · exact .inl ha
  have st : St G cx ((s.heap.objs.size :: cells.map (·.2)) ++ MC) (s.heap.objs.size :: cells.map (·.2)) none (args0 ps args) h' := by
    refine ⟨bindL (callEnvC fd s.heap.objs.size fa).kindOf (ps.zip vs) fun _ => none, ?_, trivial⟩
    exact {
      gd := g
      keep := keep
      sub := fun a ha => List.mem_append.mpr (.inl ha)
      mc := fun a ha => List.mem_append.mpr (.inr ha)
      mcl := live
      new := fun a ha => by
        rcases List.mem_cons.mp ha with rfl | ha
        · exact hLne _ (Nat.le_refl _)
        · obtain ⟨x, hx⟩ := hlookup a ha
          exact hLne _ (Nat.le_of_lt (hcl x a hx))
      live := fun a ha => by
        rcases List.mem_append.mp ha with ha | ha
        · rcases List.mem_cons.mp ha with rfl | ha
          · obtain ⟨o, _, _, ho, _⟩ := C.toInCall.ns
            show (h'.get? _).isSome = true
            have ho' : h'.get? s.heap.objs.size = some o := ho
            rw [ho']; rfl
          · obtain ⟨x, hx⟩ := hlookup a ha
            obtain ⟨v, o, ho, _⟩ := hcell x a hx
            rw [ho]; rfl
        · obtain ⟨o, ho⟩ := Option.isSome_iff_exists.mp (live a ha)
          rw [keep a o ho]; rfl
      ns := C.toInCall.ns
      lw := List.mem_cons_self
      fn := hk
      gl := hgl
      bl := hbl
      cell := fun x c hc => ⟨⟨_, C.cell x c hc⟩, Nat.ne_of_gt (hcl x c (mem_of_lookup hc)), List.mem_append.mpr (.inl (List.mem_cons_of_mem _ (List.mem_map.mpr ⟨(x, c), mem_of_lookup hc, rfl⟩)))⟩
      inj := fun x y c hx hy => name_of_addr C.apart (mem_of_lookup hx) (mem_of_lookup hy)
      cw := fun x c _ hc => List.mem_cons_of_mem _ (List.mem_map.mpr ⟨(x, c), mem_of_lookup hc, rfl⟩)
      vars := fun x d' hx => by
        obtain ⟨v, hv, hr⟩ := lookup_rep r hx
        have hr' : Rep G ((s.heap.objs.size :: cells.map (·.2)) ++ MC) h' d' v := (hr.more hnew).kp keep
        have hxp : x ∈ ps := by rw [← hkeys]; exact lookup_mem_keys hv
        rcases hkind x hxp with q | q
        · exact .inl ⟨q, v, bindL_get _ _ _ _ _ hv (by rw [hkeys]; exact hnd) q, hr'⟩
        · have hs : (cells.lookup x).isSome = true := PySem.W.cellsFrom_some _ _ _ (.inl q)
          obtain ⟨c, hc⟩ := Option.isSome_iff_exists.mp hs
          have := C.cell x c hc
          rw [bindC_get _ _ _ _ _ hv (by rw [hkeys]; exact hnd) q] at this
          exact .inr ⟨.inl q, c, v, hc, this, hr'⟩ }
  refine body h' tk _ _ _ _ _ (am.deeper _) st keep ?_ ?_
  · intro a ha
    rcases List.mem_cons.mp ha with rfl | ha
    · exact hLne _ (Nat.le_refl _)
    · obtain ⟨x, hx⟩ := hlookup a ha
      exact hLne _ (Nat.le_of_lt (hcl x a hx))
  · intro f s' hq; exact hq

theorem bind_meth {fd : FuncData} {vs : List Value} {ps : List Str} {a : Arguments} (e : fd.params = a) (h5 : fd.defaults = .none) (h6 : fd.kwdefaults = .none) (h : ∀ fd' : FuncData, fd'.params = a → fd'.defaults = .none → fd'.kwdefaults = .none → bindArgs fd' ⟨vs, []⟩ = pure (ps.zip vs)) : bindArgs fd ⟨vs, []⟩ = pure (ps.zip vs) := h fd e h5 h6

section
variable {G : GC} {cx : Cx} {n : Nat} {ow : Ow} {ρ : Vs} {pos p fp : Pos} {e l r value slice target : Expr} {d d1 d2 : D} {P : Out → Prop} {A : Around}

theorem IsOrd.inst {C : Addr} {h : Heap} {a dx : Addr} {u : Value} (x : IsOrd C h a dx u) : ∃ hs t n, PySem.W.InstAt h a { cls := .ref C, dict := some dx, data := .plain } C (some (PySem.W.dictOf [⟨hs, .str "comp_select_list" t, u⟩] n)) := by
  obtain ⟨h1, es, n, h2, hs, t, rfl⟩ := x
  exact ⟨hs, t, n, h1, rfl, rfl, h2⟩

/-- x.comp_select_list -/
theorem Ev.sel {x : Str} {p1 : Pos} {nm : Str} {ds : List D} (hnm : nm = "comp_select_list") (hx : ρ x = some (.order (.lst ds))) (hd : (x == ("__debug__" : Str)) = false := by decide) : Ev G cx n ow ρ (.Attribute (.Name x p1) nm pos) (.lst ds) := by
  intro A s M W Q E am st h
  subst hnm
  refine Attribute_name (Ev.name hx hd A s M W _ E am st fun v h1 t1 k1 r1 => ?_)
  unfold Rep at r1
  obtain ⟨a, dx, u, rfl, ha, hdx, ho, hu⟩ := r1
  obtain ⟨_, K, fI, fC, dI, dC, X, cf⟩ := (st.kp k1).gdh.cls
  obtain ⟨hs, t, m, I⟩ := ho.inst
  have hu' := hu
  unfold Rep at hu'
  obtain ⟨b, vs, rfl, _⟩ := hu'
  refine PySem.W.get_value (s := { s with heap := h1, toks := t1 }) X I (PySem.W.plainGet_of cf.pg2).1 (PySem.W.findObj_own cf.hd cf.own rfl ?_) rfl (h _ h1 _ k1 hu)
  rw [PySem.W.lookIn_dict]
  unfold PySem.W.getL
  simp [Value.isStr]

theorem amb_under {c : Code} (am : Amb A (n + 1)) (hd : (A.under c).depth ≤ A.depth + 1) (hu : (A.under c).units ≤ A.units + 19) (hh : (A.under c).handled = A.handled) : Amb (A.under c) n :=
  ⟨by rw [hh]; exact am.handled, by have := am.depth; omega, by have := am.units; omega⟩
noncomputable def mthI : Arguments × List Stmt × Scope := (mth "__init__").get (by rfl)
noncomputable def mthC : Arguments × List Stmt × Scope := (mth "compare").get (by rfl)
theorem mth_I : mth "__init__" = some mthI := by rfl
theorem mth_C : mth "compare" = some mthC := by rfl
noncomputable def fdOf (m : Arguments × List Stmt × Scope) (name qual : Str) (doc pm : Value) (an : Option Addr) (code ct : Value) : FuncData :=
  { name, qualname := qual, params := m.1, body := .stmts m.2.1, scope := m.2.2, globals := mainGlobals, closure := [], defaults := .none, kwdefaults := .none, doc, pyModule := pm, annotations := an, code, closureTuple := ct, builtins := builtinsNs }
theorem IsMeth.fd {K : PySem.W.Frag} {f : Addr} {x : Str} {fd : FuncData} {m : Arguments × List Stmt × Scope} (h : IsMeth K f x fd) (e : mth x = some m) : ∃ name qual doc pm an code ct, fd = fdOf m name qual doc pm an code ct := by
  obtain ⟨_, ⟨b, h1, h2⟩, h3, h4, h5, h6, h7, _⟩ := h
  rw [h2] at e
  cases e
  obtain ⟨name, qual, params, body, scope, globals, closure, defaults, kwdefaults, doc, pm, an, code, ct, bl⟩ := fd
  simp only at h1 h3 h4 h5 h6 h7
  subst h1 h3 h4 h5 h6 h7
  exact ⟨name, qual, doc, pm, an, code, ct, rfl⟩

theorem Ev.mkOrder {f : Str} {ds : List D} (hf : f = "TupleComp") (hk : cx.env.kindOf f = some .globalImplicit) (y : Ev G cx (n + 2) ow ρ e (.lst ds))
    (pa : plainArgs [e] cx.env := by exact ⟨_, _, rfl, rfl, fun _ => rfl⟩) (hst : starEach [e] cx.env = (false, eval e cx.env) :: starEach [] cx.env := by rfl) :
    Ev G cx (n + 2) ow ρ (.Call (.Name f fp) [e] [] pos) (.order (.lst ds)) := by
  intro A s M W Q E am st h
  subst hf
  refine wpAny_Call_Name_kw (evName_glob st hk st.gdh.cls.1 ?_ (by decide))
  obtain ⟨_, K, fI, fC, dI, dC, X, cf⟩ := st.gdh.cls
  obtain ⟨e', r', hl, he', hp'⟩ := pa
  cases hl
  refine PySem.W.callWith_K (first := []) X cf.keepC (EvL.cons y EvL.nil hst A s M W pos _ E am st fun us h1 t1 k1 r1 => ⟨X.keeps k1, ?_⟩) hst (hp' pos)
  obtain ⟨u, rfl, ru⟩ := r1.one
  have X1 := X.keeps k1
  show wpAny _ A (PySem.call (.ref G.C) [u]) Q E ⟨h1, s.gens, s.drawn, t1, s.os⟩
  refine wpAny_call (PySem.W.make_core (PySem.W.makes_of X1 cf.mkC) (PySem.W.looks_findIn X1 cf.init) (fun self => PySem.W.bind_fn X1 self cf.fnI) (.inl rfl) ?_)
  have kpa : Kp h1 (h1.push PySem.W.emptyDict) := Kp.push _ _
  have kpb : Kp (h1.push PySem.W.emptyDict) ((h1.push PySem.W.emptyDict).push (PySem.W.instObj G.C h1.objs.size)) := Kp.push _ _
  have gD : ((h1.push PySem.W.emptyDict).push (PySem.W.instObj G.C h1.objs.size)).get? h1.objs.size = some PySem.W.emptyDict := kpb _ _ (Heap.get?_push_size _ rfl)
  have gI : ((h1.push PySem.W.emptyDict).push (PySem.W.instObj G.C h1.objs.size)).get? (h1.objs.size + 1) = some (PySem.W.instObj G.C h1.objs.size) := by
    have := Heap.get?_push_size (h1.push PySem.W.emptyDict) (o := PySem.W.instObj G.C h1.objs.size) rfl
    rwa [Heap.size_push] at this
  have hsz2 : ((h1.push PySem.W.emptyDict).push (PySem.W.instObj G.C h1.objs.size)).objs.size = h1.objs.size + 2 := by rw [Heap.size_push, Heap.size_push]
  generalize (h1.push PySem.W.emptyDict).push (PySem.W.instObj G.C h1.objs.size) = h2 at *
  have kp : Kp h1 h2 := kpa.trans kpb
  obtain ⟨name, qual, doc, pm, an, code, ct, hfd⟩ := cf.mI.fd mth_I
  obtain ⟨oI, hoI, hdI⟩ := cf.mI.at_
  have g2 : Gd G h2 := (st.kp (k1.trans kp)).gdh
  have n1 : h1.get? h1.objs.size = none := Heap.get?_none_of_le (Nat.le_refl _)
  have n2 : h1.get? (h1.objs.size + 1) = none := Heap.get?_none_of_le (Nat.le_succ _)
  have hcode := PySem.W.codeRec_of (X1.keeps kp) cf.mI.code
  subst hfd
  refine Fn.enterF (n := n) (s := ⟨h2, s.gens, s.drawn, t1, s.os⟩) (args := [.val (.ref (h1.objs.size + 1)), .val u]) (MC := []) ["self", "comp_select_list"] rfl (by decide) (by show ∀ x ∈ _, mthI.2.2.names.lookup x = _ ∨ mthI.2.2.names.lookup x = _; decide +kernel) (by rfl) (by rfl) (by rfl) (by show ((mthI.2.2.names.filter _).map _).Nodup; decide +kernel) (amb_under am ?_ ?_ ?_) g2 ((X1.keeps kp) _ _ hoI) hdI hcode
    (by rfl) rfl rfl rfl (by rfl) (.cons (by unfold Rep; rfl) (.cons (by unfold Rep; rfl) .nil)) (fun a ha => nomatch ha) ?_
  · show A.depth + Code.weight _ ≤ A.depth + 1
    have : Code.weight (.builtin "type.__call__" ⟨[.ref G.C, u], []⟩) = 1 := by rfl
    exact Nat.le_of_eq (by rw [this])
  · show A.units + Code.cUnits _ ≤ A.units + 19
    have : Code.cUnits (.builtin "type.__call__" ⟨[.ref G.C, u], []⟩) = 1 := by rfl
    rw [this]; omega
  · rfl
  · intro h' tk M' W' A' Qf Ef am' st' k' hW' hQf
    -- self.comp_select_list = comp_select_list
    refine wpAny_execs_cons (plainObj_wpAny_Assign_Attribute ?_)
    refine (Ev.name (G := G) (n := n) (ρ := args0 ["self", "comp_select_list"] [.val (.ref (h1.objs.size + 1)), .val u]) (d := .val u) (by rfl)) A' _ M' W' _ _ am' st' fun v h3 t3 k3 r3 => ?_
    refine (Ev.name (G := G) (n := n) (ρ := args0 ["self", "comp_select_list"] [.val (.ref (h1.objs.size + 1)), .val u]) (d := .val (.ref (h1.objs.size + 1))) (by rfl)) A' _ M' W' _ _ am' (st'.kp k3) fun v4 h4 t4 k4 r4 => ?_
    unfold Rep at r3 r4
    subst r3 r4
    dsimp only at k' k3 k4
    obtain ⟨m4, z4, _⟩ := (st'.kp k3).kp k4
    have kAll : Kp h1 h4 := ((kp.trans k').trans k3).trans k4
    have F : Fr h1 h2.objs.size h4 m4 := ⟨z4.ns, kAll, by rw [hsz2]; exact Nat.le_add_right _ _⟩
    have nx : h4.get? (h1.objs.size + 1) = some (PySem.W.instObj G.C h1.objs.size) := k4 _ _ (k3 _ _ (k' _ _ gI))
    have nd : h4.get? h1.objs.size = some (PySem.W.dictOf [] 0) := k4 _ _ (k3 _ _ (k' _ _ gD))
    have lt1 : h1.objs.size + 1 < h2.objs.size := Heap.lt_size gI
    have lt0 : h1.objs.size < h2.objs.size := Heap.lt_size gD
    have N : News h1 h2.objs.size h4 [(h1.objs.size + 1, PySem.W.instObj G.C h1.objs.size), (h1.objs.size, PySem.W.dictOf [] 0)] := fun q hq => by
      rcases List.mem_cons.mp hq with rfl | hq
      · exact ⟨nx, Nat.ne_of_lt lt1, n2⟩
      · rw [List.mem_singleton.mp hq]
        exact ⟨nd, Nat.ne_of_lt lt0, n1⟩
    have I : PySem.W.InstAt h4 (h1.objs.size + 1) { cls := .ref G.C, dict := some h1.objs.size, data := .plain } G.C (some (PySem.W.dictOf [] 0)) := ⟨nx, rfl, rfl, nd⟩
    refine PySem.W.set_dict (s := { s with heap := h4, toks := t4 }) F X1 N I rfl cf.sa cf.po cf.tk cf.hd rfl rfl (.tail (Nat.succ_ne_self _) (.head (fun _ h => nomatch h))) (show (1 : Nat) ≤ 1000 by decide) fun h5 F5 N5 => ?_
    refine wpAny_execs_nil (hQf .next _ ⟨rfl, ?_⟩)
    refine h _ h5 _ (k1.trans F5.keep) ?_
    have hnM : ∀ j, h1.objs.size + j ∉ M := fun j q => by have := st.live _ q; rw [size_none k1 j] at this; cases this
    have hu5 : Rep G M h5 (.lst ds) v := ru.kp F5.keep
    show Rep G M h5 (.order (.lst ds)) (.ref (h1.objs.size + 1))
    rw [Rep]
    exact ⟨h1.objs.size + 1, h1.objs.size, v, rfl, hnM 1, hnM 0, ⟨(N5 _ (List.mem_cons_self)).1, _, _, (N5 _ (List.mem_cons_of_mem _ List.mem_cons_self)).1, _, _, rfl⟩, hu5⟩

noncomputable def cmpK : List (Int × Int) → List Int → List Int → Int
  | [], _, _ => 0
  | k :: r, a, b => if a.getD k.1.toNat 0 < b.getD k.1.toNat 0 then -k.2 else if b.getD k.1.toNat 0 < a.getD k.1.toNat 0 then k.2 else cmpK r a b
theorem cmpK_cons (k : Int × Int) (r : List (Int × Int)) (a b : List Int) : cmpK (k :: r) a b = if a.getD k.1.toNat 0 < b.getD k.1.toNat 0 then -k.2 else if b.getD k.1.toNat 0 < a.getD k.1.toNat 0 then k.2 else cmpK r a b := rfl
noncomputable def kD (keys : List (Int × Int)) : List D := (keys.map fun k => [D.int k.1, D.int k.2]).map .tup
theorem ent_get {a : List Int} {x : D} {c : Int} (ha : a.length = 4) (h0 : 0 ≤ c) (h4 : c < 4) : (a.map D.int ++ [x])[c.toNat]? = some (.int (a.getD c.toNat 0)) := by
  have h : c.toNat < a.length := by omega
  rw [List.getElem?_append_left (by simpa using h), List.getElem?_map, List.getElem?_eq_getElem h]
  simp [List.getD, List.getElem?_eq_getElem h]

theorem cmp_body {keys : List (Int × Int)} {a b : List Int} {x y : D} (hk : ∀ k ∈ keys, 0 ≤ k.1 ∧ k.1 < 4) (ha : a.length = 4) (hb : b.length = 4) (name qual : Str) (doc pm : Value) (an : Option Addr) (code ct : Value) (h0 : Heap) (MC : List Addr) (L fa : Addr) :
    Ex G (mkCxF (fdOf mthC name qual doc pm an code ct) h0 MC L fa) n none (args0 ["self", "left", "right"] [.order (.lst (kD keys)), .tup (a.map D.int ++ [x]), .tup (b.map D.int ++ [y])]) mthC.2.1 (fun o => o = .ret (.int (cmpK keys a b))) := by
  refine Ex.cons (Ex1.for (dss := keys.map fun k => [D.int k.1, D.int k.2]) (TG.tup (NT.cons (NT.cons NT.nil))) (EvI.listT (Ev.sel rfl (by rfl))) (fun dl hdl => ?_) ?_
    (fun i ow ρ => ow = none ∧ ρ "left" = some (.tup (a.map D.int ++ [x])) ∧ ρ "right" = some (.tup (b.map D.int ++ [y])) ∧ cmpK keys a b = cmpK (keys.drop i) a b) ⟨rfl, by rfl, by rfl, by rfl⟩ ?_ ?_ ?_)
  · obtain ⟨k, _, rfl⟩ := List.mem_map.mp hdl; rfl
  · intro z hz
    simp only [List.mem_cons, List.not_mem_nil, or_false] at hz
    rcases hz with rfl | rfl
    · exact .inl (by rfl)
    · exact .inl (by rfl)
  · rintro i ow ρ ⟨rfl, _⟩ z _; exact Free.none z
  · rintro i dl ow ρ hdl ⟨rfl, hl, hr, hc⟩
    rw [List.getElem?_map] at hdl
    cases hki : keys[i]? with
    | none => rw [hki] at hdl; cases hdl
    | some k =>
      rw [hki] at hdl
      cases hdl
      obtain ⟨k0, k4⟩ := hk k (List.mem_of_getElem? hki)
      have hdrop : keys.drop i = k :: keys.drop (i + 1) := by
        rw [List.drop_eq_getElem?_toList_append, hki]; rfl
      rw [hdrop, cmpK_cons] at hc
      refine Ex.cons (Ex1.assign (Ev.subT (k := k.1) (Ev.name hl) (Ev.name (by rfl)) k0 (by omega) (ent_get ha k0 k4)) (.inl (by rfl)) (Free.none _) ?_)
      refine Ex.cons (Ex1.assign (Ev.subT (k := k.1) (Ev.name hr) (Ev.name (by rfl)) k0 (by omega) (ent_get hb k0 k4)) (.inl (by rfl)) (Free.none _) ?_)
      refine Ex.cons (Ex1.cond (EvT.cmp (Ev.name (by rfl)) (Ev.name (by rfl)) Cmp.lt) (fun h => ?_) fun h => Ex.nil ?_)
      · have h' := of_decide_eq_true h
        rw [if_pos h'] at hc
        exact Ex.ret (Ev.neg (Ev.name (by rfl))) (show Out.ret (D.int (-k.2)) = _ by rw [hc])
      · have h' := of_decide_eq_false h
        rw [if_neg h'] at hc
        refine Ex.cons (Ex1.cond (EvT.cmp (Ev.name (by rfl)) (Ev.name (by rfl)) Cmp.gt) (fun h2 => ?_) fun h2 => Ex.nil ?_)
        · have h2' := of_decide_eq_true h2
          rw [if_pos h2'] at hc
          exact Ex.ret (Ev.name (by rfl)) (show Out.ret (D.int k.2) = _ by rw [hc])
        · have h2' := of_decide_eq_false h2
          rw [if_neg h2'] at hc
          exact Ex.nil ⟨rfl, hl, hr, hc⟩
  · rintro ow ρ ⟨rfl, _, _, hc⟩
    rw [List.length_map, List.drop_length] at hc
    exact Ex.ret Ev.cint (by rw [hc]; rfl)

theorem Ev.compare {keys : List (Int × Int)} {a b : List Int} {x y : D} {nm : Str} {e1 e2 : Expr} {apos : Pos} (hnm : nm = "compare") (hk : ∀ k ∈ keys, 0 ≤ k.1 ∧ k.1 < 4) (ha : a.length = 4) (hb : b.length = 4) (xo : Ev G cx (n + 1) ow ρ value (.order (.lst (kD keys))))
    (z : EvL G cx (n + 1) ow ρ [e1, e2] [.tup (a.map D.int ++ [x]), .tup (b.map D.int ++ [y])])
    (hst : starEach [e1, e2] cx.env = (false, eval e1 cx.env) :: starEach [e2] cx.env := by rfl) (hplain : ∀ p, (backTo p (starEach [e2] cx.env)).any (·.1) = false := by intro _; rfl)
    (hbase : attributeBase value nm cx.env (eval value cx.env) = eval value cx.env := by rfl)
    (hfew : ((backTo pos (starEach [e1, e2] cx.env)).all (fun x => !x.1) && (backToKw pos (keywordEach [] cx.env)).all (fun x => x.1.isSome)
      && decide ([e1, e2].length + ([] : List Keyword).length + (if ([] : List Keyword).isEmpty then 0 else 1) < 30)) = true := by rfl)
    (hline : (apos.endLine == pos.line) = true := by rfl) : Ev G cx (n + 1) ow ρ (.Call (.Attribute value nm apos) [e1, e2] [] pos) (.int (cmpK keys a b)) := by
  intro A s M W Q E am st h
  subst hnm
  rw [arm_eval_Call, hbase]
  refine wpAny_bind (xo A s M W _ E am st fun v h1 t1 k1 r1 => ?_)
  have r1' := r1
  unfold Rep at r1'
  obtain ⟨o, dx, u, rfl, ho, hdx, hO, hu⟩ := r1'
  obtain ⟨_, K, fI, fC, dI, dC, X, cf⟩ := (st.kp k1).gdh.cls
  obtain ⟨hs, t, m, I⟩ := hO.inst
  refine wpAny_bind (wpAny_standAt ?_)
  have hform : methodCallForm ([e1, e2].length + ([] : List Keyword).length) (backTo pos (starEach [e1, e2] cx.env)) (backToKw pos (keywordEach [] cx.env)) = true := hfew
  have hpos : methodCallPos true value cx.env apos pos = pure pos := by unfold methodCallPos; simp [hline]
  unfold methodCall
  rw [hform]
  refine wpAny_bind (wpAny_holding (PySem.W.method_fn (s := { s with heap := h1, toks := t1 }) X I (PySem.W.plainGet_of cf.pg1).1 (PySem.W.plainGet_of cf.pg1).2 cf.cmp cf.fnC ?_ ?_))
  · show (PySem.W.lookIn "compare" (PySem.W.dictOf [⟨hs, .str "comp_select_list" t, u⟩] m)).map _ = _
    rw [PySem.W.lookIn_dict]
    rfl
  refine wpAny_bind (wpAny_of_eq hpos ?_)
  refine PySem.W.callWith_K (first := [.ref o]) X cf.keepF (z A _ M W pos _ E am (st.kp k1) fun us h2 t2 k2 r2 => ⟨X.keeps k2, ?_⟩) hst (hplain pos)
  dsimp only at k2
  obtain ⟨name, qual, doc, pm, an, code, ct, hfd⟩ := cf.mC.fd mth_C
  obtain ⟨oC, hoC, hdC⟩ := cf.mC.at_
  have hcode := PySem.W.codeRec_of (X.keeps k2) cf.mC.code
  subst hfd
  obtain ⟨u1, u2, rfl, ru1, ru2⟩ := r2.two
  refine wpAny_call (Fn.enterF (n := n) (s := { s with heap := h2, toks := t2 }) (args := [.order (.lst (kD keys)), .tup (a.map D.int ++ [x]), .tup (b.map D.int ++ [y])]) (MC := M) ["self", "left", "right"] rfl (by decide) (by show ∀ x ∈ _, mthC.2.2.names.lookup x = _ ∨ mthC.2.2.names.lookup x = _; decide +kernel) (by rfl) (by rfl) (by rfl) (by show ((mthC.2.2.names.filter _).map _).Nodup; decide +kernel) am (((st.kp k1).kp k2).gdh) ((X.keeps k2) _ _ hoC) hdC hcode
    (by rfl) rfl rfl rfl (by rfl) (.cons (r1.kp k2) r2) (((st.kp k1).kp k2).live) ?_)
  intro h' tk M' W' A' Qf Ef am' st' k' hW' hQf
  refine cmp_body (G := G) (n := n) hk ha hb name qual doc pm an code ct _ _ _ _ A' _ M' W' Qf Ef am' st' (fun ow2 ρ2 M2 W2 h3 tk3 hp => nomatch hp) fun d v M2 W2 h3 tk3 hp t3 r3 => ?_
  cases hp
  obtain ⟨tv, rfl⟩ := r3
  refine hQf (.ret _) _ (h _ h3 tk3 ((k1.trans k2).trans ?_) ⟨tv, rfl⟩)
  intro c o e
  exact t3.off c o (fun q => by rw [hW' c q] at e; cases e) (k' c o e)
end
end Mine
end
section
open PySem PySem.Calls PyProof.Rows
set_option maxRecDepth 100000
namespace Mine

/-- an entry of a profile -/
structure En where
  a : Int
  b : Int
  c : Int
  w : Int
  k : List (Str × Int)
noncomputable def eD (e : En) : D := .tup [.int e.a, .int e.b, .int e.c, .int e.w, .dct e.k]
noncomputable def addStep (acc : List (Str × Int)) (p : Str × Int) : List (Str × Int) := match acc.lookup p.1 with
  | some i => stK acc p.1 (i + p.2)
  | none => stK acc p.1 p.2
noncomputable def copyK (t : List (Str × Int)) : List (Str × Int) := t.foldl (fun acc p => stK acc p.1 p.2) []
noncomputable def addC (t s : List (Str × Int)) : List (Str × Int) := s.foldl addStep (copyK t)
noncomputable def fS (t s : En) : En := ⟨s.a + t.a, s.b + t.b, s.c + t.c, s.w + t.w, addC t.k s.k⟩
theorem addStep_length (acc : List (Str × Int)) (p : Str × Int) : (addStep acc p).length ≤ acc.length + 1 := by
  unfold addStep
  split <;> exact stK_length _ _ _
theorem copy_length : ∀ (t acc : List (Str × Int)), (t.foldl (fun acc p => stK acc p.1 p.2) acc).length ≤ acc.length + t.length
  | [], acc => by simp
  | p :: r, acc => by
    have := copy_length r (stK acc p.1 p.2)
    have := stK_length acc p.1 p.2
    simp only [List.foldl_cons, List.length_cons]; omega
theorem add_length : ∀ (t acc : List (Str × Int)), (t.foldl addStep acc).length ≤ acc.length + t.length
  | [], acc => by simp
  | p :: r, acc => by
    have := add_length r (addStep acc p)
    have := addStep_length acc p
    simp only [List.foldl_cons, List.length_cons]; omega
theorem foldl_take_succ {α β : Type} (f : β → α → β) (l : List α) (i : Nat) (x : α) (b : β) (h : l[i]? = some x) : (l.take (i + 1)).foldl f b = f ((l.take i).foldl f b) x := by
  rw [List.take_add_one, h, List.foldl_append]; rfl

section
variable {G : GC} {n : Nat}
theorem sz {k : Nat} (h : k ≤ 1000000) : k ≤ sizeLine := by rw [sizeLine_eq]; omega

theorem addCallers_ok {t s : List (Str × Int)} (hz : t.length + s.length ≤ 100000) : Fn G (n + 1) "add_callers" [.dct t, .dct s] (.dct (addC t s)) := by
  refine Fn.of_body ["target", "source"] (dr_mem (i := 1) (h := by decide)) (by rfl) (by rfl) (fun pm code doc vs hv => by
    match vs, hv with
    | [_, _], _ => rfl) (by decide) (by decide +kernel) (by rfl) (by rfl) (by rfl) (by decide +kernel) fun hb MC L a pm code doc => ?_
  refine Ex.cons (Ex1.own EvO.dict (by rfl) ?_)
  refine Ex.cons (Ex1.for (dss := t.map fun p => [D.str p.1, D.int p.2]) (TG.tup (NT.cons (NT.cons NT.nil))) (EvI.items (Ev.name (by rfl))) (fun dl hdl => ?_) ?_
    (fun i ow ρ => ow = (some (("new_callers" : Str), OD.dct ((t.take i).foldl (fun acc p => stK acc p.1 p.2) [])) : Ow) ∧ ρ "source" = some (.dct s)) ⟨by rfl, by rfl⟩ ?_ ?_ ?_)
  · obtain ⟨k, _, rfl⟩ := List.mem_map.mp hdl; rfl
  · intro z hz
    simp only [List.mem_cons, List.not_mem_nil, or_false] at hz
    rcases hz with rfl | rfl
    · exact .inl (by rfl)
    · exact .inl (by rfl)
  · rintro i ow ρ ⟨rfl, _⟩ z hz
    refine Free.some fun q => ?_
    subst q
    revert hz; decide
  · rintro i dl ow ρ hdl ⟨rfl, hs⟩
    rw [List.getElem?_map] at hdl
    cases hki : t[i]? with
    | none => rw [hki] at hdl; cases hdl
    | some k =>
      rw [hki] at hdl
      cases hdl
      have hlen := copy_length (t.take i) []
      have hti : (t.take i).length ≤ t.length := by rw [List.length_take]; omega
      simp only [List.length_nil] at hlen
      refine Ex.cons (Ex1.put (Ev.name (by rfl)) (Ev.name (by rfl)) (sz (by omega)) (Ex.nil ⟨?_, hs⟩))
      rw [foldl_take_succ _ t i k [] hki]
  rintro ow ρ ⟨rfl, hs⟩
  rw [List.length_map, List.take_length]
  refine Ex.cons (Ex1.for (dss := s.map fun p => [D.str p.1, D.int p.2]) (TG.tup (NT.cons (NT.cons NT.nil))) (EvI.items (Ev.name hs)) (fun dl hdl => ?_) ?_
    (fun i ow ρ => ow = (some (("new_callers" : Str), OD.dct ((s.take i).foldl addStep (copyK t))) : Ow)) (by rfl) ?_ ?_ ?_)
  · obtain ⟨k, _, rfl⟩ := List.mem_map.mp hdl; rfl
  · intro z hz
    simp only [List.mem_cons, List.not_mem_nil, or_false] at hz
    rcases hz with rfl | rfl
    · exact .inl (by rfl)
    · exact .inl (by rfl)
  · rintro i ow ρ rfl z hz
    refine Free.some fun q => ?_
    subst q
    revert hz; decide
  · rintro i dl ow ρ hdl rfl
    rw [List.getElem?_map] at hdl
    cases hki : s[i]? with
    | none => rw [hki] at hdl; cases hdl
    | some k =>
      rw [hki] at hdl
      cases hdl
      have hlen := add_length (s.take i) (copyK t)
      have hlen2 := copy_length t []
      have hti : (s.take i).length ≤ s.length := by rw [List.length_take]; omega
      have hacc : ((s.take i).foldl addStep (copyK t)).length ≤ 100000 := by unfold copyK at *; simp only [List.length_nil] at hlen2; omega
      have hstep := foldl_take_succ addStep s i k (copyK t) hki
      generalize hg : (s.take i).foldl addStep (copyK t) = acc at *
      refine Ex.cons (Ex1.cond (EvT.inOwn (Ev.name (by rfl))) (fun h => ?_) fun h => ?_)
      · obtain ⟨j, hj⟩ := Option.isSome_iff_exists.mp h
        refine Ex.cons (Ex1.cond (EvT.isTuple (by rfl) (by rfl) (Ev.name (by rfl))) (fun h => nomatch h) fun _ => ?_)
        refine Ex.cons (Ex1.augPut (Ev.name (by rfl)) (Ev.name (by rfl)) hj (sz (by omega)) (Ex.nil (Ex.nil (Ex.nil ?_))))
        rw [hstep]
        unfold addStep
        rw [hj]
      · have hj : acc.lookup k.1 = none := by
          cases q : acc.lookup k.1 with
          | none => rfl
          | some j => rw [q] at h; cases h
        refine Ex.cons (Ex1.put (Ev.name (by rfl)) (Ev.name (by rfl)) (sz (by omega)) (Ex.nil (Ex.nil ?_)))
        rw [hstep]
        unfold addStep
        rw [hj]
  rintro ow ρ rfl
  rw [List.length_map, List.take_length]
  exact Ex.freeze (Ex.ret (Ev.name (by rfl)) rfl)
end
end Mine
end
section
open PySem PySem.Calls PyProof.Rows
set_option maxRecDepth 100000
namespace Mine
section
variable {G : GC} {n : Nat}

theorem fs_ok {t s : En} (hz : t.k.length + s.k.length ≤ 100000) : Fn G (n + 2) "add_func_stats" [eD t, eD s] (eD (fS t s)) := by
  refine Fn.of_body ["target", "source"] (dr_mem (i := 0) (h := by decide)) (by rfl) (by rfl) (fun pm code doc vs hv => by
    match vs, hv with
    | [_, _], _ => rfl) (by decide) (by decide +kernel) (by rfl) (by rfl) (by rfl) (by decide +kernel) fun h0 MC L ad pm code doc => ?_
  refine Ex.cons (Ex1.assignTup (ds := [.int s.a, .int s.b, .int s.c, .int s.w, .dct s.k]) (NT.cons (NT.cons (NT.cons (NT.cons (NT.cons NT.nil))))) (Ev.name (by rfl)) rfl (fun x hx => ⟨?_, Free.none x⟩) ?_)
  · simp only [List.mem_cons, List.not_mem_nil, or_false] at hx
    rcases hx with rfl | rfl | rfl | rfl | rfl <;> exact .inl (by rfl)
  refine Ex.cons (Ex1.assignTup (ds := [.int t.a, .int t.b, .int t.c, .int t.w, .dct t.k]) (NT.cons (NT.cons (NT.cons (NT.cons (NT.cons NT.nil))))) (Ev.name (by rfl)) rfl (fun x hx => ⟨?_, Free.none x⟩) ?_)
  · simp only [List.mem_cons, List.not_mem_nil, or_false] at hx
    rcases hx with rfl | rfl | rfl | rfl | rfl <;> exact .inl (by rfl)
  refine Ex.ret (Ev.tuple (ds := [.int (s.a + t.a), .int (s.b + t.b), .int (s.c + t.c), .int (s.w + t.w), .dct (addC t.k s.k)]) (EvL.cons (Ev.bin (Ev.name (by rfl)) (Ev.name (by rfl)) Bin.add) (EvL.cons (Ev.bin (Ev.name (by rfl)) (Ev.name (by rfl)) Bin.add) (EvL.cons (Ev.bin (Ev.name (by rfl)) (Ev.name (by rfl)) Bin.add) (EvL.cons (Ev.bin (Ev.name (by rfl)) (Ev.name (by rfl)) Bin.add) (EvL.cons ?_ EvL.nil))))) (sz (Nat.le_of_ble_eq_true rfl))) rfl
  exact Ev.call (by rfl) (dr_mem (i := 1) (h := by decide)) (by rfl) (EvL.cons (Ev.name (by rfl)) (EvL.cons (Ev.name (by rfl)) EvL.nil)) (addCallers_ok hz) ⟨_, _, rfl, rfl, fun _ => rfl⟩

theorem Ex1.assignDict {cx : Cx} {ow : Ow} {ρ : Vs} {P : Out → Prop} {kx vx target iter : Expr} {scope : Scope} {spos p pos : Pos} {xs : List Str} {x : Str} {dss : List (List D)} (fk : List D → Str) (fv : List D → Int) (tg : TG target xs) (it : EvI G cx n ow ρ iter target dss) (hl : ∀ dl ∈ dss, dl.length = xs.length) (ok : CompOk cx scope)
    (hx : ∀ x ∈ xs, ∀ h C, CanStore (compCx cx scope h C) x) (hxf : ∀ x ∈ xs, scope.names.lookup x ≠ some .free)
    (keys : ∀ dl ∈ dss, ∀ h C, Ev G (compCx cx scope h C) n Option.none (updAll (compρ ρ scope) xs dl) kx (.str (fk dl)))
    (vals : ∀ dl ∈ dss, ∀ h C, Ev G (compCx cx scope h C) n Option.none (updAll (compρ ρ scope) xs dl) vx (.int (fv dl)))
    (hz : dss.length ≤ sizeLine) (hc : CanStore cx x) (hf : Free ow x) (hP : P (.next ow (upd ρ x (.dct (kvAll fk fv dss)))))
    (hsw : swapsWith (.DictComp kx vx [⟨target, iter, [], 0⟩] scope spos) (some (.Name x p)) pos.line cx.env = pure true := by rfl)
    (hs : ∀ x, foldedSetIterable iter cx.env x = pure x := by intro _; rfl) : Ex1 G cx n ow ρ (.Assign [.Name x p] (.DictComp kx vx [⟨target, iter, [], 0⟩] scope spos) pos) P :=
  Ex1.ofComp (CompIs.dict fk fv tg it hl ok hx hxf keys vals hz hs) hc hf hP rfl hsw

/-- a list of ints -/
noncomputable abbrev iD (ns : List Int) : D := .lst (ns.map D.int)
noncomputable def wt (a b c : Int) (ws : Int × Int × Int) : Int := a * ws.1 + b * ws.2.1 + c * ws.2.2
noncomputable def ent (a b c : Int) (k : List (Str × Int)) (ws : Int × Int × Int) : En := ⟨a, b, c, wt a b c ws, k⟩
noncomputable def wsD (ws : Int × Int × Int) : D := iD [ws.1, ws.2.1, ws.2.2]
noncomputable abbrev Sm (i : Int) : Prop := i.natAbs < 2 ^ 62
theorem Sm.mul {a b : Int} (h1 : Sm a) (h2 : Sm b) : IntMulOk a b := by
  unfold Sm at *
  exact IntMulOk.of_left (Nat.le_trans (intBits_le (k := 62) h1) (by decide))
theorem entry_ok {a b c : Int} {k : List (Str × Int)} {ws : Int × Int × Int} (ha : Sm a) (hb : Sm b) (hc : Sm c) (h1 : Sm ws.1) (h2 : Sm ws.2.1) (h3 : Sm ws.2.2) : Fn G (n + 1) "_law_entry" [iD [a, b, c], .dct k, wsD ws] (eD (ent a b c k ws)) := by
  refine Fn.of_body ["row", "callers", "weights"] (dr_mem (i := 7) (h := by decide)) (by rfl) (by rfl) (fun pm code doc vs hv => by
    match vs, hv with
    | [_, _, _], _ => rfl) (by decide) (by decide +kernel) (by rfl) (by rfl) (by rfl) (by decide +kernel) fun h0 MC L ad pm code doc => ?_
  refine Ex.cons (Ex1.assign (Ev.bin (Ev.bin (Ev.bin (Ev.subL (k := 0) (Ev.name (by rfl)) Ev.cint (by decide) (by decide) (by rfl)) (Ev.subL (k := 0) (Ev.name (by rfl)) Ev.cint (by decide) (by decide) (by rfl)) (Bin.mul (Sm.mul ha h1)))
    (Ev.bin (Ev.subL (k := 1) (Ev.name (by rfl)) Ev.cint (by decide) (by decide) (by rfl)) (Ev.subL (k := 1) (Ev.name (by rfl)) Ev.cint (by decide) (by decide) (by rfl)) (Bin.mul (Sm.mul hb h2))) Bin.add)
    (Ev.bin (Ev.subL (k := 2) (Ev.name (by rfl)) Ev.cint (by decide) (by decide) (by rfl)) (Ev.subL (k := 2) (Ev.name (by rfl)) Ev.cint (by decide) (by decide) (by rfl)) (Bin.mul (Sm.mul hc h3))) Bin.add) (.inl (by rfl)) (Free.none _) ?_)
  refine Ex.ret (Ev.tuple (ds := [.int a, .int b, .int c, .int (wt a b c ws), .dct k]) (EvL.cons (Ev.subL (k := 0) (Ev.name (by rfl)) Ev.cint (by decide) (by decide) (by rfl)) (EvL.cons (Ev.subL (k := 1) (Ev.name (by rfl)) Ev.cint (by decide) (by decide) (by rfl)) (EvL.cons (Ev.subL (k := 2) (Ev.name (by rfl)) Ev.cint (by decide) (by decide) (by rfl)) (EvL.cons (Ev.name (by rfl)) (EvL.cons (Ev.name (by rfl)) EvL.nil))))) (sz (Nat.le_of_ble_eq_true rfl))) rfl

/-- what leads from the one to the other -/
noncomputable def negK (k : List (Str × Int)) : List (Str × Int) := kvAll (fun dl => match dl with | [.str x, _] => x | _ => "") (fun dl => match dl with | [_, .int i] => -i | _ => 0) (k.map fun p => [D.str p.1, D.int p.2])
noncomputable def chg (s e : En) : En := fS e ⟨-s.a, -s.b, -s.c, -s.w, negK s.k⟩
theorem negK_length (k : List (Str × Int)) : (negK k).length ≤ k.length := by
  unfold negK kvAll
  have := kvAll_length (fun dl => match dl with | [.str x, _] => x | _ => "") (fun dl => match dl with | [_, .int i] => -i | _ => 0) (k.map fun p => [D.str p.1, D.int p.2]) []
  rw [List.length_map] at this
  simpa only [List.length_nil, Nat.zero_add] using this
theorem change_ok {s e : En} (hz : s.k.length + e.k.length ≤ 1000) : Fn G (n + 3) "_law_change" [eD s, eD e] (eD (chg s e)) := by
  refine Fn.of_body ["start", "end"] (dr_mem (i := 8) (h := by decide)) (by rfl) (by rfl) (fun pm code doc vs hv => by
    match vs, hv with
    | [_, _], _ => rfl) (by decide) (by decide +kernel) (by rfl) (by rfl) (by rfl) (by decide +kernel) fun h0 MC L ad pm code doc => ?_
  refine Ex.cons (Ex1.assignTup (ds := [.int s.a, .int s.b, .int s.c, .int s.w, .dct s.k]) (NT.cons (NT.cons (NT.cons (NT.cons (NT.cons NT.nil))))) (Ev.name (by rfl)) rfl (fun x hx => ⟨?_, Free.none x⟩) ?_)
  · simp only [List.mem_cons, List.not_mem_nil, or_false] at hx
    rcases hx with rfl | rfl | rfl | rfl | rfl <;> exact .inl (by rfl)
  refine Ex.cons (Ex1.assignDict (dss := s.k.map fun p => [D.str p.1, D.int p.2]) (fun dl => match dl with | [.str x, _] => x | _ => "") (fun dl => match dl with | [_, .int i] => -i | _ => 0) (TG.tup (NT.cons (NT.cons NT.nil))) (EvI.items (Ev.name (by rfl))) ?_ ⟨by rfl, by rfl, by decide +kernel⟩ ?_ ?_ ?_ ?_ (sz (by simp; omega)) (.inl (by rfl)) (Free.none _) ?_)
  · intro dl hdl; obtain ⟨k, _, rfl⟩ := List.mem_map.mp hdl; rfl
  · intro z hz h C
    simp only [List.mem_cons, List.not_mem_nil, or_false] at hz
    rcases hz with rfl | rfl <;> exact .inl (by rfl)
  · intro z hz
    simp only [List.mem_cons, List.not_mem_nil, or_false] at hz
    rcases hz with rfl | rfl <;> decide +kernel
  · intro dl hdl h C; obtain ⟨k, _, rfl⟩ := List.mem_map.mp hdl; exact Ev.name (by rfl)
  · intro dl hdl h C; obtain ⟨k, _, rfl⟩ := List.mem_map.mp hdl; exact Ev.neg (Ev.name (by rfl))
  have hn := negK_length s.k
  refine Ex.ret (Ev.call (by rfl) (dr_mem (i := 0) (h := by decide)) (by rfl) (EvL.cons (Ev.name (by rfl)) (EvL.cons (Ev.tuple (ds := [.int (-s.a), .int (-s.b), .int (-s.c), .int (-s.w), .dct (negK s.k)]) (EvL.cons (Ev.neg (Ev.name (by rfl))) (EvL.cons (Ev.neg (Ev.name (by rfl))) (EvL.cons (Ev.neg (Ev.name (by rfl))) (EvL.cons (Ev.neg (Ev.name (by rfl))) (EvL.cons (Ev.name (by rfl)) EvL.nil))))) (sz (Nat.le_of_ble_eq_true rfl))) EvL.nil)) (fs_ok (t := e) (s := ⟨-s.a, -s.b, -s.c, -s.w, negK s.k⟩) (by show e.k.length + (negK s.k).length ≤ _; omega)) ⟨_, _, rfl, rfl, fun _ => rfl⟩) rfl

theorem row_ok {ns : List Int} : Fn G (n + 1) "_law_row" [iD ns] (iD ((List.range 3).map fun (k : Nat) => ((ns.count (k : Int) : Nat) : Int))) := by
  refine Fn.of_body ["word"] (dr_mem (i := 12) (h := by decide)) (by rfl) (by rfl) (fun pm code doc vs hv => by
    match vs, hv with
    | [v], _ => rfl) (by decide) (by decide +kernel) (by rfl) (by rfl) (by rfl) (by decide +kernel) fun h0 MC L ad pm code doc => ?_
  refine Ex.ret ?_ rfl
  refine Ev.lcomp (as := List.range 3) (fun _ => true) (fun k => .int (ns.count (k : Int) : Nat)) TG.name (EvI.range (k := 3) (by rfl) Ev.cint (by decide)) (by intro _ _; rfl) ⟨by rfl, by rfl, by decide +kernel⟩ ?_ ?_ (fun _ _ _ _ => rfl) ?_ (sz (Nat.le_of_ble_eq_true rfl)) rfl
  · intro x hx h C
    rw [List.mem_singleton.mp hx]
    exact .inl (by rfl)
  · intro x hx
    rw [List.mem_singleton.mp hx]
    decide +kernel
  · intro k hk _ h C
    exact Ev.meth (Ev.name (by rfl)) (EvL.cons (Ev.name (by rfl)) EvL.nil) CallB.count F.plainAttrs_list F.slot_list_count F.type_list_count lst_type ⟨_, _, rfl, rfl, fun _ => rfl⟩
end
end Mine
end
section
open PySem PySem.Calls PyProof.Rows
set_option maxRecDepth 100000
namespace Mine
section
variable {G : GC} {n : Nat}
noncomputable def fit (l e : En) : Bool := decide (l.a ≤ e.a) && (decide (l.b ≤ e.b) && decide (l.c ≤ e.c))
noncomputable def fitsOf (rules : List (En × En)) (e : En) : List (En × En) := rules.filter fun r => fit r.1 e
noncomputable def rD (rules : List (En × En)) : D := .lst ((rules.map fun r => [eD r.1, eD r.2]).map D.tup)
/-- an entry exchanged, so many times -/
inductive Exch (rules : List (En × En)) : Nat → En → En → Prop
  | done {e : En} : fitsOf rules e = [] → Exch rules 0 e e
  | step {e e' : En} {k : Nat} {r : En × En} {rs : List (En × En)} : fitsOf rules e = r :: rs → e.k.length + r.2.k.length ≤ 1000 → Exch rules k (fS e r.2) e' → Exch rules (k + 1) e e'

theorem exchanged_ok {rules : List (En × En)} {k : Nat} {e e' : En} (hr : rules.length ≤ 1000) (hE : Exch rules k e e') : Fn G (n + 3) "_law_exchanged" [eD e, rD rules] (eD e') := by
  refine Fn.of_body ["entry", "rules"] (dr_mem (i := 9) (h := by decide)) (by rfl) (by rfl) (fun pm code doc vs hv => by
    match vs, hv with
    | [_, _], _ => rfl) (by decide) (by decide +kernel) (by rfl) (by rfl) (by rfl) (by decide +kernel) fun h0 MC L ad pm code doc => ?_
  refine Ex.cons (Ex1.while (fun k ow ρ => ∃ e, ow = none ∧ ρ "entry" = some (eD e) ∧ ρ "rules" = some (rD rules) ∧ Exch rules k e e') ?_ k ⟨e, rfl, by rfl, by rfl, hE⟩)
  rintro k ow ρ ⟨e, rfl, h1, h2, hX⟩
  refine ⟨true, EvT.true, fun _ => ?_, fun h => nomatch h⟩
  refine Ex.cons (Ex1.own (EvO.list EvL.nil (sz (Nat.le_of_ble_eq_true rfl))) (by rfl) ?_)
  refine Ex.cons (Ex1.for (dss := rules.map fun r => [eD r.1, eD r.2]) (TG.tup (NT.cons (NT.cons NT.nil))) (EvI.listT (Ev.name (by exact h2))) (fun dl hdl => ?_) ?_
    (fun i ow ρ => ow = (some (("fits" : Str), OD.lst ((fitsOf (rules.take i) e).map fun r => eD r.2)) : Ow) ∧ ρ "entry" = some (eD e) ∧ ρ "rules" = some (rD rules)) ⟨by rfl, by exact h1, by exact h2⟩ ?_ ?_ ?_)
  · obtain ⟨k, _, rfl⟩ := List.mem_map.mp hdl; rfl
  · intro z hz
    simp only [List.mem_cons, List.not_mem_nil, or_false] at hz
    rcases hz with rfl | rfl
    · exact .inl (by rfl)
    · exact .inl (by rfl)
  · rintro i ow ρ ⟨rfl, _⟩ z hz
    refine Free.some fun q => ?_
    subst q
    revert hz; decide
  · rintro i dl ow ρ hdl ⟨rfl, g1, g2⟩
    rw [List.getElem?_map] at hdl
    cases hki : rules[i]? with
    | none => rw [hki] at hdl; cases hdl
    | some r =>
      rw [hki] at hdl
      cases hdl
      have hlen : (fitsOf (rules.take i) e).length ≤ 1000 := by
        have e1 := List.length_filter_le (fun r => fit r.1 e) (rules.take i)
        have e2 : (rules.take i).length ≤ rules.length := by rw [List.length_take]; omega
        unfold fitsOf; omega
      have hnext : fitsOf (rules.take (i + 1)) e = fitsOf (rules.take i) e ++ (if fit r.1 e then [r] else []) := by
        unfold fitsOf
        rw [List.take_add_one, hki, List.filter_append]
        cases hf : fit r.1 e <;> simp [hf]
      refine Ex.cons (Ex1.cond (b := fit r.1 e) (EvT.and3 (EvT.cmp (Ev.subT (ds := [.int e.a, .int e.b, .int e.c, .int e.w, .dct e.k]) (k := 0) (Ev.name (by exact g1)) Ev.cint (by decide) (by decide) (by rfl)) (Ev.subT (ds := [.int r.1.a, .int r.1.b, .int r.1.c, .int r.1.w, .dct r.1.k]) (k := 0) (Ev.name (by rfl)) Ev.cint (by decide) (by decide) (by rfl)) Cmp.ge)
        (EvT.cmp (Ev.subT (ds := [.int e.a, .int e.b, .int e.c, .int e.w, .dct e.k]) (k := 1) (Ev.name (by exact g1)) Ev.cint (by decide) (by decide) (by rfl)) (Ev.subT (ds := [.int r.1.a, .int r.1.b, .int r.1.c, .int r.1.w, .dct r.1.k]) (k := 1) (Ev.name (by rfl)) Ev.cint (by decide) (by decide) (by rfl)) Cmp.ge)
        (EvT.cmp (Ev.subT (ds := [.int e.a, .int e.b, .int e.c, .int e.w, .dct e.k]) (k := 2) (Ev.name (by exact g1)) Ev.cint (by decide) (by decide) (by rfl)) (Ev.subT (ds := [.int r.1.a, .int r.1.b, .int r.1.c, .int r.1.w, .dct r.1.k]) (k := 2) (Ev.name (by rfl)) Ev.cint (by decide) (by decide) (by rfl)) Cmp.ge)) (fun h => ?_) fun h => ?_)
      · refine Ex.cons (Ex1.append (Ev.name (by rfl)) (sz (by rw [List.length_map]; omega)) (Ex.nil (Ex.nil ⟨?_, g1, g2⟩)))
        rw [hnext, h, if_pos rfl, List.map_append]; rfl
      · refine Ex.nil (Ex.nil ⟨?_, g1, g2⟩)
        rw [hnext, h]; simp
  rintro ow ρ ⟨rfl, g1, g2⟩
  rw [List.length_map, List.take_length]
  refine Ex.freeze ?_
  refine Ex.cons (Ex1.cond (EvT.cmp (Ev.name (by rfl)) (Ev.list EvL.nil (sz (Nat.le_of_ble_eq_true rfl))) Cmp.eqNil) (fun h => ?_) fun h => ?_)
  · have hnil : fitsOf rules e = [] := by simpa using h
    cases hX with
    | done _ => exact Ex.ret (Ev.name (by exact g1)) rfl
    | step q _ _ => rw [q] at hnil; cases hnil
  · cases hX with
    | done q => rw [q] at h; cases h
    | step q hk hX' =>
      rename_i k r rs
      refine Ex.nil ?_
      refine Ex.cons (Ex1.assign (Ev.call (by rfl) (dr_mem (i := 0) (h := by decide)) (by rfl) (EvL.cons (Ev.name (by exact g1)) (EvL.cons (Ev.subL (k := 0) (d := eD r.2) (Ev.name (by rfl)) Ev.cint (by decide) (by decide) (by rw [q]; rfl)) EvL.nil)) (fs_ok (t := e) (s := r.2) (by omega)) ⟨_, _, rfl, rfl, fun _ => rfl⟩) (.inl (by rfl)) (Free.none _) ?_)
      exact Ex.nil ⟨k, Nat.lt_succ_self _, fS e r.2, rfl, by rfl, by exact g2, hX'⟩
end
end Mine
end
section
open PySem PySem.Calls PyProof.Rows
set_option maxRecDepth 100000
namespace Mine
section
variable {G : GC} {n : Nat}

noncomputable def colOf (m : Int) : Nat → Int
  | 0 => 3
  | 1 => m.fmod 3
  | _ => (m + 1 + (m.fdiv 3).fmod 2).fmod 3
noncomputable def wayOf (m : Int) (k : Nat) : Int := 1 - 2 * ((m.fdiv (6 * 2 ^ k)).fmod 2)
noncomputable def keysOf (m : Int) : List (Int × Int) := (List.range 3).map fun k => (colOf m k, wayOf m k)
theorem keys_ok {m : Int} : Fn G (n + 1) "_law_keys" [.int m] (.lst (kD (keysOf m))) := by
  refine Fn.of_body ["number"] (dr_mem (i := 5) (h := by decide)) (by rfl) (by rfl) (fun pm code doc vs hv => by
    match vs, hv with
    | [_], _ => rfl) (by decide) (by decide +kernel) (by rfl) (by rfl) (by rfl) (by decide +kernel) fun h0 MC L ad pm code doc => ?_
  refine Ex.cons (Ex1.assign (Ev.list (ds := [.int (colOf m 0), .int (colOf m 1), .int (colOf m 2)]) (EvL.cons Ev.cint (EvL.cons (Ev.bin (Ev.name (by rfl)) Ev.cint (Bin.mod (by decide))) (EvL.cons (Ev.bin (Ev.bin (Ev.bin (Ev.name (by rfl)) Ev.cint Bin.add) (Ev.bin (Ev.bin (Ev.name (by rfl)) Ev.cint (Bin.fdiv (by decide) (by decide))) Ev.cint (Bin.mod (by decide))) Bin.add) Ev.cint (Bin.mod (by decide))) EvL.nil))) (sz (Nat.le_of_ble_eq_true rfl))) (.inr ⟨by rfl, by rfl, by rfl⟩) (Free.none _) ?_)
  refine Ex.ret ?_ rfl
  refine Ev.lcomp (as := List.range 3) (fun _ => true) (fun k => .tup [.int (colOf m k), .int (wayOf m k)]) TG.name (EvI.range (k := 3) (by rfl) Ev.cint (by decide)) (by intro _ _; rfl) ⟨by rfl, by rfl, by decide +kernel⟩ ?_ ?_ (fun _ _ _ _ => rfl) ?_ (sz (by decide)) (by rfl)
  · intro x hx h C
    rw [List.mem_singleton.mp hx]
    exact .inl (by rfl)
  · intro x hx
    rw [List.mem_singleton.mp hx]
    decide +kernel
  · intro k hk _ h C
    have h3 : k = 0 ∨ k = 1 ∨ k = 2 := by have := List.mem_range.mp hk; omega
    have hp : ((2 : Int) ^ ((k : Nat) : Int).toNat) = 2 ^ k := by simp
    have hne : (6 * (2 : Int) ^ k) ≠ 0 := by rcases h3 with rfl | rfl | rfl <;> decide
    have hsm : (6 * (2 : Int) ^ k).natAbs < 1073741824 := by rcases h3 with rfl | rfl | rfl <;> decide
    refine Ev.tuple (EvL.cons (Ev.subL (k := (k : Int)) (Ev.name (by rfl)) (Ev.name (by rfl)) (by omega) (by omega) (by rcases h3 with rfl | rfl | rfl <;> rfl)) (EvL.cons (Ev.bin Ev.cint (Ev.bin Ev.cint (Ev.bin (Ev.bin (Ev.name (by rfl)) (Ev.bin (d2 := .int (2 ^ k)) Ev.cint (Ev.bin (d := .int (2 ^ k)) Ev.cint (Ev.name (by rfl)) (by rw [← hp]; exact Bin.pow (by omega) (by omega) (by decide))) (Bin.mul (Sm.mul (by decide) (by rcases h3 with rfl | rfl | rfl <;> decide)))) (Bin.fdiv hne hsm)) Ev.cint (Bin.mod (by decide))) (Bin.mul (Sm.mul (by decide) ?_))) Bin.sub) EvL.nil)) (sz (Nat.le_of_ble_eq_true rfl))
    unfold Sm
    have h1 := Int.fmod_nonneg_of_pos (m.fdiv (6 * 2 ^ k)) (b := 2) (by decide)
    have h2 := Int.fmod_lt_of_pos (m.fdiv (6 * 2 ^ k)) (b := 2) (by decide)
    omega

/-- an entry's number in an order -/
noncomputable def enGet (e : En) (c : Int) : Int := [e.a, e.b, e.c, e.w].getD c.toNat 0
noncomputable def fig (e : En) (k : Int × Int) : Int := if 0 < k.2 then enGet e k.1 else 63 - enGet e k.1
noncomputable def numK (k0 k1 k2 : Int × Int) (e : En) : Int := vint (fig e k0 + 64) (fig e k1 + 192) (fig e k2)
theorem number_ok {k0 k1 k2 : Int × Int} {e : En} (hk : ∀ k ∈ [k0, k1, k2], 0 ≤ k.1 ∧ k.1 < 4) (ok : VOk (fig e k0 + 64) (fig e k1 + 192) (fig e k2)) : Fn G (n + 2) "_law_number" [eD e, .lst (kD [k0, k1, k2])] (.int (numK k0 k1 k2 e)) := by
  refine Fn.of_body ["entry", "keys"] (dr_mem (i := 11) (h := by decide)) (by rfl) (by rfl) (fun pm code doc vs hv => by
    match vs, hv with
    | [_, _], _ => rfl) (by decide) (by decide +kernel) (by rfl) (by rfl) (by rfl) (by decide +kernel) fun h0 MC L ad pm code doc => ?_
  refine Ex.cons (Ex1.assignComp (as := [k0, k1, k2]) (dl := fun k => [D.int k.1, D.int k.2]) (d := iD [fig e k0, fig e k1, fig e k2]) (fun _ => true) (fun k => .int (fig e k)) (TG.tup (NT.cons (NT.cons NT.nil))) (EvI.listT (Ev.name (by rfl))) (fun _ _ => rfl) ⟨by rfl, by rfl, by decide +kernel⟩ ?_ ?_ (fun _ _ _ _ => rfl) ?_ (sz (Nat.le_of_ble_eq_true rfl)) (by rfl) (.inl (by rfl)) (Free.none _) ?_)
  · intro z hz h C
    simp only [List.mem_cons, List.not_mem_nil, or_false] at hz
    rcases hz with rfl | rfl <;> exact .inl (by rfl)
  · intro z hz
    simp only [List.mem_cons, List.not_mem_nil, or_false] at hz
    rcases hz with rfl | rfl <;> decide +kernel
  · intro k hkm _ h C
    obtain ⟨h1, h2⟩ := hk k hkm
    refine Ev.ifexp (b := decide (0 < k.2)) (EvT.cmp (Ev.name (by rfl)) Ev.cint Cmp.gt) (fun hb => ?_) (fun hb => ?_)
    · have hb' := of_decide_eq_true hb
      unfold fig
      rw [if_pos hb']
      exact Ev.subT (ds := [e.a, e.b, e.c, e.w].map D.int ++ [.dct e.k]) (k := k.1) (Ev.name (by rfl)) (Ev.name (by rfl)) h1 (by omega) (ent_get rfl h1 h2)
    · have hb' := of_decide_eq_false hb
      unfold fig
      rw [if_neg hb']
      exact Ev.bin Ev.cint (Ev.subT (ds := [e.a, e.b, e.c, e.w].map D.int ++ [.dct e.k]) (k := k.1) (Ev.name (by rfl)) (Ev.name (by rfl)) h1 (by omega) (ent_get rfl h1 h2)) Bin.sub
  refine Ex.ret (Ev.varint (by rfl) (by rfl) (by rfl) (by rfl) (EvL.cons (Ev.bin (Ev.subL (k := 0) (Ev.name (by rfl)) Ev.cint (by decide) (by decide) (by rfl)) Ev.cint Bin.add) (EvL.cons (Ev.bin (Ev.subL (k := 1) (Ev.name (by rfl)) Ev.cint (by decide) (by decide) (by rfl)) Ev.cint Bin.add) (EvL.cons (Ev.subL (k := 2) (Ev.name (by rfl)) Ev.cint (by decide) (by decide) (by rfl)) EvL.nil))) ok) rfl
end
end Mine
end
section
open PySem PySem.Calls PyProof.Rows
set_option maxRecDepth 100000
namespace Mine
section
variable {G : GC} {n : Nat}

/-- the numbers drawn -/
noncomputable def drawStep (acc : List Int) (x : Int × Nat) : List Int := acc.set (x.2 % 5) (acc.getD (x.2 % 5) 0 + x.1.fmod 1000000)
noncomputable def drawOf (ns : List Int) : List Int := ((ns.take 20).zipIdx).foldl drawStep [75, 58, 63, 0, 0]
theorem drawStep_length (acc : List Int) (x : Int × Nat) : (drawStep acc x).length = acc.length := by simp [drawStep]
theorem drawFold_length : ∀ (l : List (Int × Nat)) (acc : List Int), (l.foldl drawStep acc).length = acc.length
  | [], acc => rfl
  | x :: r, acc => by rw [List.foldl_cons, drawFold_length r, drawStep_length]
theorem draw_ok {ns : List Int} (hz : ns.length ≤ 63) : Fn G (n + 1) "_law_draw" [iD ns] (iD (drawOf ns)) := by
  refine Fn.of_body ["script"] (dr_mem (i := 3) (h := by decide)) (by rfl) (by rfl) (fun pm code doc vs hv => by
    match vs, hv with
    | [_], _ => rfl) (by decide) (by decide +kernel) (by rfl) (by rfl) (by rfl) (by decide +kernel) fun h0 MC L ad pm code doc => ?_
  refine Ex.cons (Ex1.own (EvO.list (ds := [.int 75, .int 58, .int 63, .int 0, .int 0]) (EvL.cons Ev.cint (EvL.cons Ev.cint (EvL.cons Ev.cint (EvL.cons Ev.cint (EvL.cons Ev.cint EvL.nil))))) (sz (Nat.le_of_ble_eq_true rfl))) (by rfl) ?_)
  refine Ex.cons (Ex1.for (dss := (cut (ns.map D.int) none (some 20)).zipIdx.map fun x => [D.int (x.2 : Nat), x.1]) (TG.tup (NT.cons (NT.cons NT.nil))) (EvI.enumerate (by rfl) (Ev.cutL (Ev.name (by rfl)) EvP.none (EvP.some Ev.cint) trivial (by show (0 : Int) ≤ 20; decide) (.inl rfl) (sz (by rw [List.length_map]; omega)))) (fun dl hdl => ?_) ?_
    (fun i ow ρ => ow = (some (("draw" : Str), OD.lst ((((ns.take 20).zipIdx.take i).foldl drawStep [75, 58, 63, 0, 0]).map D.int)) : Ow)) (by rfl) ?_ ?_ ?_)
  · obtain ⟨k, _, rfl⟩ := List.mem_map.mp hdl; rfl
  · intro z hz
    simp only [List.mem_cons, List.not_mem_nil, or_false] at hz
    rcases hz with rfl | rfl
    · exact .inl (by rfl)
    · exact .inl (by rfl)
  · rintro i ow ρ rfl z hz
    refine Free.some fun q => ?_
    subst q
    revert hz; decide
  · rintro i dl ow ρ hdl rfl
    have hcut : cut (ns.map D.int) none (some 20) = (ns.take 20).map D.int := by show (ns.map D.int).take 20 = _; rw [List.map_take]
    rw [hcut, List.getElem?_map, List.getElem?_zipIdx, List.getElem?_map] at hdl
    cases hki : (ns.take 20)[i]? with
    | none => rw [hki] at hdl; cases hdl
    | some v =>
      rw [hki] at hdl
      have hdl' : dl = [.int (i : Nat), .int v] := by
        simp only [Option.map_some, Nat.zero_add, Option.some.injEq] at hdl
        exact hdl.symm
      subst hdl'
      have hi20 : i < 20 := by
        rcases Nat.lt_or_ge i 20 with q | q
        · exact q
        · rw [List.getElem?_eq_none (by rw [List.length_take]; omega)] at hki; cases hki
      have hz' : (ns.take 20).zipIdx[i]? = some (v, i) := by rw [List.getElem?_zipIdx, hki]; simp
      have hstep := foldl_take_succ (fun acc x => drawStep acc x) (ns.take 20).zipIdx i (v, i) [75, 58, 63, 0, 0] hz'
      have hlen := drawFold_length ((ns.take 20).zipIdx.take i) [75, 58, 63, 0, 0]
      generalize hacc : ((ns.take 20).zipIdx.take i).foldl drawStep [75, 58, 63, 0, 0] = acc at *
      have hmod : ((i : Nat) : Int).fmod 5 = ((i % 5 : Nat) : Int) := by
        rw [Int.fmod_eq_emod_of_nonneg _ (by decide)]; rfl
      have h5 : i % 5 < acc.length := by rw [hlen]; exact Nat.mod_lt _ (by decide)
      have hget : (acc.map D.int)[(((i : Nat) : Int).fmod 5).toNat]? = some (.int (acc.getD (i % 5) 0)) := by
        rw [hmod, Int.toNat_natCast, List.getElem?_map, List.getElem?_eq_getElem h5]
        simp [List.getD, List.getElem?_eq_getElem h5]
      refine Ex.cons (Ex1.augItem (Ev.bin (Ev.name (by rfl)) Ev.cint (Bin.mod (by decide))) (Ev.bin (Ev.name (by rfl)) Ev.cint (Bin.mod (by decide))) (by rw [hmod]; omega) (by rw [hmod]; omega) hget (Ex.nil ?_))
      rw [hstep]
      unfold drawStep
      rw [hmod, Int.toNat_natCast, List.map_set]
  rintro ow ρ rfl
  refine Ex.freeze (Ex.ret (Ev.name (by rfl)) ?_)
  have hcut : cut (ns.map D.int) none (some 20) = (ns.take 20).map D.int := by show (ns.map D.int).take 20 = _; rw [List.map_take]
  have hl : ((cut (ns.map D.int) none (some 20)).zipIdx.map fun x => [D.int (x.2 : Nat), x.1]).length = (ns.take 20).zipIdx.length := by rw [hcut]; simp
  rw [hl, List.take_length]
  rfl

/-- three signs -/
noncomputable def allSigns : List Nat := [40, 41, 91, 93, 44, 59, 123, 125, 126]
structure SgS where
  m : Int
  left : List Nat
  ch : List Nat
noncomputable def sgStep (s : SgS) (size : Nat) : SgS := ⟨s.m.fdiv size, s.left.eraseIdx (s.m.fmod size).toNat, s.ch ++ [s.left.getD (s.m.fmod size).toNat 0]⟩
noncomputable def signsOf (m : Int) : List Nat := ([9, 8, 7].foldl sgStep ⟨m, allSigns, []⟩).ch
theorem sg_len (m : Int) : ∀ i, i ≤ 3 → (([9, 8, 7].take i).foldl sgStep ⟨m, allSigns, []⟩).left.length = 9 - i ∧ (([9, 8, 7].take i).foldl sgStep ⟨m, allSigns, []⟩).ch.length = i := by
  have lt : ∀ (x : Int) (k : Nat), 0 < k → (x.fmod k).toNat < k := fun x k hk => by
    have h1 := Int.fmod_nonneg_of_pos x (b := (k : Int)) (by omega)
    have h2 := Int.fmod_lt_of_pos x (b := (k : Int)) (by omega)
    omega
  have step : ∀ (s : SgS) (k : Nat), 0 < k → s.left.length = k → (sgStep s k).left.length = k - 1 ∧ (sgStep s k).ch.length = s.ch.length + 1 := fun s k hk hl => by
    unfold sgStep
    refine ⟨?_, by simp⟩
    rw [List.length_eraseIdx, if_pos (by rw [hl]; exact lt _ _ hk), hl]
  intro i hi
  match i, hi with
  | 0, _ => exact ⟨rfl, rfl⟩
  | 1, _ => exact step _ 9 (by decide) rfl
  | 2, _ => exact step _ 8 (by decide) (step ⟨m, allSigns, []⟩ 9 (by decide) rfl).1 |>.imp id fun h => by rw [show ([9, 8, 7].take 2).foldl sgStep ⟨m, allSigns, []⟩ = sgStep (sgStep ⟨m, allSigns, []⟩ 9) 8 from rfl, h, (step ⟨m, allSigns, []⟩ 9 (by decide) rfl).2]; rfl
  | 3, _ =>
    have e1 := step ⟨m, allSigns, []⟩ 9 (by decide) rfl
    have e2 := step _ 8 (by decide) e1.1
    have e3 := step _ 7 (by decide) e2.1
    exact ⟨e3.1, by rw [show ([9, 8, 7].take 3).foldl sgStep ⟨m, allSigns, []⟩ = sgStep (sgStep (sgStep ⟨m, allSigns, []⟩ 9) 8) 7 from rfl, e3.2, e2.2, e1.2]; rfl⟩
theorem signs_ok {m : Int} : Fn G (n + 1) "_law_signs" [.int m] (.str (T (signsOf m))) := by
  refine Fn.of_body ["number"] (dr_mem (i := 4) (h := by decide)) (by rfl) (by rfl) (fun pm code doc vs hv => by
    match vs, hv with
    | [_], _ => rfl) (by decide) (by decide +kernel) (by rfl) (by rfl) (by rfl) (by decide +kernel) fun h0 MC L ad pm code doc => ?_
  refine Ex.cons (Ex1.assign (d := .str (T allSigns)) Ev.cstr (.inl (by rfl)) (Free.none _) ?_)
  refine Ex.cons (Ex1.assign (d := .str (T [])) Ev.cstr (.inl (by rfl)) (Free.none _) ?_)
  refine Ex.cons (Ex1.for (dss := [9, 8, 7].map fun (k : Nat) => [D.int (k : Int)]) TG.name (EvI.tuple (ds := [.int 9, .int 8, .int 7]) (Ev.tuple (EvL.cons Ev.cint (EvL.cons Ev.cint (EvL.cons Ev.cint EvL.nil))) (sz (Nat.le_of_ble_eq_true rfl)))) (fun dl hdl => ?_) ?_
    (fun i ow ρ => ow = none ∧ ρ "number" = some (.int (([9, 8, 7].take i).foldl sgStep ⟨m, allSigns, []⟩).m) ∧ ρ "left" = some (.str (T (([9, 8, 7].take i).foldl sgStep ⟨m, allSigns, []⟩).left)) ∧ ρ "chosen" = some (.str (T (([9, 8, 7].take i).foldl sgStep ⟨m, allSigns, []⟩).ch))) ⟨rfl, by rfl, by rfl, by rfl⟩ ?_ ?_ ?_)
  · obtain ⟨k, _, rfl⟩ := List.mem_map.mp hdl; rfl
  · intro z hz
    rw [List.mem_singleton.mp hz]
    exact .inl (by rfl)
  · rintro i ow ρ ⟨rfl, _⟩ z hz; exact Free.none z
  · rintro i dl ow ρ hdl ⟨rfl, g1, g2, g3⟩
    rw [List.getElem?_map] at hdl
    cases hki : ([9, 8, 7] : List Nat)[i]? with
    | none => rw [hki] at hdl; cases hdl
    | some k =>
      rw [hki] at hdl
      cases hdl
      have hi3 : i < 3 := by
        rcases Nat.lt_or_ge i 3 with q | q
        · exact q
        · rw [List.getElem?_eq_none (by simpa using q)] at hki; cases hki
      have hk : k = 9 - i ∧ 0 < k ∧ k ≤ 9 := by
        match i, hi3, hki with
        | 0, _, h => cases h; decide
        | 1, _, h => cases h; decide
        | 2, _, h => cases h; decide
      have hlen := sg_len m i (by omega)
      have hstep := foldl_take_succ sgStep [9, 8, 7] i k ⟨m, allSigns, []⟩ hki
      generalize ([9, 8, 7].take i).foldl sgStep ⟨m, allSigns, []⟩ = s at *
      have h1 := Int.fmod_nonneg_of_pos s.m (b := (k : Int)) (by omega)
      have h2 := Int.fmod_lt_of_pos s.m (b := (k : Int)) (by omega)
      have hpl : (s.m.fmod k).toNat < s.left.length := by omega
      have hget : s.left[(s.m.fmod k).toNat]? = some (s.left.getD (s.m.fmod k).toNat 0) := by
        rw [List.getElem?_eq_getElem hpl]; simp [List.getD, List.getElem?_eq_getElem hpl]
      have hs9 : s.left.length ≤ 9 := by omega
      refine Ex.cons (Ex1.assign (Ev.bin (Ev.name (by exact g1)) (Ev.name (by rfl)) (Bin.mod (by omega))) (.inl (by rfl)) (Free.none _) ?_)
      refine Ex.cons (Ex1.aug (d1 := .int s.m) (by exact g1) (Ev.name (by rfl)) (Inp.fdiv (by omega) (by omega)) (.inl (by rfl)) (Free.none _) ?_)
      refine Ex.cons (Ex1.aug (d1 := .str (T s.ch)) (by exact g3) (Ev.subS (k := s.m.fmod k) (Ev.name (by exact g2)) (Ev.name (by rfl)) h1 (by omega) hget) (Inp.cat (sz (by rw [T_len, T_len, hlen.2]; show i + 1 ≤ _; omega))) (.inl (by rfl)) (Free.none _) ?_)
      have hadd : (s.m.fmod k + 1).toNat = (s.m.fmod k).toNat + 1 := by omega
      refine Ex.cons (Ex1.assign (d := .str (T (s.left.take (s.m.fmod k).toNat) ++ T (s.left.drop ((s.m.fmod k).toNat + 1)))) (Ev.bin (Ev.cutS (lo := none) (hi := some (s.m.fmod k)) (Ev.name (by exact g2)) EvP.none (EvP.some (Ev.name (by rfl))) trivial h1 (.inl rfl) (sz (by omega))) (Ev.cutS (lo := some (s.m.fmod k + 1)) (hi := none) (Ev.name (by exact g2)) (EvP.some (Ev.bin (Ev.name (by rfl)) Ev.cint Bin.add)) EvP.none (by show (0 : Int) ≤ _; omega) trivial (.inr rfl) (sz (by omega))) (by
          have := Bin.cat (G := G) (n := n) (x := T (cut s.left none (some (s.m.fmod k)))) (y := T (cut s.left (some (s.m.fmod k + 1)) none)) (sz (by
            rw [T_len, T_len]; show (s.left.take _).length + (s.left.drop _).length ≤ _
            rw [List.length_take, List.length_drop]; omega))
          show Bin G n .Add (.str (T (s.left.take (s.m.fmod k).toNat))) (.str (T (s.left.drop (s.m.fmod k + 1).toNat))) _
          rw [← hadd]
          exact this)) (.inl (by rfl)) (Free.none _) (Ex.nil ⟨rfl, ?_, ?_, ?_⟩))
      · show some (D.int (s.m.fdiv k)) = _
        rw [hstep]; rfl
      · show some (D.str (T _ ++ T _)) = _
        rw [T_append, hstep, ← List.eraseIdx_eq_take_drop_succ]; rfl
      · show some (D.str (T _ ++ T _)) = _
        rw [T_append, hstep]; rfl
  rintro ow ρ ⟨rfl, _, _, g3⟩
  exact Ex.ret (Ev.name (by exact g3)) rfl
end
end Mine
end
section
open PySem PySem.Calls PyProof.Rows
set_option maxRecDepth 100000
namespace Mine
noncomputable def chars : List Nat := allSigns ++ [45, 62, 58]
/-- the table, its keys as lists of signs -/
noncomputable def exTab : List (List Nat × Int) := exList.map fun p => (p.1.cps.toList, p.2)
theorem ex0 : exList = exTab.map fun p => (T p.1, p.2) := by
  unfold exTab
  rw [List.map_map]
  exact (List.map_id' exList).symm
theorem lookup_T : ∀ (l : List (List Nat × Int)) (x : List Nat), (l.map fun p => (T p.1, p.2)).lookup (T x) = l.lookup x
  | [], _ => rfl
  | p :: l, x => by
    rw [List.map_cons, List.lookup_cons, lookup_T l x]
    show (match T x == T p.1 with | true => some p.2 | false => l.lookup x) = (match x == p.1 with | true => some p.2 | false => l.lookup x)
    have e : (T x == T p.1) = (x == p.1) := by
      rw [Bool.eq_iff_iff, beq_iff_eq, beq_iff_eq]
      exact ⟨fun h => by simpa [T] using h, fun h => h ▸ rfl⟩
    rw [e]
theorem ex_look (x : List Nat) : exList.lookup (T x) = exTab.lookup x := by rw [ex0]; exact lookup_T _ _
theorem look_none : ∀ {l : List (List Nat × Int)} {x : List Nat}, (∀ p ∈ l, p.1 ≠ x) → l.lookup x = none
  | [], _, _ => rfl
  | p :: l, x, h => by
    have e : (x == p.1) = false := by simpa using fun q : x = p.1 => h p (List.mem_cons_self ..) q.symm
    rw [List.lookup_cons, e]
    exact look_none fun q hq => h q (List.mem_cons_of_mem _ hq)
theorem ex1a : (allSigns.all fun c => (exTab.lookup [c]).isSome) = true := by decide +kernel
theorem ex1b : (exTab.all fun p => match p.1 with | c :: _ :: _ => !(allSigns.contains c) | _ => true) = true := by decide +kernel
theorem ex1c {c d : Nat} {l : List Nat} (hc : c ∈ allSigns) : exTab.lookup (c :: d :: l) = none := look_none fun p hp e => by
  have h := List.all_eq_true.mp ex1b p hp
  rw [e] at h
  simp [hc] at h
theorem ex1 : (allSigns.all fun c => (exList.lookup (T [c])).isSome && (chars.all fun d => (exList.lookup (T [c, d])).isNone && (chars.all fun e => (exList.lookup (T [c, d, e])).isNone))) = true := by
  simp only [ex_look, List.all_eq_true, Bool.and_eq_true]
  exact fun c hc => ⟨List.all_eq_true.mp ex1a c hc, fun d _ => ⟨by rw [ex1c hc]; rfl, fun e _ => by rw [ex1c hc]; rfl⟩⟩
theorem ex2 : (chars.all fun d => (exList.lookup (T [58, d])).isNone && (exList.lookup (T [45, 62, d])).isNone && (chars.all fun e => (exList.lookup (T [58, d, e])).isNone)) = true := by
  simp only [ex_look]; decide +kernel
theorem ex3 : exList.lookup (T [58]) = some 11 ∧ (exList.lookup (T [45])).isSome = true ∧ exList.lookup (T [45, 62]) = some 51 := by
  simp only [ex_look]; decide +kernel
theorem ex4 : topInt "RARROW" = some 51 ∧ topInt "COLON" = some 11 := by decide +kernel
theorem ex5 : (allSigns.all fun c => (exList.lookup (T [c])) != some 51 && (exList.lookup (T [c])) != some 11) = true := by
  simp only [ex_look]; decide +kernel
theorem ex6 : ((allSigns.map fun c => (exList.lookup (T [c])).getD 0).Nodup) := by
  simp only [ex_look]; decide +kernel
theorem ex7 : (chars.all fun c => decide (c < 128)) = true := by decide +kernel

/-- pieces of the text -/
inductive Tk where
  | sg (i : Fin 3)
  | arrow
  | colon
noncomputable def spell (sg : Fin 3 → Nat) : Tk → List Nat
  | .sg i => [sg i]
  | .arrow => [45, 62]
  | .colon => [58]
noncomputable def spellAll (sg : Fin 3 → Nat) (ts : List Tk) : List Nat := ts.flatMap (spell sg)
noncomputable def szs (text : List Nat) : List Nat := [1, 2, 3].filter fun k => (exList.lookup (T (text.take k))).isSome
noncomputable def szOf (text : List Nat) : Int := topOf ((szs text).map fun (k : Nat) => (k : Int))
noncomputable def kindOfTk (sg : Fin 3 → Nat) : Tk → Int
  | .sg i => (exList.lookup (T [sg i])).getD 0
  | .arrow => 51
  | .colon => 11
theorem chars_of {sg : Fin 3 → Nat} (hs : ∀ i, sg i ∈ allSigns) : ∀ {ts : List Tk} {c : Nat}, c ∈ spellAll sg ts → c ∈ chars := by
  intro ts c hc
  obtain ⟨t, _, h⟩ := List.mem_flatMap.mp hc
  cases t with
  | sg i => rw [List.mem_singleton.mp h]; exact List.mem_append.mpr (.inl (hs i))
  | arrow =>
    simp only [spell, List.mem_cons, List.not_mem_nil, or_false] at h
    rcases h with rfl | rfl <;> decide
  | colon => rw [List.mem_singleton.mp h]; decide
theorem sz_fact {p q r : List Nat} {a b c : Bool} (ha : (exList.lookup (T p)).isSome = a) : True := trivial
theorem szOf_tk {sg : Fin 3 → Nat} (hs : ∀ i, sg i ∈ allSigns) (t : Tk) (ts : List Tk) : 0 < (szs (spellAll sg (t :: ts))).length ∧ 0 ≤ szOf (spellAll sg (t :: ts)) ∧ szOf (spellAll sg (t :: ts)) ≤ 3 ∧ (spellAll sg (t :: ts)).take (szOf (spellAll sg (t :: ts))).toNat = spell sg t ∧
    (spellAll sg (t :: ts)).drop (szOf (spellAll sg (t :: ts))).toNat = spellAll sg ts := by
  have e0 : spellAll sg (t :: ts) = spell sg t ++ spellAll sg ts := rfl
  have hc : ∀ c ∈ spellAll sg ts, c ∈ chars := fun c h => chars_of hs h
  rw [e0]
  generalize spellAll sg ts = r at *
  have one : ∀ (text : List Nat) (l : List Nat), szs text = l → szOf text = topOf (l.map fun (k : Nat) => (k : Int)) := fun text l h => by unfold szOf; rw [h]
  have flt : ∀ (text : List Nat) (a b c : Bool), (exList.lookup (T (text.take 1))).isSome = a → (exList.lookup (T (text.take 2))).isSome = b → (exList.lookup (T (text.take 3))).isSome = c → szs text = [1, 2, 3].filter fun k => (if k = 1 then a else if k = 2 then b else c) := fun text a b c h1 h2 h3 => by
    unfold szs
    simp only [List.filter_cons, List.filter_nil, h1, h2, h3]
    simp
  cases t with
  | sg i =>
    have h1 := List.all_eq_true.mp ex1 (sg i) (hs i)
    simp only [Bool.and_eq_true] at h1
    obtain ⟨h1, h2⟩ := h1
    have h2 := fun d hd => List.all_eq_true.mp h2 d hd
    simp only [Bool.and_eq_true, Option.isNone_iff_eq_none] at h2
    show 0 < (szs (sg i :: r)).length ∧ 0 ≤ szOf (sg i :: r) ∧ szOf (sg i :: r) ≤ 3 ∧ (sg i :: r).take (szOf (sg i :: r)).toNat = [sg i] ∧ (sg i :: r).drop (szOf (sg i :: r)).toNat = r
    match r, hc with
    | [], _ =>
      have h := flt [sg i] true true true h1 h1 h1
      have e : szOf [sg i] = 3 := one _ _ h
      rw [h, e]; exact ⟨by decide, by decide, by decide, rfl, rfl⟩
    | [d], hc =>
      have hd := h2 d (hc d (by simp))
      have h := flt [sg i, d] true false false h1 (by show (exList.lookup (T [sg i, d])).isSome = false; rw [hd.1]; rfl) (by show (exList.lookup (T [sg i, d])).isSome = false; rw [hd.1]; rfl)
      have e : szOf [sg i, d] = 1 := one _ _ h
      rw [h, e]; exact ⟨by decide, by decide, by decide, rfl, rfl⟩
    | d :: e' :: r', hc =>
      have hd := h2 d (hc d (by simp))
      have he := List.all_eq_true.mp hd.2 e' (hc e' (by simp))
      have he' : exList.lookup (T [sg i, d, e']) = none := by simpa using he
      have h := flt (sg i :: d :: e' :: r') true false false h1 (by show (exList.lookup (T [sg i, d])).isSome = false; rw [hd.1]; rfl) (by show (exList.lookup (T [sg i, d, e'])).isSome = false; rw [he']; rfl)
      have e : szOf (sg i :: d :: e' :: r') = 1 := one _ _ h
      rw [h, e]; exact ⟨by decide, by decide, by decide, rfl, rfl⟩
  | arrow =>
    have h2 := fun d hd => List.all_eq_true.mp ex2 d hd
    simp only [Bool.and_eq_true, Option.isNone_iff_eq_none] at h2
    have e2 : (exList.lookup (T [45, 62])).isSome = true := by rw [ex3.2.2]; rfl
    show 0 < (szs (45 :: 62 :: r)).length ∧ 0 ≤ szOf (45 :: 62 :: r) ∧ szOf (45 :: 62 :: r) ≤ 3 ∧ (45 :: 62 :: r).take (szOf (45 :: 62 :: r)).toNat = [45, 62] ∧ (45 :: 62 :: r).drop (szOf (45 :: 62 :: r)).toNat = r
    match r, hc with
    | [], _ =>
      have h := flt [45, 62] true true true ex3.2.1 e2 e2
      have e : szOf [45, 62] = 3 := one _ _ h
      rw [h, e]; exact ⟨by decide, by decide, by decide, rfl, rfl⟩
    | d :: r', hc =>
      have hd := h2 d (hc d (by simp))
      have h := flt (45 :: 62 :: d :: r') true true false ex3.2.1 e2 (by show (exList.lookup (T [45, 62, d])).isSome = false; rw [hd.1.2]; rfl)
      have e : szOf (45 :: 62 :: d :: r') = 2 := one _ _ h
      rw [h, e]; exact ⟨by decide, by decide, by decide, rfl, rfl⟩
  | colon =>
    have h2 := fun d hd => List.all_eq_true.mp ex2 d hd
    simp only [Bool.and_eq_true, Option.isNone_iff_eq_none] at h2
    have e1 : (exList.lookup (T [58])).isSome = true := by rw [ex3.1]; rfl
    show 0 < (szs (58 :: r)).length ∧ 0 ≤ szOf (58 :: r) ∧ szOf (58 :: r) ≤ 3 ∧ (58 :: r).take (szOf (58 :: r)).toNat = [58] ∧ (58 :: r).drop (szOf (58 :: r)).toNat = r
    match r, hc with
    | [], _ =>
      have h := flt [58] true true true e1 e1 e1
      have e : szOf [58] = 3 := one _ _ h
      rw [h, e]; exact ⟨by decide, by decide, by decide, rfl, rfl⟩
    | [d], hc =>
      have hd := h2 d (hc d (by simp))
      have h := flt [58, d] true false false e1 (by show (exList.lookup (T [58, d])).isSome = false; rw [hd.1.1]; rfl) (by show (exList.lookup (T [58, d])).isSome = false; rw [hd.1.1]; rfl)
      have e : szOf [58, d] = 1 := one _ _ h
      rw [h, e]; exact ⟨by decide, by decide, by decide, rfl, rfl⟩
    | d :: e' :: r', hc =>
      have hd := h2 d (hc d (by simp))
      have he := List.all_eq_true.mp hd.2 e' (hc e' (by simp))
      have he' : exList.lookup (T [58, d, e']) = none := by simpa using he
      have h := flt (58 :: d :: e' :: r') true false false e1 (by show (exList.lookup (T [58, d])).isSome = false; rw [hd.1.1]; rfl) (by show (exList.lookup (T [58, d, e'])).isSome = false; rw [he']; rfl)
      have e : szOf (58 :: d :: e' :: r') = 1 := one _ _ h
      rw [h, e]; exact ⟨by decide, by decide, by decide, rfl, rfl⟩

/-- the sides: all but the last, the last -/
noncomputable def sideStep (s : List (List Int) × List Int) : Tk → List (List Int) × List Int
  | .sg i => (s.1, s.2.set i.val (s.2.getD i.val 0 + 1))
  | _ => (s.1 ++ [s.2], [0, 0, 0])
noncomputable def sidesOf (ts : List Tk) : List (List Int) := let s := ts.foldl sideStep ([], [0, 0, 0]); s.1 ++ [s.2]
theorem sideStep_len (s : List (List Int) × List Int) (t : Tk) (h : s.2.length = 3) : (sideStep s t).2.length = 3 ∧ (sideStep s t).1.length ≤ s.1.length + 1 := by
  cases t <;> simp [sideStep, h]

end Mine
end
section
open PySem PySem.Calls PyProof.Rows
set_option maxRecDepth 100000
namespace Mine
section
variable {G : GC} {n : Nat}
theorem sides_ok {sg : Fin 3 → Nat} (hs : ∀ i, sg i ∈ allSigns) (hinj : ∀ i j, sg i = sg j → i = j) {ts : List Tk} (hz : ts.length ≤ 1000) : Fn G (n + 1) "_law_sides" [.str (T (spellAll sg ts)), .str (T [sg 0, sg 1, sg 2])] (.lst ((sidesOf ts).map fun ns => iD ns)) := by
  have hkd : ∀ i, exList.lookup (T [sg i]) = some (kindOfTk sg (.sg i)) := fun i => by
    have h1 := List.all_eq_true.mp ex1 (sg i) (hs i)
    simp only [Bool.and_eq_true] at h1
    obtain ⟨v, hv⟩ := Option.isSome_iff_exists.mp h1.1
    show _ = some ((exList.lookup (T [sg i])).getD 0)
    rw [hv]; rfl
  have hkn : ∀ i, kindOfTk sg (.sg i) ≠ 51 ∧ kindOfTk sg (.sg i) ≠ 11 := fun i => by
    have h1 := List.all_eq_true.mp ex5 (sg i) (hs i)
    rw [hkd i] at h1
    simpa using h1
  have hki : ∀ i j, kindOfTk sg (.sg i) = kindOfTk sg (.sg j) → i = j := fun i j h => by
    refine hinj i j ?_
    obtain ⟨a, ha, e1⟩ := List.getElem_of_mem (hs i)
    obtain ⟨b, hb, e2⟩ := List.getElem_of_mem (hs j)
    have h' : (allSigns.map fun c => (exList.lookup (T [c])).getD 0)[a]'(by simpa using ha) = (allSigns.map fun c => (exList.lookup (T [c])).getD 0)[b]'(by simpa using hb) := by
      rw [List.getElem_map, List.getElem_map, e1, e2]; exact h
    have hab : a = b := (List.getElem?_inj (by simpa using ha) ex6).mp (by rw [List.getElem?_eq_getElem (by simpa using ha), List.getElem?_eq_getElem (by simpa using hb), h'])
    subst hab
    rw [← e1, ← e2]
  have hks : ∀ t : Tk, exList.lookup (T (spell sg t)) = some (kindOfTk sg t) := fun t => by
    cases t with
    | sg i => exact hkd i
    | arrow => exact ex3.2.2
    | colon => exact ex3.1
  refine Fn.of_body ["text", "signs"] (dr_mem (i := 6) (h := by decide)) (by rfl) (by rfl) (fun pm code doc vs hv => by
    match vs, hv with
    | [_, _], _ => rfl) (by decide) (by decide +kernel) (by rfl) (by rfl) (by rfl) (by decide +kernel) fun h0 MC L ad pm code doc => ?_
  refine Ex.cons (Ex1.assignComp (as := [0, 1, 2]) (dl := fun (i : Fin 3) => [D.str (T [sg i])]) (d := iD [kindOfTk sg (.sg 0), kindOfTk sg (.sg 1), kindOfTk sg (.sg 2)]) (fun _ => true) (fun i => .int (kindOfTk sg (.sg i))) TG.name (EvI.str (cs := [sg 0, sg 1, sg 2]) (Ev.name (by rfl)) (by
    have : ∀ i, sg i < 128 := fun i => by simpa using List.all_eq_true.mp ex7 (sg i) (List.mem_append.mpr (.inl (hs i)))
    simp [T, this])) (fun _ _ => rfl) ⟨by rfl, by rfl, by decide +kernel⟩ ?_ ?_ (fun _ _ _ _ => rfl) ?_ (sz (Nat.le_of_ble_eq_true rfl)) (by rfl) (.inl (by rfl)) (Free.none _) ?_)
  · intro z hz h C
    rw [List.mem_singleton.mp hz]
    exact .inl (by rfl)
  · intro z hz
    rw [List.mem_singleton.mp hz]
    decide +kernel
  · intro i _ _ h C
    exact Ev.exact (by rfl) (Ev.name (by rfl)) (hkd i)
  refine Ex.cons (Ex1.own (EvO.lol1 (ns := [0, 0, 0]) (EvL.cons Ev.cint (EvL.cons Ev.cint (EvL.cons Ev.cint EvL.nil))) (sz (Nat.le_of_ble_eq_true rfl))) (by rfl) ?_)
  refine Ex.cons (Ex1.while (fun k ow ρ => ∃ pre rest, ts = pre ++ rest ∧ rest.length = k ∧ (pre.foldl sideStep ([], [0, 0, 0])).2.length = 3 ∧ (pre.foldl sideStep ([], [0, 0, 0])).1.length ≤ pre.length ∧
      ow = (some (("sides" : Str), OD.lol ((pre.foldl sideStep ([], [0, 0, 0])).1 ++ [(pre.foldl sideStep ([], [0, 0, 0])).2])) : Ow) ∧ ρ "text" = some (.str (T (spellAll sg rest))) ∧ ρ "kinds" = some (iD [kindOfTk sg (.sg 0), kindOfTk sg (.sg 1), kindOfTk sg (.sg 2)])) ?_ ts.length
      ⟨[], ts, rfl, rfl, rfl, Nat.le_refl _, rfl, by rfl, by rfl⟩)
  rintro k ow ρ ⟨pre, rest, hts, hk, hl3, hl1, rfl, g1, g2⟩
  have hsp : pre.length ≤ 1000 := by have := congrArg List.length hts; simp at this; omega
  refine ⟨T (spellAll sg rest) != T [], EvT.cmp (Ev.name (by exact g1)) Ev.cstr Cmp.neStr, fun hb => ?_, fun hb => ?_⟩
  · cases rest with
    | nil => exact absurd hb (by simp [spellAll])
    | cons t rest =>
      obtain ⟨f0, f1, f2, f3, f4⟩ := szOf_tk hs t rest
      have hlenT : (spellAll sg (t :: rest)).length ≤ 100000 := by
        have : ∀ l : List Tk, (spellAll sg l).length ≤ 2 * l.length := by
          intro l
          induction l with
          | nil => simp [spellAll]
          | cons t l ih =>
            show (spell sg t ++ spellAll sg l).length ≤ _
            rw [List.length_append, List.length_cons]
            cases t <;> simp [spell] <;> omega
        have h1 := this (t :: rest)
        have h2 := congrArg List.length hts
        rw [List.length_append] at h2
        omega
      generalize hst : pre.foldl sideStep ([], [0, 0, 0]) = st at *
      have hfold : (pre ++ [t]).foldl sideStep ([], [0, 0, 0]) = sideStep st t := by rw [List.foldl_append, hst]; rfl
      have hnext := sideStep_len st t hl3
      generalize hsz : szOf (spellAll sg (t :: rest)) = sz' at *
      refine Ex.cons (Ex1.assign (d := .int sz') (Ev.callB (id := "max") (by rfl) (by decide) (by decide +kernel) (EvL.cons (Ev.lcomp (as := [1, 2, 3]) (dl := fun (k : Nat) => [D.int (k : Int)]) (fun k => (exList.lookup (T ((spellAll sg (t :: rest)).take k))).isSome) (fun k => .int (k : Int)) TG.name (EvI.tuple (ds := [.int 1, .int 2, .int 3]) (Ev.tuple (EvL.cons Ev.cint (EvL.cons Ev.cint (EvL.cons Ev.cint EvL.nil))) (sz (Nat.le_of_ble_eq_true rfl)))) (fun _ _ => rfl) ⟨by rfl, by rfl, by decide +kernel⟩ ?_ ?_ ?_ ?_ (sz (Nat.le_of_ble_eq_true rfl)) rfl) EvL.nil)
        (by
          have := CallB.maxL (G := G) (n := n) (ns := (szs (spellAll sg (t :: rest))).map fun (k : Nat) => (k : Int)) (by rw [List.length_map]; exact f0)
          rw [List.map_map] at this
          rw [← hsz]
          exact this) ⟨_, _, rfl, rfl, fun _ => rfl⟩) (.inl (by rfl)) (Free.some (by decide)) ?_)
      · intro z hz h C
        rw [List.mem_singleton.mp hz]
        exact .inl (by rfl)
      · intro z hz
        rw [List.mem_singleton.mp hz]
        decide +kernel
      · intro k hk h C
        refine EvT.exactIn (k := T ((spellAll sg (t :: rest)).take k)) (by rfl) ?_
        have hk0 : (0 : Int) ≤ (k : Int) := by omega
        have e : cut (spellAll sg (t :: rest)) none (some (k : Int)) = (spellAll sg (t :: rest)).take k := by show List.take (Int.toNat _) _ = _; rw [Int.toNat_natCast]
        rw [← e]
        exact Ev.cutS (Ev.name (by exact g1)) EvP.none (EvP.some (Ev.name (by rfl))) trivial hk0 (.inl rfl) (sz (by omega))
      · intro k hk _ h C
        exact Ev.name (by rfl)
      refine Ex.cons (Ex1.assign (d := .int (kindOfTk sg t)) (Ev.exact (k := T (spell sg t)) (by rfl) (by
          rw [← f3]
          exact Ev.cutS (lo := none) (hi := some sz') (Ev.name (by exact g1)) EvP.none (EvP.some (Ev.name (by rfl))) trivial f1 (.inl rfl) (sz (by omega))) (hks t)) (.inl (by rfl)) (Free.some (by decide)) ?_)
      refine Ex.cons (Ex1.assign (d := .str (T (spellAll sg rest))) (by
          rw [← f4]
          exact Ev.cutS (lo := some sz') (hi := none) (Ev.name (by exact g1)) (EvP.some (Ev.name (by rfl))) EvP.none f1 trivial (.inr rfl) (sz (by omega))) (.inr ⟨by rfl, by rfl, by rfl⟩) (Free.some (by decide)) ?_)
      refine Ex.cons (Ex1.cond (b := (kindOfTk sg t == 51) || (kindOfTk sg t == 11)) (EvT.or (EvT.cmp (Ev.name (by rfl)) (Ev.top (by rfl) ex4.1) Cmp.eq) (EvT.cmp (Ev.name (by rfl)) (Ev.top (by rfl) ex4.2) Cmp.eq)) (fun hbb => ?_) fun hbb => ?_)
      · have hstep : sideStep st t = (st.1 ++ [st.2], [0, 0, 0]) := by
          cases t with
          | sg i => have := hkn i; simp only [Bool.or_eq_true, beq_iff_eq] at hbb; exact absurd hbb (by rintro (q | q); exact this.1 q; exact this.2 q)
          | arrow => rfl
          | colon => rfl
        refine Ex.cons (Ex1.appendRow (ns := [0, 0, 0]) (EvL.cons Ev.cint (EvL.cons Ev.cint (EvL.cons Ev.cint EvL.nil))) (sz (Nat.le_of_ble_eq_true rfl)) (sz (by rw [List.length_append]; simp; omega)) (Ex.nil (Ex.nil ⟨rest.length, by rw [← hk, List.length_cons]; omega, pre ++ [t], rest, by rw [hts]; simp, rfl, by rw [hfold]; exact hnext.1, by rw [hfold, List.length_append]; simp; omega, ?_, by rfl, by exact g2⟩)))
        rw [hfold, hstep]
      · have : ∃ i, t = .sg i := by
          cases t with
          | sg i => exact ⟨i, rfl⟩
          | arrow => exact absurd hbb (by show ¬ ((51 : Int) == 51 || (51 : Int) == 11) = false; decide)
          | colon => exact absurd hbb (by show ¬ ((11 : Int) == 51 || (11 : Int) == 11) = false; decide)
        obtain ⟨i, rfl⟩ := this
        have hidx : ([kindOfTk sg (.sg 0), kindOfTk sg (.sg 1), kindOfTk sg (.sg 2)] : List Int).idxOf (kindOfTk sg (.sg i)) = i.val := by
          have n01 : kindOfTk sg (.sg 0) ≠ kindOfTk sg (.sg 1) := fun q => absurd (hki _ _ q) (by decide)
          have n02 : kindOfTk sg (.sg 0) ≠ kindOfTk sg (.sg 2) := fun q => absurd (hki _ _ q) (by decide)
          have n12 : kindOfTk sg (.sg 1) ≠ kindOfTk sg (.sg 2) := fun q => absurd (hki _ _ q) (by decide)
          have b01 := beq_eq_false_iff_ne.mpr n01
          have b02 := beq_eq_false_iff_ne.mpr n02
          have b12 := beq_eq_false_iff_ne.mpr n12
          clear hnext hfold hts hk g1 hb f0 hlenT
          match i with
          | 0 => rw [List.idxOf_cons]; simp
          | 1 => rw [List.idxOf_cons, b01, List.idxOf_cons]; simp
          | 2 => rw [List.idxOf_cons, b02, List.idxOf_cons, b12, List.idxOf_cons]; simp
        have hmem : kindOfTk sg (.sg i) ∈ ([kindOfTk sg (.sg 0), kindOfTk sg (.sg 1), kindOfTk sg (.sg 2)] : List Int) := by
          match i with
          | 0 => simp
          | 1 => simp
          | 2 => simp
        have hiv : i.val < st.2.length := by rw [hl3]; exact i.isLt
        have hget : st.2[(((i.val : Nat) : Int)).toNat]? = some (st.2.getD i.val 0) := by
          rw [Int.toNat_natCast, List.getElem?_eq_getElem hiv]; simp [List.getD, List.getElem?_eq_getElem hiv]
        refine Ex.cons (Ex1.augLast (p4 := ⟨0, 0, 0, 0⟩) (p5 := ⟨0, 0, 0, 0⟩) (k := ((i.val : Nat) : Int)) (i := st.2.getD i.val 0) (j := 1) (by
            rw [← hidx]
            exact Ev.meth (Ev.name (by exact g2)) (EvL.cons (Ev.name (by rfl)) EvL.nil) (CallB.index hmem (by simp)) F.plainAttrs_list F.slot_list_index F.type_list_index lst_type ⟨_, _, rfl, rfl, fun _ => rfl⟩) Ev.cint (by omega) (by have := i.isLt; omega) hget (Ev.neg Ev.cint) (by intros; with_unfolding_all rfl) (by omega) (Ex.nil (Ex.nil ⟨rest.length, by rw [← hk, List.length_cons]; omega, pre ++ [.sg i], rest, by rw [hts]; simp, rfl, by rw [hfold]; exact hnext.1, by rw [hfold, List.length_append]; simp; omega, ?_, by rfl, by exact g2⟩)))
        rw [hfold, Int.toNat_natCast]; rfl
  · have hrest : rest = [] := by
      cases rest with
      | nil => rfl
      | cons t rest =>
        exfalso
        have h1 : T (spellAll sg (t :: rest)) = T [] := by simpa using hb
        have h2 := congrArg Str.length h1
        rw [T_len, T_len] at h2
        have : (spellAll sg (t :: rest)).length = (spell sg t).length + (spellAll sg rest).length := by show (spell sg t ++ spellAll sg rest).length = _; rw [List.length_append]
        rw [this] at h2
        cases t <;> simp [spell] at h2
    subst hrest
    rw [List.append_nil] at hts
    subst hts
    refine Ex.freeze (Ex.ret (Ev.name (by rfl)) ?_)
    rfl
end
end Mine
end
section
open PySem PySem.Calls PyProof.Rows
set_option maxRecDepth 100000
set_option maxHeartbeats 4000000
namespace Mine
noncomputable def mx (a b : Int) : Int := if b > a then b else a
noncomputable def newP (ws : Int × Int × Int) (s ch : En) (r : En × En) : List (En × En) :=
  if [mx r.1.a s.a, mx r.1.b s.b, mx r.1.c s.c].sum ≤ 3 then [(fS (ent (mx r.1.a s.a) (mx r.1.b s.b) (mx r.1.c s.c) [] ws) r.2, fS (ent (mx r.1.a s.a) (mx r.1.b s.b) (mx r.1.c s.c) [] ws) ch)] else []
noncomputable def enV (e : En) : List Int := [e.a, e.b, e.c, e.w]
structure SmE (e : En) : Prop where
  a : Sm e.a
  b : Sm e.b
  c : Sm e.c
  k : e.k.length ≤ 100
structure SmW (ws : Int × Int × Int) : Prop where
  a : Sm ws.1
  b : Sm ws.2.1
  c : Sm ws.2.2
/-- the completion, so many turns -/
inductive Compl (keys : List (Int × Int)) (ws : Int × Int × Int) : Nat → List (En × En) → List (En × En) → List (En × En) → Prop
  | nil {rules : List (En × En)} : Compl keys ws 0 rules [] rules
  | skip {rules ps out : List (En × En)} {p1 p2 s t : En} {n k1 k2 : Nat} : rules.length ≤ 100 → ps.length ≤ 1000 → Exch rules k1 p1 s → Exch rules k2 p2 t → cmpK keys (enV s) (enV t) = 0 → Compl keys ws n rules ps out → Compl keys ws (n + 1) rules ((p1, p2) :: ps) out
  | add {rules ps out : List (En × En)} {p1 p2 s t s' t' : En} {n k1 k2 : Nat} : rules.length ≤ 100 → ps.length ≤ 1000 → Exch rules k1 p1 s → Exch rules k2 p2 t → cmpK keys (enV s) (enV t) ≠ 0 → (s', t') = (if cmpK keys (enV s) (enV t) < 0 then (t, s) else (s, t)) →
      SmE s' → SmE t' → SmE (chg s' t') → (∀ r ∈ rules, SmE r.1 ∧ SmE r.2) →
      Compl keys ws n (rules ++ [(s', chg s' t')]) (ps ++ rules.flatMap (newP ws s' (chg s' t'))) out → Compl keys ws (n + 1) rules ((p1, p2) :: ps) out

section
variable {G : GC} {n : Nat}
theorem Sm.mx {a b : Int} (h1 : Sm a) (h2 : Sm b) : Sm (Mine.mx a b) := by unfold Mine.mx; split <;> assumption
theorem rD_map (l : List (En × En)) : rD l = .lst (l.map fun r => .tup [eD r.1, eD r.2]) := by unfold rD; rw [List.map_map]; rfl

theorem completed_ok {keys : List (Int × Int)} {ws : Int × Int × Int} {k : Nat} {pairs out : List (En × En)} (hk : ∀ k ∈ keys, 0 ≤ k.1 ∧ k.1 < 4) (hw : SmW ws) (hC : Compl keys ws k [] pairs out) :
    Fn G (n + 5) "_law_completed" [rD pairs, .order (.lst (kD keys)), wsD ws] (rD out) := by
  refine Fn.of_body ["pairs", "order", "weights"] (dr_mem (i := 10) (h := by decide)) (by rfl) (by rfl) (fun pm code doc vs hv => by
    match vs, hv with
    | [_, _, _], _ => rfl) (by decide) (by decide +kernel) (by rfl) (by rfl) (by rfl) (by decide +kernel) fun h0 MC L ad pm code doc => ?_
  refine Ex.cons (Ex1.assign (d := rD []) (Ev.list EvL.nil (sz (Nat.le_of_ble_eq_true rfl))) (.inl (by rfl)) (Free.none _) ?_)
  refine Ex.cons (Ex1.while (fun k ow ρ => ∃ rules pairs, ow = none ∧ ρ "rules" = some (rD rules) ∧ ρ "pairs" = some (rD pairs) ∧ ρ "order" = some (.order (.lst (kD keys))) ∧ ρ "weights" = some (wsD ws) ∧ Compl keys ws k rules pairs out) ?_ k ⟨[], pairs, rfl, by rfl, by rfl, by rfl, by rfl, hC⟩)
  rintro k ow ρ ⟨rules, pairs, rfl, g1, g2, g3, g4, hX⟩
  refine ⟨!((pairs.map fun r => [eD r.1, eD r.2]).map D.tup).isEmpty, EvT.cmp (Ev.name (by exact g2)) (Ev.list EvL.nil (sz (Nat.le_of_ble_eq_true rfl))) Cmp.neNil, fun hb => ?_, fun hb => ?_⟩
  · -- one turn
    have turn : ∀ {ps : List (En × En)} {p1 p2 s t : En} {k1 k2 : Nat} {Q : Out → Prop}, pairs = (p1, p2) :: ps → rules.length ≤ 100 → ps.length ≤ 1000 → Exch rules k1 p1 s → Exch rules k2 p2 t →
        (∀ ρ', ρ' "rules" = some (rD rules) → ρ' "pairs" = some (rD ps) → ρ' "order" = some (.order (.lst (kD keys))) → ρ' "weights" = some (wsD ws) → ρ' "start" = some (eD s) → ρ' "end" = some (eD t) → ρ' "told" = some (.int (cmpK keys (enV s) (enV t))) →
          Ex G (mkCx (dr 10 (by decide)) h0 MC L ad pm code doc) (n + 4) none ρ' (((match (dr 10 (by decide)).body with | [_, .While _ b _ _, _] => b | _ => []).drop 4)) Q) →
        Ex G (mkCx (dr 10 (by decide)) h0 MC L ad pm code doc) (n + 4) none ρ (match (dr 10 (by decide)).body with | [_, .While _ b _ _, _] => b | _ => []) Q := by
      intro ps p1 p2 s t k1 k2 Q hp hr hps e1 e2 rest
      subst hp
      refine Ex.cons (Ex1.assign (d := eD s) (Ev.call (by rfl) (dr_mem (i := 9) (h := by decide)) (by rfl) (EvL.cons (Ev.subT (ds := [eD p1, eD p2]) (k := 0) (Ev.subL (k := 0) (Ev.name (by exact g2)) Ev.cint (by decide) (by decide) (by rfl)) Ev.cint (by decide) (by decide) (by rfl)) (EvL.cons (Ev.name (by exact g1)) EvL.nil)) (exchanged_ok (n := n + 1) (by omega) e1) ⟨_, _, rfl, rfl, fun _ => rfl⟩) (.inr ⟨by rfl, by rfl, by rfl⟩) (Free.none _) ?_)
      refine Ex.cons (Ex1.assign (d := eD t) (Ev.call (by rfl) (dr_mem (i := 9) (h := by decide)) (by rfl) (EvL.cons (Ev.subT (ds := [eD p1, eD p2]) (k := 1) (Ev.subL (k := 0) (Ev.name (by exact g2)) Ev.cint (by decide) (by decide) (by rfl)) Ev.cint (by decide) (by decide) (by rfl)) (EvL.cons (Ev.name (by exact g1)) EvL.nil)) (exchanged_ok (n := n + 1) (by omega) e2) ⟨_, _, rfl, rfl, fun _ => rfl⟩) (.inl (by rfl)) (Free.none _) ?_)
      refine Ex.cons (Ex1.assign (d := rD ps) (Ev.cutL (ds := (((p1, p2) :: ps).map fun r => [eD r.1, eD r.2]).map D.tup) (lo := some 1) (hi := none) (Ev.name (by exact g2)) (EvP.some Ev.cint) EvP.none (by show (0 : Int) ≤ 1; decide) trivial (.inr rfl) (sz (by simp; omega))) (.inl (by rfl)) (Free.none _) ?_)
      refine Ex.cons (Ex1.assign (d := .int (cmpK keys (enV s) (enV t))) (Ev.compare (n := n + 3) (x := .dct s.k) (y := .dct t.k) (by rfl) hk (by rfl) (by rfl) (Ev.name (by exact g3)) (EvL.cons (Ev.name (by rfl)) (EvL.cons (Ev.name (by rfl)) EvL.nil))) (.inl (by rfl)) (Free.none _) ?_)
      exact rest _ (by exact g1) (by rfl) (by exact g3) (by exact g4) (by rfl) (by rfl) (by rfl)
    cases hX with
    | nil => exact absurd hb (by simp)
    | @skip rules ps out p1 p2 s t n' k1 k2 hr hps e1 e2 hc hX' =>
      refine turn rfl hr hps e1 e2 fun ρ' f1 f2 f3 f4 f5 f6 f7 => ?_
      rw [hc] at f7
      refine Ex.cons (Ex1.cond (EvT.cmp (Ev.name (by exact f7)) Ev.cint Cmp.lt) (fun h => absurd h (by decide)) fun _ => Ex.nil ?_)
      refine Ex.cons (Ex1.cond (EvT.cmp (Ev.name (by exact f7)) Ev.cint Cmp.ne) (fun h => absurd h (by decide)) fun _ => Ex.nil ?_)
      exact Ex.nil ⟨n', Nat.lt_succ_self _, rules, ps, rfl, f1, f2, f3, f4, hX'⟩
    | @add rules ps out p1 p2 s t s' t' n' k1 k2 hr hps e1 e2 hc hst hs ht hch hsm hX' =>
      have tail : ∀ ρ', ρ' "rules" = some (rD rules) → ρ' "pairs" = some (rD ps) → ρ' "order" = some (.order (.lst (kD keys))) → ρ' "weights" = some (wsD ws) → ρ' "start" = some (eD s') → ρ' "end" = some (eD t') → ρ' "told" = some (.int (cmpK keys (enV s) (enV t))) →
          Ex G (mkCx (dr 10 (by decide)) h0 MC L ad pm code doc) (n + 4) none ρ' (((match (dr 10 (by decide)).body with | [_, .While _ b _ _, _] => b | _ => []).drop 5)) (fun o => match o with
            | .next ow' ρ' => ∃ j, j < n' + 1 ∧ ∃ rules pairs, ow' = none ∧ ρ' "rules" = some (rD rules) ∧ ρ' "pairs" = some (rD pairs) ∧ ρ' "order" = some (.order (.lst (kD keys))) ∧ ρ' "weights" = some (wsD ws) ∧ Compl keys ws j rules pairs out
            | .ret d => (match (Out.ret d) with | .next ow' ρ' => Ex G (mkCx (dr 10 (by decide)) h0 MC L ad pm code doc) (n + 4) ow' ρ' (((dr 10 (by decide)).body).drop 2) (fun o => o = .ret (rD out)) | .ret d => Out.ret d = .ret (rD out))) := by
        intro ρ' f1 f2 f3 f4 f5 f6 f7
        refine Ex.cons (Ex1.cond (b := cmpK keys (enV s) (enV t) != 0) (EvT.cmp (Ev.name (by exact f7)) Ev.cint Cmp.ne) (fun _ => ?_) fun h => absurd (by simpa using h) hc)
        refine Ex.cons (Ex1.assign (d := eD (chg s' t')) (Ev.call (by rfl) (dr_mem (i := 8) (h := by decide)) (by rfl) (EvL.cons (Ev.name (by exact f5)) (EvL.cons (Ev.name (by exact f6)) EvL.nil)) (change_ok (n := n + 1) (by have := hs.k; have := ht.k; omega)) ⟨_, _, rfl, rfl, fun _ => rfl⟩) (.inl (by rfl)) (Free.none _) ?_)
        refine Ex.cons (Ex1.for (dss := rules.map fun r => [eD r.1, eD r.2]) (TG.tup (NT.cons (NT.cons NT.nil))) (EvI.listT (Ev.name (by exact f1))) (fun dl hdl => ?_) ?_
          (fun i ow ρ => ow = none ∧ ρ "rules" = some (rD rules) ∧ ρ "pairs" = some (rD (ps ++ (rules.take i).flatMap (newP ws s' (chg s' t')))) ∧ ρ "order" = some (.order (.lst (kD keys))) ∧ ρ "weights" = some (wsD ws) ∧ ρ "start" = some (eD s') ∧ ρ "change" = some (eD (chg s' t'))) ⟨rfl, by exact f1, by rw [List.take_zero, List.flatMap_nil, List.append_nil]; exact f2, by exact f3, by exact f4, by exact f5, by rfl⟩ ?_ ?_ ?_)
        · obtain ⟨k, _, rfl⟩ := List.mem_map.mp hdl; rfl
        · intro z hz
          simp only [List.mem_cons, List.not_mem_nil, or_false] at hz
          rcases hz with rfl | rfl
          · exact .inr ⟨by rfl, by rfl, by rfl⟩
          · exact .inl (by rfl)
        · rintro i ow ρ ⟨rfl, _⟩ z hz; exact Free.none z
        · rintro i dl ow ρ hdl ⟨rfl, q1, q2, q3, q4, q5, q6⟩
          rw [List.getElem?_map] at hdl
          cases hki : rules[i]? with
          | none => rw [hki] at hdl; cases hdl
          | some r =>
            rw [hki] at hdl
            cases hdl
            obtain ⟨sm1, sm2⟩ := hsm r (List.mem_of_getElem? hki)
            have hstep : (rules.take (i + 1)).flatMap (newP ws s' (chg s' t')) = (rules.take i).flatMap (newP ws s' (chg s' t')) ++ newP ws s' (chg s' t') r := by
              rw [List.take_add_one, hki, List.flatMap_append]; simp
            have hlenP : (ps ++ (rules.take i).flatMap (newP ws s' (chg s' t'))).length ≤ 2000 := by
              have e1 : ∀ l : List (En × En), (l.flatMap (newP ws s' (chg s' t'))).length ≤ l.length := by
                intro l
                induction l with
                | nil => simp
                | cons r l ih =>
                  rw [List.flatMap_cons, List.length_append, List.length_cons]
                  have : (newP ws s' (chg s' t') r).length ≤ 1 := by unfold newP; split <;> simp
                  omega
              have e2 := e1 (rules.take i)
              have e3 : (rules.take i).length ≤ rules.length := by rw [List.length_take]; omega
              rw [List.length_append]; omega
            have hcur : ps ++ (rules.take (i + 1)).flatMap (newP ws s' (chg s' t')) = (ps ++ (rules.take i).flatMap (newP ws s' (chg s' t'))) ++ newP ws s' (chg s' t') r := by rw [hstep, List.append_assoc]
            generalize (ps ++ (rules.take i).flatMap (newP ws s' (chg s' t'))) = pcur at *
            refine Ex.cons (Ex1.assignComp (as := List.range 3) (dl := fun k => [D.int (k : Nat)]) (d := iD [mx r.1.a s'.a, mx r.1.b s'.b, mx r.1.c s'.c]) (fun _ => true) (fun k => .int (match k with | 0 => mx r.1.a s'.a | 1 => mx r.1.b s'.b | _ => mx r.1.c s'.c)) TG.name (EvI.range (k := 3) (by rfl) Ev.cint (by decide)) (by intro _ _; rfl) ⟨by rfl, by rfl, by decide +kernel⟩ ?_ ?_ (fun _ _ _ _ => rfl) ?_ (sz (by decide)) (by rfl) (.inl (by rfl)) (Free.none _) ?_)
            · intro x hx h C
              rw [List.mem_singleton.mp hx]
              exact .inl (by rfl)
            · intro x hx
              rw [List.mem_singleton.mp hx]
              decide +kernel
            · intro k hk _ h C
              have h3 : k = 0 ∨ k = 1 ∨ k = 2 := by have := List.mem_range.mp hk; omega
              rcases h3 with rfl | rfl | rfl
              · exact Ev.callB (id := "max") (by rfl) (by decide) (by decide +kernel) (EvL.cons (Ev.subT (ds := [.int r.1.a, .int r.1.b, .int r.1.c, .int r.1.w, .dct r.1.k]) (k := 0) (Ev.name (by rfl)) (Ev.name (by rfl)) (by decide) (by decide) (by rfl)) (EvL.cons (Ev.subT (ds := [.int s'.a, .int s'.b, .int s'.c, .int s'.w, .dct s'.k]) (k := 0) (Ev.name (by exact q5)) (Ev.name (by rfl)) (by decide) (by decide) (by rfl)) EvL.nil)) CallB.max2 ⟨_, _, rfl, rfl, fun _ => rfl⟩
              · exact Ev.callB (id := "max") (by rfl) (by decide) (by decide +kernel) (EvL.cons (Ev.subT (ds := [.int r.1.a, .int r.1.b, .int r.1.c, .int r.1.w, .dct r.1.k]) (k := 1) (Ev.name (by rfl)) (Ev.name (by rfl)) (by decide) (by decide) (by rfl)) (EvL.cons (Ev.subT (ds := [.int s'.a, .int s'.b, .int s'.c, .int s'.w, .dct s'.k]) (k := 1) (Ev.name (by exact q5)) (Ev.name (by rfl)) (by decide) (by decide) (by rfl)) EvL.nil)) CallB.max2 ⟨_, _, rfl, rfl, fun _ => rfl⟩
              · exact Ev.callB (id := "max") (by rfl) (by decide) (by decide +kernel) (EvL.cons (Ev.subT (ds := [.int r.1.a, .int r.1.b, .int r.1.c, .int r.1.w, .dct r.1.k]) (k := 2) (Ev.name (by rfl)) (Ev.name (by rfl)) (by decide) (by decide) (by rfl)) (EvL.cons (Ev.subT (ds := [.int s'.a, .int s'.b, .int s'.c, .int s'.w, .dct s'.k]) (k := 2) (Ev.name (by exact q5)) (Ev.name (by rfl)) (by decide) (by decide) (by rfl)) EvL.nil)) CallB.max2 ⟨_, _, rfl, rfl, fun _ => rfl⟩
            refine Ex.cons (Ex1.cond (b := decide ([mx r.1.a s'.a, mx r.1.b s'.b, mx r.1.c s'.c].sum ≤ 3)) (EvT.cmp (Ev.callB (id := "sum") (by rfl) (by decide) (by decide +kernel) (EvL.cons (Ev.name (by rfl)) EvL.nil) (CallB.sum (ns := [mx r.1.a s'.a, mx r.1.b s'.b, mx r.1.c s'.c])) ⟨_, _, rfl, rfl, fun _ => rfl⟩) Ev.cint Cmp.le) (fun hle => ?_) fun hle => ?_)
            · have hle' := of_decide_eq_true hle
              have hnp : newP ws s' (chg s' t') r = [(fS (ent (mx r.1.a s'.a) (mx r.1.b s'.b) (mx r.1.c s'.c) [] ws) r.2, fS (ent (mx r.1.a s'.a) (mx r.1.b s'.b) (mx r.1.c s'.c) [] ws) (chg s' t'))] := by unfold newP; rw [if_pos hle']
              refine Ex.cons (Ex1.assign (d := eD (ent (mx r.1.a s'.a) (mx r.1.b s'.b) (mx r.1.c s'.c) [] ws)) (Ev.call (by rfl) (dr_mem (i := 7) (h := by decide)) (by rfl) (EvL.cons (Ev.name (by rfl)) (EvL.cons Ev.dict0 (EvL.cons (Ev.name (by exact q4)) EvL.nil))) (entry_ok (n := n + 3) (sm1.a.mx hs.a) (sm1.b.mx hs.b) (sm1.c.mx hs.c) hw.a hw.b hw.c) ⟨_, _, rfl, rfl, fun _ => rfl⟩) (.inl (by rfl)) (Free.none _) ?_)
              refine Ex.cons (Ex1.assign (d := rD (pcur ++ newP ws s' (chg s' t') r)) (Ev.bin (d1 := rD pcur) (d2 := rD (newP ws s' (chg s' t') r)) (Ev.name (by exact q2)) ?_ ?_) (.inl (by rfl)) (Free.none _) (Ex.nil (Ex.nil ⟨rfl, by exact q1, by rw [hcur]; rfl, by exact q3, by exact q4, by exact q5, by exact q6⟩)))
              · rw [hnp]
                exact Ev.list (ds := [.tup [eD (fS (ent (mx r.1.a s'.a) (mx r.1.b s'.b) (mx r.1.c s'.c) [] ws) r.2), eD (fS (ent (mx r.1.a s'.a) (mx r.1.b s'.b) (mx r.1.c s'.c) [] ws) (chg s' t'))]]) (EvL.cons (Ev.tuple (EvL.cons (Ev.call (by rfl) (dr_mem (i := 0) (h := by decide)) (by rfl) (EvL.cons (Ev.name (by rfl)) (EvL.cons (Ev.name (by rfl)) EvL.nil)) (fs_ok (n := n + 2) (by show 0 + r.2.k.length ≤ _; have := sm2.k; omega)) ⟨_, _, rfl, rfl, fun _ => rfl⟩) (EvL.cons (Ev.call (by rfl) (dr_mem (i := 0) (h := by decide)) (by rfl) (EvL.cons (Ev.name (by rfl)) (EvL.cons (Ev.name (by exact q6)) EvL.nil)) (fs_ok (n := n + 2) (by show 0 + (chg s' t').k.length ≤ _; have := hch.k; omega)) ⟨_, _, rfl, rfl, fun _ => rfl⟩) EvL.nil)) (sz (Nat.le_of_ble_eq_true rfl))) EvL.nil) (sz (Nat.le_of_ble_eq_true rfl))
              · rw [rD_map, rD_map, rD_map, List.map_append]
                refine Bin.catL (sz ?_)
                rw [List.length_map, List.length_map]
                have : (newP ws s' (chg s' t') r).length ≤ 1 := by rw [hnp]; simp
                omega
            · have hle' := of_decide_eq_false hle
              have hnp : newP ws s' (chg s' t') r = [] := by unfold newP; rw [if_neg hle']
              rw [hnp, List.append_nil] at hcur
              exact Ex.nil (Ex.nil ⟨rfl, by exact q1, by rw [hcur]; exact q2, by exact q3, by exact q4, by exact q5, by exact q6⟩)
        rintro ow ρ2 ⟨rfl, q1, q2, q3, q4, q5, q6⟩
        rw [List.length_map, List.take_length] at q2
        refine Ex.cons (Ex1.assign (d := rD (rules ++ [(s', chg s' t')])) (Ev.bin (d1 := rD rules) (d2 := rD [(s', chg s' t')]) (Ev.name (by exact q1)) (Ev.list (ds := [.tup [eD s', eD (chg s' t')]]) (EvL.cons (Ev.tuple (EvL.cons (Ev.name (by exact q5)) (EvL.cons (Ev.name (by exact q6)) EvL.nil)) (sz (Nat.le_of_ble_eq_true rfl))) EvL.nil) (sz (Nat.le_of_ble_eq_true rfl))) ?_) (.inl (by rfl)) (Free.none _) (Ex.nil (Ex.nil ⟨n', Nat.lt_succ_self _, _, _, rfl, by rfl, by exact q2, by exact q3, by exact q4, hX'⟩)))
        rw [rD_map, rD_map, rD_map, List.map_append]
        refine Bin.catL (sz ?_)
        simp only [List.length_map, List.length_cons, List.length_nil]
        omega
      refine turn rfl hr hps e1 e2 fun ρ' f1 f2 f3 f4 f5 f6 f7 => ?_
      refine Ex.cons (Ex1.cond (b := decide (cmpK keys (enV s) (enV t) < 0)) (EvT.cmp (Ev.name (by exact f7)) Ev.cint Cmp.lt) (fun h => ?_) fun h => ?_)
      · have h' := of_decide_eq_true h
        rw [if_pos h'] at hst
        cases hst
        refine Ex.cons (Ex1.assignTup (ds := [eD t, eD s]) (NT.cons (NT.cons NT.nil)) (Ev.tuple (EvL.cons (Ev.name (by exact f6)) (EvL.cons (Ev.name (by exact f5)) EvL.nil)) (sz (Nat.le_of_ble_eq_true rfl))) rfl (fun x hx => ⟨?_, Free.none x⟩) (Ex.nil ?_))
        · simp only [List.mem_cons, List.not_mem_nil, or_false] at hx
          rcases hx with rfl | rfl
          · exact .inr ⟨by rfl, by rfl, by rfl⟩
          · exact .inl (by rfl)
        exact tail _ (by exact f1) (by exact f2) (by exact f3) (by exact f4) (by rfl) (by rfl) (by exact f7)
      · have h' := of_decide_eq_false h
        rw [if_neg h'] at hst
        cases hst
        exact Ex.nil (tail _ f1 f2 f3 f4 f5 f6 f7)
  · have hnil : pairs = [] := by simpa using hb
    subst hnil
    cases hX with
    | nil => exact Ex.ret (Ev.name (by exact g1)) rfl
end
end Mine
end
section
open PySem PySem.Calls PyProof.Rows
set_option maxRecDepth 100000
set_option maxHeartbeats 4000000
namespace Mine
/-- a list of lists of ints -/
noncomputable abbrev lD (nss : List (List Int)) : D := .lst (nss.map fun ns => .lst (ns.map D.int))
noncomputable def rowOf (ns : List Int) : List Int := (List.range 3).map fun (k : Nat) => ((ns.count (k : Int) : Nat) : Int)
/-- two families made one -/
noncomputable def mergeL (labels : List Int) (i j : Nat) : List Int := labels.map fun l => if l = labels.getD i 0 then labels.getD j 0 else l
noncomputable def famStep (bags : List (List Int)) (word : List Int) (labels : List Int) (x : Nat) : List Int :=
  mergeL labels (bags.idxOf (rowOf (word.take 2 ++ [(x : Int)]))) (bags.idxOf (rowOf (word.drop 2 ++ [(x : Int)])))
noncomputable def famWord (bags : List (List Int)) (labels : List Int) (word : List Int) : List Int := (List.range 3).foldl (famStep bags word) labels
noncomputable def famOf (bags words : List (List Int)) : List Int := words.foldl (famWord bags) ((List.range bags.length).map fun (k : Nat) => (k : Int))
theorem mergeL_length (labels : List Int) (i j : Nat) : (mergeL labels i j).length = labels.length := by simp [mergeL]
theorem famStep_length (bags : List (List Int)) (word labels : List Int) (x : Nat) : (famStep bags word labels x).length = labels.length := mergeL_length _ _ _
theorem famFold_length (bags : List (List Int)) (word : List Int) : ∀ (l : List Nat) (labels : List Int), (l.foldl (famStep bags word) labels).length = labels.length
  | [], _ => rfl
  | x :: r, labels => by rw [List.foldl_cons, famFold_length bags word r, famStep_length]
theorem famWords_length (bags : List (List Int)) : ∀ (l : List (List Int)) (labels : List Int), (l.foldl (famWord bags) labels).length = labels.length
  | [], _ => rfl
  | x :: r, labels => by rw [List.foldl_cons, famWords_length bags r]; exact famFold_length _ _ _ _

section
variable {G : GC} {n : Nat}
theorem EvI.ints {cx : Cx} {ow : Ow} {ρ : Vs} {e : Expr} {x : Str} {p : Pos} {ns : List Int} (he : Ev G cx n ow ρ e (iD ns)) : EvI G cx n ow ρ e (.Name x p) (ns.map fun i => [D.int i]) := by
  have := EvI.list (p := p) (x := x) he
  rwa [List.map_map] at this
theorem families_ok {bags words : List (List Int)} (hb : bags.length ≤ 100) (hb3 : ∀ b ∈ bags, b.length = 3) (hw : words.length ≤ 100) (hw4 : ∀ w ∈ words, w.length ≤ 10)
    (hin : ∀ w ∈ words, ∀ x < 3, rowOf (w.take 2 ++ [((x : Nat) : Int)]) ∈ bags ∧ rowOf (w.drop 2 ++ [((x : Nat) : Int)]) ∈ bags) : Fn G (n + 2) "_law_families" [lD bags, lD words] (iD (famOf bags words)) := by
  refine Fn.of_body ["bags", "words"] (dr_mem (i := 13) (h := by decide)) (by rfl) (by rfl) (fun pm code doc vs hv => by
    match vs, hv with
    | [_, _], _ => rfl) (by decide) (by decide +kernel) (by rfl) (by rfl) (by rfl) (by decide +kernel) fun h0 MC L ad pm code doc => ?_
  refine Ex.cons (Ex1.assignComp (as := List.range bags.length) (dl := fun k => [D.int (k : Nat)]) (d := iD ((List.range bags.length).map fun (k : Nat) => (k : Int))) (fun _ => true) (fun k => .int (k : Nat)) TG.name (EvI.range (k := bags.length) (by rfl) (by
      have := CallB.len (G := G) (n := n + 1) (ds := bags.map fun ns => .lst (ns.map D.int)) (sz (by rw [List.length_map]; omega))
      rw [List.length_map] at this
      exact Ev.callB (id := "len") (by rfl) (by decide) (by decide +kernel) (EvL.cons (Ev.name (by rfl)) EvL.nil) this ⟨_, _, rfl, rfl, fun _ => rfl⟩) (by omega)) (by intro _ _; rfl) ⟨by rfl, by rfl, by decide +kernel⟩ ?_ ?_ (fun _ _ _ _ => rfl) ?_ (sz (by rw [List.length_range]; omega)) (by rw [List.filter_eq_self.mpr (fun _ _ => rfl)]; show D.lst (List.map D.int (List.map _ _)) = _; rw [List.map_map]; rfl) (.inl (by rfl)) (Free.none _) ?_)
  · intro x hx h C
    rw [List.mem_singleton.mp hx]
    exact .inl (by rfl)
  · intro x hx
    rw [List.mem_singleton.mp hx]
    decide +kernel
  · intro k hk _ h C
    exact Ev.name (by rfl)
  refine Ex.cons (Ex1.for (dss := (words.map fun ns => D.lst (ns.map D.int)).map fun d => [d]) TG.name (EvI.list (Ev.name (by rfl))) (fun dl hdl => ?_) ?_
    (fun i ow ρ => ow = none ∧ ρ "bags" = some (lD bags) ∧ ρ "labels" = some (iD ((words.take i).foldl (famWord bags) ((List.range bags.length).map fun (k : Nat) => (k : Int))))) ⟨rfl, by rfl, by rfl⟩ ?_ ?_ ?_)
  · obtain ⟨k, _, rfl⟩ := List.mem_map.mp hdl; rfl
  · intro z hz
    rw [List.mem_singleton.mp hz]
    exact .inl (by rfl)
  · rintro i ow ρ ⟨rfl, _⟩ z hz; exact Free.none z
  · rintro i dl ow ρ hdl ⟨rfl, g1, g2⟩
    rw [List.getElem?_map, List.getElem?_map] at hdl
    cases hki : words[i]? with
    | none => rw [hki] at hdl; cases hdl
    | some w =>
      rw [hki] at hdl
      cases hdl
      have hwm := List.mem_of_getElem? hki
      have hstep := foldl_take_succ (famWord bags) words i w ((List.range bags.length).map fun (k : Nat) => (k : Int)) hki
      have hlen : ((words.take i).foldl (famWord bags) ((List.range bags.length).map fun (k : Nat) => (k : Int))).length = bags.length := by rw [famWords_length]; simp
      generalize (words.take i).foldl (famWord bags) ((List.range bags.length).map fun (k : Nat) => (k : Int)) = lab at *
      rw [hstep]
      have hw10 := hw4 w hwm
      refine Ex.cons (Ex1.for (dss := (List.range 3).map fun (k : Nat) => [D.int (k : Int)]) TG.name (EvI.range (k := 3) (by rfl) Ev.cint (by decide)) (fun dl hdl => ?_) ?_
        (fun j ow ρ => ow = none ∧ ρ "bags" = some (lD bags) ∧ ρ "word" = some (iD w) ∧ ρ "labels" = some (iD (((List.range 3).take j).foldl (famStep bags w) lab))) ⟨rfl, by exact g1, by rfl, by exact g2⟩ ?_ ?_ ?_)
      · obtain ⟨k, _, rfl⟩ := List.mem_map.mp hdl; rfl
      · intro z hz
        rw [List.mem_singleton.mp hz]
        exact .inl (by rfl)
      · rintro i ow ρ ⟨rfl, _⟩ z hz; exact Free.none z
      · rintro j dl ow ρ hdl ⟨rfl, f1, f2, f3⟩
        rw [List.getElem?_map] at hdl
        cases hkj : (List.range 3)[j]? with
        | none => rw [hkj] at hdl; cases hdl
        | some x =>
          rw [hkj] at hdl
          cases hdl
          have hx3 : x < 3 := List.mem_range.mp (List.mem_of_getElem? hkj)
          have hstep2 := foldl_take_succ (famStep bags w) (List.range 3) j x lab hkj
          have hlen2 : (((List.range 3).take j).foldl (famStep bags w) lab).length = bags.length := by rw [famFold_length, hlen]
          rw [hstep2]
          generalize ((List.range 3).take j).foldl (famStep bags w) lab = lb at *
          obtain ⟨m1, m2⟩ := hin w hwm x hx3
          have sub : ∀ {q : List Int} {hq : q ∈ bags}, (lb.map D.int)[(((bags.idxOf q : Nat) : Int)).toNat]? = some (.int (lb.getD (bags.idxOf q) 0)) := fun {q hq} => by
            have hi : bags.idxOf q < lb.length := by rw [hlen2]; exact List.idxOf_lt_length_iff.mpr hq
            rw [Int.toNat_natCast, List.getElem?_map, List.getElem?_eq_getElem hi]
            simp [List.getD, List.getElem?_eq_getElem hi]
          have small : ∀ {q : List Int} {hq : q ∈ bags}, ((bags.idxOf q : Nat) : Int) < 1000000 := fun {q hq} => by
            have hi : bags.idxOf q < bags.length := List.idxOf_lt_length_iff.mpr hq
            omega
          have hrl : ∀ q, ∀ ns ∈ bags, ns.length = (rowOf q).length := fun q ns h => by rw [hb3 ns h]; simp [rowOf]
          refine Ex.cons (Ex1.assign (d := .int (lb.getD (bags.idxOf (rowOf (w.take 2 ++ [(x : Int)]))) 0)) (Ev.subL (k := ((bags.idxOf (rowOf (w.take 2 ++ [(x : Int)])) : Nat) : Int)) (Ev.name (by exact f3)) (Ev.meth (Ev.name (by exact f1)) (EvL.cons (Ev.call (by rfl) (dr_mem (i := 12) (h := by decide)) (by rfl) (EvL.cons (Ev.bin (d := iD (w.take 2 ++ [(x : Int)])) (Ev.cutL (lo := none) (hi := some 2) (Ev.name (by exact f2)) EvP.none (EvP.some Ev.cint) trivial (by show (0 : Int) ≤ 2; decide) (.inl rfl) (sz (by rw [List.length_map]; omega))) (Ev.list (ds := [.int (x : Int)]) (EvL.cons (Ev.name (by rfl)) EvL.nil) (sz (Nat.le_of_ble_eq_true rfl))) (by
              have := Bin.catL (G := G) (n := n + 1) (ds := (w.take 2).map D.int) (es := [.int (x : Int)]) (sz (by rw [List.length_map, List.length_take]; simp; omega))
              rw [iD, List.map_append]
              show Bin G (n + 1) .Add (.lst ((w.map D.int).take 2)) _ _
              rw [← List.map_take]; exact this)) EvL.nil) (row_ok (n := n)) ⟨_, _, rfl, rfl, fun _ => rfl⟩) EvL.nil) (CallB.indexL m1 (by omega) (hrl _)) F.plainAttrs_list F.slot_list_index F.type_list_index lst_type ⟨_, _, rfl, rfl, fun _ => rfl⟩) (by omega) (small (hq := m1)) (sub (hq := m1))) (.inr ⟨by rfl, by rfl, by rfl⟩) (Free.none _) ?_)
          refine Ex.cons (Ex1.assign (d := .int (lb.getD (bags.idxOf (rowOf (w.drop 2 ++ [(x : Int)]))) 0)) (Ev.subL (k := ((bags.idxOf (rowOf (w.drop 2 ++ [(x : Int)])) : Nat) : Int)) (Ev.name (by exact f3)) (Ev.meth (Ev.name (by exact f1)) (EvL.cons (Ev.call (by rfl) (dr_mem (i := 12) (h := by decide)) (by rfl) (EvL.cons (Ev.bin (d := iD (w.drop 2 ++ [(x : Int)])) (Ev.cutL (lo := some 2) (hi := none) (Ev.name (by exact f2)) (EvP.some Ev.cint) EvP.none (by show (0 : Int) ≤ 2; decide) trivial (.inr rfl) (sz (by rw [List.length_map]; omega))) (Ev.list (ds := [.int (x : Int)]) (EvL.cons (Ev.name (by rfl)) EvL.nil) (sz (Nat.le_of_ble_eq_true rfl))) (by
              have := Bin.catL (G := G) (n := n + 1) (ds := (w.drop 2).map D.int) (es := [.int (x : Int)]) (sz (by rw [List.length_map, List.length_drop]; simp; omega))
              rw [iD, List.map_append]
              show Bin G (n + 1) .Add (.lst ((w.map D.int).drop 2)) _ _
              rw [← List.map_drop]; exact this)) EvL.nil) (row_ok (n := n)) ⟨_, _, rfl, rfl, fun _ => rfl⟩) EvL.nil) (CallB.indexL m2 (by omega) (hrl _)) F.plainAttrs_list F.slot_list_index F.type_list_index lst_type ⟨_, _, rfl, rfl, fun _ => rfl⟩) (by omega) (small (hq := m2)) (sub (hq := m2))) (.inr ⟨by rfl, by rfl, by rfl⟩) (Free.none _) ?_)
          refine Ex.cons (Ex1.assignComp (as := lb) (dl := fun l => [D.int l]) (d := iD (famStep bags w lb x)) (fun _ => true) (fun l => .int (if l = lb.getD (bags.idxOf (rowOf (w.take 2 ++ [(x : Int)]))) 0 then lb.getD (bags.idxOf (rowOf (w.drop 2 ++ [(x : Int)]))) 0 else l)) TG.name (EvI.ints (Ev.name (by exact f3))) (by intro _ _; rfl) ⟨by rfl, by rfl, by decide +kernel⟩ ?_ ?_ (fun _ _ _ _ => rfl) ?_ (sz (by omega)) (by rw [List.filter_eq_self.mpr (fun _ _ => rfl)]; unfold famStep mergeL; show D.lst (List.map D.int (List.map _ _)) = _; rw [List.map_map]; rfl) (.inl (by rfl)) (Free.none _) (Ex.nil ⟨rfl, by exact f1, by exact f2, by rfl⟩))
          · intro x hx h C
            rw [List.mem_singleton.mp hx]
            exact .inl (by rfl)
          · intro x hx
            rw [List.mem_singleton.mp hx]
            decide +kernel
          · intro l hl _ h C
            refine Ev.ifexp (b := l == lb.getD (bags.idxOf (rowOf (w.take 2 ++ [(x : Int)]))) 0) (EvT.cmp (Ev.name (by rfl)) (Ev.name (by rfl)) Cmp.eq) (fun hb => ?_) (fun hb => ?_)
            · have hb' : l = lb.getD (bags.idxOf (rowOf (w.take 2 ++ [(x : Int)]))) 0 := by simpa using hb
              rw [if_pos hb']
              exact Ev.name (by rfl)
            · have hb' : ¬ l = lb.getD (bags.idxOf (rowOf (w.take 2 ++ [(x : Int)]))) 0 := by simpa using hb
              rw [if_neg hb']
              exact Ev.name (by rfl)
      rintro ow ρ ⟨rfl, f1, f2, f3⟩
      refine Ex.nil ⟨rfl, by exact f1, ?_⟩
      rw [List.length_map, List.take_length] at f3
      exact f3
  rintro ow ρ ⟨rfl, g1, g2⟩
  rw [List.length_map, List.length_map, List.take_length] at g2
  exact Ex.ret (Ev.name (by exact g2)) rfl
end
end Mine
end
section
open PySem PySem.Calls PyProof.Rows
set_option maxRecDepth 100000
set_option maxHeartbeats 8000000
namespace Mine
noncomputable def dig (d : Int) (k : Nat) : Int := (d.fdiv (3 ^ k)).fmod 3
noncomputable def wordOf (d : Int) : List Int := (List.range 4).map (dig d)
theorem dig_range (d : Int) (k : Nat) : 0 ≤ dig d k ∧ dig d k < 3 := ⟨Int.fmod_nonneg_of_pos _ (by decide), Int.fmod_lt_of_pos _ (by decide)⟩
noncomputable def fin3 (i : Int) : _root_.Fin 3 := ⟨i.toNat % 3, Nat.mod_lt _ (by decide)⟩
theorem fin3_val {i : Int} (h0 : 0 ≤ i) (h3 : i < 3) : ((fin3 i).val : Int) = i := by
  show ((i.toNat % 3 : Nat) : Int) = i
  omega
noncomputable def dg (d : Int) (k : Nat) : _root_.Fin 3 := fin3 (dig d k)
noncomputable def wsOf (d : Int) : Int × Int × Int := (1 + dig d 0, 1 + dig d 1, 1 + dig d 2)
theorem smW (d : Int) : SmW (wsOf d) := by
  have h := dig_range d
  refine ⟨?_, ?_, ?_⟩
  · have := h 0; show (1 + dig d 0).natAbs < 2 ^ 62; omega
  · have := h 1; show (1 + dig d 1).natAbs < 2 ^ 62; omega
  · have := h 2; show (1 + dig d 2).natAbs < 2 ^ 62; omega
noncomputable def nmOf (b : Nat) : Str := (flagList.lookup ((2 : Int) ^ b)).getD ""
theorem nm_ok : ∀ b < 10, flagList.lookup ((2 : Int) ^ b) = some (nmOf b) := by decide +kernel
noncomputable def baseOf (d : Int) : Nat := ((d.fdiv 48).fmod 8).toNat
theorem base_lt (d : Int) : ((baseOf d : Nat) : Int) = (d.fdiv 48).fmod 8 ∧ baseOf d < 8 := by
  have h1 := Int.fmod_nonneg_of_pos (d.fdiv 48) (b := 8) (by decide)
  have h2 := Int.fmod_lt_of_pos (d.fdiv 48) (b := 8) (by decide)
  unfold baseOf
  omega
noncomputable def nmK (d : Int) (k : Nat) : Str := nmOf (baseOf d + k)
/-- a word's pieces -/
noncomputable def toks (d : Int) : List Tk := [.sg (dg d 0), .sg (dg d 1), .arrow, .sg (dg d 2), .sg (dg d 3)]
noncomputable def lft (d : Int) : List Int := rowOf ((wordOf d).take 2)
noncomputable def rgt (d : Int) : List Int := rowOf ((wordOf d).drop 2)
theorem cnt2 : ∀ (a b : _root_.Fin 3) (S : List (List Int)), sideStep (sideStep (S, [0, 0, 0]) (.sg a)) (.sg b) = (S, rowOf [(a.val : Int), (b.val : Int)]) := by
  intro a b S
  have : ∀ a b : _root_.Fin 3, (([0, 0, 0] : List Int).set a.val (([0, 0, 0] : List Int).getD a.val 0 + 1)).set b.val ((([0, 0, 0] : List Int).set a.val (([0, 0, 0] : List Int).getD a.val 0 + 1)).getD b.val 0 + 1) = rowOf [(a.val : Int), (b.val : Int)] := by decide +kernel
  show (S, _) = (S, _)
  rw [← this a b]; rfl
theorem sides_word (d : Int) (S : List (List Int)) : (toks d).foldl sideStep (S, [0, 0, 0]) = (S ++ [lft d], rgt d) := by
  have h := dig_range d
  have e : ∀ k, ((dg d k).val : Int) = dig d k := fun k => fin3_val (h k).1 (h k).2
  show sideStep (sideStep (sideStep (sideStep (sideStep (S, [0, 0, 0]) (.sg (dg d 0))) (.sg (dg d 1))) .arrow) (.sg (dg d 2))) (.sg (dg d 3)) = _
  rw [cnt2, e, e]
  show sideStep (sideStep (S ++ [_], [0, 0, 0]) (.sg (dg d 2))) (.sg (dg d 3)) = _
  rw [cnt2, e, e]
  rfl
noncomputable def toks3 (d0 d1 d2 : Int) : List Tk := toks d0 ++ .colon :: (toks d1 ++ .colon :: toks d2)
theorem sides3 (d0 d1 d2 : Int) : sidesOf (toks3 d0 d1 d2) = [lft d0, rgt d0, lft d1, rgt d1, lft d2, rgt d2] := by
  unfold sidesOf toks3
  rw [List.foldl_append, List.foldl_cons, List.foldl_append, List.foldl_cons, sides_word]
  show (let s := (toks d2).foldl sideStep (sideStep ((toks d1).foldl sideStep ([] ++ [lft d0] ++ [rgt d0], [0, 0, 0])) .colon); s.1 ++ [s.2]) = _
  rw [sides_word]
  show (let s := (toks d2).foldl sideStep ([] ++ [lft d0] ++ [rgt d0] ++ [lft d1] ++ [rgt d1], [0, 0, 0]); s.1 ++ [s.2]) = _
  rw [sides_word]
  rfl
theorem row_lit (ns : List Int) : rowOf ns = [((ns.count 0 : Nat) : Int), ((ns.count 1 : Nat) : Int), ((ns.count 2 : Nat) : Int)] := rfl
noncomputable def entL (row : List Int) (k : List (Str × Int)) (ws : Int × Int × Int) : En := ent (row.getD 0 0) (row.getD 1 0) (row.getD 2 0) k ws
noncomputable def startOf (d d4 : Int) : En := entL (lft d) [] (wsOf d4)
noncomputable def endOf (d d3 d4 : Int) (k : Nat) : En := entL (rgt d) [(nmK d3 k, 1)] (wsOf d4)
noncomputable def pairsOf (d0 d1 d2 d3 d4 : Int) : List (En × En) := [(startOf d0 d4, endOf d0 d3 d4 0), (startOf d1 d4, endOf d1 d3 d4 1), (startOf d2 d4, endOf d2 d3 d4 2)]
noncomputable def bags10 : List (List Int) := (List.range 4).flatMap fun (i : Nat) => (List.range (4 - i)).map fun (j : Nat) => [(i : Int), (j : Int), 3 - (i : Int) - (j : Int)]
noncomputable def chOf (d : Int) : List Int := (List.range 3).map fun (k : Nat) => ((((wordOf d).drop 2).count (k : Int) : Nat) : Int) - ((((wordOf d).take 2).count (k : Int) : Nat) : Int)
noncomputable def doneOf (d3 : Int) (e : En) : List Int := (List.range 3).map fun m => (e.k.lookup (nmK d3 m)).getD 0
noncomputable def dueOf (d0 d1 d2 d3 : Int) (bag : List Int) (e : En) (k : Nat) : Int := bag.getD k 0 + [(doneOf d3 e).getD 0 0 * (chOf d0).getD k 0, (doneOf d3 e).getD 1 0 * (chOf d1).getD k 0, (doneOf d3 e).getD 2 0 * (chOf d2).getD k 0].sum
noncomputable def numOf (d3 : Int) (e : En) : Int := numK (colOf d3 0, wayOf d3 0) (colOf d3 1, wayOf d3 1) (colOf d3 2, wayOf d3 2) e
noncomputable def numOk (d3 : Int) (e : En) : Prop := VOk (fig e (colOf d3 0, wayOf d3 0) + 64) (fig e (colOf d3 1, wayOf d3 1) + 192) (fig e (colOf d3 2, wayOf d3 2))
noncomputable def labsOf (d0 d1 d2 : Int) : List Int := famOf bags10 [wordOf d0, wordOf d1, wordOf d2]
noncomputable def numsOf (d3 d4 : Int) : List Int := bags10.map fun b => numOf d3 (entL b [] (wsOf d4))
/-- what the plain law must show -/
structure LawOk (d0 d1 d2 d3 d4 : Int) : Prop where
  ex : ∃ k out, Compl (keysOf d3) (wsOf d4) k [] (pairsOf d0 d1 d2 d3 d4) out ∧ out.length ≤ 1000 ∧
    (∀ b ∈ bags10, numOk d3 (entL b [] (wsOf d4))) ∧
    ∀ (i : Nat) (b : List Int) (l : Int), bags10[i]? = some b → (labsOf d0 d1 d2)[i]? = some l → ∃ j e, Exch out j (entL b [] (wsOf d4)) e ∧ numOk d3 e ∧
      numOf d3 e = lowOf ((((numsOf d3 d4).zip (labsOf d0 d1 d2)).filter fun x => x.2 == l).map (·.1)) ∧ Sm e.a ∧ Sm e.b ∧ Sm e.c ∧
      dueOf d0 d1 d2 d3 b e 0 = e.a ∧ dueOf d0 d1 d2 d3 b e 1 = e.b ∧ dueOf d0 d1 d2 d3 b e 2 = e.c ∧ e.w = wt e.a e.b e.c (wsOf d4)
end Mine
end
section
open PySem PySem.Calls PyProof.Rows
set_option maxRecDepth 100000
set_option maxHeartbeats 16000000
namespace Mine
theorem join3 (a b c : List Nat) : Txt.join (T [58]) [T a, T b, T c] = T (a ++ (58 :: (b ++ 58 :: c))) := by
  have : Txt.join (T [58]) [T a, T b, T c] = (((T a ++ T [58]) ++ T b) ++ T [58]) ++ T c := by
    first | rfl | (simp [Txt.join, Builtin.Str.glued]; done)
  rw [this, T_append, T_append, T_append, T_append]
  simp
section
variable {G : GC} {n : Nat}
theorem Ex1.assignTwo {cx : Cx} {ow : Ow} {ρ : Vs} {P : Out → Prop} {target iter target2 iter2 elt : Expr} {scope : Scope} {spos p pos : Pos} {xs xs2 : List Str} {x : Str} {dss : List (List D)} {d : D} (ds2 : List D → List (List D)) (f : List D → List D → D) (tg : TG target xs) (it : EvI G cx n ow ρ iter target dss) (hl : ∀ dl ∈ dss, dl.length = xs.length) (ok : CompOk cx scope)
    (hx : ∀ x ∈ xs, ∀ h C, CanStore (compCx cx scope h C) x) (hxf : ∀ x ∈ xs, scope.names.lookup x ≠ some .free)
    (tg2 : TG target2 xs2) (it2 : ∀ dl ∈ dss, ∀ h C, EvI G (compCx cx scope h C) n Option.none (updAll (compρ ρ scope) xs dl) iter2 target2 (ds2 dl)) (hl2 : ∀ dl ∈ dss, ∀ dl2 ∈ ds2 dl, dl2.length = xs2.length)
    (hx2 : ∀ x ∈ xs2, ∀ h C, CanStore (compCx cx scope h C) x) (hxf2 : ∀ x ∈ xs2, scope.names.lookup x ≠ some .free ∧ x ∉ xs)
    (elts : ∀ dl ∈ dss, ∀ dl2 ∈ ds2 dl, ∀ h C, Ev G (compCx cx scope h C) n Option.none (updAll (updAll (compρ ρ scope) xs dl) xs2 dl2) elt (f dl dl2))
    (hz : (dss.flatMap ds2).length ≤ sizeLine) (hd : d = .lst (dss.flatMap fun dl => (ds2 dl).map (f dl))) (hc : CanStore cx x) (hf : Free ow x) (hP : P (.next ow (upd ρ x d)))
    (hsw : swapsWith (.ListComp elt [⟨target, iter, [], 0⟩, ⟨target2, iter2, [], 0⟩] scope spos) (some (.Name x p)) pos.line cx.env = pure true := by rfl)
    (hs : ∀ x, foldedSetIterable iter cx.env x = pure x := by intro _; rfl)
    (hs2 : ∀ h C x, foldedSetIterable iter2 (compCx cx scope h C).env x = pure x := by intro _ _ _; rfl) : Ex1 G cx n ow ρ (.Assign [.Name x p] (.ListComp elt [⟨target, iter, [], 0⟩, ⟨target2, iter2, [], 0⟩] scope spos) pos) P := by
  subst hd
  exact Ex1.ofComp (CompIs.two ds2 f tg it hl ok hx hxf tg2 it2 hl2 hx2 hxf2 elts hz hs hs2) hc hf hP rfl hsw

theorem Bin.two {k : Nat} (hk : k < 3) : Bin G n .Mult (.int 2) (.int (k : Int)) (.int (2 * (k : Int))) := Bin.mul (Sm.mul (by decide) (by unfold Sm; omega))
theorem dig_ev {cx : Cx} {ρ : Vs} {e1 e2 : Expr} {p1 p2 p3 p4 p5 : Pos} {d : Int} {k : Nat} (hk : k < 4) (h1 : Ev G cx n none ρ e1 (.int d)) (h2 : Ev G cx n none ρ e2 (.int (k : Int))) :
    Ev G cx n none ρ (.BinOp (.BinOp e1 .FloorDiv (.BinOp (.Constant (.int 3) 0 p1) .Pow e2 p2) p3) .Mod (.Constant (.int 3) 0 p4) p5) (.int (dig d k)) := by
  have hp : ((3 : Int) ^ ((k : Nat) : Int).toNat) = 3 ^ k := by simp
  have h4 : k = 0 ∨ k = 1 ∨ k = 2 ∨ k = 3 := by omega
  have hne : ((3 : Int) ^ k) ≠ 0 := by rcases h4 with rfl | rfl | rfl | rfl <;> decide
  have hsm : ((3 : Int) ^ k).natAbs < 1073741824 := by rcases h4 with rfl | rfl | rfl | rfl <;> decide
  exact Ev.bin (Ev.bin h1 (Ev.bin (d := .int (3 ^ k)) Ev.cint h2 (by rw [← hp]; exact Bin.pow (by omega) (by omega) (by decide))) (Bin.fdiv hne hsm)) Ev.cint (Bin.mod (by decide))

theorem law_front {ns : List Int} {d0 d1 d2 d3 d4 : Int} (hz : ns.length ≤ 63) (hd : drawOf ns = [d0, d1, d2, d3, d4]) (hsg : ∃ sg : _root_.Fin 3 → Nat, signsOf d4 = [sg 0, sg 1, sg 2] ∧ (∀ i, sg i ∈ allSigns) ∧ (∀ i j, sg i = sg j → i = j))
    {h0 : Heap} {MC : List Addr} {L ad : Addr} {pm code doc : Value} {P : Out → Prop}
    (rest : ∀ ρ, ρ "words" = some (lD [wordOf d0, wordOf d1, wordOf d2]) → ρ "weights" = some (wsD (wsOf d4)) → ρ "keys" = some (.lst (kD (keysOf d3))) → ρ "names" = some (.lst [.str (nmK d3 0), .str (nmK d3 1), .str (nmK d3 2)]) →
      ρ "starts" = some (.lst [eD (startOf d0 d4), eD (startOf d1 d4), eD (startOf d2 d4)]) → ρ "ends" = some (.lst [eD (endOf d0 d3 d4 0), eD (endOf d1 d3 d4 1), eD (endOf d2 d3 d4 2)]) →
      Ex G (mkCx (dr 14 (by decide)) h0 MC L ad pm code doc) (n + 6) none ρ ((dr 14 (by decide)).body.drop 11) P) :
    Ex G (mkCx (dr 14 (by decide)) h0 MC L ad pm code doc) (n + 6) none (args0 ["script"] [iD ns]) (dr 14 (by decide)).body P := by
  obtain ⟨sg, hs0, hs1, hs2⟩ := hsg
  have hdk := dig_range
  -- draw
  refine Ex.cons (Ex1.assign (d := iD [d0, d1, d2, d3, d4]) (by rw [← hd]; exact Ev.call (by rfl) (dr_mem (i := 3) (h := by decide)) (by rfl) (EvL.cons (Ev.name (by rfl)) EvL.nil) (draw_ok (n := n + 5) hz) ⟨_, _, rfl, rfl, fun _ => rfl⟩) (.inr ⟨by rfl, by rfl, by rfl⟩) (Free.none _) ?_)
  -- words
  refine Ex.cons (Ex1.assignComp (as := [d0, d1, d2]) (dl := fun d => [D.int d]) (d := lD [wordOf d0, wordOf d1, wordOf d2]) (fun _ => true) (fun d => iD (wordOf d)) TG.name (EvI.ints (ns := [d0, d1, d2]) (Ev.cutL (ds := [d0, d1, d2, d3, d4].map D.int) (lo := none) (hi := some 3) (Ev.name (by rfl)) EvP.none (EvP.some Ev.cint) trivial (by show (0 : Int) ≤ 3; decide) (.inl rfl) (sz (Nat.le_of_ble_eq_true rfl)))) (fun _ _ => rfl) ⟨by rfl, by rfl, by decide +kernel⟩ ?_ ?_ (fun _ _ _ _ => rfl) ?_ (sz (Nat.le_of_ble_eq_true rfl)) (by rfl) (.inl (by rfl)) (Free.none _) ?_)
  · intro x hx h C
    rw [List.mem_singleton.mp hx]
    exact .inr ⟨by rfl, by rfl, by rfl⟩
  · intro x hx
    rw [List.mem_singleton.mp hx]
    decide +kernel
  · intro d _ _ h C
    refine Ev.lcomp (as := List.range 4) (fun _ => true) (fun k => .int (dig d k)) TG.name (EvI.range (k := 4) (by rfl) Ev.cint (by decide)) (by intro _ _; rfl) ⟨by rfl, by rfl, by decide +kernel⟩ ?_ ?_ (fun _ _ _ _ => rfl) ?_ (sz (by decide)) (by rfl)
    · intro x hx h C
      rw [List.mem_singleton.mp hx]
      exact .inl (by rfl)
    · intro x hx
      rw [List.mem_singleton.mp hx]
      decide +kernel
    · intro k hk _ h C
      exact dig_ev (List.mem_range.mp hk) (Ev.name (by rfl)) (Ev.name (by rfl))
  -- signs
  refine Ex.cons (Ex1.assign (d := .str (T [sg 0, sg 1, sg 2])) (by rw [← hs0]; exact Ev.call (by rfl) (dr_mem (i := 4) (h := by decide)) (by rfl) (EvL.cons (Ev.subL (k := 4) (Ev.name (by rfl)) Ev.cint (by decide) (by decide) (by rfl)) EvL.nil) (signs_ok (n := n + 5)) ⟨_, _, rfl, rfl, fun _ => rfl⟩) (.inr ⟨by rfl, by rfl, by rfl⟩) (Free.none _) ?_)
  -- weights
  refine Ex.cons (Ex1.assign (d := wsD (wsOf d4)) (Ev.lcomp (as := List.range 3) (dl := fun k => [D.int (k : Nat)]) (fun _ => true) (fun k => .int (1 + dig d4 k)) TG.name (EvI.range (k := 3) (by rfl) Ev.cint (by decide)) (fun _ _ => rfl) ⟨by rfl, by rfl, by decide +kernel⟩ ?_ ?_ (fun _ _ _ _ => rfl) ?_ (sz (Nat.le_of_ble_eq_true rfl)) (by rfl)) (.inr ⟨by rfl, by rfl, by rfl⟩) (Free.none _) ?_)
  · intro x hx h C
    rw [List.mem_singleton.mp hx]
    exact .inl (by rfl)
  · intro x hx
    rw [List.mem_singleton.mp hx]
    decide +kernel
  · intro k hk _ h C
    exact Ev.bin Ev.cint (dig_ev (by have := List.mem_range.mp hk; omega) (Ev.subL (k := 4) (Ev.name (by rfl)) Ev.cint (by decide) (by decide) (by rfl)) (Ev.name (by rfl))) Bin.add
  -- spelled
  have hdv : ∀ d k, ((dg d k).val : Int) = dig d k := fun d k => fin3_val (hdk d k).1 (hdk d k).2
  have hget : ∀ d k, [sg 0, sg 1, sg 2][(dig d k).toNat]? = some (sg (dg d k)) := fun d k => by
    have : (dig d k).toNat = (dg d k).val := by have := hdv d k; omega
    rw [this]
    match dg d k with
    | 0 => rfl
    | 1 => rfl
    | 2 => rfl
  let sp : Int → List Nat := fun d => [sg (dg d 0), sg (dg d 1), sg (dg d 2), sg (dg d 3)]
  refine Ex.cons (Ex1.assignComp (as := [d0, d1, d2]) (dl := fun d => [iD (wordOf d)]) (d := .lst [.str (T (sp d0)), .str (T (sp d1)), .str (T (sp d2))]) (fun _ => true) (fun d => .str (T (sp d))) TG.name (EvI.list (ds := [iD (wordOf d0), iD (wordOf d1), iD (wordOf d2)]) (Ev.name (by rfl))) (fun _ _ => rfl) ⟨by rfl, by rfl, by decide +kernel⟩ ?_ ?_ (fun _ _ _ _ => rfl) ?_ (sz (Nat.le_of_ble_eq_true rfl)) (by rfl) (.inl (by rfl)) (Free.none _) ?_)
  · intro x hx h C
    rw [List.mem_singleton.mp hx]
    exact .inl (by rfl)
  · intro x hx
    rw [List.mem_singleton.mp hx]
    decide +kernel
  · intro d _ _ h C
    refine Ev.meth (d0 := .str (T [])) Ev.cstr (EvL.cons (Ev.lcomp (d := .lst ([T [sg (dg d 0)], T [sg (dg d 1)], T [sg (dg d 2)], T [sg (dg d 3)]].map D.str)) (as := List.range 4) (dl := fun k => [.int (dig d k)]) (fun _ => true) (fun k => .str (T [sg (dg d k)])) TG.name (EvI.ints (ns := wordOf d) (Ev.name (by rfl))) (by intro _ _; rfl) ⟨by rfl, by rfl, by decide +kernel⟩ ?_ ?_ (fun _ _ _ _ => rfl) ?_ (sz (by decide)) (by rfl)) EvL.nil) (CallB.join (x := T []) (ys := [T [sg (dg d 0)], T [sg (dg d 1)], T [sg (dg d 2)], T [sg (dg d 3)]]) (by simp [T_len])) F.plainAttrs_str F.slot_str_join F.type_str_join str_type ⟨_, _, rfl, rfl, fun _ => rfl⟩
    · intro x hx h C
      rw [List.mem_singleton.mp hx]
      exact .inl (by rfl)
    · intro x hx
      rw [List.mem_singleton.mp hx]
      decide +kernel
    · intro k hk _ h C
      exact Ev.subS (k := dig d k) (Ev.name (by rfl)) (Ev.name (by rfl)) (hdk d k).1 (by have := (hdk d k).2; omega) (hget d k)
  -- text
  refine Ex.cons (Ex1.assign (d := .str (T (spellAll sg (toks3 d0 d1 d2)))) (Ev.meth (d0 := .str (T [58])) Ev.cstr (EvL.cons (Ev.lcomp (d := .lst ([T (spellAll sg (toks d0)), T (spellAll sg (toks d1)), T (spellAll sg (toks d2))].map D.str)) (as := [d0, d1, d2]) (dl := fun d => [.str (T (sp d))]) (fun _ => true) (fun d => .str (T (spellAll sg (toks d)))) TG.name (EvI.list (ds := [.str (T (sp d0)), .str (T (sp d1)), .str (T (sp d2))]) (Ev.name (by rfl))) (by intro _ _; rfl) ⟨by rfl, by rfl, by decide +kernel⟩ ?_ ?_ (fun _ _ _ _ => rfl) ?_ (sz (Nat.le_of_ble_eq_true rfl)) (by rfl)) EvL.nil) (by
      have := CallB.join (G := G) (n := n + 6) (x := T [58]) (ys := [T (spellAll sg (toks d0)), T (spellAll sg (toks d1)), T (spellAll sg (toks d2))]) (by simp [T_len, spellAll, toks, spell])
      rw [join3] at this
      exact this) F.plainAttrs_str F.slot_str_join F.type_str_join str_type ⟨_, _, rfl, rfl, fun _ => rfl⟩) (.inl (by rfl)) (Free.none _) ?_)
  · intro x hx h C
    rw [List.mem_singleton.mp hx]
    exact .inl (by rfl)
  · intro x hx
    rw [List.mem_singleton.mp hx]
    decide +kernel
  · intro d _ _ h C
    refine Ev.bin (d1 := .str (T ((sp d).take 2 ++ [45, 62]))) (d2 := .str (T ((sp d).drop 2))) ?_ ?_ ?_
    · refine Ev.bin (d1 := .str (T ((sp d).take 2))) (d2 := .str (T [45, 62])) ?_ Ev.cstr ?_
      · exact Ev.cutS (x := sp d) (lo := none) (hi := some 2) (Ev.name (by rfl)) EvP.none (EvP.some Ev.cint) trivial (by show (0 : Int) ≤ 2; decide) (.inl rfl) (sz (Nat.le_of_ble_eq_true rfl))
      · rw [← T_append]
        exact Bin.cat (sz (Nat.le_of_ble_eq_true rfl))
    · exact Ev.cutS (x := sp d) (lo := some 2) (hi := none) (Ev.name (by rfl)) (EvP.some Ev.cint) EvP.none (by show (0 : Int) ≤ 2; decide) trivial (.inr rfl) (sz (Nat.le_of_ble_eq_true rfl))
    · have := Bin.cat (G := G) (n := n + 6) (x := T ((sp d).take 2 ++ [45, 62])) (y := T ((sp d).drop 2)) (sz (Nat.le_of_ble_eq_true rfl))
      rw [T_append] at this
      exact this
  -- keys
  refine Ex.cons (Ex1.assign (d := .lst (kD (keysOf d3))) (Ev.call (by rfl) (dr_mem (i := 5) (h := by decide)) (by rfl) (EvL.cons (Ev.subL (k := 3) (Ev.name (by rfl)) Ev.cint (by decide) (by decide) (by rfl)) EvL.nil) (keys_ok (n := n + 5)) ⟨_, _, rfl, rfl, fun _ => rfl⟩) (.inr ⟨by rfl, by rfl, by rfl⟩) (Free.none _) ?_)
  -- names
  refine Ex.cons (Ex1.assign (d := .lst [.str (nmK d3 0), .str (nmK d3 1), .str (nmK d3 2)]) (Ev.lcomp (as := List.range 3) (dl := fun k => [D.int (k : Nat)]) (fun _ => true) (fun k => .str (nmK d3 k)) TG.name (EvI.range (k := 3) (by rfl) Ev.cint (by decide)) (fun _ _ => rfl) ⟨by rfl, by rfl, by decide +kernel⟩ ?_ ?_ (fun _ _ _ _ => rfl) ?_ (sz (Nat.le_of_ble_eq_true rfl)) (by rfl)) (.inr ⟨by rfl, by rfl, by rfl⟩) (Free.none _) ?_)
  · intro x hx h C
    rw [List.mem_singleton.mp hx]
    exact .inl (by rfl)
  · intro x hx
    rw [List.mem_singleton.mp hx]
    decide +kernel
  · intro k hk _ h C
    have hk3 := List.mem_range.mp hk
    obtain ⟨b1, b2⟩ := base_lt d3
    refine Ev.flag (k := 1 * 2 ^ ((d3.fdiv 48).fmod 8 + (k : Int)).toNat) (by rfl) (Ev.bin Ev.cint (Ev.bin (Ev.bin (Ev.bin (Ev.subL (k := 3) (Ev.name (by rfl)) Ev.cint (by decide) (by decide) (by rfl)) Ev.cint (Bin.fdiv (by decide) (by decide))) Ev.cint (Bin.mod (by decide))) (Ev.name (by rfl)) Bin.add) (Bin.shl (by omega) (by omega) (by decide))) ?_
    have e : ((d3.fdiv 48).fmod 8 + (k : Int)).toNat = baseOf d3 + k := by omega
    rw [e, Int.one_mul]
    exact nm_ok _ (by omega)
  -- sides
  refine Ex.cons (Ex1.assign (d := .lst [iD (lft d0), iD (rgt d0), iD (lft d1), iD (rgt d1), iD (lft d2), iD (rgt d2)]) (by
      have := sides_ok (G := G) (n := n + 5) hs1 hs2 (ts := toks3 d0 d1 d2) (by simp [toks3, toks])
      rw [sides3] at this
      exact Ev.call (by rfl) (dr_mem (i := 6) (h := by decide)) (by rfl) (EvL.cons (Ev.name (by rfl)) (EvL.cons (Ev.name (by rfl)) EvL.nil)) this ⟨_, _, rfl, rfl, fun _ => rfl⟩) (.inr ⟨by rfl, by rfl, by rfl⟩) (Free.none _) ?_)
  have hw := smW d4
  have smc : ∀ (l : List Int) (k : Int), l.length ≤ 10 → Sm ((l.count k : Nat) : Int) := fun l k hl => by
    have := List.count_le_length (a := k) (l := l)
    unfold Sm; omega
  have l4 : ∀ d, ((wordOf d).take 2).length ≤ 10 ∧ ((wordOf d).drop 2).length ≤ 10 := fun d => by simp [wordOf]
  -- starts
  refine Ex.cons (Ex1.assign (d := .lst [eD (startOf d0 d4), eD (startOf d1 d4), eD (startOf d2 d4)]) (Ev.lcomp (as := List.range 3) (dl := fun k => [D.int (k : Nat)]) (fun _ => true) (fun k => eD (match k with | 0 => startOf d0 d4 | 1 => startOf d1 d4 | _ => startOf d2 d4)) TG.name (EvI.range (k := 3) (by rfl) Ev.cint (by decide)) (fun _ _ => rfl) ⟨by rfl, by rfl, by decide +kernel⟩ ?_ ?_ (fun _ _ _ _ => rfl) ?_ (sz (Nat.le_of_ble_eq_true rfl)) (by rfl)) (.inr ⟨by rfl, by rfl, by rfl⟩) (Free.none _) ?_)
  · intro x hx h C
    rw [List.mem_singleton.mp hx]
    exact .inl (by rfl)
  · intro x hx
    rw [List.mem_singleton.mp hx]
    decide +kernel
  · intro k hk _ h C
    have h3 : k = 0 ∨ k = 1 ∨ k = 2 := by have := List.mem_range.mp hk; omega
    have one : ∀ d, Fn G (n + 6) "_law_entry" [iD (lft d), .dct [], wsD (wsOf d4)] (eD (startOf d d4)) := fun d => entry_ok (n := n + 5) (smc _ _ (l4 d).1) (smc _ _ (l4 d).1) (smc _ _ (l4 d).1) hw.a hw.b hw.c
    rcases h3 with rfl | rfl | rfl
    · exact Ev.call (by rfl) (dr_mem (i := 7) (h := by decide)) (by rfl) (EvL.cons (Ev.subL (k := 0) (Ev.name (by rfl)) (Ev.bin (d := .int 0) Ev.cint (Ev.name (by rfl)) (Bin.two (k := 0) (by decide))) (by decide) (by decide) (by rfl)) (EvL.cons Ev.dict0 (EvL.cons (Ev.name (by rfl)) EvL.nil))) (one d0) ⟨_, _, rfl, rfl, fun _ => rfl⟩
    · exact Ev.call (by rfl) (dr_mem (i := 7) (h := by decide)) (by rfl) (EvL.cons (Ev.subL (k := 2) (Ev.name (by rfl)) (Ev.bin (d := .int 2) Ev.cint (Ev.name (by rfl)) (Bin.two (k := 1) (by decide))) (by decide) (by decide) (by rfl)) (EvL.cons Ev.dict0 (EvL.cons (Ev.name (by rfl)) EvL.nil))) (one d1) ⟨_, _, rfl, rfl, fun _ => rfl⟩
    · exact Ev.call (by rfl) (dr_mem (i := 7) (h := by decide)) (by rfl) (EvL.cons (Ev.subL (k := 4) (Ev.name (by rfl)) (Ev.bin (d := .int 4) Ev.cint (Ev.name (by rfl)) (Bin.two (k := 2) (by decide))) (by decide) (by decide) (by rfl)) (EvL.cons Ev.dict0 (EvL.cons (Ev.name (by rfl)) EvL.nil))) (one d2) ⟨_, _, rfl, rfl, fun _ => rfl⟩
  -- ends
  refine Ex.cons (Ex1.assign (d := .lst [eD (endOf d0 d3 d4 0), eD (endOf d1 d3 d4 1), eD (endOf d2 d3 d4 2)]) (Ev.lcomp (as := List.range 3) (dl := fun k => [D.int (k : Nat)]) (fun _ => true) (fun k => eD (match k with | 0 => endOf d0 d3 d4 0 | 1 => endOf d1 d3 d4 1 | _ => endOf d2 d3 d4 2)) TG.name (EvI.range (k := 3) (by rfl) Ev.cint (by decide)) (fun _ _ => rfl) ⟨by rfl, by rfl, by decide +kernel⟩ ?_ ?_ (fun _ _ _ _ => rfl) ?_ (sz (Nat.le_of_ble_eq_true rfl)) (by rfl)) (.inr ⟨by rfl, by rfl, by rfl⟩) (Free.none _) ?_)
  · intro x hx h C
    rw [List.mem_singleton.mp hx]
    exact .inl (by rfl)
  · intro x hx
    rw [List.mem_singleton.mp hx]
    decide +kernel
  · intro k hk _ h C
    have h3 : k = 0 ∨ k = 1 ∨ k = 2 := by have := List.mem_range.mp hk; omega
    have one : ∀ d m, Fn G (n + 6) "_law_entry" [iD (rgt d), .dct [(nmK d3 m, 1)], wsD (wsOf d4)] (eD (endOf d d3 d4 m)) := fun d m => entry_ok (n := n + 5) (smc _ _ (l4 d).2) (smc _ _ (l4 d).2) (smc _ _ (l4 d).2) hw.a hw.b hw.c
    rcases h3 with rfl | rfl | rfl
    · exact Ev.call (by rfl) (dr_mem (i := 7) (h := by decide)) (by rfl) (EvL.cons (Ev.subL (k := 1) (Ev.name (by rfl)) (Ev.bin (d := .int 1) (Ev.bin (d := .int 0) Ev.cint (Ev.name (by rfl)) (Bin.two (k := 0) (by decide))) Ev.cint Bin.add) (by decide) (by decide) (by rfl)) (EvL.cons (Ev.dict1 (Ev.subL (k := 0) (Ev.name (by rfl)) (Ev.name (by rfl)) (by decide) (by decide) (by rfl)) Ev.cint) (EvL.cons (Ev.name (by rfl)) EvL.nil))) (one d0 0) ⟨_, _, rfl, rfl, fun _ => rfl⟩
    · exact Ev.call (by rfl) (dr_mem (i := 7) (h := by decide)) (by rfl) (EvL.cons (Ev.subL (k := 3) (Ev.name (by rfl)) (Ev.bin (d := .int 3) (Ev.bin (d := .int 2) Ev.cint (Ev.name (by rfl)) (Bin.two (k := 1) (by decide))) Ev.cint Bin.add) (by decide) (by decide) (by rfl)) (EvL.cons (Ev.dict1 (Ev.subL (k := 1) (Ev.name (by rfl)) (Ev.name (by rfl)) (by decide) (by decide) (by rfl)) Ev.cint) (EvL.cons (Ev.name (by rfl)) EvL.nil))) (one d1 1) ⟨_, _, rfl, rfl, fun _ => rfl⟩
    · exact Ev.call (by rfl) (dr_mem (i := 7) (h := by decide)) (by rfl) (EvL.cons (Ev.subL (k := 5) (Ev.name (by rfl)) (Ev.bin (d := .int 5) (Ev.bin (d := .int 4) Ev.cint (Ev.name (by rfl)) (Bin.two (k := 2) (by decide))) Ev.cint Bin.add) (by decide) (by decide) (by rfl)) (EvL.cons (Ev.dict1 (Ev.subL (k := 2) (Ev.name (by rfl)) (Ev.name (by rfl)) (by decide) (by decide) (by rfl)) Ev.cint) (EvL.cons (Ev.name (by rfl)) EvL.nil))) (one d2 2) ⟨_, _, rfl, rfl, fun _ => rfl⟩
  exact rest _ (by rfl) (by rfl) (by rfl) (by rfl) (by rfl) (by rfl)
end
end Mine
end
section
open PySem PySem.Calls PyProof.Rows
set_option maxRecDepth 100000
set_option maxHeartbeats 16000000
namespace Mine
section
variable {G : GC} {n : Nat}
theorem bags_len : bags10.length = 10 ∧ (∀ b ∈ bags10, b.length = 3) ∧ (∀ b ∈ bags10, ∀ x ∈ b, 0 ≤ x ∧ x ≤ 3) := by decide +kernel
theorem row_in : ∀ a b c : _root_.Fin 3, rowOf [(a.val : Int), (b.val : Int), (c.val : Int)] ∈ bags10 := by decide +kernel
theorem word_in (d : Int) : ∀ x < 3, rowOf ((wordOf d).take 2 ++ [((x : Nat) : Int)]) ∈ bags10 ∧ rowOf ((wordOf d).drop 2 ++ [((x : Nat) : Int)]) ∈ bags10 := by
  intro x hx
  have e : ∀ k, ((dg d k).val : Int) = dig d k := fun k => fin3_val (dig_range d k).1 (dig_range d k).2
  have h1 := row_in (dg d 0) (dg d 1) ⟨x, hx⟩
  have h2 := row_in (dg d 2) (dg d 3) ⟨x, hx⟩
  rw [e, e] at h1 h2
  exact ⟨h1, h2⟩
theorem labs_length (d0 d1 d2 : Int) : (labsOf d0 d1 d2).length = 10 := by
  unfold labsOf famOf
  rw [famWords_length, List.length_map, List.length_range, bags_len.1]
theorem row3 {b : List Int} (h : b.length = 3) : b = [b.getD 0 0, b.getD 1 0, b.getD 2 0] := by
  match b, h with
  | [x, y, z], _ => rfl

theorem EvI.mapD {α : Type} {cx : Cx} {ow : Ow} {ρ : Vs} {e : Expr} {x : Str} {p : Pos} {as : List α} {f : α → D} (he : Ev G cx n ow ρ e (.lst (as.map f))) : EvI G cx n ow ρ e (.Name x p) (as.map fun a => [f a]) := by
  have := EvI.list (p := p) (x := x) he
  rwa [List.map_map] at this
theorem zip_ints : ∀ (as bs : List Int), (((as.map D.int).zip (bs.map D.int)).map fun x => [x.1, x.2]) = (as.zip bs).map fun x => [D.int x.1, D.int x.2]
  | [], bs => by simp
  | a :: as, [] => by simp
  | a :: as, b :: bs => by simp only [List.map_cons, List.zip_cons_cons, zip_ints as bs]
theorem get_int {l : List Int} {k : Nat} (h : k < l.length) : (l.map D.int)[((k : Nat) : Int).toNat]? = some (.int (l.getD k 0)) := by
  rw [Int.toNat_natCast, List.getElem?_map, List.getElem?_eq_getElem h]
  simp [List.getD, List.getElem?_eq_getElem h]
theorem ch_small (d : Int) (k : Nat) (hk : k < 3) : Builtin.Int.intBits ((chOf d).getD k 0) ≤ 64 := by
  have h1 : ∀ j : Int, ((wordOf d).drop 2).count j ≤ 4 := fun j => Nat.le_trans List.count_le_length (by simp [wordOf])
  have h2 : ∀ j : Int, ((wordOf d).take 2).count j ≤ 4 := fun j => Nat.le_trans List.count_le_length (by simp [wordOf])
  have e : (chOf d).getD k 0 = ((((wordOf d).drop 2).count (k : Int) : Nat) : Int) - ((((wordOf d).take 2).count (k : Int) : Nat) : Int) := by
    have h3 : k = 0 ∨ k = 1 ∨ k = 2 := by omega
    rcases h3 with rfl | rfl | rfl <;> rfl
  have a1 := h1 k
  have a2 := h2 k
  rw [e]
  exact Nat.le_trans (intBits_le (k := 8) (by omega)) (by decide)

theorem law_body {ns : List Int} {d0 d1 d2 d3 d4 : Int} (hz : ns.length ≤ 63) (hd : drawOf ns = [d0, d1, d2, d3, d4]) (hsg : ∃ sg : _root_.Fin 3 → Nat, signsOf d4 = [sg 0, sg 1, sg 2] ∧ (∀ i, sg i ∈ allSigns) ∧ (∀ i j, sg i = sg j → i = j)) (H : LawOk d0 d1 d2 d3 d4) (h0 : Heap) (MC : List Addr) (L ad : Addr) (pm code doc : Value) : Ex G (mkCx (dr 14 (by decide)) h0 MC L ad pm code doc) (n + 6) none (args0 ["script"] [iD ns]) (dr 14 (by decide)).body (fun o => o = .ret (.bool true)) := by
  obtain ⟨K, out, hC, hout, hnum, hfin⟩ := H.ex
  have hw := smW d4
  have hkeys : ∀ k ∈ keysOf d3, 0 ≤ k.1 ∧ k.1 < 4 := by
    intro k hk
    obtain ⟨j, hj, rfl⟩ := List.mem_map.mp hk
    have h1 := fun x => Int.fmod_nonneg_of_pos x (b := 3) (by decide)
    have h2 := fun x => Int.fmod_lt_of_pos x (b := 3) (by decide)
    show 0 ≤ colOf d3 j ∧ colOf d3 j < 4
    match j with
    | 0 => show (0 : Int) ≤ 3 ∧ (3 : Int) < 4; decide
    | 1 => exact ⟨h1 _, by have := h2 d3; show d3.fmod 3 < 4; omega⟩
    | _ + 2 => exact ⟨h1 _, by have := h2 (d3 + 1 + (d3.fdiv 3).fmod 2); show (d3 + 1 + (d3.fdiv 3).fmod 2).fmod 3 < 4; omega⟩
  refine law_front hz hd hsg fun ρ r1 r2 r3 r4 r5 r6 => ?_
  -- rules
  refine Ex.cons (Ex1.assign (d := rD out) (Ev.call (by rfl) (dr_mem (i := 10) (h := by decide)) (by rfl) (EvL.cons (Ev.lcomp (d := rD (pairsOf d0 d1 d2 d3 d4)) (as := List.range 3) (dl := fun k => [D.int (k : Nat)]) (fun _ => true) (fun k => .tup [eD (match k with | 0 => startOf d0 d4 | 1 => startOf d1 d4 | _ => startOf d2 d4), eD (match k with | 0 => endOf d0 d3 d4 0 | 1 => endOf d1 d3 d4 1 | _ => endOf d2 d3 d4 2)]) TG.name (EvI.range (k := 3) (by rfl) Ev.cint (by decide)) (fun _ _ => rfl) ⟨by rfl, by rfl, by decide +kernel⟩ ?_ ?_ (fun _ _ _ _ => rfl) ?_ (sz (Nat.le_of_ble_eq_true rfl)) (by rfl)) (EvL.cons (Ev.mkOrder (n := n + 4) (ds := kD (keysOf d3)) (by rfl) (by rfl) (Ev.name (by exact r3))) (EvL.cons (Ev.name (by exact r2)) EvL.nil))) (completed_ok (n := n + 1) hkeys hw hC) ⟨_, _, rfl, rfl, fun _ => rfl⟩) (.inl (by rfl)) (Free.none _) ?_)
  · intro x hx h C
    rw [List.mem_singleton.mp hx]
    exact .inl (by rfl)
  · intro x hx
    rw [List.mem_singleton.mp hx]
    decide +kernel
  · intro k hk _ h C
    have h3 : k = 0 ∨ k = 1 ∨ k = 2 := by have := List.mem_range.mp hk; omega
    refine Ev.tuple (EvL.cons (Ev.subL (k := (k : Int)) (Ev.name (by exact r5)) (Ev.name (by rfl)) (by omega) (by omega) ?_) (EvL.cons (Ev.subL (k := (k : Int)) (Ev.name (by exact r6)) (Ev.name (by rfl)) (by omega) (by omega) ?_) EvL.nil)) (sz (Nat.le_of_ble_eq_true rfl))
    · rcases h3 with rfl | rfl | rfl <;> rfl
    · rcases h3 with rfl | rfl | rfl <;> rfl
  -- bags
  refine Ex.cons (Ex1.assignTwo (d := lD bags10) (dss := (List.range 4).map fun (i : Nat) => [D.int (i : Int)]) (fun dl => match dl with | [.int i] => (List.range (4 - i.toNat)).map fun (j : Nat) => [D.int (j : Int)] | _ => []) (fun dl dl2 => match dl, dl2 with | [.int i], [.int j] => iD [i, j, 3 - i - j] | _, _ => .none) TG.name (EvI.range (k := 4) (by rfl) Ev.cint (by decide)) ?_ ⟨by rfl, by rfl, by decide +kernel⟩ ?_ ?_ TG.name ?_ ?_ ?_ ?_ ?_ (sz (by decide +kernel)) (by rfl) (.inl (by rfl)) (Free.none _) ?_)
  · intro dl hdl; obtain ⟨i, _, rfl⟩ := List.mem_map.mp hdl; rfl
  · intro x hx h C
    rw [List.mem_singleton.mp hx]
    exact .inl (by rfl)
  · intro x hx
    rw [List.mem_singleton.mp hx]
    decide +kernel
  · intro dl hdl h C
    obtain ⟨i, hi, rfl⟩ := List.mem_map.mp hdl
    have hi4 := List.mem_range.mp hi
    have e : (4 : Int) - (i : Int) = ((4 - i : Nat) : Int) := by omega
    refine EvI.range (k := 4 - i) (by rfl) ?_ (by omega)
    rw [← e]
    exact Ev.bin Ev.cint (Ev.name (by rfl)) Bin.sub
  · intro dl hdl dl2 hdl2
    obtain ⟨i, hi, rfl⟩ := List.mem_map.mp hdl
    obtain ⟨j, hj, rfl⟩ := List.mem_map.mp hdl2
    rfl
  · intro x hx h C
    rw [List.mem_singleton.mp hx]
    exact .inl (by rfl)
  · intro x hx
    rw [List.mem_singleton.mp hx]
    exact ⟨by decide +kernel, by decide⟩
  · intro dl hdl dl2 hdl2 h C
    obtain ⟨i, hi, rfl⟩ := List.mem_map.mp hdl
    obtain ⟨j, hj, rfl⟩ := List.mem_map.mp hdl2
    exact Ev.list (EvL.cons (Ev.name (by rfl)) (EvL.cons (Ev.name (by rfl)) (EvL.cons (Ev.bin (Ev.bin Ev.cint (Ev.name (by rfl)) Bin.sub) (Ev.name (by rfl)) Bin.sub) EvL.nil))) (sz (Nat.le_of_ble_eq_true rfl))
  -- labels
  refine Ex.cons (Ex1.assign (d := iD (labsOf d0 d1 d2)) (Ev.call (by rfl) (dr_mem (i := 13) (h := by decide)) (by rfl) (EvL.cons (Ev.name (by rfl)) (EvL.cons (Ev.name (by exact r1)) EvL.nil)) (families_ok (n := n + 4) (bags := bags10) (words := [wordOf d0, wordOf d1, wordOf d2]) (by rw [bags_len.1]; decide) bags_len.2.1 (by simp) (fun w hw => by
      simp only [List.mem_cons, List.not_mem_nil, or_false] at hw
      rcases hw with rfl | rfl | rfl <;> simp [wordOf]) (fun w hw => by
      simp only [List.mem_cons, List.not_mem_nil, or_false] at hw
      rcases hw with rfl | rfl | rfl <;> exact word_in _)) ⟨_, _, rfl, rfl, fun _ => rfl⟩) (.inl (by rfl)) (Free.none _) ?_)
  have smb : ∀ b ∈ bags10, ∀ k, Sm (b.getD k 0) := fun b hb k => by
    have h3 := bags_len.2.1 b hb
    have := bags_len.2.2 b hb
    unfold Sm
    rcases Nat.lt_or_ge k b.length with q | q
    · have e : b.getD k 0 = b[k] := by simp [List.getD, List.getElem?_eq_getElem q]
      have := this b[k] (List.getElem_mem q)
      rw [e]; omega
    · simp [List.getD, List.getElem?_eq_none q]
  -- entries
  have entB : ∀ b ∈ bags10, Fn G (n + 6) "_law_entry" [iD b, .dct [], wsD (wsOf d4)] (eD (entL b [] (wsOf d4))) := fun b hb => by
    have := entry_ok (G := G) (n := n + 5) (k := []) (smb b hb 0) (smb b hb 1) (smb b hb 2) hw.a hw.b hw.c
    rw [← row3 (bags_len.2.1 b hb)] at this
    exact this
  refine Ex.cons (Ex1.assignComp (as := bags10) (dl := fun b => [iD b]) (d := .lst (bags10.map fun b => eD (entL b [] (wsOf d4)))) (fun _ => true) (fun b => eD (entL b [] (wsOf d4))) TG.name (EvI.mapD (Ev.name (by rfl))) (fun _ _ => rfl) ⟨by rfl, by rfl, by decide +kernel⟩ ?_ ?_ (fun _ _ _ _ => rfl) ?_ (sz (by rw [bags_len.1]; decide)) (by rw [List.filter_eq_self.mpr (fun _ _ => rfl)]) (.inl (by rfl)) (Free.none _) ?_)
  · intro x hx h C
    rw [List.mem_singleton.mp hx]
    exact .inl (by rfl)
  · intro x hx
    rw [List.mem_singleton.mp hx]
    decide +kernel
  · intro b hb _ h C
    exact Ev.call (by rfl) (dr_mem (i := 7) (h := by decide)) (by rfl) (EvL.cons (Ev.name (by rfl)) (EvL.cons Ev.dict0 (EvL.cons (Ev.name (by exact r2)) EvL.nil))) (entB b hb) ⟨_, _, rfl, rfl, fun _ => rfl⟩
  -- numbers
  have numB : ∀ e, numOk d3 e → Fn G (n + 6) "_law_number" [eD e, .lst (kD (keysOf d3))] (.int (numOf d3 e)) := fun e he => number_ok (n := n + 4) (k0 := (colOf d3 0, wayOf d3 0)) (k1 := (colOf d3 1, wayOf d3 1)) (k2 := (colOf d3 2, wayOf d3 2)) (fun k hk => hkeys k hk) he
  refine Ex.cons (Ex1.assignComp (as := bags10) (dl := fun b => [eD (entL b [] (wsOf d4))]) (d := iD (numsOf d3 d4)) (fun _ => true) (fun b => .int (numOf d3 (entL b [] (wsOf d4)))) TG.name (EvI.mapD (Ev.name (by rfl))) (fun _ _ => rfl) ⟨by rfl, by rfl, by decide +kernel⟩ ?_ ?_ (fun _ _ _ _ => rfl) ?_ (sz (by rw [bags_len.1]; decide)) (by rw [List.filter_eq_self.mpr (fun _ _ => rfl)]; unfold numsOf; show D.lst (List.map D.int (List.map _ _)) = _; rw [List.map_map]; rfl) (.inl (by rfl)) (Free.none _) ?_)
  · intro x hx h C
    rw [List.mem_singleton.mp hx]
    exact .inl (by rfl)
  · intro x hx
    rw [List.mem_singleton.mp hx]
    decide +kernel
  · intro b hb _ h C
    exact Ev.call (by rfl) (dr_mem (i := 11) (h := by decide)) (by rfl) (EvL.cons (Ev.name (by rfl)) (EvL.cons (Ev.name (by exact r3)) EvL.nil)) (numB _ (hnum b hb)) ⟨_, _, rfl, rfl, fun _ => rfl⟩
  -- changes
  refine Ex.cons (Ex1.assign (d := lD [chOf d0, chOf d1, chOf d2]) (Ev.lcomp (as := [d0, d1, d2]) (dl := fun d => [iD (wordOf d)]) (fun _ => true) (fun d => iD (chOf d)) TG.name (EvI.mapD (as := [d0, d1, d2]) (f := fun d => iD (wordOf d)) (Ev.name (by exact r1))) (fun _ _ => rfl) ⟨by rfl, by rfl, by decide +kernel⟩ ?_ ?_ (fun _ _ _ _ => rfl) ?_ (sz (Nat.le_of_ble_eq_true rfl)) (by rfl)) (.inr ⟨by rfl, by rfl, by rfl⟩) (Free.none _) ?_)
  · intro x hx h C
    rw [List.mem_singleton.mp hx]
    exact .inr ⟨by rfl, by rfl, by rfl⟩
  · intro x hx
    rw [List.mem_singleton.mp hx]
    decide +kernel
  · intro d _ _ h C
    refine Ev.lcomp (as := List.range 3) (dl := fun k => [D.int (k : Nat)]) (fun _ => true) (fun k => .int ((((((wordOf d).drop 2).count (k : Int) : Nat) : Int)) - ((((wordOf d).take 2).count (k : Int) : Nat) : Int))) TG.name (EvI.range (k := 3) (by rfl) Ev.cint (by decide)) (fun _ _ => rfl) ⟨by rfl, by rfl, by decide +kernel⟩ ?_ ?_ (fun _ _ _ _ => rfl) ?_ (sz (Nat.le_of_ble_eq_true rfl)) (by rfl)
    · intro x hx h C
      rw [List.mem_singleton.mp hx]
      exact .inl (by rfl)
    · intro x hx
      rw [List.mem_singleton.mp hx]
      decide +kernel
    · intro k _ _ h C
      refine Ev.bin ?_ ?_ Bin.sub
      · exact Ev.meth (d0 := iD ((wordOf d).drop 2)) (Ev.cutL (ds := (wordOf d).map D.int) (lo := some 2) (hi := none) (Ev.name (by rfl)) (EvP.some Ev.cint) EvP.none (by show (0 : Int) ≤ 2; decide) trivial (.inr rfl) (sz (Nat.le_of_ble_eq_true rfl))) (EvL.cons (Ev.name (by rfl)) EvL.nil) CallB.count F.plainAttrs_list F.slot_list_count F.type_list_count lst_type ⟨_, _, rfl, rfl, fun _ => rfl⟩
      · exact Ev.meth (d0 := iD ((wordOf d).take 2)) (Ev.cutL (ds := (wordOf d).map D.int) (lo := none) (hi := some 2) (Ev.name (by rfl)) EvP.none (EvP.some Ev.cint) trivial (by show (0 : Int) ≤ 2; decide) (.inl rfl) (sz (Nat.le_of_ble_eq_true rfl))) (EvL.cons (Ev.name (by rfl)) EvL.nil) CallB.count F.plainAttrs_list F.slot_list_count F.type_list_count lst_type ⟨_, _, rfl, rfl, fun _ => rfl⟩
  -- the loop
  have hll := labs_length d0 d1 d2
  have hzl : ((bags10.zip (labsOf d0 d1 d2)).map fun x => [iD x.1, eD (entL x.1 [] (wsOf d4)), D.int x.2]).length = 10 := by
    rw [List.length_map, List.length_zip, bags_len.1, hll]; rfl
  refine Ex.cons (Ex1.for (dss := (bags10.zip (labsOf d0 d1 d2)).map fun x => [iD x.1, eD (entL x.1 [] (wsOf d4)), D.int x.2]) (TG.tup (NT.cons (NT.cons (NT.cons NT.nil)))) (EvI.zip3 (ds := bags10.map fun b => iD b) (ds2 := bags10.map fun b => eD (entL b [] (wsOf d4))) (ds3 := (labsOf d0 d1 d2).map D.int) (by rfl) (Ev.name (by rfl)) (Ev.name (by rfl)) (Ev.name (by rfl)) (by rw [hzl, List.length_map, bags_len.1]) (by rw [hzl, List.length_map, bags_len.1]) (by rw [hzl, List.length_map, hll]) ?_) (fun dl hdl => ?_) ?_
    (fun i ow ρ => ow = none ∧ ρ "rules" = some (rD out) ∧ ρ "weights" = some (wsD (wsOf d4)) ∧ ρ "keys" = some (.lst (kD (keysOf d3))) ∧ ρ "names" = some (.lst [.str (nmK d3 0), .str (nmK d3 1), .str (nmK d3 2)]) ∧ ρ "numbers" = some (iD (numsOf d3 d4)) ∧ ρ "labels" = some (iD (labsOf d0 d1 d2)) ∧ ρ "changes" = some (lD [chOf d0, chOf d1, chOf d2])) ⟨rfl, by rfl, by exact r2, by exact r3, by exact r4, by rfl, by rfl, by rfl⟩ ?_ ?_ ?_)
  · intro i a b c dl ha hb hc hdl
    rw [List.getElem?_map] at ha hb hc hdl
    cases e1 : bags10[i]? with
    | none => rw [e1] at ha; cases ha
    | some bg =>
      cases e2 : (labsOf d0 d1 d2)[i]? with
      | none => rw [e2] at hc; cases hc
      | some lb =>
        rw [e1] at ha hb
        rw [e2] at hc
        rw [List.getElem?_zip_eq_some (z := (bg, lb)).mpr ⟨e1, e2⟩] at hdl
        cases ha; cases hb; cases hc; cases hdl; rfl
  · obtain ⟨k, _, rfl⟩ := List.mem_map.mp hdl; rfl
  · intro z hz
    simp only [List.mem_cons, List.not_mem_nil, or_false] at hz
    rcases hz with rfl | rfl | rfl
    · exact .inr ⟨by rfl, by rfl, by rfl⟩
    · exact .inl (by rfl)
    · exact .inr ⟨by rfl, by rfl, by rfl⟩
  · rintro i ow ρ ⟨rfl, _⟩ z hz; exact Free.none z
  · rintro i dl ow ρ hdl ⟨rfl, q1, q2, q3, q4, q5, q6, q7⟩
    rw [List.getElem?_map] at hdl
    cases e1 : (bags10.zip (labsOf d0 d1 d2))[i]? with
    | none => rw [e1] at hdl; cases hdl
    | some x =>
      obtain ⟨b, l⟩ := x
      rw [e1] at hdl
      cases hdl
      obtain ⟨eb, el⟩ := List.getElem?_zip_eq_some.mp e1
      have hbm := List.mem_of_getElem? eb
      obtain ⟨j, e, hE, hne, hlow, sa, sb, sc, u0, u1, u2, hwt⟩ := hfin i b l eb el
      -- end
      refine Ex.cons (Ex1.assign (d := eD e) (Ev.call (by rfl) (dr_mem (i := 9) (h := by decide)) (by rfl) (EvL.cons (Ev.name (by rfl)) (EvL.cons (Ev.name (by exact q1)) EvL.nil)) (exchanged_ok (n := n + 3) hout hE) ⟨_, _, rfl, rfl, fun _ => rfl⟩) (.inr ⟨by rfl, by rfl, by rfl⟩) (Free.none _) ?_)
      -- first
      refine Ex.cons (Ex1.assign (d := .int (numOf d3 e)) (Ev.callB (id := "min") (by rfl) (by decide) (by decide +kernel) (EvL.cons (Ev.lcomp (as := (numsOf d3 d4).zip (labsOf d0 d1 d2)) (dl := fun x => [D.int x.1, D.int x.2]) (fun x => x.2 == l) (fun x => .int x.1) (TG.tup (NT.cons (NT.cons NT.nil))) (by
          rw [← zip_ints]
          exact EvI.zip2 (ds := (numsOf d3 d4).map D.int) (ds2 := (labsOf d0 d1 d2).map D.int) (by rfl) (Ev.name (by exact q5)) (Ev.name (by exact q6)) (by rw [List.length_map, List.length_map, hll]; show (bags10.map _).length = 10; rw [List.length_map, bags_len.1])) (fun _ _ => rfl) ⟨by rfl, by rfl, by decide +kernel⟩ ?_ ?_ ?_ ?_ (sz (by rw [List.length_zip, hll]; omega)) rfl) EvL.nil) (by
          have := CallB.minL (G := G) (n := n + 6) (ns := (((numsOf d3 d4).zip (labsOf d0 d1 d2)).filter fun x => x.2 == l).map (·.1)) (by
            rw [List.length_map]
            refine List.length_pos_of_mem (a := (numOf d3 (entL b [] (wsOf d4)), l)) (List.mem_filter.mpr ⟨?_, by simp⟩)
            refine List.mem_of_getElem? (i := i) (List.getElem?_zip_eq_some.mpr ⟨?_, el⟩)
            unfold numsOf
            rw [List.getElem?_map, eb]; rfl)
          rw [List.map_map, ← hlow] at this
          exact this) ⟨_, _, rfl, rfl, fun _ => rfl⟩) (.inl (by rfl)) (Free.none _) ?_)
      · intro z hz h C
        simp only [List.mem_cons, List.not_mem_nil, or_false] at hz
        rcases hz with rfl | rfl <;> exact .inl (by rfl)
      · intro z hz
        simp only [List.mem_cons, List.not_mem_nil, or_false] at hz
        rcases hz with rfl | rfl <;> decide +kernel
      · intro x hx h C
        exact EvT.cmp (Ev.name (by rfl)) (Ev.name (by rfl)) Cmp.eq
      · intro x hx _ h C
        exact Ev.name (by rfl)
      -- the first check
      refine Ex.cons (Ex1.cond (EvT.cmp (Ev.call (by rfl) (dr_mem (i := 11) (h := by decide)) (by rfl) (EvL.cons (Ev.name (by rfl)) (EvL.cons (Ev.name (by exact q3)) EvL.nil)) (numB e hne) ⟨_, _, rfl, rfl, fun _ => rfl⟩) (Ev.name (by rfl)) Cmp.ne) (fun h => absurd h (by simp)) fun _ => Ex.nil ?_)
      -- done
      refine Ex.cons (Ex1.assign (d := iD (doneOf d3 e)) (Ev.lcomp (as := List.range 3) (dl := fun m => [D.str (nmK d3 m)]) (fun _ => true) (fun m => .int ((e.k.lookup (nmK d3 m)).getD 0)) TG.name (EvI.list (ds := [.str (nmK d3 0), .str (nmK d3 1), .str (nmK d3 2)]) (Ev.name (by exact q4))) (fun _ _ => rfl) ⟨by rfl, by rfl, by decide +kernel⟩ ?_ ?_ (fun _ _ _ _ => rfl) ?_ (sz (Nat.le_of_ble_eq_true rfl)) (by rfl)) (.inr ⟨by rfl, by rfl, by rfl⟩) (Free.none _) ?_)
      · intro x hx h C
        rw [List.mem_singleton.mp hx]
        exact .inl (by rfl)
      · intro x hx
        rw [List.mem_singleton.mp hx]
        decide +kernel
      · intro m _ _ h C
        exact Ev.meth (d0 := .dct e.k) (Ev.subT (ds := [.int e.a, .int e.b, .int e.c, .int e.w, .dct e.k]) (k := 4) (Ev.name (by rfl)) Ev.cint (by decide) (by decide) (by rfl)) (EvL.cons (Ev.name (by rfl)) (EvL.cons Ev.cint EvL.nil)) CallB.get F.plainAttrs_dict F.slot_dict_get F.type_dict_get dct_type ⟨_, _, rfl, rfl, fun _ => rfl⟩
      -- due
      refine Ex.cons (Ex1.assignComp (as := List.range 3) (dl := fun k => [D.int (k : Nat)]) (d := iD [dueOf d0 d1 d2 d3 b e 0, dueOf d0 d1 d2 d3 b e 1, dueOf d0 d1 d2 d3 b e 2]) (fun _ => true) (fun k => .int (dueOf d0 d1 d2 d3 b e k)) TG.name (EvI.range (k := 3) (by rfl) Ev.cint (by decide)) (fun _ _ => rfl) ⟨by rfl, by rfl, by decide +kernel⟩ ?_ ?_ (fun _ _ _ _ => rfl) ?_ (sz (Nat.le_of_ble_eq_true rfl)) (by rfl) (.inl (by rfl)) (Free.none _) ?_)
      · intro x hx h C
        rw [List.mem_singleton.mp hx]
        exact .inr ⟨by rfl, by rfl, by rfl⟩
      · intro x hx
        rw [List.mem_singleton.mp hx]
        decide +kernel
      · intro k hk _ h C
        have hk3 : k < 3 := List.mem_range.mp hk
        have hb3 := bags_len.2.1 b hbm
        have hcl : ∀ d, (chOf d).length = 3 := fun d => rfl
        refine Ev.bin (Ev.subL (k := (k : Int)) (ds := b.map D.int) (d := .int (b.getD k 0)) (Ev.name (by rfl)) (Ev.name (by rfl)) (by omega) (by omega) (get_int (by omega))) (Ev.callB (id := "sum") (by rfl) (by decide) (by decide +kernel) (EvL.cons (Ev.lcomp (d := iD [(doneOf d3 e).getD 0 0 * (chOf d0).getD k 0, (doneOf d3 e).getD 1 0 * (chOf d1).getD k 0, (doneOf d3 e).getD 2 0 * (chOf d2).getD k 0]) (as := List.range 3) (dl := fun m => [D.int (m : Nat)]) (fun _ => true) (fun m => .int ((doneOf d3 e).getD m 0 * (match m with | 0 => chOf d0 | 1 => chOf d1 | _ => chOf d2).getD k 0)) TG.name (EvI.range (k := 3) (by rfl) Ev.cint (by decide)) (fun _ _ => rfl) ⟨by rfl, by rfl, by decide +kernel⟩ ?_ ?_ (fun _ _ _ _ => rfl) ?_ (sz (Nat.le_of_ble_eq_true rfl)) (by rfl)) EvL.nil) (CallB.sum (ns := [(doneOf d3 e).getD 0 0 * (chOf d0).getD k 0, (doneOf d3 e).getD 1 0 * (chOf d1).getD k 0, (doneOf d3 e).getD 2 0 * (chOf d2).getD k 0])) ⟨_, _, rfl, rfl, fun _ => rfl⟩) Bin.add
        · intro x hx h C
          rw [List.mem_singleton.mp hx]
          exact .inl (by rfl)
        · intro x hx
          rw [List.mem_singleton.mp hx]
          decide +kernel
        · intro m hm _ h C
          have h3 : m = 0 ∨ m = 1 ∨ m = 2 := by have := List.mem_range.mp hm; omega
          have hd3 : (doneOf d3 e).length = 3 := rfl
          have row : ∀ d, Fn G 0 "" [] (.none) ∨ (((chOf d).map D.int)[((k : Nat) : Int).toNat]? = some (.int ((chOf d).getD k 0))) := fun d => .inr (get_int (by rw [hcl]; omega))
          refine Ev.bin (Ev.subL (k := (m : Int)) (ds := (doneOf d3 e).map D.int) (d := .int ((doneOf d3 e).getD m 0)) (Ev.name (by rfl)) (Ev.name (by rfl)) (by omega) (by omega) (get_int (by omega))) (Ev.subL (k := (k : Int)) (ds := (match m with | 0 => chOf d0 | 1 => chOf d1 | _ => chOf d2).map D.int) (d := .int ((match m with | 0 => chOf d0 | 1 => chOf d1 | _ => chOf d2).getD k 0)) (Ev.subL (k := (m : Int)) (Ev.name (by exact q7)) (Ev.name (by rfl)) (by omega) (by omega) (by rcases h3 with rfl | rfl | rfl <;> rfl)) (Ev.name (by rfl)) (by omega) (by omega) ?_) (Bin.mul (IntMulOk.of_right ?_))
          · rcases h3 with rfl | rfl | rfl <;> exact get_int (by show k < 3; omega)
          · rcases h3 with rfl | rfl | rfl <;> exact ch_small _ _ hk3
      -- the second check
      refine Ex.cons (Ex1.cond (EvT.cmp (Ev.cutT (ds := [.int e.a, .int e.b, .int e.c, .int e.w, .dct e.k]) (b := 4) (Ev.name (by rfl)) Ev.cint (by simp) (sz (Nat.le_of_ble_eq_true rfl))) (Ev.cutT (ds := [.int (dueOf d0 d1 d2 d3 b e 0), .int (dueOf d0 d1 d2 d3 b e 1), .int (dueOf d0 d1 d2 d3 b e 2), .int (wt (dueOf d0 d1 d2 d3 b e 0) (dueOf d0 d1 d2 d3 b e 1) (dueOf d0 d1 d2 d3 b e 2) (wsOf d4)), .dct []]) (b := 4) (Ev.call (by rfl) (dr_mem (i := 7) (h := by decide)) (by rfl) (EvL.cons (Ev.name (by rfl)) (EvL.cons Ev.dict0 (EvL.cons (Ev.name (by exact q2)) EvL.nil))) (entry_ok (n := n + 5) (a := dueOf d0 d1 d2 d3 b e 0) (b := dueOf d0 d1 d2 d3 b e 1) (c := dueOf d0 d1 d2 d3 b e 2) (k := []) (by rw [u0]; exact sa) (by rw [u1]; exact sb) (by rw [u2]; exact sc) hw.a hw.b hw.c) ⟨_, _, rfl, rfl, fun _ => rfl⟩) Ev.cint (by simp) (sz (Nat.le_of_ble_eq_true rfl))) (Cmp.neTup (ns := [e.a, e.b, e.c, e.w]) (ms := [dueOf d0 d1 d2 d3 b e 0, dueOf d0 d1 d2 d3 b e 1, dueOf d0 d1 d2 d3 b e 2, wt (dueOf d0 d1 d2 d3 b e 0) (dueOf d0 d1 d2 d3 b e 1) (dueOf d0 d1 d2 d3 b e 2) (wsOf d4)]) rfl)) (fun h => ?_) fun _ => Ex.nil ?_)
      · rw [u0, u1, u2, hwt] at h
        simp at h
      exact Ex.nil ⟨rfl, by exact q1, by exact q2, by exact q3, by exact q4, by exact q5, by exact q6, by exact q7⟩
  rintro ow ρ ⟨rfl, _⟩
  exact Ex.ret Ev.cbool rfl
end
end Mine
end
section
open PySem PySem.Calls PyProof.Rows
set_option maxRecDepth 100000
namespace Mine
noncomputable abbrev V := Int × Int × Int
noncomputable def vOf (e : En) : V := (e.a, e.b, e.c)
noncomputable def vadd (u v : V) : V := (u.1 + v.1, u.2.1 + v.2.1, u.2.2 + v.2.2)
noncomputable def vsub (u v : V) : V := (u.1 - v.1, u.2.1 - v.2.1, u.2.2 - v.2.2)
noncomputable def deg (u : V) : Int := u.1 + u.2.1 + u.2.2
structure Pos3 (u : V) : Prop where
  a : 0 ≤ u.1
  b : 0 ≤ u.2.1
  c : 0 ≤ u.2.2
noncomputable def fitV (l u : V) : Bool := decide (l.1 ≤ u.1) && (decide (l.2.1 ≤ u.2.1) && decide (l.2.2 ≤ u.2.2))
theorem fitV_iff {l u : V} : fitV l u = true ↔ l.1 ≤ u.1 ∧ l.2.1 ≤ u.2.1 ∧ l.2.2 ≤ u.2.2 := by
  unfold fitV; simp
theorem V.ext {u v : V} (h1 : u.1 = v.1) (h2 : u.2.1 = v.2.1) (h3 : u.2.2 = v.2.2) : u = v := by
  obtain ⟨a, b, c⟩ := u
  obtain ⟨a', b', c'⟩ := v
  simp only at h1 h2 h3
  subst h1 h2 h3; rfl
theorem fit_eq {l u : V} (h : fitV l u = true) (hd : deg l = deg u) : l = u := by
  obtain ⟨h1, h2, h3⟩ := fitV_iff.mp h
  unfold deg at hd
  exact V.ext (by omega) (by omega) (by omega)
theorem fit_self (u : V) : fitV u u = true := fitV_iff.mpr ⟨Int.le_refl _, Int.le_refl _, Int.le_refl _⟩
theorem vadd_sub (s t : V) : vadd s (vsub t s) = t := V.ext (by unfold vadd vsub; simp only; omega) (by unfold vadd vsub; simp only; omega) (by unfold vadd vsub; simp only; omega)
theorem deg_add (u v : V) : deg (vadd u v) = deg u + deg v := by unfold deg vadd; simp only; omega
noncomputable abbrev Rl := List (V × V)
noncomputable def first (R : Rl) (u : V) : Option (V × V) := R.find? fun r => fitV r.1 u
inductive Nf (R : Rl) : V → V → Prop
  | done {u : V} : first R u = none → Nf R u u
  | step {u z : V} {r : V × V} : first R u = some r → Nf R (vadd u r.2) z → Nf R u z
theorem Nf.det {R : Rl} {u z : V} (h : Nf R u z) : ∀ {z' : V}, Nf R u z' → z = z' := by
  induction h with
  | done h =>
    intro z' h'
    cases h' with
    | done _ => rfl
    | step h2 _ => rw [h] at h2; cases h2
  | step h _ ih =>
    intro z' h'
    cases h' with
    | done h2 => rw [h] at h2; cases h2
    | step h2 h3 => rw [h] at h2; cases h2; exact ih h3
theorem Nf.irr {R : Rl} {u z : V} (h : Nf R u z) : first R z = none := by
  induction h with
  | done h => exact h
  | step _ _ ih => exact ih
theorem first_append (R S : Rl) (u : V) : first (R ++ S) u = (first R u).or (first S u) := by unfold first; exact List.find?_append
theorem first_mem {R : Rl} {u : V} {r : V × V} (h : first R u = some r) : r ∈ R ∧ fitV r.1 u = true := ⟨List.mem_of_find?_eq_some h, by simpa using List.find?_some h⟩
theorem first_one {s c u : V} : first [(s, c)] u = if fitV s u = true then some (s, c) else none := by
  unfold first
  rw [List.find?_cons]
  cases fitV s u <;> rfl
/-- one rule more -/
theorem Nf.merge {R : Rl} {s t : V} (hR : ∀ r ∈ R, deg r.2 = 0) (hs : first R s = none) (ht : first R t = none) (hd : deg s = deg t) (hne : s ≠ t) {u z : V} (h : Nf R u z) : deg u = deg s → Nf (R ++ [(s, vsub t s)]) u (if z = s then t else z) := by
  have irr_t : Nf (R ++ [(s, vsub t s)]) t t := by
    refine .done ?_
    rw [first_append, ht, first_one, if_neg]
    · rfl
    · intro hf; exact hne (fit_eq hf hd)
  induction h with
  | @done u h =>
    intro hdu
    by_cases hu : u = s
    · subst hu
      rw [if_pos rfl]
      refine .step (r := (u, vsub t u)) ?_ (by rw [vadd_sub]; exact irr_t)
      rw [first_append, h, first_one, if_pos (fit_self u)]; rfl
    · rw [if_neg hu]
      refine .done ?_
      rw [first_append, h, first_one, if_neg]
      · rfl
      · intro hf; exact hu (fit_eq hf hdu.symm).symm
  | @step u z r h _ ih =>
    intro hdu
    refine .step (r := r) (by rw [first_append, h]; rfl) (ih ?_)
    rw [deg_add, hR r (first_mem h).1]; omega
/-- joined -/
noncomputable def Jn (R : Rl) (u v : V) : Prop := ∃ z, Nf R u z ∧ Nf R v z
theorem Jn.merge {R : Rl} {s t u v : V} (hR : ∀ r ∈ R, deg r.2 = 0) (hs : first R s = none) (ht : first R t = none) (hd : deg s = deg t) (hne : s ≠ t) (h : Jn R u v) (hu : deg u = deg s) (hv : deg v = deg s) : Jn (R ++ [(s, vsub t s)]) u v := by
  obtain ⟨z, h1, h2⟩ := h
  exact ⟨_, h1.merge hR hs ht hd hne hu, h2.merge hR hs ht hd hne hv⟩
theorem Jn.made {R : Rl} {s t u v : V} (hR : ∀ r ∈ R, deg r.2 = 0) (hs : first R s = none) (ht : first R t = none) (hd : deg s = deg t) (hne : s ≠ t) (h1 : Nf R u s) (h2 : Nf R v t) (hu : deg u = deg s) (hv : deg v = deg s) : Jn (R ++ [(s, vsub t s)]) u v := by
  refine ⟨t, ?_, ?_⟩
  · have := h1.merge hR hs ht hd hne hu
    rwa [if_pos rfl] at this
  · have := h2.merge hR hs ht hd hne hv
    rwa [if_neg (Ne.symm hne)] at this
theorem Jn.symm {R : Rl} {u v : V} (h : Jn R u v) : Jn R v u := let ⟨z, a, b⟩ := h; ⟨z, b, a⟩
theorem Jn.trans {R : Rl} {u v w : V} (h : Jn R u v) (k : Jn R v w) : Jn R u w := by
  obtain ⟨z, a, b⟩ := h
  obtain ⟨z', c, d⟩ := k
  have := b.det c
  subst this
  exact ⟨z, a, d⟩

/-- the order, as a number -/
structure OrdV (Nl : V → Int) : Prop where
  lin : ∀ u v x : V, Nl (vadd u x) - Nl (vadd v x) = Nl u - Nl v
  inj : ∀ u v : V, Pos3 u → Pos3 v → deg u = deg v → deg u ≤ 3 → Nl u = Nl v → u = v
  low : ∀ u : V, Pos3 u → deg u ≤ 3 → 0 ≤ Nl u

/-- calls -/
noncomputable def getK (k : List (Str × Int)) (x : Str) : Int := (k.lookup x).getD 0
theorem lookup_map_put (k : List (Str × Int)) (y : Str) (i : Int) (x : Str) : (k.map fun kv => if kv.1 = y then (kv.1, i) else kv).lookup x = (k.lookup x).map fun j => if x = y then i else j := by
  induction k with
  | nil => rfl
  | cons p k ih =>
    have e : (if p.1 = y then (p.1, i) else p) = (p.1, if p.1 = y then i else p.2) := by split <;> rfl
    obtain ⟨a, b⟩ := p
    simp only at e
    rw [List.map_cons]
    show List.lookup x ((if a = y then (a, i) else (a, b)) :: _) = _
    rw [e, List.lookup_cons, List.lookup_cons]
    cases hx : x == a with
    | true =>
      have : x = a := by simpa using hx
      subst this
      simp
    | false => exact ih
theorem stK_get (k : List (Str × Int)) (y : Str) (i : Int) (x : Str) : getK (stK k y i) x = if x = y then i else getK k x := by
  unfold getK stK
  split
  · rename_i h
    rw [lookup_map_put]
    by_cases hx : x = y
    · subst hx
      rw [if_pos rfl]
      obtain ⟨p, hp, he⟩ := List.any_eq_true.mp h
      have he' : p.1 = x := by simpa using he
      cases q : k.lookup x with
      | some j => simp
      | none =>
        exfalso
        have : ∀ (l : List (Str × Int)), p ∈ l → l.lookup x ≠ none := by
          intro l
          induction l with
          | nil => intro h; cases h
          | cons a l ih =>
            intro hm
            rw [List.lookup_cons]
            cases hxa : x == a.1 with
            | true => simp
            | false =>
              rcases List.mem_cons.mp hm with rfl | hm
              · rw [he'] at hxa; simp at hxa
              · exact ih hm
        exact this k hp q
    · rw [if_neg hx]
      cases k.lookup x <;> simp [hx]
  · rename_i h
    rw [lookup_append']
    have hn : k.lookup y = none := by
      cases q : k.lookup y with
      | none => rfl
      | some j =>
        exfalso
        refine h (List.any_eq_true.mpr ⟨(y, j), mem_of_lookup q, by simp⟩)
    by_cases hx : x = y
    · subst hx; rw [hn]; simp
    · have : (x == y) = false := by simpa using hx
      rw [if_neg hx]
      cases k.lookup x <;> simp [List.lookup_cons, this]
theorem stK_keys (k : List (Str × Int)) (y : Str) (i : Int) : (stK k y i).map (·.1) = if k.any (fun kv => kv.1 = y) then k.map (·.1) else k.map (·.1) ++ [y] := by
  unfold stK
  split
  · rw [List.map_map]
    refine List.map_congr_left fun p _ => ?_
    show (if p.1 = y then (p.1, i) else p).1 = p.1
    split <;> rfl
  · rw [List.map_append]; rfl
/-- callers in order: each name once, and of the three -/
structure KOk (NM : List Str) (k : List (Str × Int)) : Prop where
  nd : (k.map (·.1)).Nodup
  nm : ∀ x ∈ k.map (·.1), x ∈ NM
theorem KOk.stK {NM : List Str} {k : List (Str × Int)} {y : Str} {i : Int} (h : KOk NM k) (hy : y ∈ NM) : KOk NM (Mine.stK k y i) := by
  constructor
  · rw [stK_keys]
    split
    · exact h.nd
    · rename_i hn
      rw [List.nodup_append]
      refine ⟨h.nd, by simp, fun a ha b hb e => ?_⟩
      rw [List.mem_singleton.mp hb] at e
      subst e
      obtain ⟨p, hp, he⟩ := List.mem_map.mp ha
      exact hn (List.any_eq_true.mpr ⟨p, hp, by simpa using he⟩)
  · rw [stK_keys]
    split
    · exact h.nm
    · intro x hx
      rcases List.mem_append.mp hx with q | q
      · exact h.nm x q
      · rw [List.mem_singleton.mp q]; exact hy
theorem KOk.tail {NM : List Str} {p : Str × Int} {k : List (Str × Int)} (h : KOk NM (p :: k)) : KOk NM k ∧ p.1 ∈ NM ∧ p.1 ∉ k.map (·.1) :=
  ⟨⟨(List.nodup_cons.mp h.nd).2, fun x hx => h.nm x (List.mem_cons_of_mem _ hx)⟩, h.nm _ List.mem_cons_self, (List.nodup_cons.mp h.nd).1⟩
theorem getK_notin {k : List (Str × Int)} {x : Str} (h : x ∉ k.map (·.1)) : getK k x = 0 := by
  unfold getK
  cases q : k.lookup x with
  | none => rfl
  | some j => exact absurd (List.mem_map.mpr ⟨(x, j), mem_of_lookup q, rfl⟩) h
theorem getK_cons (p : Str × Int) (k : List (Str × Int)) (x : Str) : getK (p :: k) x = if x = p.1 then p.2 else getK k x := by
  unfold getK
  rw [List.lookup_cons]
  by_cases h : x = p.1
  · subst h; simp
  · have : (x == p.1) = false := by simpa using h
    rw [this, if_neg h]
theorem KOk.nil {NM : List Str} : KOk NM [] := ⟨List.nodup_nil, fun x h => nomatch h⟩
theorem copy_fold {NM : List Str} : ∀ (t acc : List (Str × Int)), KOk NM t → KOk NM acc → (∀ x ∈ t.map (·.1), x ∉ acc.map (·.1)) → KOk NM (t.foldl (fun acc p => stK acc p.1 p.2) acc) ∧ ∀ x, getK (t.foldl (fun acc p => stK acc p.1 p.2) acc) x = getK t x + getK acc x
  | [], acc, _, h, _ => ⟨h, fun x => by show getK acc x = 0 + getK acc x; omega⟩
  | p :: t, acc, ht, h, hd => by
    obtain ⟨h1, h2, h3⟩ := ht.tail
    have hs := h.stK (i := p.2) h2
    have := copy_fold t (stK acc p.1 p.2) h1 hs (fun x hx => by
      rw [stK_keys]
      have hn := hd x (List.mem_cons_of_mem _ hx)
      split
      · exact hn
      · intro q
        rcases List.mem_append.mp q with q | q
        · exact hn q
        · rw [List.mem_singleton.mp q] at hx; exact h3 hx)
    refine ⟨this.1, fun x => ?_⟩
    rw [List.foldl_cons, this.2 x, stK_get, getK_cons]
    by_cases hx : x = p.1
    · subst hx
      rw [if_pos rfl, if_pos rfl, getK_notin h3, getK_notin (hd p.1 List.mem_cons_self)]; omega
    · rw [if_neg hx, if_neg hx]
theorem add_fold {NM : List Str} : ∀ (s acc : List (Str × Int)), KOk NM s → KOk NM acc → KOk NM (s.foldl addStep acc) ∧ ∀ x, getK (s.foldl addStep acc) x = getK acc x + getK s x
  | [], acc, _, h => ⟨h, fun x => by show getK acc x = getK acc x + 0; omega⟩
  | p :: s, acc, hs, h => by
    obtain ⟨h1, h2, h3⟩ := hs.tail
    have hstep : addStep acc p = stK acc p.1 (getK acc p.1 + p.2) := by
      unfold addStep getK
      cases acc.lookup p.1 with
      | some i => rfl
      | none => show stK acc p.1 p.2 = stK acc p.1 (0 + p.2); rw [Int.zero_add]
    have := add_fold s (addStep acc p) h1 (by rw [hstep]; exact h.stK h2)
    refine ⟨this.1, fun x => ?_⟩
    rw [List.foldl_cons, this.2 x, hstep, stK_get, getK_cons]
    by_cases hx : x = p.1
    · subst hx
      rw [if_pos rfl, if_pos rfl, getK_notin h3]; omega
    · rw [if_neg hx, if_neg hx]
theorem addC_ok {NM : List Str} {t s : List (Str × Int)} (ht : KOk NM t) (hs : KOk NM s) : KOk NM (addC t s) ∧ ∀ x, getK (addC t s) x = getK t x + getK s x := by
  obtain ⟨h1, h2⟩ := copy_fold (NM := NM) t [] ht .nil (fun x _ h => nomatch h)
  obtain ⟨h3, h4⟩ := add_fold s (copyK t) hs h1
  refine ⟨h3, fun x => ?_⟩
  show getK (s.foldl addStep (copyK t)) x = _
  rw [h4 x]
  have := h2 x
  unfold copyK
  rw [this]
  show getK t x + 0 + _ = _
  omega
theorem negK_ok {NM : List Str} {k : List (Str × Int)} (h : KOk NM k) : KOk NM (negK k) ∧ ∀ x, getK (negK k) x = - getK k x := by
  have main : ∀ (t acc : List (Str × Int)), KOk NM t → KOk NM acc → (∀ x ∈ t.map (·.1), x ∉ acc.map (·.1)) →
      KOk NM ((t.map fun p => [D.str p.1, D.int p.2]).foldl (fun acc dl => stK acc (match dl with | [.str x, _] => x | _ => "") (match dl with | [_, .int i] => -i | _ => 0)) acc) ∧
      ∀ x, getK ((t.map fun p => [D.str p.1, D.int p.2]).foldl (fun acc dl => stK acc (match dl with | [.str x, _] => x | _ => "") (match dl with | [_, .int i] => -i | _ => 0)) acc) x = - getK t x + getK acc x := by
    intro t
    induction t with
    | nil => intro acc _ h _; exact ⟨h, fun x => by show getK acc x = -0 + getK acc x; omega⟩
    | cons p t ih =>
      intro acc ht h hd
      obtain ⟨h1, h2, h3⟩ := ht.tail
      have hs := h.stK (i := -p.2) h2
      have := ih (stK acc p.1 (-p.2)) h1 hs (fun x hx => by
        rw [stK_keys]
        have hn := hd x (List.mem_cons_of_mem _ hx)
        split
        · exact hn
        · intro q
          rcases List.mem_append.mp q with q | q
          · exact hn q
          · rw [List.mem_singleton.mp q] at hx; exact h3 hx)
      refine ⟨this.1, fun x => ?_⟩
      rw [List.map_cons, List.foldl_cons, this.2 x, stK_get, getK_cons]
      by_cases hx : x = p.1
      · subst hx
        rw [if_pos rfl, if_pos rfl, getK_notin h3, getK_notin (hd p.1 List.mem_cons_self)]; omega
      · rw [if_neg hx, if_neg hx]
  obtain ⟨h1, h2⟩ := main k [] h .nil (fun x _ h => nomatch h)
  refine ⟨h1, fun x => ?_⟩
  have e : getK (negK k) x = - getK k x + getK [] x := h2 x
  rw [e]
  show - getK k x + 0 = _
  omega
theorem KOk.len {NM : List Str} {k : List (Str × Int)} (h : KOk NM k) : k.length ≤ NM.length := by
  have := List.Nodup.length_le_of_subset h.nd (fun x hx => h.nm x hx)
  simpa using this
end Mine
end
section
open PySem PySem.Calls PyProof.Rows
set_option maxRecDepth 100000
set_option maxHeartbeats 1000000
namespace Mine
structure Pm where
  ws : Int × Int × Int
  keys : List (Int × Int)
  n0 : Str
  n1 : Str
  n2 : Str
  D0 : V
  D1 : V
  D2 : V
  lab : V → Int
  Nl : V → Int
noncomputable abbrev Pm.NM (P : Pm) : List Str := [P.n0, P.n1, P.n2]
noncomputable def sc (i : Int) (v : V) : V := (i * v.1, i * v.2.1, i * v.2.2)
noncomputable def inv (P : Pm) (e : En) : V := vsub (vOf e) (vadd (sc (getK e.k P.n0) P.D0) (vadd (sc (getK e.k P.n1) P.D1) (sc (getK e.k P.n2) P.D2)))
structure EOk (P : Pm) (e : En) : Prop where
  w : e.w = wt e.a e.b e.c P.ws
  k : KOk P.NM e.k
structure BOk (P : Pm) (D : Int) (e : En) : Prop extends EOk P e where
  pos : Pos3 (vOf e)
  dg : deg (vOf e) = D
noncomputable def units : List V := [(1, 0, 0), (0, 1, 0), (0, 0, 1)]
structure GD (P : Pm) (D : Int) (u v : V) : Prop where
  two : D = 2 → ∀ x ∈ units, P.lab (vadd u x) = P.lab (vadd v x)
  three : D = 3 → P.lab u = P.lab v
theorem GD.refl {P : Pm} {D : Int} (u : V) : GD P D u u := ⟨fun _ _ _ => rfl, fun _ => rfl⟩
theorem GD.symm {P : Pm} {D : Int} {u v : V} (h : GD P D u v) : GD P D v u := ⟨fun e x hx => (h.two e x hx).symm, fun e => (h.three e).symm⟩
theorem GD.trans {P : Pm} {D : Int} {u v w : V} (h : GD P D u v) (k : GD P D v w) : GD P D u w := ⟨fun e x hx => (h.two e x hx).trans (k.two e x hx), fun e => (h.three e).trans (k.three e)⟩
structure PmOk (P : Pm) : Prop where
  ord : OrdV P.Nl
  cmp : ∀ (D : Int) (e f : En), BOk P D e → BOk P D f → D ≤ 3 → (cmpK P.keys (enV e) (enV f) < 0 ↔ P.Nl (vOf e) < P.Nl (vOf f)) ∧ (cmpK P.keys (enV e) (enV f) = 0 ↔ P.Nl (vOf e) = P.Nl (vOf f))
  sw : Sm P.ws.1 ∧ Sm P.ws.2.1 ∧ Sm P.ws.2.2
theorem fS_ok {P : Pm} {e ch : En} (h : EOk P e) (hc : EOk P ch) : EOk P (fS e ch) ∧ vOf (fS e ch) = vadd (vOf e) (vOf ch) ∧ inv P (fS e ch) = vadd (inv P e) (inv P ch) := by
  obtain ⟨k1, k2⟩ := addC_ok h.k hc.k
  have hv : vOf (fS e ch) = vadd (vOf e) (vOf ch) := V.ext (Int.add_comm _ _) (Int.add_comm _ _) (Int.add_comm _ _)
  refine ⟨⟨?_, k1⟩, hv, ?_⟩
  · show ch.w + e.w = wt (ch.a + e.a) (ch.b + e.b) (ch.c + e.c) P.ws
    rw [h.w, hc.w]
    unfold wt
    simp only [Int.add_mul]
    omega
  · unfold inv
    rw [hv]
    have g : ∀ x, getK (fS e ch).k x = getK e.k x + getK ch.k x := k2
    rw [g, g, g]
    refine V.ext ?_ ?_ ?_ <;> (unfold vsub vadd sc; simp only [Int.add_mul]; omega)
theorem chg_ok {P : Pm} {s t : En} (hs : EOk P s) (ht : EOk P t) : EOk P (chg s t) ∧ vOf (chg s t) = vsub (vOf t) (vOf s) ∧ inv P (chg s t) = vsub (inv P t) (inv P s) := by
  obtain ⟨n1, n2⟩ := negK_ok hs.k
  have hneg : EOk P ⟨-s.a, -s.b, -s.c, -s.w, negK s.k⟩ := ⟨by
    show -s.w = wt (-s.a) (-s.b) (-s.c) P.ws
    rw [hs.w]; unfold wt; simp only [Int.neg_mul]; omega, n1⟩
  obtain ⟨h1, h2, h3⟩ := fS_ok ht hneg
  refine ⟨h1, ?_, ?_⟩
  · show vOf (fS t _) = _
    rw [h2]
    refine V.ext ?_ ?_ ?_ <;> (unfold vOf vsub vadd; simp only; omega)
  · show inv P (fS t _) = _
    rw [h3]
    have e : inv P ⟨-s.a, -s.b, -s.c, -s.w, negK s.k⟩ = vsub (0, 0, 0) (inv P s) := by
      unfold inv
      have g : ∀ x, getK (negK s.k) x = - getK s.k x := n2
      show vsub (vOf ⟨-s.a, -s.b, -s.c, -s.w, negK s.k⟩) (vadd (sc (getK (negK s.k) P.n0) P.D0) (vadd (sc (getK (negK s.k) P.n1) P.D1) (sc (getK (negK s.k) P.n2) P.D2))) = _
      rw [g, g, g]
      refine V.ext ?_ ?_ ?_ <;> (unfold vOf vsub vadd sc; simp only [Int.neg_mul]; omega)
    rw [e]
    refine V.ext ?_ ?_ ?_ <;> (unfold vsub vadd; simp only; omega)
structure RuleOk (P : Pm) (r : En × En) : Prop where
  e1 : EOk P r.1
  e2 : EOk P r.2
  p1 : Pos3 (vOf r.1)
  d1 : deg (vOf r.1) = 2 ∨ deg (vOf r.1) = 3
  d2 : deg (vOf r.2) = 0
  iv : inv P r.2 = (0, 0, 0)
  pt : Pos3 (vadd (vOf r.1) (vOf r.2))
  dec : P.Nl (vadd (vOf r.1) (vOf r.2)) < P.Nl (vOf r.1)
  lab : GD P (deg (vOf r.1)) (vOf r.1) (vadd (vOf r.1) (vOf r.2))
noncomputable def ruleV (rules : List (En × En)) : Rl := rules.map fun r => (vOf r.1, vOf r.2)
theorem fit_v (l e : En) : fit l e = fitV (vOf l) (vOf e) := rfl
theorem first_rule (rules : List (En × En)) (e : En) : first (ruleV rules) (vOf e) = (rules.find? fun r => fit r.1 e).map fun r => (vOf r.1, vOf r.2) := by
  unfold first ruleV
  rw [List.find?_map]
  rfl
theorem fits_nil {rules : List (En × En)} {e : En} (h : first (ruleV rules) (vOf e) = none) : fitsOf rules e = [] := by
  rw [first_rule] at h
  have : rules.find? (fun r => fit r.1 e) = none := by simpa using h
  unfold fitsOf
  rw [List.filter_eq_nil_iff]
  intro r hr
  have := List.find?_eq_none.mp this r hr
  simpa using this
theorem fits_cons {rules : List (En × En)} {e : En} {v : V × V} (h : first (ruleV rules) (vOf e) = some v) : ∃ r rs, fitsOf rules e = r :: rs ∧ v = (vOf r.1, vOf r.2) ∧ r ∈ rules ∧ fitV (vOf r.1) (vOf e) = true := by
  rw [first_rule] at h
  cases q : rules.find? (fun r => fit r.1 e) with
  | none => rw [q] at h; cases h
  | some r =>
    rw [q] at h
    cases h
    have hh : (fitsOf rules e).head? = some r := by unfold fitsOf; rw [List.head?_filter, q]
    cases hf : fitsOf rules e with
    | nil => rw [hf] at hh; cases hh
    | cons a rs =>
      rw [hf] at hh
      cases hh
      exact ⟨r, rs, rfl, rfl, List.mem_of_find?_eq_some q, by have := List.find?_some q; simpa [fit_v] using this⟩
theorem unit_of {x : V} (hp : Pos3 x) (hd : deg x = 1) : x ∈ units := by
  obtain ⟨a, b, c⟩ := x
  obtain ⟨h1, h2, h3⟩ := hp
  unfold deg at hd
  simp only at h1 h2 h3 hd
  have : (a = 1 ∧ b = 0 ∧ c = 0) ∨ (a = 0 ∧ b = 1 ∧ c = 0) ∨ (a = 0 ∧ b = 0 ∧ c = 1) := by omega
  unfold units
  rcases this with ⟨rfl, rfl, rfl⟩ | ⟨rfl, rfl, rfl⟩ | ⟨rfl, rfl, rfl⟩ <;> simp
/-- one exchange -/
theorem step_v {P : Pm} (H : PmOk P) {D : Int} {r : En × En} (hr : RuleOk P r) {u : V} (hp : Pos3 u) (hd : deg u = D) (hD : D = 2 ∨ D = 3) (hf : fitV (vOf r.1) u = true) :
    Pos3 (vadd u (vOf r.2)) ∧ deg (vadd u (vOf r.2)) = D ∧ P.Nl (vadd u (vOf r.2)) < P.Nl u ∧ GD P D u (vadd u (vOf r.2)) := by
  obtain ⟨f1, f2, f3⟩ := fitV_iff.mp hf
  have hx : Pos3 (vsub u (vOf r.1)) := ⟨by show 0 ≤ u.1 - (vOf r.1).1; omega, by show 0 ≤ u.2.1 - (vOf r.1).2.1; omega, by show 0 ≤ u.2.2 - (vOf r.1).2.2; omega⟩
  have eu : u = vadd (vOf r.1) (vsub u (vOf r.1)) := (vadd_sub _ _).symm
  have eu2 : vadd u (vOf r.2) = vadd (vadd (vOf r.1) (vOf r.2)) (vsub u (vOf r.1)) := V.ext (by unfold vadd vsub; simp only; omega) (by unfold vadd vsub; simp only; omega) (by unfold vadd vsub; simp only; omega)
  have hdeg : deg (vadd u (vOf r.2)) = D := by rw [deg_add, hr.d2]; omega
  have hl : deg (vsub u (vOf r.1)) = D - deg (vOf r.1) := by rw [← hd]; unfold deg vsub; simp only; omega
  refine ⟨?_, hdeg, ?_, ?_⟩
  · rw [eu2]
    have pt := hr.pt
    exact ⟨by show 0 ≤ _ + _; have := pt.a; have := hx.a; omega, by show 0 ≤ _ + _; have := pt.b; have := hx.b; omega, by show 0 ≤ _ + _; have := pt.c; have := hx.c; omega⟩
  · have h1 := H.ord.lin (vadd (vOf r.1) (vOf r.2)) (vOf r.1) (vsub u (vOf r.1))
    rw [← eu2, ← eu] at h1
    have := hr.dec
    omega
  · have same : deg (vOf r.1) = D → GD P D u (vadd u (vOf r.2)) := fun e => by
      have : vOf r.1 = u := fit_eq hf (by omega)
      have hl := hr.lab
      rw [this] at hl
      rw [hd] at hl
      exact hl
    refine ⟨fun e2 => ?_, fun e3 => ?_⟩
    · have hge : 0 ≤ deg (vsub u (vOf r.1)) := by have := hx.a; have := hx.b; have := hx.c; unfold deg; omega
      exact (same (by rcases hr.d1 with q | q <;> omega)).two e2
    · rcases hr.d1 with q | q
      · have hu := unit_of hx (by rw [hl]; omega)
        have := hr.lab.two q _ hu
        rw [← eu2, ← eu] at this
        exact this
      · exact (same (by omega)).three e3
theorem KOk.small {P : Pm} {e : En} (h : EOk P e) : e.k.length ≤ 3 := h.k.len
/-- the exchange ends -/
theorem exch_ex {P : Pm} (H : PmOk P) {D : Int} (hD : D = 2 ∨ D = 3) {rules : List (En × En)} (hr : ∀ r ∈ rules, RuleOk P r) : ∀ (m : Nat) (e : En), (P.Nl (vOf e)).toNat < m → BOk P D e →
    ∃ k e', Exch rules k e e' ∧ BOk P D e' ∧ inv P e' = inv P e ∧ GD P D (vOf e) (vOf e') ∧ P.Nl (vOf e') ≤ P.Nl (vOf e) ∧ Nf (ruleV rules) (vOf e) (vOf e') := by
  intro m
  induction m with
  | zero => intro e h; omega
  | succ m ih =>
    intro e hm he
    cases q : first (ruleV rules) (vOf e) with
    | none => exact ⟨0, e, .done (fits_nil q), he, rfl, .refl _, Int.le_refl _, .done q⟩
    | some v =>
      obtain ⟨r, rs, h1, rfl, h3, h4⟩ := fits_cons q
      have hro := hr r h3
      obtain ⟨s1, s2, s3, s4⟩ := step_v H hro he.pos he.dg hD h4
      obtain ⟨f1, f2, f3⟩ := fS_ok he.toEOk hro.e2
      rw [← f2] at s1 s2 s3 s4
      have hb : BOk P D (fS e r.2) := ⟨f1, s1, s2⟩
      have l1 := H.ord.low _ s1 (by rw [s2]; omega)
      have l2 := H.ord.low _ he.pos (by rw [he.dg]; omega)
      obtain ⟨k, e', g1, g2, g3, g4, g5, g6⟩ := ih (fS e r.2) (by omega) hb
      refine ⟨k + 1, e', .step h1 ?_ g1, g2, ?_, s4.trans g4, by omega, .step q ?_⟩
      · have := KOk.small he.toEOk; have := KOk.small hro.e2; omega
      · rw [g3, f3, hro.iv]
        refine V.ext ?_ ?_ ?_ <;> (unfold vadd; simp only; omega)
      · rw [← f2]; exact g6
theorem nf_ex {P : Pm} (H : PmOk P) {D : Int} (hD : D = 2 ∨ D = 3) {rules : List (En × En)} (hr : ∀ r ∈ rules, RuleOk P r) {u : V} (hp : Pos3 u) (hd : deg u = D) : ∃ z, Nf (ruleV rules) u z := by
  obtain ⟨k, e', _, _, _, _, _, h⟩ := exch_ex H hD hr _ ⟨u.1, u.2.1, u.2.2, wt u.1 u.2.1 u.2.2 P.ws, []⟩ (Nat.lt_succ_self _) ⟨⟨rfl, .nil⟩, hp, hd⟩
  exact ⟨_, h⟩
end Mine
end
section
open PySem PySem.Calls PyProof.Rows
set_option maxRecDepth 100000
set_option maxHeartbeats 1000000
namespace Mine
structure PairOk (P : Pm) (D : Int) (p : En × En) : Prop where
  a : BOk P D p.1
  b : BOk P D p.2
  iv : inv P p.1 = inv P p.2
  g : GD P D (vOf p.1) (vOf p.2)
theorem sme {P : Pm} {D : Int} {e : En} (h : BOk P D e) (hD : D ≤ 3) : SmE e := by
  have h1 := h.pos.a; have h2 := h.pos.b; have h3 := h.pos.c; have h4 := h.dg
  unfold deg at h4
  have a : vOf e = (e.a, e.b, e.c) := rfl
  rw [a] at h1 h2 h3 h4
  simp only at h1 h2 h3 h4
  refine ⟨?_, ?_, ?_, ?_⟩
  · unfold Sm; omega
  · unfold Sm; omega
  · unfold Sm; omega
  · have := KOk.small h.toEOk; omega
theorem ruleV_snoc (rules : List (En × En)) (r : En × En) : ruleV (rules ++ [r]) = ruleV rules ++ [(vOf r.1, vOf r.2)] := by unfold ruleV; rw [List.map_append]; rfl
theorem ruleV_deg {P : Pm} {rules : List (En × En)} (hr : ∀ r ∈ rules, RuleOk P r) : ∀ r ∈ ruleV rules, deg r.2 = 0 := by
  intro r h
  obtain ⟨q, hq, rfl⟩ := List.mem_map.mp h
  exact (hr q hq).d2
/-- a pair's turn -/
theorem turn_v {P : Pm} (H : PmOk P) {D : Int} (hD : D = 2 ∨ D = 3) {rules : List (En × En)} (hr : ∀ r ∈ rules, RuleOk P r) {p : En × En} (hp : PairOk P D p) :
    ∃ k1 k2 s t, Exch rules k1 p.1 s ∧ Exch rules k2 p.2 t ∧
      ((cmpK P.keys (enV s) (enV t) = 0 ∧ Jn (ruleV rules) (vOf p.1) (vOf p.2)) ∨
       (cmpK P.keys (enV s) (enV t) ≠ 0 ∧ ∃ s' t', (s', t') = (if cmpK P.keys (enV s) (enV t) < 0 then (t, s) else (s, t)) ∧ RuleOk P (s', chg s' t') ∧ BOk P D s' ∧ BOk P D t' ∧ first (ruleV rules) (vOf s') = none ∧ first (ruleV rules) (vOf t') = none ∧ vOf s' ≠ vOf t' ∧
        vOf (chg s' t') = vsub (vOf t') (vOf s') ∧ SmE (chg s' t') ∧ Jn (ruleV (rules ++ [(s', chg s' t')])) (vOf p.1) (vOf p.2))) := by
  obtain ⟨k1, s, a1, a2, a3, a4, a5, a6⟩ := exch_ex H hD hr _ p.1 (Nat.lt_succ_self _) hp.a
  obtain ⟨k2, t, b1, b2, b3, b4, b5, b6⟩ := exch_ex H hD hr _ p.2 (Nat.lt_succ_self _) hp.b
  obtain ⟨c1, c2⟩ := H.cmp D s t a2 b2 (by omega)
  refine ⟨k1, k2, s, t, a1, b1, ?_⟩
  have hst : inv P s = inv P t := by rw [a3, b3]; exact hp.iv
  have hg : GD P D (vOf s) (vOf t) := (a4.symm.trans hp.g).trans b4
  have mk : ∀ (x y : En), BOk P D x → BOk P D y → inv P x = inv P y → GD P D (vOf x) (vOf y) → P.Nl (vOf y) < P.Nl (vOf x) → RuleOk P (x, chg x y) ∧ vOf (chg x y) = vsub (vOf y) (vOf x) ∧ vOf x ≠ vOf y ∧ SmE (chg x y) := by
    intro x y hx hy hi hg' hlt
    obtain ⟨e1, e2, e3⟩ := chg_ok hx.toEOk hy.toEOk
    have e4 : vadd (vOf x) (vOf (chg x y)) = vOf y := by rw [e2]; exact vadd_sub _ _
    have sx := sme hx (by omega)
    have sy := sme hy (by omega)
    refine ⟨⟨hx.toEOk, e1, hx.pos, ?_, ?_, ?_, ?_, ?_, ?_⟩, e2, fun q => ?_, ?_⟩
    · show deg (vOf x) = 2 ∨ deg (vOf x) = 3
      rw [hx.dg]; exact hD
    · show deg (vOf (chg x y)) = 0
      rw [e2]
      have h1 := hx.dg; have h2 := hy.dg
      unfold deg vsub at *
      simp only
      omega
    · show inv P (chg x y) = _
      rw [e3, hi]
      refine V.ext ?_ ?_ ?_ <;> (unfold vsub; simp only; omega)
    · show Pos3 (vadd (vOf x) (vOf (chg x y)))
      rw [e4]; exact hy.pos
    · show P.Nl (vadd (vOf x) (vOf (chg x y))) < P.Nl (vOf x)
      rw [e4]; exact hlt
    · show GD P (deg (vOf x)) (vOf x) (vadd (vOf x) (vOf (chg x y)))
      rw [e4, hx.dg]; exact hg'
    · rw [q] at hlt; omega
    · have ea : (chg x y).a = -x.a + y.a := rfl
      have eb : (chg x y).b = -x.b + y.b := rfl
      have ec : (chg x y).c = -x.c + y.c := rfl
      have x1 := hx.pos.a; have x2 := hx.pos.b; have x3 := hx.pos.c; have x4 := hx.dg
      have y1 := hy.pos.a; have y2 := hy.pos.b; have y3 := hy.pos.c; have y4 := hy.dg
      have vx : vOf x = (x.a, x.b, x.c) := rfl
      have vy : vOf y = (y.a, y.b, y.c) := rfl
      unfold deg at x4 y4
      rw [vx] at x1 x2 x3 x4
      rw [vy] at y1 y2 y3 y4
      simp only at x1 x2 x3 x4 y1 y2 y3 y4
      refine ⟨?_, ?_, ?_, ?_⟩
      · rw [ea]; unfold Sm; omega
      · rw [eb]; unfold Sm; omega
      · rw [ec]; unfold Sm; omega
      · have := KOk.small e1; omega
  by_cases h0 : cmpK P.keys (enV s) (enV t) = 0
  · refine .inl ⟨h0, ?_⟩
    have : vOf s = vOf t := H.ord.inj _ _ a2.pos b2.pos (by rw [a2.dg, b2.dg]) (by rw [a2.dg]; omega) (c2.mp h0)
    exact ⟨vOf s, a6, by rw [this]; exact b6⟩
  · refine .inr ⟨h0, ?_⟩
    have hne : P.Nl (vOf s) ≠ P.Nl (vOf t) := fun q => h0 (c2.mpr q)
    by_cases hlt : cmpK P.keys (enV s) (enV t) < 0
    · obtain ⟨m1, m2, m3, m4⟩ := mk t s b2 a2 hst.symm hg.symm (c1.mp hlt)
      refine ⟨t, s, by rw [if_pos hlt], m1, b2, a2, b6.irr, a6.irr, m3, m2, m4, ?_⟩
      rw [ruleV_snoc]
      show Jn (ruleV rules ++ [(vOf t, vOf (chg t s))]) _ _
      rw [m2]
      exact (Jn.made (ruleV_deg hr) b6.irr a6.irr (by rw [a2.dg, b2.dg]) m3 b6 a6 (by rw [hp.b.dg, b2.dg]) (by rw [hp.a.dg, b2.dg])).symm
    · have hgt : P.Nl (vOf t) < P.Nl (vOf s) := by
        have : ¬ P.Nl (vOf s) < P.Nl (vOf t) := fun q => hlt (c1.mpr q)
        omega
      obtain ⟨m1, m2, m3, m4⟩ := mk s t a2 b2 hst hg hgt
      refine ⟨s, t, by rw [if_neg hlt], m1, a2, b2, a6.irr, b6.irr, m3, m2, m4, ?_⟩
      rw [ruleV_snoc]
      show Jn (ruleV rules ++ [(vOf s, vOf (chg s t))]) _ _
      rw [m2]
      exact Jn.made (ruleV_deg hr) a6.irr b6.irr (by rw [a2.dg, b2.dg]) m3 a6 b6 (by rw [hp.a.dg, a2.dg]) (by rw [hp.b.dg, a2.dg])
theorem mx_ge (a b : Int) : a ≤ mx a b ∧ b ≤ mx a b ∧ (mx a b = a ∨ mx a b = b) := by unfold mx; split <;> omega
theorem first_none {rules : List (En × En)} {u : V} (h : first (ruleV rules) u = none) {r : En × En} (hr : r ∈ rules) : fitV (vOf r.1) u = false := by
  have := List.find?_eq_none.mp h (vOf r.1, vOf r.2) (List.mem_map.mpr ⟨r, hr, rfl⟩)
  simpa using this
theorem newP_three {P : Pm} {rules : List (En × En)} {s ch : En} (hs : BOk P 3 s) (hn : first (ruleV rules) (vOf s) = none) : rules.flatMap (newP P.ws s ch) = [] := by
  rw [List.flatMap_eq_nil_iff]
  intro r hr
  unfold newP
  rw [if_neg]
  intro hle
  have hf := first_none hn hr
  have hd := hs.dg
  have vs : vOf s = (s.a, s.b, s.c) := rfl
  unfold deg at hd
  rw [vs] at hd
  simp only at hd
  simp only [List.sum_cons, List.sum_nil] at hle
  have h1 := mx_ge r.1.a s.a
  have h2 := mx_ge r.1.b s.b
  have h3 := mx_ge r.1.c s.c
  have : fitV (vOf r.1) (vOf s) = true := fitV_iff.mpr ⟨by show r.1.a ≤ s.a; omega, by show r.1.b ≤ s.b; omega, by show r.1.c ≤ s.c; omega⟩
  rw [this] at hf; cases hf
theorem rules_snoc {P : Pm} {rules : List (En × En)} {r : En × En} (hr : ∀ r ∈ rules, RuleOk P r) (h : RuleOk P r) : ∀ q ∈ rules ++ [r], RuleOk P q := fun q hq => by
  rcases List.mem_append.mp hq with e | e
  · exact hr q e
  · rw [List.mem_singleton.mp e]; exact h
theorem smr {P : Pm} {r : En × En} (h : RuleOk P r) : SmE r.1 ∧ SmE r.2 := by
  have a1 := h.p1.a; have a2 := h.p1.b; have a3 := h.p1.c; have a4 := h.d1
  have b1 := h.pt.a; have b2 := h.pt.b; have b3 := h.pt.c; have b4 := h.d2
  have v1 : vOf r.1 = (r.1.a, r.1.b, r.1.c) := rfl
  have v2 : vOf r.2 = (r.2.a, r.2.b, r.2.c) := rfl
  unfold deg at a4 b4
  unfold vadd at b1 b2 b3
  rw [v1] at a1 a2 a3 a4 b1 b2 b3
  rw [v2] at b1 b2 b3 b4
  simp only at a1 a2 a3 a4 b1 b2 b3 b4
  have k1 := KOk.small h.e1
  have k2 := KOk.small h.e2
  refine ⟨⟨?_, ?_, ?_, by omega⟩, ⟨?_, ?_, ?_, by omega⟩⟩ <;> (unfold Sm; omega)

/-- the pairs of three signs -/
theorem phase2 {P : Pm} (H : PmOk P) : ∀ (ps rules : List (En × En)), (∀ r ∈ rules, RuleOk P r) → (∀ p ∈ ps, PairOk P 3 p) → rules.length + ps.length ≤ 100 →
    ∃ n out, Compl P.keys P.ws n rules ps out ∧ (∀ r ∈ out, RuleOk P r) ∧ out.length ≤ 100 ∧ (∃ S, ruleV out = ruleV rules ++ S) ∧
      (∀ u v, deg u = 3 → deg v = 3 → Jn (ruleV rules) u v → Jn (ruleV out) u v) ∧ ∀ p ∈ ps, Jn (ruleV out) (vOf p.1) (vOf p.2)
  | [], rules, hr, _, hl => ⟨0, rules, .nil, hr, by simpa using hl, ⟨[], by simp⟩, fun _ _ _ _ h => h, fun p h => nomatch h⟩
  | (p1, p2) :: ps, rules, hr, hp, hl => by
    have hl' : rules.length ≤ 100 ∧ ps.length ≤ 1000 := by rw [List.length_cons] at hl; omega
    obtain ⟨k1, k2, s, t, x1, x2, h⟩ := turn_v H (.inr rfl) hr (hp (p1, p2) List.mem_cons_self)
    have hp' : ∀ p ∈ ps, PairOk P 3 p := fun p h => hp p (List.mem_cons_of_mem _ h)
    rcases h with ⟨h0, hj⟩ | ⟨h0, s', t', hst, hro, hs, ht, fs, ft, hne, hch, hsm, hj⟩
    · obtain ⟨n, out, o1, o2, o3, o4, o5, o6⟩ := phase2 H ps rules hr hp' (by rw [List.length_cons] at hl; omega)
      refine ⟨n + 1, out, .skip hl'.1 hl'.2 x1 x2 h0 o1, o2, o3, o4, o5, fun p hm => ?_⟩
      rcases List.mem_cons.mp hm with rfl | hm
      · exact o5 _ _ (hp _ List.mem_cons_self).a.dg (hp _ List.mem_cons_self).b.dg hj
      · exact o6 p hm
    · have hnp := newP_three (ch := chg s' t') hs fs
      obtain ⟨n, out, o1, o2, o3, ⟨S, o4⟩, o5, o6⟩ := phase2 H ps (rules ++ [(s', chg s' t')]) (rules_snoc hr hro) hp' (by rw [List.length_append, List.length_singleton]; rw [List.length_cons] at hl; omega)
      refine ⟨n + 1, out, .add hl'.1 hl'.2 x1 x2 h0 hst (sme hs (by decide)) (sme ht (by decide)) hsm (fun r hm => smr (hr r hm)) (by rw [hnp, List.append_nil]; exact o1), o2, o3, ⟨[(vOf s', vOf (chg s' t'))] ++ S, by rw [o4, ruleV_snoc, List.append_assoc]⟩, fun u v hu hv hjj => ?_, fun p hm => ?_⟩
      · refine o5 u v hu hv ?_
        rw [ruleV_snoc]
        show Jn (ruleV rules ++ [(vOf s', vOf (chg s' t'))]) u v
        rw [hch]
        exact hjj.merge (ruleV_deg hr) fs ft (by rw [hs.dg, ht.dg]) hne (by rw [hu, hs.dg]) (by rw [hv, hs.dg])
      · rcases List.mem_cons.mp hm with rfl | hm
        · exact o5 _ _ (hp _ List.mem_cons_self).a.dg (hp _ List.mem_cons_self).b.dg hj
        · exact o6 p hm
end Mine
end
section
open PySem PySem.Calls PyProof.Rows
set_option maxRecDepth 100000
set_option maxHeartbeats 1000000
namespace Mine
/-- where two rules meet, a pair waits -/
noncomputable def Meet (ps : List (En × En)) (r q : En × En) : Prop := ∀ e, Pos3 e → deg e = 3 → fitV (vOf r.1) e = true → fitV (vOf q.1) e = true → ∃ p ∈ ps, vOf p.1 = vadd e (vOf r.2) ∧ vOf p.2 = vadd e (vOf q.2)
noncomputable def Two (P : Pm) (rules : List (En × En)) : Prop := ∀ r ∈ rules, RuleOk P r ∧ deg (vOf r.1) = 2
theorem newP_two {P : Pm} (H : PmOk P) {r : En × En} {s ch : En} (hr : RuleOk P r) (hr2 : deg (vOf r.1) = 2) (hs : RuleOk P (s, ch)) (hs2 : deg (vOf s) = 2) (hn : fitV (vOf r.1) (vOf s) = false) :
    (∀ p ∈ newP P.ws s ch r, PairOk P 3 p) ∧ Meet (newP P.ws s ch r) r (s, ch) := by
  have g1 := mx_ge r.1.a s.a
  have g2 := mx_ge r.1.b s.b
  have g3 := mx_ge r.1.c s.c
  have v1 : vOf r.1 = (r.1.a, r.1.b, r.1.c) := rfl
  have v2 : vOf s = (s.a, s.b, s.c) := rfl
  have ne : ¬ (r.1.a ≤ s.a ∧ r.1.b ≤ s.b ∧ r.1.c ≤ s.c) := fun q => by
    have : fitV (vOf r.1) (vOf s) = true := fitV_iff.mpr q
    rw [this] at hn; cases hn
  have a1 := hr.p1.a; have a2 := hr.p1.b; have a3 := hr.p1.c
  have b1 := hs.p1.a; have b2 := hs.p1.b; have b3 := hs.p1.c
  rw [v1] at a1 a2 a3
  rw [show ((s, ch) : En × En).1 = s from rfl, v2] at b1 b2 b3
  have d1 := hr2
  have d2 := hs2
  unfold deg at d1 d2
  rw [v1] at d1
  rw [v2] at d2
  simp only at a1 a2 a3 b1 b2 b3 d1 d2
  generalize hA : mx r.1.a s.a = A at *
  generalize hB : mx r.1.b s.b = B at *
  generalize hC : mx r.1.c s.c = C at *
  have ge3 : 3 ≤ A + B + C := by
    refine Classical.byContradiction fun q => ne ?_
    omega
  constructor
  · intro p hp
    unfold newP at hp
    rw [hA, hB, hC] at hp
    split at hp
    · rename_i hle
      simp only [List.sum_cons, List.sum_nil] at hle
      rw [List.mem_singleton.mp hp]
      have bag : BOk P 3 (ent A B C [] P.ws) := ⟨⟨rfl, .nil⟩, ⟨by show 0 ≤ A; omega, by show 0 ≤ B; omega, by show 0 ≤ C; omega⟩, by show A + B + C = 3; omega⟩
      have f1 : fitV (vOf r.1) (vOf (ent A B C [] P.ws)) = true := fitV_iff.mpr ⟨g1.1, g2.1, g3.1⟩
      have f2 : fitV (vOf s) (vOf (ent A B C [] P.ws)) = true := fitV_iff.mpr ⟨g1.2.1, g2.2.1, g3.2.1⟩
      obtain ⟨s1, s2, s3, s4⟩ := step_v H hr bag.pos bag.dg (.inr rfl) f1
      obtain ⟨t1, t2, t3, t4⟩ := step_v H hs bag.pos bag.dg (.inr rfl) f2
      obtain ⟨e1, e2, e3⟩ := fS_ok bag.toEOk hr.e2
      obtain ⟨h1, h2, h3⟩ := fS_ok bag.toEOk hs.e2
      refine ⟨⟨e1, by rw [e2]; exact s1, by rw [e2]; exact s2⟩, ⟨h1, by show Pos3 (vOf (fS _ ch)); rw [h2]; exact t1, by show deg (vOf (fS _ ch)) = 3; rw [h2]; exact t2⟩, ?_, ?_⟩
      · show inv P (fS _ r.2) = inv P (fS _ ch)
        rw [e3, h3, hr.iv, hs.iv]
      · show GD P 3 (vOf (fS _ r.2)) (vOf (fS _ ch))
        rw [e2, h2]
        exact s4.symm.trans t4
    · cases hp
  · intro e hpe hde f1 f2
    obtain ⟨x1, x2, x3⟩ := fitV_iff.mp f1
    obtain ⟨y1, y2, y3⟩ := fitV_iff.mp f2
    rw [v1] at x1 x2 x3
    rw [show ((s, ch) : En × En).1 = s from rfl, v2] at y1 y2 y3
    simp only at x1 x2 x3 y1 y2 y3
    unfold deg at hde
    have ee : e = vOf (ent A B C [] P.ws) := V.ext (by show e.1 = A; omega) (by show e.2.1 = B; omega) (by show e.2.2 = C; omega)
    have hsum : A + B + C = 3 := by
      rw [ee] at hde
      exact hde
    have bag : EOk P (ent A B C [] P.ws) := ⟨rfl, .nil⟩
    refine ⟨(fS (ent A B C [] P.ws) r.2, fS (ent A B C [] P.ws) ch), ?_, ?_, ?_⟩
    · unfold newP
      rw [hA, hB, hC, if_pos (by simp only [List.sum_cons, List.sum_nil]; omega)]
      exact List.mem_singleton.mpr rfl
    · show vOf (fS _ r.2) = _
      rw [(fS_ok bag hr.e2).2.1, ee]
    · show vOf (fS _ ch) = _
      rw [(fS_ok bag hs.e2).2.1, ee]
theorem Meet.more {ps qs : List (En × En)} {r q : En × En} (h : Meet ps r q) (hs : ∀ p ∈ ps, p ∈ qs) : Meet qs r q := fun e a b c d => let ⟨p, hp, x⟩ := h e a b c d; ⟨p, hs p hp, x⟩

/-- the pairs of two signs first -/
theorem phase1 {P : Pm} (H : PmOk P) : ∀ (ps rules p3 : List (En × En)), Two P rules → (∀ p ∈ ps, PairOk P 2 p) → (∀ p ∈ p3, PairOk P 3 p) → rules.length + ps.length ≤ 3 → p3.length ≤ 3 * rules.length → rules.Pairwise (Meet p3) →
    ∃ n out R2, Compl P.keys P.ws n rules (ps ++ p3) out ∧ (∀ r ∈ out, RuleOk P r) ∧ out.length ≤ 100 ∧ Two P R2 ∧ (∃ S, ruleV out = ruleV R2 ++ S) ∧
      R2.Pairwise (fun r q => ∀ e, Pos3 e → deg e = 3 → fitV (vOf r.1) e = true → fitV (vOf q.1) e = true → Jn (ruleV out) (vadd e (vOf r.2)) (vadd e (vOf q.2))) ∧
      (∀ u v, deg u = 2 → deg v = 2 → Jn (ruleV rules) u v → Jn (ruleV R2) u v) ∧ ∀ p ∈ ps, Jn (ruleV R2) (vOf p.1) (vOf p.2)
  | [], rules, p3, hr, _, h3, hl, hl3, hm => by
    obtain ⟨n, out, o1, o2, o3, o4, o5, o6⟩ := phase2 H p3 rules (fun r h => (hr r h).1) h3 (by rw [List.length_nil] at hl; omega)
    refine ⟨n, out, rules, o1, o2, o3, hr, o4, hm.imp fun {r q} hrq e a b c d => ?_, fun _ _ _ _ h => h, fun p h => nomatch h⟩
    obtain ⟨p, hp, x1, x2⟩ := hrq e a b c d
    rw [← x1, ← x2]
    exact o6 p hp
  | (p1, p2) :: ps, rules, p3, hr, hp, h3, hl, hl3, hm => by
    rw [List.length_cons] at hl
    have hl' : rules.length ≤ 100 ∧ (ps ++ p3).length ≤ 1000 := by rw [List.length_append]; omega
    have hrr : ∀ r ∈ rules, RuleOk P r := fun r h => (hr r h).1
    obtain ⟨k1, k2, s, t, x1, x2, h⟩ := turn_v H (.inl rfl) hrr (hp (p1, p2) List.mem_cons_self)
    have hp' : ∀ p ∈ ps, PairOk P 2 p := fun p h => hp p (List.mem_cons_of_mem _ h)
    rcases h with ⟨h0, hj⟩ | ⟨h0, s', t', hst, hro, hs, ht, fs, ft, hne, hch, hsm, hj⟩
    · obtain ⟨n, out, R2, o1, o2, o3, o4, o5, o6, o7, o8⟩ := phase1 H ps rules p3 hr hp' h3 (by omega) hl3 hm
      refine ⟨n + 1, out, R2, .skip hl'.1 hl'.2 x1 x2 h0 o1, o2, o3, o4, o5, o6, o7, fun p hmem => ?_⟩
      rcases List.mem_cons.mp hmem with rfl | hmem
      · exact o7 _ _ (hp _ List.mem_cons_self).a.dg (hp _ List.mem_cons_self).b.dg hj
      · exact o8 p hmem
    · have hnew : ∀ r ∈ rules, (∀ p ∈ newP P.ws s' (chg s' t') r, PairOk P 3 p) ∧ Meet (newP P.ws s' (chg s' t') r) r (s', chg s' t') := fun r hmem => newP_two H (hr r hmem).1 (hr r hmem).2 hro hs.dg (first_none fs hmem)
      have hlen : (rules.flatMap (newP P.ws s' (chg s' t'))).length ≤ rules.length := by
        have e1 : ∀ l : List (En × En), (l.flatMap (newP P.ws s' (chg s' t'))).length ≤ l.length := by
          intro l
          induction l with
          | nil => simp
          | cons r l ih =>
            rw [List.flatMap_cons, List.length_append, List.length_cons]
            have : (newP P.ws s' (chg s' t') r).length ≤ 1 := by unfold newP; split <;> simp
            omega
        exact e1 rules
      obtain ⟨n, out, R2, o1, o2, o3, o4, o5, o6, o7, o8⟩ := phase1 H ps (rules ++ [(s', chg s' t')]) (p3 ++ rules.flatMap (newP P.ws s' (chg s' t')))
        (fun r hmem => by
          rcases List.mem_append.mp hmem with q | q
          · exact hr r q
          · rw [List.mem_singleton.mp q]; exact ⟨hro, hs.dg⟩) hp'
        (fun p hmem => by
          rcases List.mem_append.mp hmem with q | q
          · exact h3 p q
          · obtain ⟨r, hr1, hr2⟩ := List.mem_flatMap.mp q
            exact (hnew r hr1).1 p hr2)
        (by rw [List.length_append, List.length_singleton]; omega)
        (by rw [List.length_append, List.length_append, List.length_singleton]; omega)
        (by
          rw [List.pairwise_append]
          refine ⟨hm.imp fun {r q} x => x.more fun p h => List.mem_append.mpr (.inl h), List.pairwise_singleton _ _, fun r hr1 q hq => ?_⟩
          rw [List.mem_singleton.mp hq]
          exact (hnew r hr1).2.more fun p h => List.mem_append.mpr (.inr (List.mem_flatMap.mpr ⟨r, hr1, h⟩)))
      rw [← List.append_assoc] at o1
      have keep : ∀ u v, deg u = 2 → deg v = 2 → Jn (ruleV rules) u v → Jn (ruleV R2) u v := fun u v hu hv hjj => by
        refine o7 u v hu hv ?_
        rw [ruleV_snoc]
        show Jn (ruleV rules ++ [(vOf s', vOf (chg s' t'))]) u v
        rw [hch]
        exact hjj.merge (ruleV_deg hrr) fs ft (by rw [hs.dg, ht.dg]) hne (by rw [hu, hs.dg]) (by rw [hv, hs.dg])
      refine ⟨n + 1, out, R2, .add hl'.1 hl'.2 x1 x2 h0 hst (sme hs (by decide)) (sme ht (by decide)) hsm (fun r hm => smr (hrr r hm)) o1, o2, o3, o4, o5, o6, keep, fun p hmem => ?_⟩
      rcases List.mem_cons.mp hmem with rfl | hmem
      · exact o7 _ _ (hp _ List.mem_cons_self).a.dg (hp _ List.mem_cons_self).b.dg hj
      · exact o8 p hmem
theorem find_pair {α : Type} {R : α → α → Prop} {p : α → Bool} : ∀ {l : List α} {a b : α}, l.Pairwise R → l.find? p = some a → b ∈ l → p b = true → a = b ∨ R a b
  | x :: l, a, b, hp, hf, hb, hpb => by
    rw [List.find?_cons] at hf
    rw [List.pairwise_cons] at hp
    cases hx : p x with
    | true =>
      rw [hx] at hf
      cases hf
      rcases List.mem_cons.mp hb with rfl | hb
      · exact .inl rfl
      · exact .inr (hp.1 b hb)
    | false =>
      rw [hx] at hf
      rcases List.mem_cons.mp hb with rfl | hb
      · rw [hx] at hpb; cases hpb
      · exact find_pair hp.2 hf hb hpb
theorem unit_pos {x : V} (h : x ∈ units) : Pos3 x ∧ deg x = 1 := by
  unfold units at h
  simp only [List.mem_cons, List.not_mem_nil, or_false] at h
  rcases h with rfl | rfl | rfl <;> exact ⟨⟨by decide, by decide, by decide⟩, by decide⟩
theorem pos_add {u v : V} (h : Pos3 u) (k : Pos3 v) : Pos3 (vadd u v) := ⟨by have := h.a; have := k.a; show 0 ≤ u.1 + v.1; omega, by have := h.b; have := k.b; show 0 ≤ u.2.1 + v.2.1; omega, by have := h.c; have := k.c; show 0 ≤ u.2.2 + v.2.2; omega⟩

/-- the completion, whole -/
theorem completion {P : Pm} (H : PmOk P) {ps : List (En × En)} (hp : ∀ p ∈ ps, PairOk P 2 p) (hl : ps.length ≤ 3) :
    ∃ n out, Compl P.keys P.ws n [] ps out ∧ (∀ r ∈ out, RuleOk P r) ∧ out.length ≤ 100 ∧ ∀ p ∈ ps, ∀ x ∈ units, Jn (ruleV out) (vadd (vOf p.1) x) (vadd (vOf p.2) x) := by
  obtain ⟨n, out, R2, o1, o2, o3, o4, ⟨S, o5⟩, o6, o7, o8⟩ := phase1 H ps [] [] (fun r h => nomatch h) hp (fun p h => nomatch h) (by simpa using hl) (by simp) .nil
  rw [List.append_nil] at o1
  refine ⟨n, out, o1, o2, o3, fun p hm x hx => ?_⟩
  obtain ⟨xp, xd⟩ := unit_pos hx
  -- a rule of two signs, with one sign more
  have A : ∀ r ∈ R2, ∀ e, Pos3 e → deg e = 3 → fitV (vOf r.1) e = true → Jn (ruleV out) e (vadd e (vOf r.2)) := by
    intro r hr e pe de fe
    have hfind : ∃ r0, R2.find? (fun r => fitV (vOf r.1) e) = some r0 := by
      cases q : R2.find? (fun r => fitV (vOf r.1) e) with
      | some r0 => exact ⟨r0, rfl⟩
      | none => have := List.find?_eq_none.mp q r hr; rw [fe] at this; simp at this
    obtain ⟨r0, h0⟩ := hfind
    have hfirst : first (ruleV out) e = some (vOf r0.1, vOf r0.2) := by
      rw [o5, first_append]
      have : first (ruleV R2) e = some (vOf r0.1, vOf r0.2) := by
        unfold first ruleV
        rw [List.find?_map]
        show (R2.find? _).map _ = _
        have e2 : (fun r : V × V => fitV r.1 e) ∘ (fun r : En × En => (vOf r.1, vOf r.2)) = fun r => fitV (vOf r.1) e := rfl
        rw [e2, h0]; rfl
      rw [this]; rfl
    have f0 : fitV (vOf r0.1) e = true := by simpa using List.find?_some h0
    have m0 := List.mem_of_find?_eq_some h0
    rcases find_pair o6 h0 hr fe with rfl | hrel
    · obtain ⟨s1, s2, _, _⟩ := step_v H (o4 _ hr).1 pe de (.inr rfl) fe
      obtain ⟨z, hz⟩ := nf_ex H (.inr rfl) o2 s1 s2
      exact ⟨z, .step hfirst hz, hz⟩
    · obtain ⟨z, z1, z2⟩ := hrel e pe de f0 fe
      exact ⟨z, .step hfirst z1, z2⟩
  have B : ∀ {u z : V}, Nf (ruleV R2) u z → Pos3 u → deg u = 2 → Jn (ruleV out) (vadd u x) (vadd z x) := by
    intro u z h
    induction h with
    | @done u _ =>
      intro pu du
      obtain ⟨z, hz⟩ := nf_ex H (.inr rfl) o2 (pos_add pu xp) (by rw [deg_add]; omega)
      exact ⟨z, hz, hz⟩
    | @step u z r h _ ih =>
      intro pu du
      obtain ⟨hm', hf⟩ := first_mem h
      obtain ⟨q, hq, rfl⟩ := List.mem_map.mp hm'
      obtain ⟨ro, r2⟩ := o4 q hq
      obtain ⟨s1, s2, _, _⟩ := step_v H ro pu du (.inl rfl) hf
      have hf3 : fitV (vOf q.1) (vadd u x) = true := by
        obtain ⟨a1, a2, a3⟩ := fitV_iff.mp hf
        simp only at a1 a2 a3
        have b1 := xp.a; have b2 := xp.b; have b3 := xp.c
        exact fitV_iff.mpr ⟨by show _ ≤ u.1 + x.1; omega, by show _ ≤ u.2.1 + x.2.1; omega, by show _ ≤ u.2.2 + x.2.2; omega⟩
      have h1 := A q hq (vadd u x) (pos_add pu xp) (by rw [deg_add]; omega) hf3
      have e : vadd (vadd u x) (vOf q.2) = vadd (vadd u (vOf q.2)) x := V.ext (by unfold vadd; simp only; omega) (by unfold vadd; simp only; omega) (by unfold vadd; simp only; omega)
      rw [e] at h1
      exact h1.trans (ih s1 s2)
  obtain ⟨z, z1, z2⟩ := o8 p hm
  exact (B z1 (hp p hm).a.pos (hp p hm).a.dg).trans (B z2 (hp p hm).b.pos (hp p hm).b.dg).symm
end Mine
end
section
open PySem PySem.Calls PyProof.Rows
set_option maxRecDepth 100000
set_option maxHeartbeats 4000000
namespace Mine
theorem and_lo (n f : Nat) (hf : f < 64) : (n * 64) &&& f = 0 := by
  have h1 : f &&& 63 = f := by
    have := Nat.and_two_pow_sub_one_eq_mod f 6
    rw [show 2 ^ 6 - 1 = 63 from rfl, show 2 ^ 6 = 64 from rfl] at this
    rw [this, Nat.mod_eq_of_lt hf]
  have h2 : (n * 64) &&& 63 = 0 := by
    have := Nat.and_two_pow_sub_one_eq_mod (n * 64) 6
    rw [show 2 ^ 6 - 1 = 63 from rfl, show 2 ^ 6 = 64 from rfl] at this
    rw [this, Nat.mul_mod_left]
  rw [← h1, Nat.and_comm f 63, ← Nat.and_assoc, h2, Nat.zero_and]
theorem bitOr_lo (n f : Nat) (hf : f < 64) : Builtin.bitOr ((n : Int) * 2 ^ 6) (f : Int) = (n : Int) * 64 + f := by
  rw [bitOr_and]
  have e : ((n : Int) * 2 ^ 6) = ((n * 64 : Nat) : Int) := by push_cast; rfl
  have : Builtin.bitAnd ((n : Int) * 2 ^ 6) (f : Int) = 0 := by
    rw [e]
    unfold Builtin.bitAnd
    have h1 : decide ((0 : Int) ≤ ((n * 64 : Nat) : Int)) = true := decide_eq_true (by omega)
    have h2 : decide ((0 : Int) ≤ (f : Int)) = true := by simp
    rw [h1, h2]
    show (((((n * 64 : Nat) : Int).toNat &&& (f : Int).toNat : Nat)) : Int) = 0
    rw [Int.toNat_natCast, Int.toNat_natCast, and_lo n f hf]; rfl
  rw [this, e]
  omega
theorem bits_ok : ∀ f : _root_.Fin 64, (Builtin.bitAnd ((f.val : Int) + 64) 64 != 0) = true ∧ (Builtin.bitAnd ((f.val : Int) + 192) 64 != 0) = true ∧ (Builtin.bitAnd (f.val : Int) 64 != 0) = false ∧
    Builtin.bitAnd ((f.val : Int) + 64) 63 = f.val ∧ Builtin.bitAnd ((f.val : Int) + 192) 63 = f.val ∧ Builtin.bitAnd (f.val : Int) 63 = f.val := by decide +kernel
theorem vint_eq {f0 f1 f2 : Int} (h0 : 0 ≤ f0 ∧ f0 < 64) (h1 : 0 ≤ f1 ∧ f1 < 64) (h2 : 0 ≤ f2 ∧ f2 < 64) : VOk (f0 + 64) (f1 + 192) f2 ∧ vint (f0 + 64) (f1 + 192) f2 = f0 * 4096 + f1 * 64 + f2 := by
  have b0 := bits_ok ⟨f0.toNat, by omega⟩
  have b1 := bits_ok ⟨f1.toNat, by omega⟩
  have b2 := bits_ok ⟨f2.toNat, by omega⟩
  have e0 : ((f0.toNat : Nat) : Int) = f0 := by omega
  have e1 : ((f1.toNat : Nat) : Int) = f1 := by omega
  have e2 : ((f2.toNat : Nat) : Int) = f2 := by omega
  simp only [e0] at b0
  simp only [e1] at b1
  simp only [e2] at b2
  have o1 := bitOr_lo f0.toNat f1.toNat (by omega)
  rw [e0, e1] at o1
  have o2 := bitOr_lo (f0.toNat * 64 + f1.toNat) f2.toNat (by omega)
  have e3 : ((f0.toNat * 64 + f1.toNat : Nat) : Int) = f0 * 64 + f1 := by omega
  rw [e3, e2] at o2
  refine ⟨⟨b0.1, b1.2.1, b2.2.2.1, by rw [b0.2.2.2.1]; omega, ?_⟩, ?_⟩
  · rw [b0.2.2.2.1, b1.2.2.2.2.1, o1]; omega
  · unfold vint
    rw [b0.2.2.2.1, b1.2.2.2.2.1, b2.2.2.2.2.2, o1, o2]; omega

noncomputable def fg (w x : Int) : Int := if 0 < w then x else 63 - x
noncomputable def N3 (w0 w1 w2 x0 x1 x2 : Int) : Int := fg w0 x0 * 4096 + fg w1 x1 * 64 + fg w2 x2
theorem fg_pos (x : Int) : fg 1 x = x := rfl
theorem fg_neg (x : Int) : fg (-1) x = 63 - x := rfl
structure R9 (x0 x1 x2 : Int) : Prop where
  a : 0 ≤ x0 ∧ x0 ≤ 9
  b : 0 ≤ x1 ∧ x1 ≤ 9
  c : 0 ≤ x2 ∧ x2 ≤ 9
theorem N3_cmp {w0 w1 w2 x0 x1 x2 y0 y1 y2 : Int} (h0 : w0 = 1 ∨ w0 = -1) (h1 : w1 = 1 ∨ w1 = -1) (h2 : w2 = 1 ∨ w2 = -1) (hx : R9 x0 x1 x2) (hy : R9 y0 y1 y2) :
    ((if x0 < y0 then -w0 else if y0 < x0 then w0 else if x1 < y1 then -w1 else if y1 < x1 then w1 else if x2 < y2 then -w2 else if y2 < x2 then w2 else 0) < 0 ↔ N3 w0 w1 w2 x0 x1 x2 < N3 w0 w1 w2 y0 y1 y2) ∧
    ((if x0 < y0 then -w0 else if y0 < x0 then w0 else if x1 < y1 then -w1 else if y1 < x1 then w1 else if x2 < y2 then -w2 else if y2 < x2 then w2 else 0) = 0 ↔ N3 w0 w1 w2 x0 x1 x2 = N3 w0 w1 w2 y0 y1 y2) := by
  obtain ⟨a, b, c⟩ := hx
  obtain ⟨a', b', c'⟩ := hy
  unfold N3
  rcases h0 with rfl | rfl <;> rcases h1 with rfl | rfl <;> rcases h2 with rfl | rfl <;> simp only [fg_pos, fg_neg] <;> (repeat' split) <;> omega
theorem N3_inj {w0 w1 w2 x0 x1 x2 y0 y1 y2 : Int} (h0 : w0 = 1 ∨ w0 = -1) (h1 : w1 = 1 ∨ w1 = -1) (h2 : w2 = 1 ∨ w2 = -1) (hx : R9 x0 x1 x2) (hy : R9 y0 y1 y2) (h : N3 w0 w1 w2 x0 x1 x2 = N3 w0 w1 w2 y0 y1 y2) : x0 = y0 ∧ x1 = y1 ∧ x2 = y2 := by
  obtain ⟨a, b, c⟩ := hx
  obtain ⟨a', b', c'⟩ := hy
  unfold N3 at h
  rcases h0 with rfl | rfl <;> rcases h1 with rfl | rfl <;> rcases h2 with rfl | rfl <;> simp only [fg_pos, fg_neg] at h <;> omega
theorem fg_range {w x : Int} (h : w = 1 ∨ w = -1) (hx : 0 ≤ x ∧ x ≤ 9) : 0 ≤ fg w x ∧ fg w x < 64 := by
  rcases h with rfl | rfl
  · rw [fg_pos]; omega
  · rw [fg_neg]; omega
/-- a bag's column -/
noncomputable def colV (ws : Int × Int × Int) (c : Int) (u : V) : Int := [u.1, u.2.1, u.2.2, wt u.1 u.2.1 u.2.2 ws].getD c.toNat 0
noncomputable def NlOf (ws : Int × Int × Int) (c1 c2 w0 w1 w2 : Int) (u : V) : Int := N3 w0 w1 w2 (colV ws 3 u) (colV ws c1 u) (colV ws c2 u)
structure W3 (ws : Int × Int × Int) : Prop where
  a : 1 ≤ ws.1 ∧ ws.1 ≤ 3
  b : 1 ≤ ws.2.1 ∧ ws.2.1 ≤ 3
  c : 1 ≤ ws.2.2 ∧ ws.2.2 ≤ 3
theorem wt_range {ws : Int × Int × Int} (h : W3 ws) {u : V} (hp : Pos3 u) (hd : deg u ≤ 3) : 0 ≤ wt u.1 u.2.1 u.2.2 ws ∧ wt u.1 u.2.1 u.2.2 ws ≤ 9 := by
  have a := hp.a; have b := hp.b; have c := hp.c
  unfold deg at hd
  have h1 := Int.mul_nonneg a (show 0 ≤ ws.1 by have := h.a; omega)
  have h2 := Int.mul_nonneg b (show 0 ≤ ws.2.1 by have := h.b; omega)
  have h3 := Int.mul_nonneg c (show 0 ≤ ws.2.2 by have := h.c; omega)
  have g1 := Int.mul_le_mul_of_nonneg_left h.a.2 a
  have g2 := Int.mul_le_mul_of_nonneg_left h.b.2 b
  have g3 := Int.mul_le_mul_of_nonneg_left h.c.2 c
  unfold wt
  omega
theorem col_range {ws : Int × Int × Int} (h : W3 ws) {u : V} (hp : Pos3 u) (hd : deg u ≤ 3) {c : Int} (hc : 0 ≤ c ∧ c ≤ 3) : 0 ≤ colV ws c u ∧ colV ws c u ≤ 9 := by
  have a := hp.a; have b := hp.b; have cc := hp.c
  have hw := wt_range h hp hd
  unfold deg at hd
  have : c = 0 ∨ c = 1 ∨ c = 2 ∨ c = 3 := by omega
  rcases this with rfl | rfl | rfl | rfl
  · show 0 ≤ u.1 ∧ u.1 ≤ 9; omega
  · show 0 ≤ u.2.1 ∧ u.2.1 ≤ 9; omega
  · show 0 ≤ u.2.2 ∧ u.2.2 ≤ 9; omega
  · exact hw
theorem col_add {ws : Int × Int × Int} (u x : V) {c : Int} (hc : 0 ≤ c ∧ c ≤ 3) : colV ws c (vadd u x) = colV ws c u + colV ws c x := by
  have : c = 0 ∨ c = 1 ∨ c = 2 ∨ c = 3 := by omega
  rcases this with rfl | rfl | rfl | rfl
  · rfl
  · rfl
  · rfl
  · show wt (u.1 + x.1) (u.2.1 + x.2.1) (u.2.2 + x.2.2) ws = wt u.1 u.2.1 u.2.2 ws + wt x.1 x.2.1 x.2.2 ws
    unfold wt
    simp only [Int.add_mul]; omega
theorem ord_ok {ws : Int × Int × Int} {c1 c2 w0 w1 w2 : Int} (hW : W3 ws) (h0 : w0 = 1 ∨ w0 = -1) (h1 : w1 = 1 ∨ w1 = -1) (h2 : w2 = 1 ∨ w2 = -1) (k1 : 0 ≤ c1 ∧ c1 < 3) (k2 : 0 ≤ c2 ∧ c2 < 3) (hne : c1 ≠ c2) : OrdV (NlOf ws c1 c2 w0 w1 w2) where
  lin := by
    intro u v x
    unfold NlOf N3
    rw [col_add u x (by omega), col_add u x (by omega), col_add u x (by omega), col_add v x (by omega), col_add v x (by omega), col_add v x (by omega)]
    have f : ∀ (w : Int), (w = 1 ∨ w = -1) → ∀ a b d : Int, fg w (a + d) - fg w (b + d) = fg w a - fg w b := by
      intro w hw a b d
      rcases hw with rfl | rfl <;> simp only [fg_pos, fg_neg] <;> omega
    have e0 := f w0 h0 (colV ws 3 u) (colV ws 3 v) (colV ws 3 x)
    have e1 := f w1 h1 (colV ws c1 u) (colV ws c1 v) (colV ws c1 x)
    have e2 := f w2 h2 (colV ws c2 u) (colV ws c2 v) (colV ws c2 x)
    omega
  inj := by
    intro u v pu pv hd h3 h
    have r1 : R9 (colV ws 3 u) (colV ws c1 u) (colV ws c2 u) := ⟨col_range hW pu h3 (by omega), col_range hW pu h3 (by omega), col_range hW pu h3 (by omega)⟩
    have r2 : R9 (colV ws 3 v) (colV ws c1 v) (colV ws c2 v) := ⟨col_range hW pv (by omega) (by omega), col_range hW pv (by omega) (by omega), col_range hW pv (by omega) (by omega)⟩
    obtain ⟨_, e1, e2⟩ := N3_inj h0 h1 h2 r1 r2 h
    have g1 : c1 = 0 ∨ c1 = 1 ∨ c1 = 2 := by omega
    have g2 : c2 = 0 ∨ c2 = 1 ∨ c2 = 2 := by omega
    have c0 : ∀ u : V, colV ws 0 u = u.1 := fun _ => rfl
    have c1' : ∀ u : V, colV ws 1 u = u.2.1 := fun _ => rfl
    have c2' : ∀ u : V, colV ws 2 u = u.2.2 := fun _ => rfl
    unfold deg at hd
    rcases g1 with rfl | rfl | rfl <;> rcases g2 with rfl | rfl | rfl <;> first | exact absurd rfl hne | (simp only [c0, c1', c2'] at e1 e2; exact V.ext (by omega) (by omega) (by omega))
  low := by
    intro u pu hd
    have a := fg_range h0 (col_range hW pu hd (c := 3) (by omega))
    have b := fg_range h1 (col_range hW pu hd (c := c1) (by omega))
    have c := fg_range h2 (col_range hW pu hd (c := c2) (by omega))
    unfold NlOf N3
    omega
end Mine
end
section
open PySem PySem.Calls PyProof.Rows
set_option maxRecDepth 100000
set_option maxHeartbeats 4000000
namespace Mine
theorem fm3 (x : Int) : 0 ≤ x.fmod 3 ∧ x.fmod 3 < 3 := ⟨Int.fmod_nonneg_of_pos x (by decide), Int.fmod_lt_of_pos x (by decide)⟩
theorem fm2 (x : Int) : x.fmod 2 = 0 ∨ x.fmod 2 = 1 := by
  have h1 := Int.fmod_nonneg_of_pos x (b := 2) (by decide)
  have h2 := Int.fmod_lt_of_pos x (b := 2) (by decide)
  omega
theorem way_ok (d : Int) (k : Nat) : wayOf d k = 1 ∨ wayOf d k = -1 := by
  unfold wayOf
  rcases fm2 (d.fdiv (6 * 2 ^ k)) with h | h <;> rw [h] <;> simp
theorem col_ne (d : Int) : colOf d 1 ≠ colOf d 2 := by
  show d.fmod 3 ≠ (d + 1 + (d.fdiv 3).fmod 2).fmod 3
  rw [Int.fmod_eq_emod_of_nonneg _ (by decide), Int.fmod_eq_emod_of_nonneg (d + 1 + (d.fdiv 3).fmod 2) (by decide)]
  rcases fm2 (d.fdiv 3) with h | h <;> rw [h] <;> omega
theorem w3 (d : Int) : W3 (wsOf d) := by
  have h := dig_range d
  refine ⟨?_, ?_, ?_⟩
  · have := h 0; show 1 ≤ 1 + dig d 0 ∧ 1 + dig d 0 ≤ 3; omega
  · have := h 1; show 1 ≤ 1 + dig d 1 ∧ 1 + dig d 1 ≤ 3; omega
  · have := h 2; show 1 ≤ 1 + dig d 2 ∧ 1 + dig d 2 ≤ 3; omega
noncomputable def vL (row : List Int) : V := (row.getD 0 0, row.getD 1 0, row.getD 2 0)
/-- the case in hand -/
noncomputable def pmOf (d0 d1 d2 d3 d4 : Int) (lab : V → Int) : Pm where
  ws := wsOf d4
  keys := keysOf d3
  n0 := nmK d3 0
  n1 := nmK d3 1
  n2 := nmK d3 2
  D0 := vsub (vL (rgt d0)) (vL (lft d0))
  D1 := vsub (vL (rgt d1)) (vL (lft d1))
  D2 := vsub (vL (rgt d2)) (vL (lft d2))
  lab := lab
  Nl := NlOf (wsOf d4) (colOf d3 1) (colOf d3 2) (wayOf d3 0) (wayOf d3 1) (wayOf d3 2)
theorem en_col {ws : Int × Int × Int} {e : En} (hw : e.w = wt e.a e.b e.c ws) (c : Int) : (enV e).getD c.toNat 0 = colV ws c (vOf e) := by
  unfold enV colV vOf
  rw [hw]
theorem pm_ok (d0 d1 d2 d3 d4 : Int) (lab : V → Int) : PmOk (pmOf d0 d1 d2 d3 d4 lab) where
  ord := ord_ok (w3 d4) (way_ok d3 0) (way_ok d3 1) (way_ok d3 2) (fm3 _) (fm3 _) (col_ne d3)
  sw := ⟨(smW d4).a, (smW d4).b, (smW d4).c⟩
  cmp := by
    intro D e f he hf hD
    have r : ∀ g : En, BOk (pmOf d0 d1 d2 d3 d4 lab) D g → R9 (colV (wsOf d4) 3 (vOf g)) (colV (wsOf d4) (colOf d3 1) (vOf g)) (colV (wsOf d4) (colOf d3 2) (vOf g)) := fun g hg =>
      ⟨col_range (w3 d4) hg.pos (by rw [hg.dg]; exact hD) (by omega), col_range (w3 d4) hg.pos (by rw [hg.dg]; exact hD) (by have := fm3 d3; show 0 ≤ d3.fmod 3 ∧ d3.fmod 3 ≤ 3; omega), col_range (w3 d4) hg.pos (by rw [hg.dg]; exact hD) (by have := fm3 (d3 + 1 + (d3.fdiv 3).fmod 2); show 0 ≤ (d3 + 1 + (d3.fdiv 3).fmod 2).fmod 3 ∧ (d3 + 1 + (d3.fdiv 3).fmod 2).fmod 3 ≤ 3; omega)⟩
    have main := N3_cmp (way_ok d3 0) (way_ok d3 1) (way_ok d3 2) (r e he) (r f hf)
    have e1 : cmpK (keysOf d3) (enV e) (enV f) = (if colV (wsOf d4) 3 (vOf e) < colV (wsOf d4) 3 (vOf f) then -wayOf d3 0 else if colV (wsOf d4) 3 (vOf f) < colV (wsOf d4) 3 (vOf e) then wayOf d3 0 else
        if colV (wsOf d4) (colOf d3 1) (vOf e) < colV (wsOf d4) (colOf d3 1) (vOf f) then -wayOf d3 1 else if colV (wsOf d4) (colOf d3 1) (vOf f) < colV (wsOf d4) (colOf d3 1) (vOf e) then wayOf d3 1 else
        if colV (wsOf d4) (colOf d3 2) (vOf e) < colV (wsOf d4) (colOf d3 2) (vOf f) then -wayOf d3 2 else if colV (wsOf d4) (colOf d3 2) (vOf f) < colV (wsOf d4) (colOf d3 2) (vOf e) then wayOf d3 2 else 0) := by
      show cmpK [(colOf d3 0, wayOf d3 0), (colOf d3 1, wayOf d3 1), (colOf d3 2, wayOf d3 2)] (enV e) (enV f) = _
      rw [cmpK_cons, cmpK_cons, cmpK_cons]
      simp only [en_col he.w, en_col hf.w]
      rfl
    show (cmpK (keysOf d3) (enV e) (enV f) < 0 ↔ _) ∧ (cmpK (keysOf d3) (enV e) (enV f) = 0 ↔ _)
    rw [e1]
    exact main
theorem num_ok {d0 d1 d2 d3 d4 : Int} {lab : V → Int} {e : En} (he : BOk (pmOf d0 d1 d2 d3 d4 lab) 3 e) : numOk d3 e ∧ numOf d3 e = (pmOf d0 d1 d2 d3 d4 lab).Nl (vOf e) := by
  have hc1 := fm3 d3
  have hc2 := fm3 (d3 + 1 + (d3.fdiv 3).fmod 2)
  have f : ∀ (c : Int) (k : Nat), fig e (c, wayOf d3 k) = fg (wayOf d3 k) (colV (wsOf d4) c (vOf e)) := fun c k => by
    have hc : enGet e c = colV (wsOf d4) c (vOf e) := en_col he.w c
    show (if 0 < wayOf d3 k then enGet e c else 63 - enGet e c) = _
    rw [hc]; rfl
  have g : ∀ (c : Int) (k : Nat), 0 ≤ c ∧ c ≤ 3 → 0 ≤ fg (wayOf d3 k) (colV (wsOf d4) c (vOf e)) ∧ fg (wayOf d3 k) (colV (wsOf d4) c (vOf e)) < 64 := fun c k hc => fg_range (way_ok d3 k) (col_range (w3 d4) he.pos (by rw [he.dg]; decide) hc)
  obtain ⟨v1, v2⟩ := vint_eq (g (colOf d3 0) 0 (by show (0 : Int) ≤ 3 ∧ (3 : Int) ≤ 3; decide)) (g (colOf d3 1) 1 (by show 0 ≤ d3.fmod 3 ∧ d3.fmod 3 ≤ 3; omega)) (g (colOf d3 2) 2 (by show 0 ≤ (d3 + 1 + (d3.fdiv 3).fmod 2).fmod 3 ∧ (d3 + 1 + (d3.fdiv 3).fmod 2).fmod 3 ≤ 3; omega))
  constructor
  · unfold numOk
    rw [f, f, f]; exact v1
  · unfold numOf numK
    rw [f, f, f]; exact v2
/-- the names are three -/
theorem nm_ne (d : Int) : nmK d 0 ≠ nmK d 1 ∧ nmK d 0 ≠ nmK d 2 ∧ nmK d 1 ≠ nmK d 2 := by
  have h : ∀ b < 8, nmOf (b + 0) ≠ nmOf (b + 1) ∧ nmOf (b + 0) ≠ nmOf (b + 2) ∧ nmOf (b + 1) ≠ nmOf (b + 2) := by decide +kernel
  exact h _ (base_lt d).2
/-- what a bag of two signs is -/
theorem row2 : ∀ a b : _root_.Fin 3, Pos3 (vL (rowOf [(a.val : Int), (b.val : Int)])) ∧ deg (vL (rowOf [(a.val : Int), (b.val : Int)])) = 2 := by
  have h : ∀ a b : _root_.Fin 3, (0 ≤ (vL (rowOf [(a.val : Int), (b.val : Int)])).1 ∧ 0 ≤ (vL (rowOf [(a.val : Int), (b.val : Int)])).2.1 ∧ 0 ≤ (vL (rowOf [(a.val : Int), (b.val : Int)])).2.2) ∧ deg (vL (rowOf [(a.val : Int), (b.val : Int)])) = 2 := by decide +kernel
  intro a b
  obtain ⟨⟨h1, h2, h3⟩, h4⟩ := h a b
  exact ⟨⟨h1, h2, h3⟩, h4⟩
theorem lft_ok (d : Int) : Pos3 (vL (lft d)) ∧ deg (vL (lft d)) = 2 := by
  have e : ∀ k, ((dg d k).val : Int) = dig d k := fun k => fin3_val (dig_range d k).1 (dig_range d k).2
  have := row2 (dg d 0) (dg d 1)
  rw [e, e] at this
  exact this
theorem rgt_ok (d : Int) : Pos3 (vL (rgt d)) ∧ deg (vL (rgt d)) = 2 := by
  have e : ∀ k, ((dg d k).val : Int) = dig d k := fun k => fin3_val (dig_range d k).1 (dig_range d k).2
  have := row2 (dg d 2) (dg d 3)
  rw [e, e] at this
  exact this
/-- the pairs at the start -/
theorem pair_ok {d0 d1 d2 d3 d4 : Int} {lab : V → Int} (d : Int) (k : Nat) (hk : (k = 0 ∧ d = d0) ∨ (k = 1 ∧ d = d1) ∨ (k = 2 ∧ d = d2))
    (hlab : ∀ x ∈ units, lab (vadd (vL (lft d)) x) = lab (vadd (vL (rgt d)) x)) : PairOk (pmOf d0 d1 d2 d3 d4 lab) 2 (startOf d d4, endOf d d3 d4 k) := by
  obtain ⟨n01, n02, n12⟩ := nm_ne d3
  obtain ⟨l1, l2⟩ := lft_ok d
  obtain ⟨r1, r2⟩ := rgt_ok d
  have hmem : nmK d3 k ∈ (pmOf d0 d1 d2 d3 d4 lab).NM := by
    rcases hk with ⟨rfl, _⟩ | ⟨rfl, _⟩ | ⟨rfl, _⟩ <;> simp [pmOf]
  refine ⟨⟨⟨rfl, .nil⟩, l1, l2⟩, ⟨⟨rfl, ⟨by simp [endOf, entL, ent], fun x hx => ?_⟩⟩, r1, r2⟩, ?_, ⟨fun _ => hlab, fun h => absurd h (by decide)⟩⟩
  · have : x = nmK d3 k := by simpa [endOf, entL, ent] using hx
    rw [this]; exact hmem
  · have gs : ∀ x, getK (startOf d d4).k x = 0 := fun x => rfl
    have ge : ∀ x, getK (endOf d d3 d4 k).k x = if x = nmK d3 k then 1 else 0 := fun x => by
      show getK [(nmK d3 k, 1)] x = _
      rw [getK_cons]; rfl
    have vs : vOf (startOf d d4) = vL (lft d) := rfl
    have ve : vOf (endOf d d3 d4 k) = vL (rgt d) := rfl
    show inv _ (startOf d d4) = inv _ (endOf d d3 d4 k)
    unfold inv
    rw [vs, ve, gs, gs, gs, ge, ge, ge]
    have a0 : (pmOf d0 d1 d2 d3 d4 lab).n0 = nmK d3 0 := rfl
    have a1 : (pmOf d0 d1 d2 d3 d4 lab).n1 = nmK d3 1 := rfl
    have a2 : (pmOf d0 d1 d2 d3 d4 lab).n2 = nmK d3 2 := rfl
    have b0 : (pmOf d0 d1 d2 d3 d4 lab).D0 = vsub (vL (rgt d0)) (vL (lft d0)) := rfl
    have b1 : (pmOf d0 d1 d2 d3 d4 lab).D1 = vsub (vL (rgt d1)) (vL (lft d1)) := rfl
    have b2 : (pmOf d0 d1 d2 d3 d4 lab).D2 = vsub (vL (rgt d2)) (vL (lft d2)) := rfl
    rw [a0, a1, a2, b0, b1, b2]
    rcases hk with ⟨rfl, rfl⟩ | ⟨rfl, rfl⟩ | ⟨rfl, rfl⟩
    · rw [if_pos rfl, if_neg (Ne.symm n01), if_neg (Ne.symm n02)]
      refine V.ext ?_ ?_ ?_ <;> (unfold vsub vadd sc; simp only; omega)
    · rw [if_neg n01, if_pos rfl, if_neg (Ne.symm n12)]
      refine V.ext ?_ ?_ ?_ <;> (unfold vsub vadd sc; simp only; omega)
    · rw [if_neg n02, if_neg n12, if_pos rfl]
      refine V.ext ?_ ?_ ?_ <;> (unfold vsub vadd sc; simp only; omega)
end Mine
end
section
open PySem PySem.Calls PyProof.Rows
set_option maxRecDepth 100000
set_option maxHeartbeats 4000000
namespace Mine
/-- what the labels say -/
structure LabInv (n : Nat) (E : Nat → Nat → Prop) (lb : List Int) : Prop where
  len : lb.length = n
  eq : ∀ i j, i < n → j < n → lb.getD i 0 = lb.getD j 0 → E i j
theorem merge_get {lb : List Int} {i j x : Nat} (hx : x < lb.length) : (mergeL lb i j).getD x 0 = if lb.getD x 0 = lb.getD i 0 then lb.getD j 0 else lb.getD x 0 := by
  unfold mergeL
  simp only [List.getD_eq_getElem?_getD, List.getElem?_map, List.getElem?_eq_getElem hx]
  rfl
theorem LabInv.merge {n : Nat} {E : Nat → Nat → Prop} (hs : ∀ i j, E i j → E j i) (ht : ∀ i j k, E i j → E j k → E i k) {lb : List Int} (h : LabInv n E lb) {i0 j0 : Nat} (hi : i0 < n) (hj : j0 < n) (he : E i0 j0) : LabInv n E (mergeL lb i0 j0) := by
  refine ⟨by rw [mergeL_length]; exact h.len, fun i j hin hjn e => ?_⟩
  rw [merge_get (by rw [h.len]; exact hin), merge_get (by rw [h.len]; exact hjn)] at e
  by_cases c1 : lb.getD i 0 = lb.getD i0 0
  · by_cases c2 : lb.getD j 0 = lb.getD i0 0
    · exact h.eq i j hin hjn (c1.trans c2.symm)
    · rw [if_pos c1, if_neg c2] at e
      exact ht _ _ _ (h.eq i i0 hin hi c1) (ht _ _ _ he (h.eq j0 j hj hjn e))
  · by_cases c2 : lb.getD j 0 = lb.getD i0 0
    · rw [if_neg c1, if_pos c2] at e
      exact ht _ _ _ (h.eq i j0 hin hj e) (ht _ _ _ (hs _ _ he) (h.eq i0 j hi hjn c2.symm))
    · rw [if_neg c1, if_neg c2] at e
      exact h.eq i j hin hjn e
/-- alike once, alike for good -/
noncomputable def Same (lb : List Int) (p : Nat × Nat) : Prop := lb.getD p.1 0 = lb.getD p.2 0
theorem Same.merge {lb : List Int} {i j : Nat} {p : Nat × Nat} (h1 : p.1 < lb.length) (h2 : p.2 < lb.length) (h : Same lb p) : Same (mergeL lb i j) p := by
  unfold Same at *
  rw [merge_get h1, merge_get h2, h]
theorem Same.made {lb : List Int} {i j : Nat} (hi : i < lb.length) (hj : j < lb.length) : Same (mergeL lb i j) (i, j) := by
  unfold Same
  rw [merge_get hi, merge_get hj, if_pos rfl]
  split <;> rfl
/-- the merges in their order -/
noncomputable def mergesOf (d0 d1 d2 : Int) : List (Nat × Nat) := [d0, d1, d2].flatMap fun d => (List.range 3).map fun x => (bags10.idxOf (rowOf ((wordOf d).take 2 ++ [((x : Nat) : Int)])), bags10.idxOf (rowOf ((wordOf d).drop 2 ++ [((x : Nat) : Int)])))
theorem labs_merges (d0 d1 d2 : Int) : labsOf d0 d1 d2 = (mergesOf d0 d1 d2).foldl (fun lb p => mergeL lb p.1 p.2) ((List.range 10).map fun (k : Nat) => (k : Int)) := by
  unfold labsOf famOf mergesOf
  rw [bags_len.1]
  rfl
theorem merges_fold {n : Nat} {E : Nat → Nat → Prop} (hs : ∀ i j, E i j → E j i) (ht : ∀ i j k, E i j → E j k → E i k) : ∀ (l : List (Nat × Nat)) (lb : List Int), (∀ p ∈ l, p.1 < n ∧ p.2 < n ∧ E p.1 p.2) → LabInv n E lb → LabInv n E (l.foldl (fun lb p => mergeL lb p.1 p.2) lb)
  | [], lb, _, h => h
  | p :: l, lb, hl, h => merges_fold hs ht l _ (fun q hq => hl q (List.mem_cons_of_mem _ hq)) (h.merge hs ht (hl p List.mem_cons_self).1 (hl p List.mem_cons_self).2.1 (hl p List.mem_cons_self).2.2)
theorem merges_same : ∀ (l : List (Nat × Nat)) (lb : List Int) (n : Nat), (∀ p ∈ l, p.1 < n ∧ p.2 < n) → lb.length = n → (∀ p, p.1 < n → p.2 < n → Same lb p → Same (l.foldl (fun lb p => mergeL lb p.1 p.2) lb) p) ∧ ∀ p ∈ l, Same (l.foldl (fun lb p => mergeL lb p.1 p.2) lb) p
  | [], lb, n, _, _ => ⟨fun p _ _ h => h, fun p h => nomatch h⟩
  | q :: l, lb, n, hl, hn => by
    have hq := hl q List.mem_cons_self
    obtain ⟨h1, h2⟩ := merges_same l (mergeL lb q.1 q.2) n (fun p hp => hl p (List.mem_cons_of_mem _ hp)) (by rw [mergeL_length]; exact hn)
    refine ⟨fun p p1 p2 h => h1 p p1 p2 (h.merge (by rw [hn]; exact p1) (by rw [hn]; exact p2)), fun p hp => ?_⟩
    rcases List.mem_cons.mp hp with rfl | hp
    · exact h1 _ hq.1 hq.2 (Same.made (by rw [hn]; exact hq.1) (by rw [hn]; exact hq.2))
    · exact h2 p hp
/-- bags and vectors -/
noncomputable def rowL (u : V) : List Int := [u.1, u.2.1, u.2.2]
noncomputable def ixOf (u : V) : Nat := bags10.idxOf (rowL u)
theorem bag_in {u : V} (hp : Pos3 u) (hd : deg u = 3) : rowL u ∈ bags10 := by
  obtain ⟨a, b, c⟩ := u
  have h1 := hp.a; have h2 := hp.b; have h3 := hp.c
  unfold deg at hd
  simp only at h1 h2 h3 hd
  have ec : c = 3 - a - b := by omega
  subst ec
  unfold rowL bags10
  refine List.mem_flatMap.mpr ⟨a.toNat, List.mem_range.mpr (by omega), List.mem_map.mpr ⟨b.toNat, List.mem_range.mpr (by omega), ?_⟩⟩
  have e1 : ((a.toNat : Nat) : Int) = a := by omega
  have e2 : ((b.toNat : Nat) : Int) = b := by omega
  rw [e1, e2]
theorem ix_lt {u : V} (hp : Pos3 u) (hd : deg u = 3) : ixOf u < 10 := by
  have := List.idxOf_lt_length_iff.mpr (bag_in hp hd)
  rw [bags_len.1] at this
  exact this
theorem ix_get {u : V} (hp : Pos3 u) (hd : deg u = 3) : bags10[ixOf u]? = some (rowL u) := by
  have h := List.idxOf_lt_length_iff.mpr (bag_in hp hd)
  unfold ixOf
  rw [List.getElem?_eq_getElem h, List.getElem_idxOf]
theorem bags_nodup : bags10.Nodup := by decide +kernel
theorem bags_pos : ∀ b ∈ bags10, (0 ≤ (vL b).1 ∧ 0 ≤ (vL b).2.1 ∧ 0 ≤ (vL b).2.2) ∧ deg (vL b) = 3 := by decide +kernel
theorem ix_self {i : Nat} {b : List Int} (h : bags10[i]? = some b) : ixOf (vL b) = i ∧ Pos3 (vL b) ∧ deg (vL b) = 3 ∧ rowL (vL b) = b := by
  have hm := List.mem_of_getElem? h
  obtain ⟨⟨a1, a2, a3⟩, a4⟩ := bags_pos b hm
  have hr : rowL (vL b) = b := (row3 (bags_len.2.1 b hm)).symm
  refine ⟨?_, ⟨a1, a2, a3⟩, a4, hr⟩
  unfold ixOf
  rw [hr]
  obtain ⟨hlt, he⟩ := List.getElem?_eq_some_iff.mp h
  refine (List.getElem?_inj (List.idxOf_lt_length_iff.mpr hm) bags_nodup).mp ?_
  rw [List.getElem?_eq_getElem (List.idxOf_lt_length_iff.mpr hm), List.getElem_idxOf, h]
theorem row_add : ∀ a b x : _root_.Fin 3, rowOf [(a.val : Int), (b.val : Int), (x.val : Int)] = rowL (vadd (vL (rowOf [(a.val : Int), (b.val : Int)])) (units.getD x.val (0, 0, 0))) := by decide +kernel
theorem word_add (d : Int) (x : Nat) (hx : x < 3) : rowOf ((wordOf d).take 2 ++ [((x : Nat) : Int)]) = rowL (vadd (vL (lft d)) (units.getD x (0, 0, 0))) ∧ rowOf ((wordOf d).drop 2 ++ [((x : Nat) : Int)]) = rowL (vadd (vL (rgt d)) (units.getD x (0, 0, 0))) := by
  have e : ∀ k, ((dg d k).val : Int) = dig d k := fun k => fin3_val (dig_range d k).1 (dig_range d k).2
  have h1 := row_add (dg d 0) (dg d 1) ⟨x, hx⟩
  have h2 := row_add (dg d 2) (dg d 3) ⟨x, hx⟩
  rw [e, e] at h1 h2
  exact ⟨h1, h2⟩
theorem unit_ix {x : V} (h : x ∈ units) : ∃ j, j < 3 ∧ units.getD j (0, 0, 0) = x := by
  unfold units at *
  simp only [List.mem_cons, List.not_mem_nil, or_false] at h
  rcases h with rfl | rfl | rfl
  · exact ⟨0, by decide, rfl⟩
  · exact ⟨1, by decide, rfl⟩
  · exact ⟨2, by decide, rfl⟩
theorem unit_mem {j : Nat} (h : j < 3) : units.getD j (0, 0, 0) ∈ units := by
  have : j = 0 ∨ j = 1 ∨ j = 2 := by omega
  rcases this with rfl | rfl | rfl <;> decide
theorem merges_mem {d0 d1 d2 d : Int} (hd : d ∈ [d0, d1, d2]) {x : V} (hx : x ∈ units) : (ixOf (vadd (vL (lft d)) x), ixOf (vadd (vL (rgt d)) x)) ∈ mergesOf d0 d1 d2 := by
  obtain ⟨j, hj, rfl⟩ := unit_ix hx
  refine List.mem_flatMap.mpr ⟨d, hd, List.mem_map.mpr ⟨j, List.mem_range.mpr hj, ?_⟩⟩
  obtain ⟨h1, h2⟩ := word_add d j hj
  rw [h1, h2]; rfl
theorem merges_of {d0 d1 d2 : Int} {p : Nat × Nat} (hp : p ∈ mergesOf d0 d1 d2) : ∃ d ∈ [d0, d1, d2], ∃ x ∈ units, p = (ixOf (vadd (vL (lft d)) x), ixOf (vadd (vL (rgt d)) x)) := by
  obtain ⟨d, hd, h⟩ := List.mem_flatMap.mp hp
  obtain ⟨j, hj, rfl⟩ := List.mem_map.mp h
  have hj3 := List.mem_range.mp hj
  obtain ⟨h1, h2⟩ := word_add d j hj3
  exact ⟨d, hd, _, unit_mem hj3, by rw [h1, h2]; rfl⟩
theorem lx_ok (d : Int) {x : V} (hx : x ∈ units) : (Pos3 (vadd (vL (lft d)) x) ∧ deg (vadd (vL (lft d)) x) = 3) ∧ (Pos3 (vadd (vL (rgt d)) x) ∧ deg (vadd (vL (rgt d)) x) = 3) := by
  obtain ⟨u1, u2⟩ := unit_pos hx
  obtain ⟨l1, l2⟩ := lft_ok d
  obtain ⟨r1, r2⟩ := rgt_ok d
  exact ⟨⟨pos_add l1 u1, by rw [deg_add, l2, u2]; rfl⟩, ⟨pos_add r1 u1, by rw [deg_add, r2, u2]; rfl⟩⟩
end Mine
end
section
open PySem PySem.Calls PyProof.Rows
set_option maxRecDepth 100000
set_option maxHeartbeats 4000000
namespace Mine
noncomputable def labF (d0 d1 d2 : Int) (u : V) : Int := (labsOf d0 d1 d2).getD (ixOf u) 0
theorem merges_lt {d0 d1 d2 : Int} : ∀ p ∈ mergesOf d0 d1 d2, p.1 < 10 ∧ p.2 < 10 := fun p hp => by
  obtain ⟨d, _, x, hx, rfl⟩ := merges_of hp
  obtain ⟨h1, h2⟩ := lx_ok d hx
  exact ⟨ix_lt h1.1 h1.2, ix_lt h2.1 h2.2⟩
theorem lab_gen (d0 d1 d2 : Int) {d : Int} (hd : d ∈ [d0, d1, d2]) : ∀ x ∈ units, labF d0 d1 d2 (vadd (vL (lft d)) x) = labF d0 d1 d2 (vadd (vL (rgt d)) x) := by
  intro x hx
  have h := (merges_same (mergesOf d0 d1 d2) ((List.range 10).map fun (k : Nat) => (k : Int)) 10 merges_lt (by simp)).2 _ (merges_mem hd hx)
  unfold labF
  rw [labs_merges]
  exact h
theorem vOf_ent (b : List Int) (ws : Int × Int × Int) : vOf (entL b [] ws) = vL b := rfl
theorem ch_get (d : Int) (k : Nat) (hk : k < 3) : (chOf d).getD k 0 = (rgt d).getD k 0 - (lft d).getD k 0 := by
  have : k = 0 ∨ k = 1 ∨ k = 2 := by omega
  rcases this with rfl | rfl | rfl <;> rfl

theorem law_true (d0 d1 d2 d3 d4 : Int) : LawOk d0 d1 d2 d3 d4 := by
  let P := pmOf d0 d1 d2 d3 d4 (labF d0 d1 d2)
  have H : PmOk P := pm_ok d0 d1 d2 d3 d4 (labF d0 d1 d2)
  have hpairs : ∀ p ∈ pairsOf d0 d1 d2 d3 d4, PairOk P 2 p := by
    intro p hp
    unfold pairsOf at hp
    simp only [List.mem_cons, List.not_mem_nil, or_false] at hp
    rcases hp with rfl | rfl | rfl
    · exact pair_ok d0 0 (.inl ⟨rfl, rfl⟩) (lab_gen d0 d1 d2 (by simp))
    · exact pair_ok d1 1 (.inr (.inl ⟨rfl, rfl⟩)) (lab_gen d0 d1 d2 (by simp))
    · exact pair_ok d2 2 (.inr (.inr ⟨rfl, rfl⟩)) (lab_gen d0 d1 d2 (by simp))
  obtain ⟨n, out, c1, c2, c3, c4⟩ := completion H hpairs (by simp [pairsOf])
  have hgen : ∀ d ∈ [d0, d1, d2], ∀ x ∈ units, Jn (ruleV out) (vadd (vL (lft d)) x) (vadd (vL (rgt d)) x) := by
    intro d hd x hx
    simp only [List.mem_cons, List.not_mem_nil, or_false] at hd
    rcases hd with rfl | rfl | rfl
    · exact c4 (startOf d d4, endOf d d3 d4 0) (by simp [pairsOf]) x hx
    · exact c4 (startOf d d4, endOf d d3 d4 1) (by simp [pairsOf]) x hx
    · exact c4 (startOf d d4, endOf d d3 d4 2) (by simp [pairsOf]) x hx
  -- labels alike: ends alike
  let E : Nat → Nat → Prop := fun i j => ∀ bi bj, bags10[i]? = some bi → bags10[j]? = some bj → Jn (ruleV out) (vL bi) (vL bj)
  have hlab : LabInv 10 (fun i j => i < 10 ∧ j < 10 ∧ E i j) (labsOf d0 d1 d2) := by
    rw [labs_merges]
    have hsym : ∀ i j, (i < 10 ∧ j < 10 ∧ E i j) → (j < 10 ∧ i < 10 ∧ E j i) := fun i j h => ⟨h.2.1, h.1, fun bi bj h1 h2 => (h.2.2 bj bi h2 h1).symm⟩
    have htr : ∀ i j k, (i < 10 ∧ j < 10 ∧ E i j) → (j < 10 ∧ k < 10 ∧ E j k) → (i < 10 ∧ k < 10 ∧ E i k) := fun i j k h1 h2 => ⟨h1.1, h2.2.1, fun bi bk e1 e2 => by
      obtain ⟨bj, ej⟩ : ∃ bj, bags10[j]? = some bj := ⟨_, List.getElem?_eq_getElem (by rw [bags_len.1]; exact h1.2.1)⟩
      exact (h1.2.2 bi bj e1 ej).trans (h2.2.2 bj bk ej e2)⟩
    have hmem : ∀ p ∈ mergesOf d0 d1 d2, p.1 < 10 ∧ p.2 < 10 ∧ (p.1 < 10 ∧ p.2 < 10 ∧ E p.1 p.2) := fun p hp => by
      obtain ⟨d, hd, x, hx, rfl⟩ := merges_of hp
      obtain ⟨h1, h2⟩ := lx_ok d hx
      refine ⟨ix_lt h1.1 h1.2, ix_lt h2.1 h2.2, ix_lt h1.1 h1.2, ix_lt h2.1 h2.2, fun bi bj e1 e2 => ?_⟩
      have g1 := ix_get h1.1 h1.2
      have g2 := ix_get h2.1 h2.2
      dsimp only at e1 e2
      rw [g1] at e1
      rw [g2] at e2
      cases e1
      cases e2
      exact hgen d hd x hx
    have hinit : LabInv 10 (fun i j => i < 10 ∧ j < 10 ∧ E i j) ((List.range 10).map fun (k : Nat) => (k : Int)) := ⟨by simp, fun i j hi hj e => by
      have get : ∀ k, k < 10 → ((List.range 10).map fun (k : Nat) => (k : Int)).getD k 0 = k := fun k hk => by
        rw [List.getD_eq_getElem?_getD, List.getElem?_map, List.getElem?_range hk]; rfl
      rw [get i hi, get j hj] at e
      have : i = j := by omega
      subst this
      refine ⟨hi, hi, fun bi bj e1 e2 => ?_⟩
      rw [e1] at e2
      cases e2
      obtain ⟨_, p1, p2, _⟩ := ix_self e1
      obtain ⟨z, hz⟩ := nf_ex H (.inr rfl) c2 p1 p2
      exact ⟨z, hz, hz⟩⟩
    exact merges_fold hsym htr _ _ hmem hinit
  have hb3 : ∀ (i : Nat) (b : List Int), bags10[i]? = some b → BOk P 3 (entL b [] (wsOf d4)) := fun i b h => by
    obtain ⟨_, p1, p2, _⟩ := ix_self h
    exact ⟨⟨rfl, .nil⟩, p1, p2⟩
  have hll := labs_length d0 d1 d2
  refine ⟨n, out, c1, by omega, fun b hb => ?_, fun i b l eb el => ?_⟩
  · obtain ⟨i, hi⟩ := List.getElem?_of_mem hb
    exact (num_ok (hb3 i b hi)).1
  · have he0 := hb3 i b eb
    obtain ⟨i1, i2, i3, i4⟩ := ix_self eb
    obtain ⟨j, e, x1, x2, x3, x4, x5, x6⟩ := exch_ex H (.inr rfl) c2 _ (entL b [] (wsOf d4)) (Nat.lt_succ_self _) he0
    obtain ⟨n1, n2⟩ := num_ok x2
    have hsm := sme x2 (by decide)
    have hi10 : i < 10 := by have := (List.getElem?_eq_some_iff.mp eb).1; rw [bags_len.1] at this; exact this
    have hgl : ∀ k, k < 10 → ∀ l, (labsOf d0 d1 d2)[k]? = some l ↔ (labsOf d0 d1 d2).getD k 0 = l := fun k hk l => by
      have hk' : k < (labsOf d0 d1 d2).length := by rw [hll]; exact hk
      rw [List.getD_eq_getElem?_getD, List.getElem?_eq_getElem hk']; simp
    have hl : (labsOf d0 d1 d2).getD i 0 = l := (hgl i hi10 l).mp el
    refine ⟨j, e, x1, n1, ?_, hsm.a, hsm.b, hsm.c, ?_⟩
    · -- the least of the family
      refine (lowOf_is ?_ ?_).symm
      · -- the end is in the family
        have q1 := ix_get x2.pos x2.dg
        have q2 := ix_lt x2.pos x2.dg
        refine List.mem_map.mpr ⟨(numOf d3 e, l), List.mem_filter.mpr ⟨?_, by simp⟩, rfl⟩
        refine List.mem_of_getElem? (i := ixOf (vOf e)) (List.getElem?_zip_eq_some.mpr ⟨?_, ?_⟩)
        · unfold numsOf
          rw [List.getElem?_map, q1]
          show some (numOf d3 (entL (rowL (vOf e)) [] (wsOf d4))) = some (numOf d3 e)
          rw [(num_ok (hb3 _ _ q1)).2, n2]
          rfl
        · refine (hgl _ q2 l).mpr ?_
          have hh := x4.three rfl
          show labF d0 d1 d2 (vOf e) = l
          have hh' : labF d0 d1 d2 (vL b) = labF d0 d1 d2 (vOf e) := hh
          rw [← hh']
          unfold labF
          rw [i1]
          exact hl
      · intro a ha
        obtain ⟨⟨a', l'⟩, hm, rfl⟩ := List.mem_map.mp ha
        obtain ⟨hm2, hl'⟩ := List.mem_filter.mp hm
        have hl2 : l' = l := by simpa using hl'
        subst hl2
        obtain ⟨k, hk⟩ := List.getElem?_of_mem hm2
        obtain ⟨k1, k2⟩ := List.getElem?_zip_eq_some.mp hk
        dsimp only at k1 k2
        unfold numsOf at k1
        rw [List.getElem?_map] at k1
        cases hbk : bags10[k]? with
        | none => rw [hbk] at k1; cases k1
        | some bk =>
          rw [hbk] at k1
          have ha' : a' = numOf d3 (entL bk [] (wsOf d4)) := by cases k1; rfl
          have hk10 : k < 10 := by have := (List.getElem?_eq_some_iff.mp hbk).1; rw [bags_len.1] at this; exact this
          have hek := (hgl k hk10 l').mp k2
          obtain ⟨_, _, hE⟩ := hlab.eq i k hi10 hk10 (hl.trans hek.symm)
          obtain ⟨z, z1, z2⟩ := hE b bk eb hbk
          have hz : vOf e = z := x6.det z1
          have hbk3 := hb3 k bk hbk
          obtain ⟨jj, e', y1, y2, y3, y4, y5, y6⟩ := exch_ex H (.inr rfl) c2 _ (entL bk [] (wsOf d4)) (Nat.lt_succ_self _) hbk3
          have hz' : vOf e' = z := y6.det z2
          show numOf d3 e ≤ a'
          rw [ha', n2, (num_ok hbk3).2]
          rw [hz, ← hz']
          exact y5
    · -- the callers tell
      have hi := x3
      have gs : inv P (entL b [] (wsOf d4)) = vL b := by
        unfold inv
        have g : ∀ x, getK (entL b [] (wsOf d4)).k x = 0 := fun x => rfl
        rw [g, g, g]
        refine V.ext ?_ ?_ ?_ <;> (unfold vsub vadd sc; simp only [Int.zero_mul]; show _ - (0 + (0 + 0)) = _; simp only [Int.add_zero, Int.sub_zero]; rfl)
      rw [gs] at hi
      have hd : ∀ k, k < 3 → dueOf d0 d1 d2 d3 b e k = b.getD k 0 + (getK e.k (nmK d3 0) * ((rgt d0).getD k 0 - (lft d0).getD k 0) + (getK e.k (nmK d3 1) * ((rgt d1).getD k 0 - (lft d1).getD k 0) + (getK e.k (nmK d3 2) * ((rgt d2).getD k 0 - (lft d2).getD k 0)))) := by
        intro k hk
        unfold dueOf
        rw [ch_get d0 k hk, ch_get d1 k hk, ch_get d2 k hk]
        show b.getD k 0 + (getK e.k (nmK d3 0) * _ + (getK e.k (nmK d3 1) * _ + (getK e.k (nmK d3 2) * _ + 0))) = _
        rw [Int.add_zero]
      have i0 := congrArg (fun v : V => v.1) hi
      have i1' := congrArg (fun v : V => v.2.1) hi
      have i2' := congrArg (fun v : V => v.2.2) hi
      have j0 : e.a - (getK e.k (nmK d3 0) * ((rgt d0).getD 0 0 - (lft d0).getD 0 0) + (getK e.k (nmK d3 1) * ((rgt d1).getD 0 0 - (lft d1).getD 0 0) + getK e.k (nmK d3 2) * ((rgt d2).getD 0 0 - (lft d2).getD 0 0))) = b.getD 0 0 := i0
      have j1 : e.b - (getK e.k (nmK d3 0) * ((rgt d0).getD 1 0 - (lft d0).getD 1 0) + (getK e.k (nmK d3 1) * ((rgt d1).getD 1 0 - (lft d1).getD 1 0) + getK e.k (nmK d3 2) * ((rgt d2).getD 1 0 - (lft d2).getD 1 0))) = b.getD 1 0 := i1'
      have j2 : e.c - (getK e.k (nmK d3 0) * ((rgt d0).getD 2 0 - (lft d0).getD 2 0) + (getK e.k (nmK d3 1) * ((rgt d1).getD 2 0 - (lft d1).getD 2 0) + getK e.k (nmK d3 2) * ((rgt d2).getD 2 0 - (lft d2).getD 2 0))) = b.getD 2 0 := i2'
      refine ⟨?_, ?_, ?_, x2.w⟩
      · rw [hd 0 (by decide)]; omega
      · rw [hd 1 (by decide)]; omega
      · rw [hd 2 (by decide)]; omega

/-- the signs are three, unlike -/
theorem signs_ex (m : Int) : ∃ sg : _root_.Fin 3 → Nat, signsOf m = [sg 0, sg 1, sg 2] ∧ (∀ i, sg i ∈ allSigns) ∧ (∀ i j, sg i = sg j → i = j) := by
  have inv : ∀ (l : List Nat) (s : SgS), (∀ k ∈ l, 0 < k) → s.left.Nodup → (∀ c ∈ s.left, c ∈ allSigns) → s.ch.Nodup → (∀ c ∈ s.ch, c ∈ allSigns ∧ c ∉ s.left) → (∀ (i : Nat) (k : Nat), l[i]? = some k → s.left.length = k + i) →
      (l.foldl sgStep s).ch.Nodup ∧ ∀ c ∈ (l.foldl sgStep s).ch, c ∈ allSigns := by
    intro l
    induction l with
    | nil => intro s _ _ _ h4 h5 _; exact ⟨h4, fun c hc => (h5 c hc).1⟩
    | cons k l ih =>
      intro s h1 h2 h3 h4 h5 h6
      have hk := h1 k List.mem_cons_self
      have hlen : s.left.length = k := h6 0 k rfl
      have a1 := Int.fmod_nonneg_of_pos s.m (b := (k : Int)) (by omega)
      have a2 := Int.fmod_lt_of_pos s.m (b := (k : Int)) (by omega)
      have hp : (s.m.fmod k).toNat < s.left.length := by omega
      have hget : s.left.getD (s.m.fmod k).toNat 0 = s.left[(s.m.fmod k).toNat] := by
        rw [List.getD_eq_getElem?_getD, List.getElem?_eq_getElem hp]; rfl
      have hmem : s.left.getD (s.m.fmod k).toNat 0 ∈ s.left := by rw [hget]; exact List.getElem_mem hp
      have hnot : s.left.getD (s.m.fmod k).toNat 0 ∉ s.left.eraseIdx (s.m.fmod k).toNat := by
        intro q
        rw [List.mem_eraseIdx_iff_getElem?] at q
        obtain ⟨i, hi, e⟩ := q
        have : s.left[(s.m.fmod k).toNat]? = some (s.left.getD (s.m.fmod k).toNat 0) := by rw [hget, List.getElem?_eq_getElem hp]
        exact hi ((List.getElem?_inj hp h2).mp (this.trans e.symm)).symm
      refine ih (sgStep s k) (fun k hk => h1 k (List.mem_cons_of_mem _ hk)) (List.Nodup.sublist (List.eraseIdx_sublist _ _) h2) (fun c hc => h3 c ((List.eraseIdx_sublist _ _).subset hc)) ?_ ?_ ?_
      · show (s.ch ++ [_]).Nodup
        rw [List.nodup_append]
        refine ⟨h4, by simp, fun c hc c' hc' e => ?_⟩
        rw [List.mem_singleton.mp hc'] at e
        subst e
        exact (h5 _ hc).2 hmem
      · intro c hc
        have hc' : c ∈ s.ch ++ [s.left.getD (s.m.fmod k).toNat 0] := hc
        rcases List.mem_append.mp hc' with q | q
        · exact ⟨(h5 c q).1, fun hh => (h5 c q).2 ((List.eraseIdx_sublist _ _).subset hh)⟩
        · rw [List.mem_singleton.mp q]
          exact ⟨h3 _ hmem, hnot⟩
      · intro i k' hik
        have := h6 (i + 1) k' hik
        show (s.left.eraseIdx _).length = _
        rw [List.length_eraseIdx, if_pos hp]
        omega
  obtain ⟨h1, h2⟩ := inv [9, 8, 7] ⟨m, allSigns, []⟩ (by decide) (show allSigns.Nodup by decide) (fun c h => h) List.nodup_nil (fun c h => nomatch h) (by
    intro i k h
    match i, h with
    | 0, h => cases h; rfl
    | 1, h => cases h; rfl
    | 2, h => cases h; rfl)
  have hlen := (sg_len m 3 (by decide)).2
  have hs : signsOf m = ([9, 8, 7].foldl sgStep ⟨m, allSigns, []⟩).ch := rfl
  rw [← hs] at h1 h2
  have hlen' : (signsOf m).length = 3 := hlen
  match hq : signsOf m, hlen' with
  | [x, y, z], _ =>
    rw [hq] at h1 h2
    refine ⟨fun i => [x, y, z].getD i.val 0, rfl, fun i => ?_, fun i j e => ?_⟩
    · match i with
      | 0 => exact h2 x (by simp)
      | 1 => exact h2 y (by simp)
      | 2 => exact h2 z (by simp)
    · simp only [List.nodup_cons, List.mem_cons, List.not_mem_nil, or_false, not_or] at h1
      obtain ⟨⟨n1, n2⟩, n3, _⟩ := h1
      match i, j with
      | 0, 0 => rfl
      | 1, 1 => rfl
      | 2, 2 => rfl
      | 0, 1 => exact absurd e n1
      | 0, 2 => exact absurd e n2
      | 1, 2 => exact absurd e n3
      | 1, 0 => exact absurd e.symm n1
      | 2, 0 => exact absurd e.symm n2
      | 2, 1 => exact absurd e.symm n3
theorem draws_ex (ns : List Int) : ∃ d0 d1 d2 d3 d4, drawOf ns = [d0, d1, d2, d3, d4] := by
  have h : (drawOf ns).length = 5 := drawFold_length _ _
  match drawOf ns, h with
  | [a, b, c, d, e], _ => exact ⟨a, b, c, d, e, rfl⟩
end Mine
end
section
open PySem PySem.W PyProof.Rows PySem.Calls
set_option maxRecDepth 100000
set_option maxHeartbeats 16000000
set_option Elab.async true
namespace Mine
theorem meth_of {K : Frag} {a : Addr} {x : Str} (h : ∃ fd b, (∃ o, K.lookup a = some o ∧ o.data = .func fd) ∧ fd.body = .stmts b ∧ mth x = some (fd.params, b, fd.scope) ∧ fd.globals = mainGlobals ∧ fd.builtins = builtinsNs ∧ fd.closure = [] ∧ fd.defaults = .none ∧ fd.kwdefaults = .none ∧ codeIn K fd.code fd.qualname = true) : ∃ fd, IsMeth K a x fd := by
  obtain ⟨fd, b, h1, h2, h3, h4, h5, h6, h7, h8, h9⟩ := h
  exact ⟨fd, h1, ⟨b, h2, h3⟩, h4, h5, h6, h7, h8, h9⟩
theorem cls_of {K : Frag} {C fI fC : Addr} (h1 : ∃ fd b, (∃ o, K.lookup fI = some o ∧ o.data = .func fd) ∧ fd.body = .stmts b ∧ mth "__init__" = some (fd.params, b, fd.scope) ∧ fd.globals = mainGlobals ∧ fd.builtins = builtinsNs ∧ fd.closure = [] ∧ fd.defaults = .none ∧ fd.kwdefaults = .none ∧ codeIn K fd.code fd.qualname = true) (h2 : ∃ fd b, (∃ o, K.lookup fC = some o ∧ o.data = .func fd) ∧ fd.body = .stmts b ∧ mth "compare" = some (fd.params, b, fd.scope) ∧ fd.globals = mainGlobals ∧ fd.builtins = builtinsNs ∧ fd.closure = [] ∧ fd.defaults = .none ∧ fd.kwdefaults = .none ∧ codeIn K fd.code fd.qualname = true) (h : ∀ dI dC, IsMeth K fI "__init__" dI → IsMeth K fC "compare" dC → ClsF K C fI fC dI dC) : ∃ dI dC, ClsF K C fI fC dI dC :=
  let ⟨_, a⟩ := meth_of h1
  let ⟨_, b⟩ := meth_of h2
  ⟨_, _, h _ _ a b⟩

inductive EntS (P : Params) : List (Str × Int) → List DictEntry → Prop
  | nil : EntS P [] []
  | cons {k : Str} {i : Int} {t u : Tok} {l : List (Str × Int)} {es : List DictEntry} : EntS P l es → EntS P ((k, i) :: l) (⟨PyData.keyHash P k, .str k t, .int i u⟩ :: es)
inductive EntI (P : Params) : List (Int × Str) → List DictEntry → Prop
  | nil : EntI P [] []
  | cons {k : Int} {i : Str} {t u : Tok} {l : List (Int × Str)} {es : List DictEntry} : EntI P l es → EntI P ((k, i) :: l) (⟨hashInt k, .int k t, .str i u⟩ :: es)
theorem EntS.keys {P : Params} : ∀ {l : List (Str × Int)} {es : List DictEntry}, EntS P l es → ∀ e ∈ es, ∃ k, Value.isStrOf k e.key = true ∧ e.hash = PyData.keyHash P k
  | _, _, .nil => fun e he => nomatch he
  | _, _, .cons (k := k) (t := t) r => fun e he => by
    rcases List.mem_cons.mp he with rfl | he
    · exact ⟨k, by simp [Value.isStrOf], rfl⟩
    · exact EntS.keys r e he
theorem EntI.keys {P : Params} : ∀ {l : List (Int × Str)} {es : List DictEntry}, EntI P l es → ∀ e ∈ es, ∃ k, Value.isInt k e.key = true ∧ e.hash = hashInt k
  | _, _, .nil => fun e he => nomatch he
  | _, _, .cons (k := k) (t := t) r => fun e he => by
    rcases List.mem_cons.mp he with rfl | he
    · exact ⟨k, by simp [Value.isInt], rfl⟩
    · exact EntI.keys r e he
theorem EntS.find {P : Params} (k : Str) : ∀ {l : List (Str × Int)} {es : List DictEntry}, EntS P l es → (match l.lookup k with | some i => ∃ u, (es.find? fun e => Value.isStrOf k e.key).map (·.val) = some (.int i u) | none => (es.find? fun e => Value.isStrOf k e.key).map (·.val) = none)
  | _, _, .nil => rfl
  | _, _, .cons (k := k') (i := i) (t := t) (u := u) r => by
    have ih := EntS.find k r
    rw [List.lookup_cons, List.find?_cons]
    have e : Value.isStrOf k (.str k' t) = (k == k') := by
      by_cases h : k = k'
      · subst h; simp [Value.isStrOf]
      · have h1 : (k == k') = false := by simpa using h
        rw [h1]
        cases q : Value.isStrOf k (.str k' t) with
        | false => rfl
        | true => obtain ⟨_, e⟩ := Value.isStrOf_shape q; cases e; exact absurd rfl h
    rw [e]
    cases h : k == k' with
    | true => exact ⟨u, rfl⟩
    | false => exact ih
theorem EntI.find {P : Params} (k : Int) : ∀ {l : List (Int × Str)} {es : List DictEntry}, EntI P l es → (match l.lookup k with | some i => ∃ u, (es.find? fun e => Value.isInt k e.key).map (·.val) = some (.str i u) | none => (es.find? fun e => Value.isInt k e.key).map (·.val) = none)
  | _, _, .nil => rfl
  | _, _, .cons (k := k') (i := i) (t := t) (u := u) r => by
    have ih := EntI.find k r
    rw [List.lookup_cons, List.find?_cons]
    have e : Value.isInt k (.int k' t) = (k == k') := by
      by_cases h : k = k'
      · subst h; simp [Value.isInt]
      · have h1 : (k == k') = false := by simpa using h
        rw [h1]
        cases q : Value.isInt k (.int k' t) with
        | false => rfl
        | true => obtain ⟨_, e⟩ := Value.isInt_shape q; cases e; exact absurd rfl h
    rw [e]
    cases h : k == k' with
    | true => exact ⟨u, rfl⟩
    | false => exact ih
noncomputable def topList : List (Str × Int) := PySem.Challenge.pw_zn0025_01.main.body.filterMap fun st => match st with
  | .Assign [.Name y _] (.Constant (.int i) _ _) _ => some (y, i)
  | _ => none
theorem top_in {x : Str} {i : Int} (h : topInt x = some i) : (x, i) ∈ topList := by
  unfold topInt at h
  obtain ⟨st, hm, he⟩ := List.exists_of_findSome?_eq_some h
  refine List.mem_filterMap.mpr ⟨st, hm, ?_⟩
  split at he
  · rename_i y _ i' _ _ _
    split at he
    · rename_i hy
      cases he
      have : y = x := by simpa using hy
      subst this
      rfl
    · cases he
  · cases he

structure HOk (P : Params) (K : Frag) (V : Program) : Prop where
  ex : ∃ es ep, K.lookup 65 = some ⟨.type "dict", none, .dict es ep, #[]⟩ ∧ EntS P exList es.toList
  flag : ∃ es ep, K.lookup 57 = some ⟨.type "dict", none, .dict es ep, #[]⟩ ∧ EntI P flagList es.toList
  recs : recsOf V = recsOf PySem.Challenge.pw_zn0025_01
  tops : (topList.all fun p => match nsIn K mainGlobals p.1 with | some (some (.int i _)) => i == p.2 | _ => false) = true
  no : (bNames.all fun x => nsIn K mainGlobals x == some none) = true
  cls : ∃ dI dC, ClsF K 38 28 35 dI dC
  gEx : nsIn K mainGlobals "EXACT_TOKEN_TYPES" = some (some (.ref 65))
  gFl : nsIn K mainGlobals "COMPILER_FLAG_NAMES" = some (some (.ref 57))
  gC : nsIn K mainGlobals "TupleComp" = some (some (.ref 38))

theorem gd_of {w : World} {mg mb : Str → Option Value} {h : Heap} {loose : List Str} {mean : ExcName → Option Value} {K : Frag} {V : Program} (pr : Program) (KX : K.In h) (T : Top V loose mean mg mb h) (O : HOk w.params K V) : Gd ⟨pr, w, mg, mb, 38⟩ h where
  g := T.g
  b := T.b
  nolimit := T.nolimit
  fn := by rw [← O.recs]; exact T.fn
  bi := fun x v hx => by show mb x = some v; rw [T.builtins x hx.2]; exact hx.1
  no := fun x hx => by
    have := List.all_eq_true.mp O.no x hx
    exact mg_none_of KX T.g (by simpa using this)
  tops := fun x i hx => by
    have := List.all_eq_true.mp O.tops (x, i) (top_in hx)
    dsimp only at this
    split at this
    · rename_i j t e
      have e2 : j = i := by simpa using this
      subst e2
      exact ⟨t, mg_of KX T.g e⟩
    · cases this
  extab := by
    obtain ⟨es, ep, hl, he⟩ := O.ex
    refine ⟨65, fun k => findBy (PySem.strKind pr w).is es k, mg_of KX T.g O.gEx, by decide, ⟨_, es, ep, KX _ _ hl, ⟨rfl, rfl, rfl⟩, rfl, fun e hm => he.keys e (by simpa using hm), fun _ => rfl⟩, fun k => ?_⟩
    have hf := he.find k
    have e2 : findBy (PySem.strKind pr w).is es k = (es.toList.find? fun e => Value.isStrOf k e.key).map (·.val) := by
      unfold findBy; rw [← Array.find?_toList]; rfl
    cases q : exList.lookup k with
    | some i => rw [q] at hf; obtain ⟨u, hu⟩ := hf; exact ⟨_, e2.trans hu, u, rfl⟩
    | none => rw [q] at hf; exact e2.trans hf
  flagtab := by
    obtain ⟨es, ep, hl, he⟩ := O.flag
    refine ⟨57, fun k => findBy (PySem.intKind pr w).is es k, mg_of KX T.g O.gFl, by decide, ⟨_, es, ep, KX _ _ hl, ⟨rfl, rfl, rfl⟩, rfl, fun e hm => he.keys e (by simpa using hm), fun _ => rfl⟩, fun k => ?_⟩
    have hf := he.find k
    have e2 : findBy (PySem.intKind pr w).is es k = (es.toList.find? fun e => Value.isInt k e.key).map (·.val) := by
      unfold findBy; rw [← Array.find?_toList]; rfl
    cases q : flagList.lookup k with
    | some i => rw [q] at hf; obtain ⟨u, hu⟩ := hf; exact ⟨_, e2.trans hu, u, rfl⟩
    | none => rw [q] at hf; exact e2.trans hf
  cls := by
    obtain ⟨dI, dC, hC⟩ := O.cls
    exact ⟨mg_of KX T.g O.gC, _, 28, 35, dI, dC, KX, hC⟩
theorem well_ints {P : Params} {h : Heap} {a : Addr} {ns : List Int} (x : Well P h (.ref a) (ofPy (PyData.list (ns.map PyData.int)))) : ∃ vs : List Value, h.PlainList a vs.toArray ∧ IntsAre vs ns := by
  have e : ofPy (PyData.list (ns.map PyData.int)) = .list (ofPys (ns.map PyData.int)) := by simp only [ofPy]
  rw [e] at x
  have main : ∀ (ns : List Int) (vs : List Value), WellAll P h vs (ofPys (ns.map PyData.int)) → IntsAre vs ns := by
    intro ns
    induction ns with
    | nil =>
      intro vs hv
      rw [List.map_nil] at hv
      have : ofPys [] = [] := by simp only [ofPys]
      rw [this] at hv
      cases hv
      exact .nil
    | cons i ns ih =>
      intro vs hv
      rw [List.map_cons] at hv
      have : ofPys (PyData.int i :: ns.map PyData.int) = ofPy (PyData.int i) :: ofPys (ns.map PyData.int) := by simp only [ofPys]
      rw [this] at hv
      have e2 : ofPy (PyData.int i) = .int i := by simp only [ofPy]
      rw [e2] at hv
      cases hv with
      | cons h1 h2 =>
        cases h1
        exact .cons i _ (ih _ h2)
  cases x with
  | list h1 h2 => exact ⟨_, ⟨_, h1⟩, main _ _ h2⟩

theorem law_code {G : GC} {A : Around} {s : Shared} {fa a : Addr} {ns : List Int} {vs : List Value} {R : Result → Shared → Prop} (am : Amb A 20) (g : Gd G s.heap) (hg : G.mg "law" = some (.ref fa)) (hp : s.heap.PlainList a vs.toArray) (hi : IntsAre vs ns)
    (body : ∀ h0 MC L ad pm code doc, Ex G (mkCx (dr 14 (by decide)) h0 MC L ad pm code doc) 19 none (args0 ["script"] [iD ns]) (dr 14 (by decide)).body (fun o => o = .ret (.bool true)))
    (hR : ∀ h' tk, Kp s.heap h' → R (.ok (.ret (.bool true))) { s with heap := h', toks := tk }) : codeAny (model G.prog G.w) A (.call (.ref fa) ⟨[.ref a], []⟩) R s := by
  obtain ⟨a', o, pm, code, doc, h1, h2, h3, h4⟩ := g.fn (dr 14) dr_mem
  have h1' : G.mg "law" = some (.ref a') := h1
  rw [hg] at h1'
  cases h1'
  have hr : Rep G [] s.heap (iD ns) (.ref a) := by
    show Rep G [] s.heap (.lst (ns.map D.int)) (.ref a)
    unfold Rep
    exact ⟨a, vs, rfl, by simp, hp, ints_rep hi⟩
  refine Fn.enterF (n := 19) (args := [iD ns]) (MC := []) ["script"] rfl (by decide) (by show ∀ x ∈ _, (dr 14).scope.names.lookup x = _ ∨ (dr 14).scope.names.lookup x = _; decide +kernel) (by rfl) (by rfl) (by rfl) (by show (((dr 14).scope.names.filter _).map _).Nodup; decide +kernel) am g h2 h3 h4 rfl rfl rfl rfl (by rfl) (.cons hr .nil) (fun a ha => nomatch ha) ?_
  intro h' tk M' W' A' Qf Ef am' st' k' hW' hQf
  refine body s.heap [] s.heap.objs.size fa pm code doc A' _ M' W' Qf Ef am' st' (fun ow2 ρ2 M2 W2 h3 tk3 hp => nomatch hp) fun d v M2 W2 h3 tk3 hp t3 r3 => ?_
  cases hp
  have r3' : v = .bool true := r3
  subst r3'
  refine hQf (.ret _) _ (hR h3 tk3 ?_)
  intro c o e
  exact t3.off c o (fun q => by rw [hW' c q] at e; cases e) (k' c o e)

theorem plain_law : ∀ (G : GC) (ns : List Int), ns.length ≤ 63 → ∀ h0 MC L ad pm code doc, Ex G (mkCx (dr 14 (by decide)) h0 MC L ad pm code doc) 19 none (args0 ["script"] [iD ns]) (dr 14 (by decide)).body (fun o => o = .ret (.bool true)) := fun G ns hz => by
  obtain ⟨d0, d1, d2, d3, d4, hd⟩ := draws_ex ns
  exact law_body (n := 13) hz hd (signs_ex d4) (law_true d0 d1 d2 d3 d4)
noncomputable def join.tw1380141592240628250 : Nat := 0
noncomputable def join.tw12599508589912260570 : Nat := 0
noncomputable def join.tw7264890001557101933 : Nat := 0
noncomputable def join.tw11387269024107022328 : Nat := 0
noncomputable def join.tw1103758689825130720 : Nat := 0
noncomputable def join.tw296696574486485105 : Nat := 0
noncomputable def join.tw8981729530663847103 : Nat := 0
noncomputable def join.tw2935279880515733750 : Nat := 0
noncomputable def join.tw7500639964851880827 : Nat := 0
noncomputable def join.tw2536604740239698738 : Nat := 0
noncomputable def join.tw17439496029309960154 : Nat := 0
noncomputable def join.tw2610230024041743187 : Nat := 0
noncomputable def join.tw15899948545207011398 : Nat := 0
noncomputable def join.tw10384985055031275066 : Nat := 0
noncomputable def join.tw8290610154584526063 : Nat := 0
noncomputable def join.tw190713542625684923 : Nat := 0
noncomputable def join.tw7622529235394251349 : Nat := 0
noncomputable def join.tw12717767053747136337 : Nat := 0
noncomputable def join.tw7035802759857368158 : Nat := 0
noncomputable def join.tw6052651021662584119 : Nat := 0
noncomputable def join.tw2460202536451974754 : Nat := 0
noncomputable def join.tw8785895990288482273 : Nat := 0
noncomputable def join.tw5802780090305712689 : Nat := 0
noncomputable def join.tw464944205646939747 : Nat := 0
noncomputable def join.tw14180161481711528889 : Nat := 0
noncomputable def join.tw15571810535492234196 : Nat := 0
noncomputable def join.tw2559457948779415762 : Nat := 0
noncomputable def join.tw14975402573914092914 : Nat := 0
noncomputable def join.tw14084131714465947907 : Nat := 0
noncomputable def join.tw9386819466330169480 : Nat := 0
noncomputable def join.tw11780011103070570165 : Nat := 0
noncomputable def join.tw1257240180310787955 : Nat := 0
noncomputable def join.tw318868988146145880 : Nat := 0
noncomputable def join.tw11138334648174871076 : Nat := 0
noncomputable def join.tw14444154482025168237 : Nat := 0
noncomputable def join.tw14720856625302500400 : Nat := 0
noncomputable def join.tw3417155067830973711 : Nat := 0
noncomputable def join.tw7554846547360677901 : Nat := 0
noncomputable def join.tw15678306266431081712 : Nat := 0
noncomputable def join.tw5751675730247299829 : Nat := 0
noncomputable def join.tw14333320697935336681 : Nat := 0
noncomputable def join.tw10014472240897396331 : Nat := 0
noncomputable def join.tw9718411711476706393 : Nat := 0
noncomputable def join.tw20566380831891698 : Nat := 0
noncomputable def join.tw13269119853148210446 : Nat := 0
noncomputable def join.tw3070061308742399470 : Nat := 0
noncomputable def join.tw13707607503180276446 : Nat := 0
noncomputable def join.tw9893715395059474335 : Nat := 0
noncomputable def join.tw6953798572678308014 : Nat := 0
noncomputable def join.tw5068343851095668213 : Nat := 0
noncomputable def join.tw6540768560059342335 : Nat := 0
noncomputable def join.tw8253128653917640288 : Nat := 0
noncomputable def join.tw1314246007334756057 : Nat := 0
noncomputable def join.tw9432985340660512629 : Nat := 0
noncomputable def join.tw13231940885931812122 : Nat := 0
noncomputable def join.tw483491546964605686 : Nat := 0
noncomputable def join.tw13962050736858621367 : Nat := 0
noncomputable def join.tw17063806110247920743 : Nat := 0
theorem join : PySem.Challenge.rw_zn0025_01.Holds := by
  w_on; o_law; k_head; (case hw => w_witness2)
  k_fill
  intro w s₀ s₁ mg mb G Y fa o pm cd doc dV kV ho hd hcd hD hmg hg args vals as hpre hlay hrd hwl hlo
  have KX := kIn_of Y
  refine Ground.open G ?_
  intro T B D TE TW
  try (refine guard_noD D (by decide +kernel) ?_; clear D)
  wrow_args hpre hlay hrd hwl hlo
  all_goals (
    first | refine callC_kw (enter_call ?_) | refine enter_call ?_)
  rename_i ns hs hlay0 hL hr hl2 w4 w3 a vs w0 hL1 ra w1 r0 hI hrr hc1 hc2
  obtain ⟨us, hp, hi⟩ := well_ints w1
  have gd := gd_of PySem.Challenge.rw_zn0025_01.row.prog KX T (by
    refine ⟨⟨_, _, by rfl, ?_⟩, ⟨_, _, by rfl, ?_⟩, by rfl, by kernel_rfl, by kernel_rfl, ?_, by rfl, by rfl, by rfl⟩
    · repeat (first | exact EntS.nil | refine EntS.cons ?_)
    · repeat (first | exact EntI.nil | refine EntI.cons ?_)
    · refine cls_of (by exact ⟨_, _, ⟨_, by rfl, by rfl⟩, by rfl, by rfl, by rfl, by rfl, by rfl, by rfl, by rfl, by rfl⟩) (by exact ⟨_, _, ⟨_, by rfl, by rfl⟩, by rfl, by rfl, by rfl, by rfl, by rfl, by rfl, by rfl, by rfl⟩) fun dI dC hI hC => ?_
      exact { mkC := by kernel_rfl, keepC := by kernel_rfl, keepF := by kernel_rfl, init := by kernel_rfl, fnI := by kernel_rfl, cmp := by kernel_rfl, fnC := by kernel_rfl, pg1 := by kernel_rfl, pg2 := by kernel_rfl, sa := by kernel_rfl, po := by kernel_rfl, tk := by kernel_rfl, hd := by kernel_rfl, own := by kernel_rfl, mI := hI, mC := hC })
  refine law_code (G := ⟨PySem.Challenge.rw_zn0025_01.row.prog, w, mg, mb, 38⟩) (ns := ns) ⟨rfl, by decide, by decide⟩ gd hmg hp hi (plain_law _ ns (by omega)) fun h' tk k => ?_
  refine GoodW.toG ⟨.inl ⟨.bool true, .bool true, [], rfl, fun cls => by rfl, .bool true, ?_, fun _ => ⟨List.nodup_nil, fun _ h => nomatch h⟩⟩, k, rfl, hg⟩
  exact postW_of (by wrow_shape) (by wtm_val) (by w_fin)
end Mine
end
theorem PySem.Challenge.cw_zn0025_01_holds : PySem.Challenge.rw_zn0025_01.Holds :=
  Mine.join
