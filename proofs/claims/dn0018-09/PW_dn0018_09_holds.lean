import PyProof.Rows.All
import Wide.All
import OpenK.AllK
import Wide.FinOn
import PySem.Challenge.RW_dn0018_09
open PySem PySem.W PyProof.Rows
set_option Elab.async false
set_option maxRecDepth 100000
set_option linter.all false

namespace Mine

def Ext (h h' : Heap) : Prop := ∀ b o, h.get? b = some o → h'.get? b = some o
theorem Ext.refl (h : Heap) : Ext h h := fun _ _ e => e
theorem Ext.trans {h₁ h₂ h₃ : Heap} (a : Ext h₁ h₂) (b : Ext h₂ h₃) : Ext h₁ h₃ := fun x o e => b x o (a x o e)
theorem Ext.push (h : Heap) (o : Obj) : Ext h (h.push o) := fun _ _ e => Heap.get?_push_of_some _ e
theorem Ext.none {h h' : Heap} {a : Addr} (x : Ext h h') (e : h'.get? a = none) : h.get? a = none := by
  cases q : h.get? a with
  | none => rfl
  | some o => rw [x a o q] at e; cases e
theorem push_new (h : Heap) : h.get? h.objs.size = none := by
  cases q : h.get? h.objs.size with
  | none => rfl
  | some o => exact absurd (Heap.lt_size q) (Nat.lt_irrefl _)

mutual
inductive Rd (h : Heap) : Value → PyData → List Addr → Prop
  | none : Rd h .none .none []
  | bool (b) : Rd h (.bool b) (.bool b) []
  | int (i t) : Rd h (.int i t) (.int i) []
  | str (x t) : Rd h (.str x t) (.str x) []
  | list {a : Addr} {vs : List Value} {n : Nat} {ds as} : h.get? a = some { cls := .type "list", data := .seq vs.toArray n } → RdAll h vs ds as → Rd h (.ref a) (.list ds) (a :: as)
  | tuple {a : Addr} {vs : List Value} {n : Nat} {ds as} : h.get? a = some { cls := .type "tuple", data := .seq vs.toArray n } → RdAll h vs ds as → Rd h (.ref a) (.tuple ds) as
inductive RdAll (h : Heap) : List Value → List PyData → List Addr → Prop
  | nil : RdAll h [] [] []
  | cons {v vs d ds as bs} : Rd h v d as → RdAll h vs ds bs → RdAll h (v :: vs) (d :: ds) (as ++ bs)
end

mutual
theorem Rd.reads {h : Heap} : ∀ {v d as}, Rd h v d as → Reads h v d as
  | _, _, _, .none => .none
  | _, _, _, .bool b => .bool b
  | _, _, _, .int i t => .int i t
  | _, _, _, .str x t => .str x t
  | _, _, _, .list e r => .list e rfl rfl (by simpa using r.reads)
  | _, _, _, .tuple e r => .tuple e rfl rfl (by simpa using r.reads)
theorem RdAll.reads {h : Heap} : ∀ {vs ds as}, RdAll h vs ds as → ReadsAll h vs ds as
  | _, _, _, .nil => .nil
  | _, _, _, .cons a b => .cons a.reads b.reads
end

/-- a change of the heap that a value read off `as` does not see -/
def Off (h h' : Heap) (as : List Addr) : Prop :=
  (∀ b ∈ as, ∀ o, h.get? b = some o → h'.get? b = some o) ∧ ∀ b xs n, h.get? b = some { cls := .type "tuple", data := .seq xs n } → h'.get? b = some { cls := .type "tuple", data := .seq xs n }
theorem Ext.off {h h' : Heap} (x : Ext h h') (as : List Addr) : Off h h' as := ⟨fun b _ o e => x b o e, fun b _ _ e => x b _ e⟩
theorem Off.mono {h h' : Heap} {as bs : List Addr} (x : Off h h' as) (s : ∀ b ∈ bs, b ∈ as) : Off h h' bs := ⟨fun b hb => x.1 b (s b hb), x.2⟩

mutual
theorem Rd.off {h h' : Heap} : ∀ {v d as}, Rd h v d as → Off h h' as → Rd h' v d as
  | _, _, _, .none, _ => .none
  | _, _, _, .bool b, _ => .bool b
  | _, _, _, .int i t, _ => .int i t
  | _, _, _, .str x t, _ => .str x t
  | _, _, _, .list e r, k => .list (k.1 _ (.head _) _ e) (r.off (k.mono fun _ hb => .tail _ hb))
  | _, _, _, .tuple e r, k => .tuple (k.2 _ _ _ e) (r.off k)
theorem RdAll.off {h h' : Heap} : ∀ {vs ds as}, RdAll h vs ds as → Off h h' as → RdAll h' vs ds as
  | _, _, _, .nil, _ => .nil
  | _, _, _, .cons a b, k => .cons (a.off (k.mono fun _ hb => List.mem_append_left _ hb)) (b.off (k.mono fun _ hb => List.mem_append_right _ hb))
end
theorem Rd.ext {h h' : Heap} {v d as} (r : Rd h v d as) (x : Ext h h') : Rd h' v d as := r.off (x.off as)
theorem RdAll.ext {h h' : Heap} {v d as} (r : RdAll h v d as) (x : Ext h h') : RdAll h' v d as := r.off (x.off as)

mutual
theorem Rd.dom {h : Heap} : ∀ {v d as}, Rd h v d as → ∀ a ∈ as, ∃ o, h.get? a = some o
  | _, _, _, .none, _, ha => by cases ha
  | _, _, _, .bool b, _, ha => by cases ha
  | _, _, _, .int i t, _, ha => by cases ha
  | _, _, _, .str x t, _, ha => by cases ha
  | _, _, _, .list e r, a, ha => by
    rcases List.mem_cons.mp ha with rfl | ha
    · exact ⟨_, e⟩
    · exact r.dom a ha
  | _, _, _, .tuple e r, a, ha => r.dom a ha
theorem RdAll.dom {h : Heap} : ∀ {vs ds as}, RdAll h vs ds as → ∀ a ∈ as, ∃ o, h.get? a = some o
  | _, _, _, .nil, _, ha => by cases ha
  | _, _, _, .cons x y, a, ha => by
    rcases List.mem_append.mp ha with ha | ha
    · exact x.dom a ha
    · exact y.dom a ha
end

theorem RdAll.length {h : Heap} : ∀ {vs ds as}, RdAll h vs ds as → vs.length = ds.length
  | _, _, _, .nil => rfl
  | _, _, _, .cons _ b => by simp [b.length]

theorem RdAll.append {h : Heap} : ∀ {vs ds as ws es bs}, RdAll h vs ds as → RdAll h ws es bs → RdAll h (vs ++ ws) (ds ++ es) (as ++ bs)
  | _, _, _, _, _, _, .nil, k => k
  | _, _, _, _, _, _, .cons a b, k => by rw [List.append_assoc]; exact .cons a (b.append k)

theorem RdAll.one {h : Heap} {v d as} (r : Rd h v d as) : RdAll h [v] [d] as := by simpa using RdAll.cons r .nil

theorem RdAll.get {h : Heap} : ∀ {vs ds as}, RdAll h vs ds as → ∀ {i : Nat} {v}, vs[i]? = some v → ∃ d bs, ds[i]? = some d ∧ Rd h v d bs ∧ ∀ b ∈ bs, b ∈ as
  | _, _, _, .nil, i, v, e => by simp at e
  | _, _, _, .cons a b, 0, v, e => by simp at e; subst e; exact ⟨_, _, rfl, a, fun b hb => List.mem_append_left _ hb⟩
  | _, _, _, .cons a b, i + 1, v, e => by
    obtain ⟨d, bs, h1, h2, h3⟩ := b.get (i := i) (v := v) (by simpa using e)
    exact ⟨d, bs, by simpa using h1, h2, fun b hb => List.mem_append_right _ (h3 b hb)⟩

theorem RdAll.get' {h : Heap} {vs ds as} (r : RdAll h vs ds as) {i : Nat} {d} (e : ds[i]? = some d) : ∃ v bs, vs[i]? = some v ∧ Rd h v d bs ∧ ∀ b ∈ bs, b ∈ as := by
  have hi : i < vs.length := by rw [r.length]; exact (List.getElem?_eq_some_iff.mp e).1
  obtain ⟨d', bs, h1, h2, h3⟩ := r.get (i := i) (v := vs[i]) (by simp [hi])
  rw [e] at h1; cases h1
  exact ⟨vs[i], bs, by simp [hi], h2, h3⟩

/-- data that holds no list -/
def Flat : PyData → Prop
  | .none | .bool _ | .int _ | .str _ => True
  | _ => False
theorem Rd.flat {h : Heap} {v d as} (r : Rd h v d as) (f : Flat d) : as = [] := by cases r <;> first | rfl | cases f

def iL (xs : List Int) : PyData := .list (xs.map .int)
theorem RdAll.iL_nil {h : Heap} : ∀ {vs : List Value} {xs : List Int} {as}, RdAll h vs (xs.map .int) as → as = []
  | [], [], _, .nil => rfl
  | _ :: _, _ :: _, _, .cons a b => by rw [a.flat trivial, b.iL_nil]; rfl
theorem RdAll.intsAre {h : Heap} : ∀ {vs : List Value} {xs : List Int} {as}, RdAll h vs (xs.map .int) as → IntsAre vs xs
  | [], [], _, .nil => .nil
  | _ :: _, _ :: _, _, .cons a b => by cases a; exact .cons _ _ b.intsAre

/-! ### the frame -/
def VarAt (h : Heap) (env : Env) (x : Str) (v : Value) : Prop :=
  (env.kindOf x = some .local ∧ ∃ m, h.Ns env.locals m ∧ m x = some v) ∨
  ((env.kindOf x = some .cell ∨ env.kindOf x = some .free) ∧ ∃ c, env.cells.lookup x = some c ∧ h.IsCell c (some v))

theorem VarAt.ext {h h' : Heap} {env : Env} {x : Str} {v : Value} (r : VarAt h env x v) (e : Ext h h') : VarAt h' env x v := by
  rcases r with ⟨k, m, hn, hm⟩ | ⟨k, c, hc, hv⟩
  · exact .inl ⟨k, m, hn.keeps e, hm⟩
  · exact .inr ⟨k, c, hc, hv.keeps e⟩

def FrameAddr (env : Env) (a : Addr) : Prop := a = env.locals ∨ ∃ n, env.cells.lookup n = some a

structure EnvOk (env : Env) : Prop where
  kind : env.scope.kind = .function
  globals : env.globals = mainGlobals
  builtins : env.builtins = builtinsNs
  apart : env.cells.Pairwise fun x y => x.2 ≠ y.2
  all : ∀ n, (env.kindOf n = some .cell ∨ env.kindOf n = some .free) → ∃ c, env.cells.lookup n = some c

/-- the frame's own objects: the names' dict and the cells -/
structure FrameOk (h : Heap) (env : Env) : Prop where
  ns : ∃ m, h.Ns env.locals m
  cells : ∀ n c, env.cells.lookup n = some c → ∃ v, h.IsCell c v

theorem FrameOk.ext {h h' : Heap} {env : Env} (F : FrameOk h env) (e : Ext h h') : FrameOk h' env :=
  ⟨let ⟨m, hn⟩ := F.ns; ⟨m, hn.keeps e⟩, fun n c hc => let ⟨v, hv⟩ := F.cells n c hc; ⟨v, hv.keeps e⟩⟩

/-- an object that holds no items -/
def NoSeq (h : Heap) (a : Addr) : Prop := ∃ o, h.get? a = some o ∧ ∀ xs n, o.data ≠ .seq xs n
theorem FrameOk.noSeq {h : Heap} {env : Env} (F : FrameOk h env) {a : Addr} (x : FrameAddr env a) : NoSeq h a := by
  rcases x with rfl | ⟨n, hc⟩
  · obtain ⟨m, o, es, ep, ho, hd, _⟩ := F.ns; exact ⟨o, ho, fun _ _ q => by rw [hd] at q; cases q⟩
  · obtain ⟨v, o, ho, hd⟩ := F.cells n a hc; exact ⟨o, ho, fun _ _ q => by rw [hd] at q; cases q⟩
end Mine

namespace Mine

/-- a statement that is not unfolded by itself -/
structure Hide (p : Prop) : Prop where
  run : p

structure Cx where
  prog : Program
  w : World
  h₀ : Heap
  mg : Str → Option Value
  mb : Str → Option Value

structure Cx.Ok (K : Cx) (h : Heap) : Prop where
  g : K.h₀.Ns mainGlobals K.mg
  b : K.h₀.Ns builtinsNs K.mb
  lim : K.h₀.NoLimit
  ext : Ext K.h₀ h
theorem Cx.Ok.mono {K : Cx} {h h' : Heap} (o : K.Ok h) (e : Ext h h') : K.Ok h' := ⟨o.g, o.b, o.lim, o.ext.trans e⟩

structure Room (A : Around) (n : Nat) : Prop where
  quiet : A.handled = none
  depth : A.depth + n < recursionLimit
  units : A.units + 8 * n + 200 < cLine

inductive D where
  | py (d : PyData)
  | set (xs : List Int)
  | dict (kvs : List (Int × PyData))

def RdD (K : Cx) (h : Heap) (v : Value) : D → List Addr → Prop
  | .py d, as => Rd h v d as
  | .set xs, as => ∃ a, v = .ref a ∧ as = [a] ∧ xs.Nodup ∧ h.SetOf (intKind K.prog K.w) a (fun k => decide (k ∈ xs)) xs.length
  | .dict kvs, as => ∃ a vs as', v = .ref a ∧ as = a :: as' ∧ (a == sysModules) = false ∧ vs.length = kvs.length ∧
      h.DictOf (intKind K.prog K.w) a ((kvs.map (·.1)).zip vs) ∧ RdAll h vs (kvs.map (·.2)) as'

theorem RdD.off {K : Cx} {h h' : Heap} {v : Value} {d : D} {as : List Addr} (r : RdD K h v d as) (k : Off h h' as) : RdD K h' v d as := by
  cases d with
  | py d => exact Rd.off r k
  | set xs =>
    obtain ⟨a, rfl, rfl, hn, o, es, ep, t, ho, r⟩ := r
    exact ⟨a, rfl, rfl, hn, o, es, ep, t, k.1 a (.head _) o ho, r⟩
  | dict kvs =>
    obtain ⟨a, vs, as', rfl, rfl, hs, hl, hd, hr⟩ := r
    refine ⟨a, vs, as', rfl, rfl, hs, hl, ?_, hr.off (k.mono fun _ hb => .tail _ hb)⟩
    obtain ⟨o, es, ep, ho, r⟩ := hd
    exact ⟨o, es, ep, k.1 a (.head _) o ho, r⟩
theorem RdD.ext {K : Cx} {h h' : Heap} {v : Value} {d : D} {as : List Addr} (r : RdD K h v d as) (x : Ext h h') : RdD K h' v d as := r.off (x.off as)
theorem RdD.dom {K : Cx} {h : Heap} {v : Value} {d : D} {as : List Addr} (r : RdD K h v d as) : ∀ a ∈ as, ∃ o, h.get? a = some o := by
  cases d with
  | py d => exact Rd.dom r
  | set xs =>
    obtain ⟨a, rfl, rfl, hn, o, es, ep, t, ho, r⟩ := r
    intro b hb; rw [List.mem_singleton.mp hb]; exact ⟨_, ho⟩
  | dict kvs =>
    obtain ⟨a, vs, as', rfl, rfl, hs, hl, ⟨o, es, ep, ho, _⟩, hr⟩ := r
    intro b hb
    rcases List.mem_cons.mp hb with rfl | hb
    · exact ⟨_, ho⟩
    · exact hr.dom b hb

structure In (K : Cx) (n : Nat) (sc : Scope) (X : Addr → Prop) (ρ : List (Str × D)) (A : Around) (env : Env) (h : Heap) : Prop where
  room : Room A n
  ok : K.Ok h
  hsc : env.scope = sc
  henv : EnvOk env
  frame : FrameOk h env
  dom : ∀ a, X a → ∃ o, h.get? a = some o
  vars : ∀ x d, ρ.lookup x = some d → ∃ v as, VarAt h env x v ∧ RdD K h v d as ∧ ∀ a ∈ as, ¬ X a

theorem In.ext {K n sc X ρ A env h h'} (I : In K n sc X ρ A env h) (e : Ext h h') : In K n sc X ρ A env h' :=
  ⟨I.room, I.ok.mono e, I.hsc, I.henv, I.frame.ext e, fun a ha => let ⟨o, ho⟩ := I.dom a ha; ⟨o, e a o ho⟩,
    fun x d hx => let ⟨v, as, h1, h2, h3⟩ := I.vars x d hx; ⟨v, as, h1.ext e, h2.ext e, h3⟩⟩

/-- what is so when a tree has come to a value that reads as `d`: the heap has only grown -/
structure Got (K : Cx) (h : Heap) (X : Addr → Prop) (d : D) (fr : Bool) (v : Value) (h' : Heap) (as : List Addr) : Prop where
  ext : Ext h h'
  rd : RdD K h' v d as
  off : ∀ a ∈ as, ¬ X a
  new : fr = true → as.Nodup ∧ ∀ a ∈ as, h.get? a = none

def Post (K : Cx) (s : Shared) (X : Addr → Prop) (d : D) (fr : Bool) (v : Value) (s' : Shared) : Prop :=
  ∃ h' tk as, s' = { s with heap := h', toks := tk } ∧ Got K s.heap X d fr v h' as

def Ev (K : Cx) (n : Nat) (sc : Scope) (ρ : List (Str × D)) (e : Expr) (d : D) (fr : Bool) : Prop := Hide <|
  ∀ {A : Around} {env : Env} {s : Shared} {X : Addr → Prop} {E : Value → Shared → Prop}, In K n sc X ρ A env s.heap →
    wpAny (model K.prog K.w) A (eval e env) (Post K s X d fr) E s

/-- a test comes out as b -/
def Tr (K : Cx) (n : Nat) (sc : Scope) (ρ : List (Str × D)) (e : Expr) (b : Bool) : Prop := Hide <|
  ∀ {A : Around} {env : Env} {s : Shared} {X : Addr → Prop} {E : Value → Shared → Prop}, In K n sc X ρ A env s.heap →
    wpAny (model K.prog K.w) A (isTrue e env (eval e env)) (fun b' s' => b' = b ∧ ∃ h' tk, s' = { s with heap := h', toks := tk } ∧ Ext s.heap h') E s

theorem Ev.cast {K n sc ρ e d d' fr} (h : Ev K n sc ρ e d fr) (q : d = d') : Ev K n sc ρ e d' fr := q ▸ h
theorem Ev.weak {K n sc ρ e d fr} (h : Ev K n sc ρ e d fr) : Ev K n sc ρ e d false := Hide.mk fun I =>
  wpAny_mono (h.run I) (fun _ _ ⟨h', tk, as, e, g⟩ => ⟨h', tk, as, e, g.ext, g.rd, g.off, nofun⟩) fun _ _ x => x
theorem Tr.cast {K n sc ρ e b b'} (h : Tr K n sc ρ e b) (q : b = b') : Tr K n sc ρ e b' := q ▸ h

/-- a tree that comes to plain data: no heap object is named -/
theorem Got.flat {K : Cx} {h h' : Heap} {X : Addr → Prop} {d : PyData} {fr : Bool} {v : Value} (e : Ext h h') (r : Rd h' v d []) : Got K h X (.py d) fr v h' [] :=
  ⟨e, r, nofun, fun _ => ⟨.nil, nofun⟩⟩

theorem shared_eta (s : Shared) : s = { s with heap := s.heap, toks := s.toks } := by cases s; rfl

theorem Post.flat {K : Cx} {s : Shared} {X : Addr → Prop} {d : PyData} {fr : Bool} {v : Value} {h' : Heap} {tk : Nat} (e : Ext s.heap h') (r : Rd h' v d []) : Post K s X (.py d) fr v { s with heap := h', toks := tk } :=
  ⟨h', tk, [], rfl, .flat e r⟩
theorem Post.flat0 {K : Cx} {s : Shared} {X : Addr → Prop} {d : PyData} {fr : Bool} {v : Value} (r : Rd s.heap v d []) : Post K s X (.py d) fr v s := by
  rw [shared_eta s] at r ⊢; exact .flat (.refl _) r

/-! ### names and constants -/
theorem loadName_at {M : Model} {A : Around} {E : Value → Shared → Prop} {s : Shared} {env : Env} {x : Str} {v : Value} {Q : Value → Shared → Prop}
    (k : EnvOk env) (r : VarAt s.heap env x v) (h : Q v s) (hx : (x == ("__classdict__" : Str)) = false) : wpAny M A (loadName env x) Q E s := by
  rcases r with ⟨hl, m, hn, hm⟩ | ⟨hl | hl, c, hc, hv⟩
  · exact wpAny_loadName_local k.kind hl hn hm h
  · exact wpAny_loadName_cell k.kind hl hc hv h
  · exact wpAny_loadName_free k.kind hl hc hv h hx

theorem Ev.name {K n sc ρ} {x : Str} {pos : Pos} {d : D} (hx : ρ.lookup x = some d) (hd : (x == ("__debug__" : Str)) = false := by decide) (hc : (x == ("__classdict__" : Str)) = false := by decide) :
    Ev K n sc ρ (.Name x pos) d false := Hide.mk fun {A env s X E} I => by
  obtain ⟨v, as, h1, h2, h3⟩ := I.vars x d hx
  refine wpAny_Name (loadName_at I.henv h1 ?_ hc) hd
  exact ⟨s.heap, s.toks, as, shared_eta s, .refl _, h2, h3, nofun⟩
theorem Ev.nameFlat {K n sc ρ} {x : Str} {pos : Pos} {d : PyData} (hx : ρ.lookup x = some (.py d)) (f : Flat d) (hd : (x == ("__debug__" : Str)) = false := by decide) (hc : (x == ("__classdict__" : Str)) = false := by decide) :
    Ev K n sc ρ (.Name x pos) (.py d) true := Hide.mk fun {A env s X E} I => by
  obtain ⟨v, as, h1, h2, h3⟩ := I.vars x _ hx
  refine wpAny_Name (loadName_at I.henv h1 ?_ hc) hd
  obtain rfl := Rd.flat h2 f
  exact .flat0 h2

theorem Ev.cInt {K n sc ρ} {i : Int} {k : Nat} {pos : Pos} : Ev K n sc ρ (.Constant (.int i) k pos) (.py (.int i)) true :=
  Hide.mk fun {A env s X E} _ => wpAny_Constant_int (Post.flat (.refl _) (.int ..))
theorem Ev.cBool {K n sc ρ} {b : Bool} {k : Nat} {pos : Pos} : Ev K n sc ρ (.Constant (.bool b) k pos) (.py (.bool b)) true :=
  Hide.mk fun {A env s X E} _ => wpAny_pure (Post.flat0 (.bool b))
theorem Ev.cNone {K n sc ρ} {k : Nat} {pos : Pos} : Ev K n sc ρ (.Constant .none k pos) (.py .none) true :=
  Hide.mk fun {A env s X E} _ => wpAny_pure (Post.flat0 .none)
theorem Ev.cStr {K n sc ρ} {x : Str} {k : Nat} {pos : Pos} : Ev K n sc ρ (.Constant (.str x) k pos) (.py (.str x)) true :=
  Hide.mk fun {A env s X E} _ => wpAny_mkText (Post.flat (.refl _) (.str ..))

/-! ### two trees one behind the other -/
theorem Ev.then {K n sc ρ} {a b : Expr} {da db : D} {fa fb : Bool} {A : Around} {env : Env} {s : Shared} {X : Addr → Prop} {E : Value → Shared → Prop} {Q : Value → Value → Shared → Prop}
    (ha : Ev K n sc ρ a da fa) (hb : Ev K n sc ρ b db fb) (I : In K n sc X ρ A env s.heap)
    (k : ∀ va vb h₁ h₂ tk as bs, Got K s.heap X da fa va h₁ as → Got K h₁ X db fb vb h₂ bs → Q va vb { s with heap := h₂, toks := tk }) :
    wpAny (model K.prog K.w) A (eval a env) (fun va s₁ => wpAny (model K.prog K.w) A (eval b env) (fun vb s₂ => Q va vb s₂) E s₁) E s := by
  refine wpAny_mono (ha.run I) (fun va s₁ p => ?_) fun _ _ x => x
  obtain ⟨h₁, tk₁, as, rfl, ga⟩ := p
  refine wpAny_mono (hb.run (s := { s with heap := h₁, toks := tk₁ }) (X := X) (I.ext ga.ext)) (fun vb s₂ p => ?_) fun _ _ x => x
  obtain ⟨h₂, tk₂, bs, rfl, gb⟩ := p
  exact k va vb h₁ h₂ tk₂ as bs ga gb
end Mine

namespace Mine

def Eff (W : Addr → Prop) (h h' : Heap) : Prop := ∀ b o, ¬ W b → h.get? b = some o → h'.get? b = some o
theorem Eff.refl (W : Addr → Prop) (h : Heap) : Eff W h h := fun _ _ _ e => e
theorem Eff.trans {W : Addr → Prop} {h₁ h₂ h₃ : Heap} (a : Eff W h₁ h₂) (b : Eff W h₂ h₃) : Eff W h₁ h₃ := fun x o hx e => b x o hx (a x o hx e)
theorem Eff.mono {W W' : Addr → Prop} {h h' : Heap} (a : Eff W h h') (s : ∀ b, W b → W' b) : Eff W' h h' := fun x o hx e => a x o (fun w => hx (s x w)) e
theorem Ext.eff {h h' : Heap} (e : Ext h h') (W : Addr → Prop) : Eff W h h' := fun b o _ x => e b o x
theorem Eff.of_sameBut {a : Addr} {h h' : Heap} (x : Heap.SameBut a h h') : Eff (· = a) h h' := fun b o hb e => (x.2 b hb).trans e
theorem Eff.ext {W : Addr → Prop} {b h h' : Heap} (x : Eff W h h') (e : Ext b h) (n : ∀ a, W a → b.get? a = none) : Ext b h' := fun a o ha =>
  x a o (fun w => by rw [n a w] at ha; cases ha) (e a o ha)

def NoTup (h : Heap) (a : Addr) : Prop := ∀ xs n, h.get? a ≠ some { cls := .type "tuple", data := .seq xs n }
theorem Eff.off {W : Addr → Prop} {h h' : Heap} {as : List Addr} (x : Eff W h h') (n : ∀ a ∈ as, ¬ W a) (t : ∀ a, W a → NoTup h a) : Off h h' as :=
  ⟨fun b hb o e => x b o (n b hb) e, fun b xs m e => x b _ (fun w => t b w xs m e) e⟩
theorem NoSeq.noTup {h : Heap} {a : Addr} (x : NoSeq h a) : NoTup h a := fun xs n e => by
  obtain ⟨o, ho, hd⟩ := x; rw [ho] at e; cases e; exact hd _ _ rfl
theorem PlainList.noTup {h : Heap} {a : Addr} {xs} (x : h.PlainList a xs) : NoTup h a := fun ys n e => by
  obtain ⟨m, ho⟩ := x; rw [ho] at e; exact absurd (congrArg Obj.cls (Option.some.inj e)) (show ¬ (Value.type "list" = Value.type "tuple") by decide)
theorem NoTup.of_none {h : Heap} {a : Addr} (x : h.get? a = none) : NoTup h a := fun xs n e => by rw [x] at e; cases e

/-- the address that a store of x changes -/
def StoreAddr (env : Env) (x : Str) (a : Addr) : Prop :=
  (env.kindOf x = some .local ∧ a = env.locals) ∨ (env.kindOf x = some .cell ∧ env.cells.lookup x = some a)
theorem StoreAddr.frame {env : Env} {x : Str} {a : Addr} (s : StoreAddr env x a) : FrameAddr env a := by
  rcases s with ⟨_, rfl⟩ | ⟨_, h⟩
  · exact .inl rfl
  · exact .inr ⟨_, h⟩

theorem ns_ne_cell {h : Heap} {a c : Addr} {m : Str → Option Value} {v : Option Value} (hn : h.Ns a m) (hc : h.IsCell c v) : a ≠ c := by
  rintro rfl
  obtain ⟨o, es, ep, ho, hd, _⟩ := hn
  obtain ⟨o', ho', hd'⟩ := hc
  rw [ho] at ho'; cases ho'; rw [hd] at hd'; cases hd'

structure Stored (env : Env) (x : Str) (v : Value) (h h' : Heap) : Prop where
  frame : FrameOk h' env
  at_ : VarAt h' env x v
  others : ∀ y u, y ≠ x → VarAt h env y u → VarAt h' env y u

theorem store_at {M : Model} {A : Around} {E : Value → Shared → Prop} {s : Shared} {env : Env} {x : Str} {v : Value} {a : Addr} {Q : Unit → Shared → Prop}
    (k : EnvOk env) (F : FrameOk s.heap env) (sa : StoreAddr env x a)
    (h : ∀ h' tk, Heap.SameBut a s.heap h' → Stored env x v s.heap h' → Q () { s with heap := h', toks := tk }) : wpAny M A (storeName env x v) Q E s := by
  obtain ⟨m, hm⟩ := F.ns
  rcases sa with ⟨hl, rfl⟩ | ⟨hl, hc⟩
  · refine wpAny_storeName_local hl hm (fun h' hn hs => h h' _ hs ⟨⟨⟨_, hn⟩, fun n c hc => ?_⟩, .inl ⟨hl, _, hn, by simp⟩, fun y u hy r => ?_⟩) (by rw [k.kind]; rfl)
    · obtain ⟨u, hu⟩ := F.cells n c hc
      exact ⟨u, hu.sameBut hs (ns_ne_cell hm hu).symm⟩
    · rcases r with ⟨hly, m', hn', hm'⟩ | ⟨hly, c, hc, hv⟩
      · refine .inl ⟨hly, _, hn, ?_⟩
        have e : m y = m' y := by
          obtain ⟨o1, es1, ep1, ho1, hd1, _, q1⟩ := hm
          obtain ⟨o2, es2, ep2, ho2, hd2, _, q2⟩ := hn'
          rw [ho1] at ho2; cases ho2
          rw [hd1] at hd2; cases hd2
          rw [← q1 y, ← q2 y]
        show (if y = x then _ else m y) = some u
        rw [if_neg hy, e, hm']
      · exact .inr ⟨hly, c, hc, hv.sameBut hs (ns_ne_cell hm hv).symm⟩
  · obtain ⟨u₀, hu₀⟩ := F.cells x a hc
    refine wpAny_storeName_cell k.kind hl hc hu₀ fun h' hv hs => ?_
    have := h h' s.toks hs ⟨⟨⟨m, hm.sameBut hs (ns_ne_cell hm hu₀)⟩, fun n c hc' => ?_⟩, .inr ⟨.inl hl, a, hc, hv⟩, fun y u hy r => ?_⟩
    · exact this
    · by_cases q : c = a
      · subst q; exact ⟨_, hv⟩
      · obtain ⟨w, hw⟩ := F.cells n c hc'; exact ⟨w, hw.sameBut hs q⟩
    · rcases r with ⟨hly, m', hn', hm'⟩ | ⟨hly, c, hc', hv'⟩
      · exact .inl ⟨hly, m', hn'.sameBut hs (ns_ne_cell hn' hu₀), hm'⟩
      · refine .inr ⟨hly, c, hc', hv'.sameBut hs fun q => hy ?_⟩
        subst q
        exact name_of_addr k.apart (mem_of_lookup hc') (mem_of_lookup hc)

theorem In.stored {K n sc X ρ A env h h' x v d a as} (I : In K n sc X ρ A env h) (F : FrameOk h env) (sa : StoreAddr env x a) (st : Stored env x v h h') (hs : Heap.SameBut a h h')
    (hX : X a) (hK : K.h₀.get? a = none) (rd : RdD K h v d as) (off : ∀ b ∈ as, ¬ X b) : In K n sc X ((x, d) :: ρ) A env h' := by
  have hT : ∀ b, b = a → NoTup h b := fun b q => q ▸ (F.noSeq sa.frame).noTup
  have eff := Eff.of_sameBut hs
  refine ⟨I.room, ⟨I.ok.g, I.ok.b, I.ok.lim, eff.ext I.ok.ext fun b q => q ▸ hK⟩, I.hsc, I.henv, st.frame, fun b hb => ?_, fun y d' hy => ?_⟩
  · by_cases q : b = a
    · subst q; obtain ⟨o, ho, _⟩ := st.frame.noSeq sa.frame; exact ⟨o, ho⟩
    · obtain ⟨o, ho⟩ := I.dom b hb; exact ⟨o, eff b o q ho⟩
  · rw [List.lookup_cons] at hy
    by_cases q : y = x
    · subst q
      simp only [beq_self_eq_true] at hy; cases hy
      exact ⟨v, as, st.at_, rd.off (eff.off (fun b hb q => off b hb (q ▸ hX)) hT), off⟩
    · have : (y == x) = false := by simpa using q
      simp only [this] at hy
      obtain ⟨u, bs, h1, h2, h3⟩ := I.vars y d' hy
      exact ⟨u, bs, st.others y u q h1, h2.off (eff.off (fun b hb q => h3 b hb (q ▸ hX)) hT), h3⟩

/-- forget names -/
theorem In.sub {K n sc X ρ ρ' A env h} (I : In K n sc X ρ A env h) (s : ∀ x d, ρ'.lookup x = some d → ρ.lookup x = some d) : In K n sc X ρ' A env h :=
  ⟨I.room, I.ok, I.hsc, I.henv, I.frame, I.dom, fun x d hx => I.vars x d (s x d hx)⟩
end Mine

namespace Mine

/-! ### things that are gone through one by one -/
def plainIter (h : Heap) (a : Addr) : Prop :=
  ∃ o nm vs, h.get? a = some o ∧ o.cls = .type nm ∧ ["enumerate", "zip", "dict_itemiterator", "dict_reverseitemiterator", "odict_iterator", "itertools.zip_longest", "itertools.pairwise"].contains nm = false ∧ o.data = .fields vs
theorem plainIter.noTup {h : Heap} {a : Addr} (x : plainIter h a) : NoTup h a := fun xs n e => by
  obtain ⟨o, nm, vs, ho, _, _, hd⟩ := x; rw [ho] at e; cases e; cases hd
theorem plainIter.some {h : Heap} {a : Addr} (x : plainIter h a) : ∃ o, h.get? a = some o := let ⟨o, _, _, ho, _⟩ := x; ⟨o, ho⟩
theorem plainIter.not_frame {h : Heap} {a : Addr} {env : Env} (x : plainIter h a) (F : FrameOk h env) : ¬ FrameAddr env a := by
  obtain ⟨o, nm, vs, ho, _, _, hd⟩ := x
  rintro (rfl | ⟨n, hc⟩)
  · obtain ⟨m, o', es, ep, ho', hd', _⟩ := F.ns; rw [ho] at ho'; cases ho'; rw [hd] at hd'; cases hd'
  · obtain ⟨v, o', ho', hd'⟩ := F.cells n a hc; rw [ho] at ho'; cases ho'; rw [hd] at hd'; cases hd'
theorem plainIter.not_list {h : Heap} {a : Addr} {xs} (x : plainIter h a) : ¬ h.PlainList a xs := by
  obtain ⟨o, nm, vs, ho, _, _, hd⟩ := x
  rintro ⟨n, e⟩; rw [ho] at e; cases e; cases hd

structure It (K : Cx) (A : Around) where
  I : Addr
  fp : List Addr
  n : Nat
  P : Nat → Value → Prop
  St : Nat → Heap → Prop
  W : Walks K.prog K.w A I fp [I] n P St
  plain : ∀ i h, St i h → plainIter h I

structure ItAt {K : Cx} {A : Around} (t : It K A) (i : Nat) (b h : Heap) (X : Addr → Prop) (ds : List PyData) : Prop where
  st : t.St i h
  len : t.n = ds.length
  off : ∀ a ∈ t.fp, ¬ X a
  new : b.get? t.I = none
  dom : ∀ a ∈ t.fp, ∃ o, h.get? a = some o
  items : ∀ j v, t.P j v → ∃ d as, ds[j]? = some d ∧ Rd h v d as ∧ ∀ a ∈ as, ¬ X a ∧ a ≠ t.I

/-- the heap changes where neither the thing gone through nor its items lie -/
theorem ItAt.eff {K : Cx} {A : Around} {t : It K A} {i : Nat} {b h h' : Heap} {X W : Addr → Prop} {ds : List PyData} (x : ItAt t i b h X ds) (e : Eff W h h') (sub : ∀ a, W a → X a) (nt : ∀ a, W a → NoTup h a) :
    ItAt t i b h' X ds where
  st := t.W.frame i h h' x.st fun a ha o ho => e a o (fun w => x.off a ha (sub a w)) ho
  len := x.len
  off := x.off
  new := x.new
  dom := fun a ha => let ⟨o, ho⟩ := x.dom a ha; ⟨o, e a o (fun w => x.off a ha (sub a w)) ho⟩
  items := fun j v hv => let ⟨d, as, h1, h2, h3⟩ := x.items j v hv
    ⟨d, as, h1, h2.off (e.off (fun a ha w => (h3 a ha).1 (sub a w)) nt), h3⟩

/-- what a thing's items are -/
def EvIt (K : Cx) (n : Nat) (sc : Scope) (ρ : List (Str × D)) (e : Expr) (ds : List PyData) : Prop := Hide <|
  ∀ {A : Around} {env : Env} {s : Shared} {X : Addr → Prop} {E : Value → Shared → Prop} {Q : Value → Shared → Prop}, In K n sc X ρ A env s.heap →
    (∀ (t : It K A) h' tk, Ext s.heap h' → ItAt t 0 s.heap h' X ds → Q (.ref t.I) { s with heap := h', toks := tk }) →
    wpAny (model K.prog K.w) A (eval e env) (fun x s₁ => wpAny (model K.prog K.w) A (pyIter x) Q E s₁) E s

def listIt (K : Cx) {A : Around} (hh : A.handled = none) (I ax : Addr) (hne : ax ≠ I) (items : Array Value) : It K A where
  I := I
  fp := [I, ax]
  n := items.size
  P := fun i v => items[i]? = some v
  St := fun i h => h.IsListIter I ax i ∧ h.IsList ax items
  W := Walks.list hh I ax hne items
  plain := fun i h st => by
    obtain ⟨⟨o, ho, hc, hd⟩, _⟩ := st
    exact ⟨o, "list_iterator", _, ho, hc, by decide, hd⟩

/-- one item more is taken -/
theorem ItAt.next {K : Cx} {A : Around} {t : It K A} {i : Nat} {b h h' : Heap} {X : Addr → Prop} {ds : List PyData} (x : ItAt t i b h X ds) (st : t.St (i + 1) h') (e : Eff (· = t.I) h h') : ItAt t (i + 1) b h' X ds where
  st := st
  len := x.len
  off := x.off
  new := x.new
  dom := fun a ha => by
    by_cases q : a = t.I
    · subst q; exact (t.plain _ _ st).some
    · let ⟨o, ho⟩ := x.dom a ha; exact ⟨o, e a o q ho⟩
  items := fun j v hv => let ⟨d, as, h1, h2, h3⟩ := x.items j v hv
    ⟨d, as, h1, h2.off (e.off (fun a ha q => (h3 a ha).2 q) fun a ha => ha ▸ (t.plain _ _ x.st).noTup), h3⟩

theorem Ev.iter {K n sc ρ e ds fr} (h : Ev K n sc ρ e (.py (.list ds)) fr) : EvIt K n sc ρ e ds := Hide.mk fun {A env s X E Q} I k => by
  refine wpAny_mono (h.run I) (fun v s₁ p => ?_) fun _ _ x => x
  obtain ⟨h₁, tk, as, rfl, g⟩ := p
  have rd : Rd h₁ v (.list ds) as := g.rd
  cases rd with
  | @list a vs m ds as e r =>
    have hne : a ≠ h₁.objs.size := Nat.ne_of_lt (Heap.lt_size e)
    refine wpAny_pyIter_list (items := vs.toArray) ⟨_, e, rfl, _, rfl⟩ ?_
    refine k (listIt K I.room.quiet h₁.objs.size a hne vs.toArray) _ _ (g.ext.trans (Ext.push _ _)) ⟨?_, ?_, ?_, ?_, ?_, ?_⟩
    · exact ⟨⟨_, Heap.get?_push_size _ rfl, rfl, rfl⟩, ⟨_, Heap.get?_push_of_some _ e, rfl, _, rfl⟩⟩
    · show vs.toArray.size = _; simp [r.length]
    · intro b hb
      rcases List.mem_cons.mp hb with rfl | hb
      · intro hx; obtain ⟨o, ho⟩ := I.dom _ hx; have := g.ext _ _ ho; rw [push_new] at this; cases this
      · rw [List.mem_singleton.mp hb]; exact g.off a (.head _)
    · exact g.ext.none (push_new _)
    · intro b hb
      rcases List.mem_cons.mp hb with rfl | hb
      · exact ⟨_, Heap.get?_push_size _ rfl⟩
      · rw [List.mem_singleton.mp hb]; exact ⟨_, Heap.get?_push_of_some _ e⟩
    · intro j v hv
      have hv' : vs[j]? = some v := by
        have : vs.toArray[j]? = some v := hv
        simpa using this
      obtain ⟨d, bs, h1, h2, h3⟩ := r.get hv'
      refine ⟨d, bs, h1, h2.ext (Ext.push _ _), fun b hb => ⟨g.off b (.tail _ (h3 b hb)), ?_⟩⟩
      intro hm'
      obtain ⟨o, ho⟩ := h2.dom b hb
      have hm' : b = h₁.objs.size := hm'
      rw [hm', push_new] at ho; cases ho
end Mine

namespace Mine

def testsT (ifs : List Expr) (env : Env) : Sem Bool :=
  forIn ifs true fun c r => if r = true then do let ok ← isTrue c env (eval c env); pure (ForInStep.yield ok) else pure (ForInStep.yield r)

/-- what follows behind the clauses ahead of the k-th: a clause more, or the element -/
def BodyWp (M : Model) (A : Around) (elt : Expr) (gens : List Comprehension) (scope : Scope) (pos : Pos) (k : Nat) (acc : Value) (env : Env) (Q : Shared → Prop) (E : Value → Shared → Prop) (s : Shared) : Prop :=
  match gens[k]? with
  | some g => wpAny M A (eval g.iter env) (fun x s₁ => wpAny M A (pyIter x) (fun it s₂ =>
      wpAny M A (runOwn (.compStart (.ListComp elt gens scope pos) k it acc env) env) (fun _ s₃ => Q s₃) E s₂) E s₁) E s
  | none => wpAny M A (eval elt env) (fun x s₁ => wpAny M A (call (.builtin "list.append") [acc, x]) (fun _ s₂ => Q s₂) E s₁) E s

def GensOk (gens : List Comprehension) : Prop := ∀ g ∈ gens, g.is_async = 0 ∧ ∀ env x, foldedSetIterable g.iter env x = pure x

theorem wpAny_compTurn {M : Model} {A : Around} {E : Value → Shared → Prop} {s : Shared} {elt : Expr} {gens : List Comprehension} {scope : Scope} {pos : Pos} {k : Nat} {it acc : Value} {env : Env} {tgt iter : Expr} {ifs : List Expr} {Q : Fin → Shared → Prop}
    (hk : gens[k]? = some ⟨tgt, iter, ifs, 0⟩) (hn : GensOk gens)
    (h : wpAny M A (pyNext it) (fun r s₁ => match r with
      | none => Q (.done .next) s₁
      | some v => wpAny M A (letOwnedTupleGo tgt it v) (fun _ s₁' => wpAny M A (assign tgt env v) (fun _ s₂ => wpAny M A (testsT ifs env) (fun ok s₃ =>
          if ok = true then BodyWp M A elt gens scope pos (k + 1) acc env (fun s₄ => Q (.again (.compLoop (.ListComp elt gens scope pos) k it acc env)) s₄) E s₃
          else Q (.again (.compLoop (.ListComp elt gens scope pos) k it acc env)) s₃) E s₂) E s₁') E s₁) E s) :
    wpAny M A (compTurn (.ListComp elt gens scope pos) k it acc env) Q E s := by
  unfold compTurn
  simp only [hk]
  refine wpAny_bind (wpAny_standAt (wpAny_bind (wpAny_mono h (fun r s₁ h₁ => ?_) fun _ _ x => x)))
  cases r with
  | none => exact wpAny_pure h₁
  | some v =>
    refine wpAny_bind (wpAny_mono h₁ (fun _ s₁' h₁' => wpAny_bind (wpAny_mono h₁' (fun _ s₂ h₂ => wpAny_bind (wpAny_mono h₂ (fun ok s₃ h₃ => ?_) fun _ _ x => x)) fun _ _ x => x)) fun _ _ x => x)
    cases ok with
    | false => exact wpAny_pure h₃
    | true =>
      simp only [if_true] at h₃ ⊢
      unfold BodyWp at h₃
      cases hg : gens[k + 1]? with
      | none =>
        simp only [hg] at h₃ ⊢
        exact wpAny_bind (wpAny_bind (wpAny_mono h₃ (fun x s₄ h₄ => wpAny_bind (wpAny_mono h₄ (fun _ s₅ h₅ => wpAny_pure (wpAny_pure h₅)) fun _ _ x => x)) fun _ _ x => x))
      | some g =>
        simp only [hg] at h₃ ⊢
        obtain ⟨h0, hs⟩ := hn g (List.mem_of_getElem? hg)
        simp only [h0] at h₃ ⊢
        refine wpAny_bind (wpAny_mono h₃ (fun x s₄ h₄ => wpAny_bind (wpAny_standAt ?_)) fun _ _ x => x)
        show wpAny M A (foldedSetIterable g.iter env x >>= fun x => holding [x] (pyIter x) >>= fun it' => runOwn (Code.compStart (elt.ListComp gens scope pos) (k + 1) it' acc env) env >>= fun _ => again (Code.compLoop (elt.ListComp gens scope pos) k it acc env)) Q E s₄
        exact wpAny_bind (wpAny_of_eq (hs env x) (wpAny_bind (wpAny_holding (wpAny_mono h₄ (fun it' s₅ h₅ => wpAny_bind (wpAny_mono h₅ (fun _ s₆ h₆ => wpAny_pure h₆) fun _ _ x => x)) fun _ _ x => x))))

theorem codeAny_compStart {prog : Program} {w : World} {A : Around} {R : Result → Shared → Prop} {s : Shared} {elt : Expr} {gens : List Comprehension} {scope : Scope} {pos : Pos} {k : Nat} {it acc : Value} {env : Env} {g : Comprehension}
    (hk : gens[k]? = some g) (hn : g.is_async = 0)
    (h0 : codeAny (model prog w) A (.compLoop (.ListComp elt gens scope pos) k it acc env) R s)
    (hit : ∀ Q E, Q it s → wpAny (model prog w) A (pyIter it) Q E s) :
    codeAny (model prog w) A (.compStart (.ListComp elt gens scope pos) k it acc env) R s := by
  refine codeAny_of_tree ?_
  show wpAny _ A ((compStart (.ListComp elt gens scope pos) k it acc env).onRaise (fun x => do noteFrame x env; standAt theWindowsPlace)) _ _ s
  refine wpAny_notedAt ?_
  unfold compStart
  simp only [clausesOf, hk, Option.elim_some, hn]
  refine wpAny_bind (wpAny_askSetting (wpAny_ite ?_))
  split
  · first
      | exact wpAny_bind (wpAny_pure (wpAny_pure (And.intro rfl h0)))
      | exact wpAny_pure (And.intro rfl h0)
  · first
      | exact wpAny_bind (wpAny_rule (wpAny_bind (wpAny_standAt (wpAny_bind (hit _ _ (wpAny_pure (And.intro rfl h0)))))))
      | (refine wpAny_bind (wpAny_rule ?_); exact wpAny_bind (wpAny_standAt (wpAny_bind (hit _ _ (wpAny_pure (And.intro rfl h0))))))
end Mine

namespace Mine

theorem FrameOk.at1 {h h' : Heap} {env : Env} {c : Addr} (F : FrameOk h env) (e : Eff (· = c) h h') (nf : ¬ FrameAddr env c) : FrameOk h' env :=
  ⟨let ⟨m, hn⟩ := F.ns; ⟨m, hn.at' fun o ho => e _ o (fun q => nf (q ▸ .inl rfl)) ho⟩,
   fun n c' hc => let ⟨v, o, ho, hd⟩ := F.cells n c' hc; ⟨v, o, e c' o (fun q => nf (q ▸ .inr ⟨n, hc⟩)) ho, hd⟩⟩
theorem In.more {K n sc X ρ A env h h'} {c : Addr} (I : In K n sc X ρ A env h) (e : Ext h h') (hw : h.get? c = none) (hw' : ∃ o, h'.get? c = some o) :
    In K n sc (fun a => X a ∨ a = c) ρ A env h' :=
  ⟨I.room, I.ok.mono e, I.hsc, I.henv, I.frame.ext e, fun a ha => ha.elim (fun hx => let ⟨o, ho⟩ := I.dom a hx; ⟨o, e a o ho⟩) fun hx => hx ▸ hw',
    fun x d hx => let ⟨v, as, h1, h2, h3⟩ := I.vars x d hx
      ⟨v, as, h1.ext e, h2.ext e, fun a ha q => q.elim (h3 a ha) fun hx => by obtain ⟨o, ho⟩ := h2.dom a ha; rw [hx, hw] at ho; cases ho⟩⟩

/-- the heap changes at one address that no name sees -/
theorem In.at1 {K n sc X ρ A env h h'} {c : Addr} (I : In K n sc X ρ A env h) (e : Eff (· = c) h h') (hc : ∃ o, h'.get? c = some o) (hX : X c) (hK : K.h₀.get? c = none) (nt : NoTup h c) (nf : ¬ FrameAddr env c) : In K n sc X ρ A env h' := by
  have nt' : ∀ a, a = c → NoTup h a := fun a ha => ha ▸ nt
  refine ⟨I.room, ⟨I.ok.g, I.ok.b, I.ok.lim, e.ext I.ok.ext fun a ha => ha ▸ hK⟩, I.hsc, I.henv, I.frame.at1 e nf, fun a ha => ?_, fun x d hx => ?_⟩
  · by_cases q : a = c
    · exact q ▸ hc
    · obtain ⟨o, ho⟩ := I.dom a ha; exact ⟨o, e a o q ho⟩
  · obtain ⟨u, bs, h1, h2, h3⟩ := I.vars x d hx
    refine ⟨u, bs, ?_, h2.off (e.off (fun a ha q => h3 a ha (q ▸ hX)) nt'), h3⟩
    rcases h1 with ⟨hl, m, hn, hm⟩ | ⟨hl, c', hc', hv⟩
    · exact .inl ⟨hl, m, hn.at' fun o ho => e _ o (fun q => nf (q ▸ .inl rfl)) ho, hm⟩
    · obtain ⟨o, ho, hd⟩ := hv
      exact .inr ⟨hl, c', hc', o, e c' o (fun q => nf (q ▸ .inr ⟨_, hc'⟩)) ho, hd⟩
theorem In.drop1 {K n sc X ρ A env h h'} {c : Addr} (I : In K n sc (fun a => X a ∨ a = c) ρ A env h) (e : Eff (· = c) h h') (hX : ¬ X c) (hK : K.h₀.get? c = none) (nt : NoTup h c) (nf : ¬ FrameAddr env c) : In K n sc X ρ A env h' := by
  have nt' : ∀ a, a = c → NoTup h a := fun a ha => ha ▸ nt
  refine ⟨I.room, ⟨I.ok.g, I.ok.b, I.ok.lim, e.ext I.ok.ext fun a ha => ha ▸ hK⟩, I.hsc, I.henv, I.frame.at1 e nf, fun a ha => ?_, fun x d hx => ?_⟩
  · obtain ⟨o, ho⟩ := I.dom a (.inl ha); exact ⟨o, e a o (fun q => hX (q ▸ ha)) ho⟩
  · obtain ⟨u, bs, h1, h2, h3⟩ := I.vars x d hx
    refine ⟨u, bs, ?_, h2.off (e.off (fun a ha q => h3 a ha (.inr q)) nt'), fun a ha q => h3 a ha (.inl q)⟩
    rcases h1 with ⟨hl, m, hn, hm⟩ | ⟨hl, c', hc', hv⟩
    · exact .inl ⟨hl, m, hn.at' fun o ho => e _ o (fun q => nf (q ▸ .inl rfl)) ho, hm⟩
    · obtain ⟨o, ho, hd⟩ := hv
      exact .inr ⟨hl, c', hc', o, e c' o (fun q => nf (q ▸ .inr ⟨_, hc'⟩)) ho, hd⟩
theorem PlainList.not_frame {h : Heap} {a : Addr} {env : Env} {xs} (x : h.PlainList a xs) (F : FrameOk h env) : ¬ FrameAddr env a := by
  obtain ⟨n, ho⟩ := x
  rintro (rfl | ⟨n, hc⟩)
  · obtain ⟨m, o', es, ep, ho', hd', _⟩ := F.ns; rw [ho] at ho'; cases ho'; cases hd'
  · obtain ⟨v, o', ho', hd'⟩ := F.cells n a hc; rw [ho] at ho'; cases ho'; cases hd'
theorem In.less {K n sc ρ A env h} {X X' : Addr → Prop} (I : In K n sc X ρ A env h) (s : ∀ a, X' a → X a) : In K n sc X' ρ A env h :=
  ⟨I.room, I.ok, I.hsc, I.henv, I.frame, fun a ha => I.dom a (s a ha), fun x d hx => let ⟨v, as, h1, h2, h3⟩ := I.vars x d hx; ⟨v, as, h1, h2, fun a ha q => h3 a ha (s a q)⟩⟩

structure FrameIn (K : Cx) (b : Heap) (X : Addr → Prop) (own : List Str) (env : Env) (h : Heap) : Prop where
  frame : FrameOk h env
  base : Ext K.h₀ b
  ownX : ∀ a, b.get? a = none → FrameAddr env a → X a
  has : ∀ x ∈ own, ∃ a, StoreAddr env x a ∧ b.get? a = none
theorem FrameIn.at {K b X own env h h'} (F : FrameIn K b X own env h) (f : FrameOk h' env) : FrameIn K b X own env h' := ⟨f, F.base, F.ownX, F.has⟩
theorem FrameIn.moreX {K b own env h} {X X' : Addr → Prop} (F : FrameIn K b X own env h) (s : ∀ a, X a → X' a) : FrameIn K b X' own env h := ⟨F.frame, F.base, fun a h1 h2 => s a (F.ownX a h1 h2), F.has⟩

def Wf (b : Heap) (env : Env) (a : Addr) : Prop := b.get? a = none ∧ FrameAddr env a
theorem FrameIn.noTup {K b X own env h} (F : FrameIn K b X own env h) : ∀ a, Wf b env a → NoTup h a := fun a ha => (F.frame.noSeq ha.2).noTup
theorem FrameIn.sub {K b X own env h} (F : FrameIn K b X own env h) : ∀ a, Wf b env a → X a := fun a ha => F.ownX a ha.1 ha.2

/-- a target takes a value that reads as d: the map ρ becomes ρ' -/
def Asg (K : Cx) (n : Nat) (sc : Scope) (own : List Str) (tgt : Expr) (d : PyData) (ρ ρ' : List (Str × D)) : Prop := Hide <|
  ∀ {A : Around} {env : Env} {s : Shared} {X : Addr → Prop} {b : Heap} {v : Value} {as : List Addr} {Q : Unit → Shared → Prop} {E : Value → Shared → Prop},
    In K n sc X ρ A env s.heap → FrameIn K b X own env s.heap → Rd s.heap v d as → (∀ a ∈ as, ¬ X a) →
    (∀ h' tk, Eff (Wf b env) s.heap h' → FrameOk h' env → In K n sc X ρ' A env h' → Q () { s with heap := h', toks := tk }) →
    wpAny (model K.prog K.w) A (assign tgt env v) Q E s

theorem Asg.name {K n sc own ρ d} {x : Str} {pos : Pos} (hx : x ∈ own) : Asg K n sc own (.Name x pos) d ρ ((x, .py d) :: ρ) := Hide.mk fun {A env s X b v as Q E} I F rd off k => by
  obtain ⟨a, sa, ha⟩ := F.has x hx
  refine wpAny_assign_Name (store_at I.henv F.frame sa fun h' tk hs st => k h' tk ?_ st.frame ?_)
  · exact (Eff.of_sameBut hs).mono fun c hc => hc ▸ ⟨ha, sa.frame⟩
  · exact I.stored F.frame sa st hs (F.ownX a ha sa.frame) (F.base.none ha) rd off

def TrAll (K : Cx) (n : Nat) (sc : Scope) (ρ : List (Str × D)) (ifs : List Expr) (c : Bool) : Prop := Hide <|
  ∀ {A : Around} {env : Env} {s : Shared} {X : Addr → Prop} {E : Value → Shared → Prop}, In K n sc X ρ A env s.heap →
    wpAny (model K.prog K.w) A (testsT ifs env) (fun b' s' => b' = c ∧ ∃ h' tk, s' = { s with heap := h', toks := tk } ∧ Ext s.heap h') E s
theorem TrAll.nil {K n sc ρ} : TrAll K n sc ρ [] true := Hide.mk fun {A env s X E} _ => wpAny_pure ⟨rfl, s.heap, s.toks, shared_eta s, .refl _⟩
theorem TrAll.one {K n sc ρ e c} (h : Tr K n sc ρ e c) : TrAll K n sc ρ [e] c := Hide.mk fun I => wpAny_tests_one (h.run I)

structure CompIn (K : Cx) (b : Heap) (X : Addr → Prop) (own : List Str) (env : Env) (D : Addr) (h : Heap) : Prop extends FrameIn K b X own env h where
  newD : b.get? D = none
  XD : X D
  ext : Ext b h

def Wc (b : Heap) (env : Env) (D a : Addr) : Prop := b.get? a = none ∧ (a = D ∨ FrameAddr env a)
theorem CompIn.sub {K b X own env D h} (C : CompIn K b X own env D h) : ∀ a, Wc b env D a → X a := fun a ha => ha.2.elim (fun q => q ▸ C.XD) (C.ownX a ha.1)
theorem CompIn.noTup {K b X own env D h ys} (C : CompIn K b X own env D h) (p : h.PlainList D ys) : ∀ a, Wc b env D a → NoTup h a := fun a ha => ha.2.elim (fun q => q ▸ PlainList.noTup p) fun q => (C.frame.noSeq q).noTup
theorem CompIn.at {K b X own env D h h'} (C : CompIn K b X own env D h) (f : FrameOk h' env) (e : Eff (Wc b env D) h h') : CompIn K b X own env D h' :=
  { toFrameIn := C.toFrameIn.at f, newD := C.newD, XD := C.XD, ext := e.ext C.ext fun a ha => ha.1 }
theorem CompIn.moreX {K b own env D h} {X X' : Addr → Prop} (C : CompIn K b X own env D h) (s : ∀ a, X a → X' a) : CompIn K b X' own env D h :=
  { toFrameIn := C.toFrameIn.moreX s, newD := C.newD, XD := s _ C.XD, ext := C.ext }

def BodyOk (K : Cx) (n : Nat) (sc : Scope) (own : List Str) (elt : Expr) (gens : List Comprehension) (scope : Scope) (pos : Pos) (k : Nat) (ρ : List (Str × D)) (out : List PyData) (fr : Bool) : Prop := Hide <|
  ∀ {A : Around} {env : Env} {s : Shared} {X : Addr → Prop} {b : Heap} {D : Addr} {ys : List Value} {Q : Shared → Prop} {E : Value → Shared → Prop},
    In K n sc X ρ A env s.heap → CompIn K b X own env D s.heap → s.heap.PlainList D ys.toArray → ys.length + out.length ≤ sizeLine →
    (∀ h' tk zs as, Eff (Wc b env D) s.heap h' → CompIn K b X own env D h' → In K n sc X ρ A env h' → h'.PlainList D (ys ++ zs).toArray → RdAll h' zs out as → (∀ a ∈ as, ¬ X a) →
      (fr = true → as.Nodup ∧ ∀ a ∈ as, s.heap.get? a = none) → Q { s with heap := h', toks := tk }) →
    BodyWp (model K.prog K.w) A elt gens scope pos k (.ref D) env Q E s

/-- in.eff: the map is kept where the heap changes at the comprehension's own addresses and its names are as they were -/
theorem BodyOk.elt {K n sc own elt gens scope pos k ρ d fr} (hk : gens[k]? = none) (h : Ev K n sc ρ elt (.py d) fr) : BodyOk K n sc own elt gens scope pos k ρ [d] fr :=
  Hide.mk fun {A env s X b D ys Q E} I C P hsz q => by
  unfold BodyWp
  rw [hk]
  refine wpAny_mono (h.run I) (fun v s₁ p => ?_) fun _ _ x => x
  obtain ⟨h₁, tk, as, rfl, g⟩ := p
  have P₁ : h₁.PlainList D ys.toArray := P.at fun o e => g.ext _ _ e
  refine wpAny_list_append_plain (hsz := by simp at hsz ⊢; omega) P₁ fun h₂ P₂ hs => ?_
  have rd : Rd h₁ v d as := g.rd
  have nf := PlainList.not_frame P₁ (C.frame.ext g.ext)
  have F₂ : FrameOk h₂ env := (C.frame.ext g.ext).at1 (Eff.of_sameBut hs) nf
  have e₂ : Eff (Wc b env D) s.heap h₂ := (g.ext.eff _).trans ((Eff.of_sameBut hs).mono fun a ha => by cases ha; exact ⟨C.newD, .inl rfl⟩)
  have C₂ := C.at F₂ e₂
  have nt : ∀ a, a = D → NoTup h₁ a := fun a ha => ha ▸ PlainList.noTup P₁
  have eD := Eff.of_sameBut hs
  refine q h₂ tk [v] as e₂ C₂ ?_ (by simpa using P₂) (.one (rd.off (eD.off (fun a ha e => g.off a ha (e ▸ C.XD)) nt))) g.off g.new
  exact (I.ext g.ext).at1 eD (let ⟨_, ho⟩ := P₂; ⟨_, ho⟩) C.XD (C.base.none C.newD) (PlainList.noTup P₁) nf
end Mine

namespace Mine

theorem letOwned_ok {M : Model} {A : Around} {E : Value → Shared → Prop} {s : Shared} {tgt : Expr} {I : Addr} {v : Value} {Q : Unit → Shared → Prop} (p : plainIter s.heap I) (h : Q () s) :
    wpAny M A (letOwnedTupleGo tgt (.ref I) v) Q E s := by
  obtain ⟨o, nm, vs, ho, hc, hn, hd⟩ := p
  have key : wpAny M A (do
      let (.ref r, .ref a) := ((Value.ref I, v) : Value × Value) | return
      let o ← load r
      match o.cls, o.data with
      | .type n, .fields vs =>
        if ["enumerate", "zip", "dict_itemiterator", "dict_reverseitemiterator", "odict_iterator", "itertools.zip_longest", "itertools.pairwise"].contains n && vs[0]? == some (rawInt a) then
          rule "for.unpacks-the-owned-tuple"
          updateField r 0 .none
      | _, _ => pure ()) Q E s := by
    cases v <;> first | exact wpAny_pure h | skip
    refine wpAny_bind (wpAny_load ho ?_)
    rw [hc, hd]
    dsimp only
    rw [hn]
    exact wpAny_pure h
  cases tgt <;> first | exact wpAny_pure h | exact key

def TurnOk (K : Cx) (n : Nat) (sc : Scope) (own : List Str) (elt : Expr) (gens : List Comprehension) (scope : Scope) (pos : Pos) (k : Nat) (tgt : Expr) (ifs : List Expr) (ρ : List (Str × D)) (d : PyData) (out : List PyData) (fr : Bool) : Prop :=
  ∃ ρ' c, Asg K n sc own tgt d ρ ρ' ∧ (∀ x e, ρ.lookup x = some e → ρ'.lookup x = some e) ∧ TrAll K n sc ρ' ifs c ∧
    (c = true → BodyOk K n sc own elt gens scope pos (k + 1) ρ' out fr) ∧ (c = false → out = [])

theorem nodup_append {α : Type} {as bs : List α} (h1 : as.Nodup) (h2 : bs.Nodup) (h3 : ∀ a ∈ as, a ∉ bs) : (as ++ bs).Nodup :=
  List.nodup_append.mpr ⟨h1, h2, fun a ha b hb q => h3 a ha (q ▸ hb)⟩

section
variable {K : Cx} {n : Nat} {sc : Scope} {own : List Str} {elt : Expr} {gens : List Comprehension} {scope : Scope} {pos : Pos} {k : Nat} {tgt iter : Expr} {ifs : List Expr} {ρ : List (Str × D)} {fr : Bool}
  {A : Around} {env : Env} {X₀ : Addr → Prop} {b b₀ : Heap} {D : Addr} {F : List (PyData × List PyData)} {s : Shared} {ys : List Value} {R : Result → Shared → Prop}
set_option maxHeartbeats 1000000 in
theorem loop_ok (hk : gens[k]? = some ⟨tgt, iter, ifs, 0⟩) (hG : GensOk gens) (turns : ∀ p ∈ F, TurnOk K n sc own elt gens scope pos k tgt ifs ρ p.1 p.2 fr)
    (t : It K A) (I : In K n sc (fun a => X₀ a ∨ a = t.I) ρ A env s.heap) (C : CompIn K b (fun a => X₀ a ∨ a = t.I) own env D s.heap) (P : s.heap.PlainList D ys.toArray)
    (T : ItAt t 0 b₀ s.heap X₀ (F.map (·.1))) (hW : ∀ a, Wc b env D a → X₀ a) (hI : b.get? t.I = none) (hsz : ys.length + (F.flatMap (·.2)).length ≤ sizeLine)
    (q : ∀ h' tk zs as, Eff (fun a => Wc b env D a ∨ a = t.I) s.heap h' → CompIn K b X₀ own env D h' → In K n sc X₀ ρ A env h' →
      h'.PlainList D (ys ++ zs).toArray → RdAll h' zs (F.flatMap (·.2)) as → (∀ a ∈ as, ¬ X₀ a ∧ a ≠ t.I) → (fr = true → as.Nodup ∧ ∀ a ∈ as, s.heap.get? a = none) →
      R (.ok .next) { s with heap := h', toks := tk }) :
    codeAny (model K.prog K.w) A (.compLoop (.ListComp elt gens scope pos) k (.ref t.I) (.ref D) env) R s := by
  refine codeAny_loop rfl (fun m s' => ∃ pre post h tk zs as, F = pre ++ post ∧ m = post.length + 1 ∧ s' = { s with heap := h, toks := tk } ∧ Eff (fun a => Wc b env D a ∨ a = t.I) s.heap h ∧
    CompIn K b (fun a => X₀ a ∨ a = t.I) own env D h ∧ In K n sc (fun a => X₀ a ∨ a = t.I) ρ A env h ∧ h.PlainList D (ys ++ zs).toArray ∧ RdAll h zs (pre.flatMap (·.2)) as ∧ (∀ a ∈ as, ¬ X₀ a ∧ a ≠ t.I) ∧
    (fr = true → as.Nodup ∧ ∀ a ∈ as, s.heap.get? a = none) ∧ ItAt t pre.length b₀ h X₀ (F.map (·.1))) (fun m s' hI' => ?_) (F.length + 1)
    ⟨[], F, s.heap, s.toks, [], [], rfl, rfl, shared_eta s, .refl _ _, C, I, by simpa using P, .nil, nofun, fun _ => ⟨.nil, nofun⟩, T⟩
  obtain ⟨pre, post, h, tk, zs, as, hF, rfl, rfl, e₀, C₀, I₀, P₀, rd₀, off₀, new₀, T₀⟩ := hI'
  show wpAny _ A ((compTurn (.ListComp elt gens scope pos) k (.ref t.I) (.ref D) env).onRaise (fun x => do noteFrame x env; theTreesLotGoes x)) _ _ _
  refine wpAny_noted (wpAny_compTurn hk hG ?_)
  have pI := t.plain _ _ T₀.st
  have hKI : K.h₀.get? t.I = none := C.base.none hI
  cases post with
  | nil =>
    rw [List.append_nil] at hF; subst hF
    refine t.W.done _ _ _ (by rw [T₀.len, List.length_map]; exact T₀.st) fun h₁ tk₁ hk₁ => ?_
    have e₁ : Eff (· = t.I) h h₁ := fun a o ha ho => hk₁ a o (by simpa using ha) ho
    have nf := pI.not_frame C₀.frame
    have nX : ¬ X₀ t.I := fun hx => T₀.off t.I (t.W.sub _ (.head _)) hx
    have nD : D ≠ t.I := fun q => pI.not_list (q ▸ P₀)
    have eA : Eff (fun a => Wc b env D a ∨ a = t.I) s.heap h₁ := e₀.trans (e₁.mono fun a ha => .inr ha)
    refine q h₁ tk₁ zs as eA ?_ (I₀.drop1 e₁ nX hKI pI.noTup nf) (P₀.at fun o ho => e₁ _ o nD ho) (rd₀.off (e₁.off (fun a ha q => (off₀ a ha).2 q) fun a ha => ha ▸ pI.noTup)) off₀ new₀
    exact { frame := C₀.frame.at1 e₁ nf, base := C₀.base, ownX := fun a h1 h2 => hW a ⟨h1, .inr h2⟩, has := C₀.has, newD := C₀.newD, XD := hW D ⟨C₀.newD, .inl rfl⟩, ext := eA.ext (C.ext) fun a ha => ha.elim (fun w => w.1) fun w => w ▸ hI }
  | cons p post =>
    have hlt : pre.length < t.n := by rw [T₀.len, hF]; simp
    obtain ⟨ρ', c, asg, back, tests, body, stop⟩ := turns p (by rw [hF]; simp)
    refine t.W.item pre.length _ _ _ hlt T₀.st fun v h₁ tk₁ hv st₁ hk₁ => ?_
    have e₁ : Eff (· = t.I) h h₁ := fun a o ha ho => hk₁ a o (by simpa using ha) ho
    have nf := pI.not_frame C₀.frame
    have nX : ¬ X₀ t.I := fun hx => T₀.off t.I (t.W.sub _ (.head _)) hx
    have nD : D ≠ t.I := fun q => pI.not_list (q ▸ P₀)
    have T₁ := T₀.next st₁ e₁
    have pI₁ := t.plain _ _ st₁
    have I₁ := I₀.at1 e₁ pI₁.some (.inr rfl) hKI pI.noTup nf
    have P₁ : h₁.PlainList D (ys ++ zs).toArray := P₀.at fun o ho => e₁ _ o nD ho
    have rd₁ := rd₀.off (e₁.off (fun a ha q => (off₀ a ha).2 q) fun a ha => ha ▸ pI.noTup)
    have eA : Eff (fun a => Wc b env D a ∨ a = t.I) s.heap h₁ := e₀.trans (e₁.mono fun a ha => .inr ha)
    have C₁ : CompIn K b (fun a => X₀ a ∨ a = t.I) own env D h₁ :=
      { frame := C₀.frame.at1 e₁ nf, base := C₀.base, ownX := C₀.ownX, has := C₀.has, newD := C₀.newD, XD := C₀.XD, ext := eA.ext (C.ext) fun a ha => ha.elim (fun w => w.1) fun w => w ▸ hI }
    obtain ⟨d, bs, hd, rdv, offv⟩ := T₁.items _ v hv
    have hd' : d = p.1 := by
      rw [hF] at hd; simp at hd; exact hd.symm
    subst hd'
    refine letOwned_ok pI₁ ?_
    refine asg.run (s := { s with heap := h₁, toks := tk₁ }) I₁ C₁.toFrameIn rdv (fun a ha hx => hx.elim (offv a ha).1 (offv a ha).2) fun h₂ tk₂ e₂ F₂ I₂ => ?_
    have e₂' : Eff (Wc b env D) h₁ h₂ := Eff.mono e₂ fun a ha => ⟨ha.1, .inr ha.2⟩
    have C₂ := C₁.at F₂ e₂'
    have nDf : ¬ Wf b env D := fun w => PlainList.not_frame P₁ C₁.frame w.2
    have P₂ : h₂.PlainList D (ys ++ zs).toArray := P₁.at fun o ho => e₂ _ o nDf ho
    have nt₁ : ∀ a, Wf b env a → NoTup h₁ a := C₁.toFrameIn.noTup
    have subX : ∀ a, Wf b env a → X₀ a := fun a ha => hW a ⟨ha.1, .inr ha.2⟩
    have rd₂ := rd₁.off (Eff.off e₂ (fun a ha w => (off₀ a ha).1 (subX a w)) nt₁)
    have T₂ := T₁.eff e₂ subX nt₁
    refine wpAny_mono (tests.run (s := { s with heap := h₂, toks := tk₂ }) I₂) (fun ok s₃ hok => ?_) fun _ _ x => x
    obtain ⟨rfl, h₃, tk₃, rfl, x₃⟩ := hok
    have hF' : F = (pre ++ [p]) ++ post := by rw [hF]; simp
    have hlen : (pre ++ [p]).length = pre.length + 1 := by simp
    have hfm : (pre ++ [p]).flatMap (·.2) = pre.flatMap (·.2) ++ p.2 := by simp
    have I₃ := I₂.ext x₃
    have C₃ := C₂.at (F₂.ext x₃) (x₃.eff _)
    have P₃ : h₃.PlainList D (ys ++ zs).toArray := P₂.at fun o ho => x₃ _ o ho
    have rd₃ := rd₂.ext x₃
    have T₃ := T₂.eff (x₃.eff fun _ => False) (fun _ => False.elim) (fun _ => False.elim)
    have e₃ : Eff (fun a => Wc b env D a ∨ a = t.I) s.heap h₃ := (eA.trans (e₂'.mono fun a ha => .inl ha)).trans (x₃.eff _)
    cases ok with
    | false =>
      rw [if_neg Bool.false_ne_true]
      have hp2 := stop rfl
      refine ⟨rfl, post.length + 1, by simp, pre ++ [p], post, h₃, tk₃, zs, as, hF', rfl, rfl, e₃, C₃, I₃.sub back, P₃, ?_, off₀, new₀, ?_⟩
      · rw [hfm, hp2, List.append_nil]; exact rd₃
      · rw [hlen]; exact T₃
    | true =>
      rw [if_pos rfl]
      have hsz' : (ys ++ zs).length + p.2.length ≤ sizeLine := by
        have e1 := rd₀.length
        have e2 : (F.flatMap (·.2)).length = (pre.flatMap (·.2)).length + (p.2.length + (post.flatMap (·.2)).length) := by rw [hF]; simp
        rw [List.length_append]
        omega
      refine (body rfl).run (s := { s with heap := h₃, toks := tk₃ }) I₃ C₃ P₃ hsz' fun h₄ tk₄ zs' bs' e₄ C₄ I₄ P₄ rd₄ off₄ new₄ => ?_
      have nt₃ := C₃.noTup P₃
      have rd₄' := rd₃.off (Eff.off e₄ (fun a ha w => (off₀ a ha).1 (hW a w)) nt₃)
      have T₄ := T₃.eff e₄ hW nt₃
      refine ⟨rfl, post.length + 1, by simp, pre ++ [p], post, h₄, tk₄, zs ++ zs', as ++ bs', hF', rfl, rfl, e₃.trans (Eff.mono e₄ fun a ha => .inl ha), C₄, I₄.sub back, ?_, ?_, ?_, ?_, ?_⟩
      · rw [← List.append_assoc]; exact P₄
      · rw [hfm]; exact rd₄'.append rd₄
      · intro a ha
        rcases List.mem_append.mp ha with ha | ha
        · exact off₀ a ha
        · exact ⟨fun hx => off₄ a ha (.inl hx), fun hx => off₄ a ha (.inr hx)⟩
      · intro hfr
        obtain ⟨n1, m1⟩ := new₀ hfr
        obtain ⟨n2, m2⟩ := new₄ hfr
        refine ⟨nodup_append n1 n2 fun a ha hb => ?_, fun a ha => ?_⟩
        · obtain ⟨o, ho⟩ := rd₃.dom a ha; rw [m2 a hb] at ho; cases ho
        · rcases List.mem_append.mp ha with ha | ha
          · exact m1 a ha
          · cases hq : s.heap.get? a with
            | none => rfl
            | some o =>
              have hm2 := m2 a ha
              have hx : ¬ (Wc b env D a ∨ a = t.I) := fun w => w.elim (fun w => off₄ a ha (.inl (hW a w))) fun w => off₄ a ha (.inr w)
              have := e₃ a o hx hq
              rw [this] at hm2; cases hm2
      · rw [hlen]; exact T₄
end
end Mine

namespace Mine

theorem BodyOk.gen {K n sc own elt gens scope pos k ρ fr tgt iter ifs} {F : List (PyData × List PyData)} (hk : gens[k]? = some ⟨tgt, iter, ifs, 0⟩) (hG : GensOk gens)
    (hit : EvIt K n sc ρ iter (F.map (·.1))) (turns : ∀ p ∈ F, TurnOk K n sc own elt gens scope pos k tgt ifs ρ p.1 p.2 fr) :
    BodyOk K n sc own elt gens scope pos k ρ (F.flatMap (·.2)) fr :=
  Hide.mk fun {A env s X b D ys Q E} I C P hsz q => by
  unfold BodyWp
  rw [hk]
  refine hit.run I fun t h₁ tk x₁ T => ?_
  have pI := t.plain _ _ T.st
  refine wpAny_runOwn ?_
  show codeAny (model K.prog K.w) A _ _ _
  refine codeAny_compStart hk rfl ?_ fun Q' E' hq => t.W.self 0 _ _ _ T.st hq
  have C₁ : CompIn K b (fun a => X a ∨ a = t.I) own env D h₁ := (C.at (C.frame.ext x₁) (x₁.eff _)).moreX fun a ha => .inl ha
  have hI : b.get? t.I = none := C.ext.none T.new
  refine loop_ok (s := { s with heap := h₁, toks := tk }) (X₀ := X) hk hG turns t (I.more x₁ T.new pI.some) C₁ (P.at fun o ho => x₁ _ o ho) T C.sub hI hsz fun h' tk' zs as e' C' I' P' rd off new => ?_
  refine q h' tk' zs as (fun a o ha ho => ?_) C' I' P' rd (fun a ha => (off a ha).1) fun hfr => ⟨(new hfr).1, fun a ha => x₁.none ((new hfr).2 a ha)⟩
  refine e' a o (fun w => w.elim ha fun w => ?_) (x₁ a o ho)
  rw [w, T.new] at ho; cases ho

/-! ### the comprehension's own frame -/
def relabelS (scope sc : Scope) : Scope :=
  { scope with names := scope.names.map fun (n, k) => if (k == .free && sc.kind == .function && sc.names.lookup n == some .cell) then (n, .cell) else (n, k) }
theorem relabel_eq {scope : Scope} {env : Env} : relabel scope env = relabelS scope env.scope := rfl

def closureL (env : Env) : List (Str × NameKind) → List (Str × Addr) → List (Str × Addr)
  | [], acc => acc
  | (n, k) :: r, acc => closureL env r (if k == .free then (n, (env.cells.lookup n).getD 0) :: acc else acc)

theorem closureFor_eq {scope : Scope} {env : Env} (h : ∀ n, (n, NameKind.free) ∈ scope.names → ∃ c, env.cells.lookup n = some c) : closureFor scope env = pure (closureL env scope.names []) := by
  unfold closureFor
  have key : ∀ (names : List (Str × NameKind)) (acc : List (Str × Addr)), (∀ n, (n, NameKind.free) ∈ names → ∃ c, env.cells.lookup n = some c) →
      (forIn names acc (fun (x : Str × NameKind) (cs : List (Str × Addr)) => (match x with | (name, kind) => (if (kind == NameKind.free) = true then (do let a ← cellOf env name; pure (ForInStep.yield ((name, a) :: cs))) else pure (ForInStep.yield cs) : Sem (ForInStep (List (Str × Addr))))))) = (pure (closureL env names acc) : Sem (List (Str × Addr))) := by
    intro names
    induction names with
    | nil => intro acc _; rfl
    | cons x r ih =>
      intro acc hn
      obtain ⟨n, k⟩ := x
      rw [List.forIn_cons]
      have hr : ∀ m, (m, NameKind.free) ∈ r → ∃ c, env.cells.lookup m = some c := fun m hm => hn m (.tail _ hm)
      by_cases hk : k = .free
      · subst hk
        obtain ⟨c, hc⟩ := hn n (.head _)
        simp only [beq_self_eq_true, if_true, cellOf, hc, pure_bind, closureL, Option.getD_some]
        exact ih _ hr
      · have hb : (k == NameKind.free) = false := by simpa using hk
        simp only [hb, Bool.false_eq_true, if_false, pure_bind, closureL]
        exact ih _ hr
  exact (congrArg (fun m : Sem (List (Str × Addr)) => m >>= fun cs => pure cs) (key scope.names [] h)).trans rfl
end Mine

namespace Mine

theorem cellsFrom_append : ∀ (names : List (Str × NameKind)) (n : Nat) (acc : List (Str × Addr)), cellsFrom n names acc = cellsFrom n names [] ++ acc
  | [], _, _ => rfl
  | (name, kind) :: r, n, acc => by
    unfold cellsFrom
    split
    · rw [cellsFrom_append r (n + 1) ((name, n) :: acc), cellsFrom_append r (n + 1) [(name, n)]]; simp
    · exact cellsFrom_append r n acc

theorem cellsFrom_mem : ∀ (names : List (Str × NameKind)) (n : Nat) {x : Str} {c : Addr}, (x, c) ∈ cellsFrom n names [] → (x, NameKind.cell) ∈ names
  | [], _, _, _, h => by cases h
  | (name, kind) :: r, n, x, c, h => by
    unfold cellsFrom at h
    split at h
    · rename_i hk
      rw [cellsFrom_append] at h
      rcases List.mem_append.mp h with h | h
      · exact .tail _ (cellsFrom_mem r _ h)
      · have := List.mem_singleton.mp h
        cases this
        have : kind = .cell := by simpa using hk
        subst this; exact .head _
    · exact .tail _ (cellsFrom_mem r _ h)

theorem lookup_isSome_of_mem {α : Type} : ∀ {l : List (Str × α)} {x : Str} {c : α}, (x, c) ∈ l → ∃ c', l.lookup x = some c'
  | (k, v) :: r, x, c, h => by
    rw [List.lookup_cons]
    cases hb : x == k with
    | true => exact ⟨_, rfl⟩
    | false =>
      rcases List.mem_cons.mp h with e | h
      · cases e; simp at hb
      · exact lookup_isSome_of_mem h

theorem cellsFrom_has : ∀ (names : List (Str × NameKind)) (n : Nat) {x : Str}, (x, NameKind.cell) ∈ names → ∃ c, (x, c) ∈ cellsFrom n names []
  | (name, kind) :: r, n, x, h => by
    unfold cellsFrom
    rcases List.mem_cons.mp h with e | h
    · cases e
      simp only [beq_self_eq_true, if_true]
      rw [cellsFrom_append]
      exact ⟨n, List.mem_append_right _ (.head _)⟩
    · split
      · rw [cellsFrom_append]
        obtain ⟨c, hc⟩ := cellsFrom_has r (n + 1) h
        exact ⟨c, List.mem_append_left _ hc⟩
      · exact cellsFrom_has r n h

theorem lookup_append {α : Type} : ∀ (l l' : List (Str × α)) (x : Str), (l ++ l').lookup x = (l.lookup x).or (l'.lookup x)
  | [], l', x => by simp
  | (k, v) :: r, l', x => by
    rw [List.cons_append, List.lookup_cons, List.lookup_cons]
    cases x == k with
    | true => simp
    | false => exact lookup_append r l' x

theorem lookup_none_of_not_mem {α : Type} : ∀ {l : List (Str × α)} {x : Str}, (∀ c, (x, c) ∉ l) → l.lookup x = none
  | [], x, _ => rfl
  | (k, v) :: r, x, h => by
    rw [List.lookup_cons]
    cases hb : x == k with
    | true => have : x = k := by simpa using hb
              subst this; exact absurd (.head _) (h v)
    | false => exact lookup_none_of_not_mem fun c hc => h c (.tail _ hc)

theorem lookup_map_kind {g : Str → NameKind → NameKind} : ∀ (l : List (Str × NameKind)) (x : Str), (l.map fun p => (p.1, g p.1 p.2)).lookup x = (l.lookup x).map (g x)
  | [], x => rfl
  | (k, v) :: r, x => by
    rw [List.map_cons, List.lookup_cons, List.lookup_cons]
    cases hb : x == k with
    | true => have : x = k := by simpa using hb
              subst this; rfl
    | false => exact lookup_map_kind r x

theorem relabelS_lookup (scope sc : Scope) (x : Str) : (relabelS scope sc).names.lookup x =
    (scope.names.lookup x).map fun k => if (k == .free && sc.kind == .function && sc.names.lookup x == some .cell) then .cell else k := by
  have : (relabelS scope sc).names = scope.names.map fun p => (p.1, (fun (n : Str) (k : NameKind) => if (k == .free && sc.kind == .function && sc.names.lookup n == some .cell) then NameKind.cell else k) p.1 p.2) := by
    show scope.names.map _ = _
    refine List.map_congr_left fun p _ => ?_
    obtain ⟨n, k⟩ := p
    dsimp only
    split <;> rfl
  rw [this]
  exact lookup_map_kind (g := fun (n : Str) (k : NameKind) => if (k == .free && sc.kind == .function && sc.names.lookup n == some .cell) then NameKind.cell else k) _ _

theorem closureL_append (env : Env) : ∀ (names : List (Str × NameKind)) (acc : List (Str × Addr)), closureL env names acc = closureL env names [] ++ acc
  | [], _ => rfl
  | (n, k) :: r, acc => by
    unfold closureL
    split
    · rw [closureL_append env r (_ :: acc), closureL_append env r [_]]; simp
    · exact closureL_append env r acc
theorem closureL_mem (env : Env) : ∀ (names : List (Str × NameKind)) {x : Str} {c : Addr}, (x, c) ∈ closureL env names [] → (x, NameKind.free) ∈ names ∧ c = (env.cells.lookup x).getD 0
  | [], _, _, h => by cases h
  | (n, k) :: r, x, c, h => by
    unfold closureL at h
    split at h
    · rename_i hk
      rw [closureL_append] at h
      rcases List.mem_append.mp h with h | h
      · exact ⟨.tail _ (closureL_mem env r h).1, (closureL_mem env r h).2⟩
      · have := List.mem_singleton.mp h
        cases this
        have : k = .free := by simpa using hk
        subst this; exact ⟨.head _, rfl⟩
    · exact ⟨.tail _ (closureL_mem env r h).1, (closureL_mem env r h).2⟩
theorem closureL_has (env : Env) : ∀ (names : List (Str × NameKind)) {x : Str}, (x, NameKind.free) ∈ names → (x, (env.cells.lookup x).getD 0) ∈ closureL env names []
  | (n, k) :: r, x, h => by
    unfold closureL
    rcases List.mem_cons.mp h with e | h
    · cases e
      simp only [beq_self_eq_true, if_true]
      rw [closureL_append]
      exact List.mem_append_right _ (.head _)
    · split
      · rw [closureL_append]; exact List.mem_append_left _ (closureL_has env r h)
      · exact closureL_has env r h
theorem closureL_lookup (env : Env) {names : List (Str × NameKind)} {x : Str} (h : (x, NameKind.free) ∈ names) : (closureL env names []).lookup x = some ((env.cells.lookup x).getD 0) := by
  obtain ⟨c, hc⟩ := lookup_isSome_of_mem (closureL_has env names h)
  rw [hc, (closureL_mem env names (mem_of_lookup hc)).2]

theorem closureL_apart {env : Env} (ok : EnvOk env) : ∀ {names : List (Str × NameKind)}, (names.map (·.1)).Nodup → (∀ n, (n, NameKind.free) ∈ names → ∃ c, env.cells.lookup n = some c) →
    (closureL env names []).Pairwise fun x y => x.2 ≠ y.2
  | [], _, _ => List.Pairwise.nil
  | (n, k) :: r, hnd, hf => by
    rw [List.map_cons, List.nodup_cons] at hnd
    have ih := closureL_apart ok hnd.2 fun m hm => hf m (.tail _ hm)
    unfold closureL
    split
    · rename_i hk
      have hk : k = .free := by simpa using hk
      subst hk
      rw [closureL_append]
      refine List.pairwise_append.mpr ⟨ih, List.pairwise_singleton _ _, fun a ha b hb => ?_⟩
      have := List.mem_singleton.mp hb
      subst this
      obtain ⟨m, c⟩ := a
      obtain ⟨hm, rfl⟩ := closureL_mem env r ha
      obtain ⟨c1, h1⟩ := hf m (.tail _ hm)
      obtain ⟨c2, h2⟩ := hf n (.head _)
      show (env.cells.lookup m).getD 0 ≠ (env.cells.lookup n).getD 0
      rw [h1, h2]
      intro q
      have q : c1 = c2 := q
      subst q
      have : m = n := name_of_addr ok.apart (mem_of_lookup h1) (mem_of_lookup h2)
      subst this
      exact hnd.1 (List.mem_map.mpr ⟨_, hm, rfl⟩)
    · exact ih

/-- the frame of a comprehension -/
def compEnvM (scope : Scope) (C : Addr) (env : Env) : Env :=
  { scope := relabel scope env, locals := C, globals := env.globals, cells := cellsFrom (C + 1) scope.names (closureL env scope.names []), qual := env.qual, func := none, code := env.code, frame := env.frame, builtins := env.builtins }

theorem wpAny_newCompEnv {M : Model} {A : Around} {E : Value → Shared → Prop} {s : Shared} {scope : Scope} {cl : List (Str × Addr)} {env : Env} {Q : Env → Shared → Prop}
    (h : Q (newEnv scope s.heap.objs.size env.globals (cellsFrom (s.heap.objs.size + 1) scope.names cl) env.qual none .none (some env) builtinsNs)
      { s with heap := pushCells (s.heap.push { cls := .type "dict", data := .dict #[] }) scope.names }) :
    wpAny M A (newFunctionEnv scope env.globals cl [] env.qual none .none (some env)) Q E s := by
  simp only [newFunctionEnv, Option.isSome_some, if_true]
  refine wpAny_bind (wpAny_alloc ?_)
  refine wpAny_bind (wpAny_layCells _ (fun name kind cells => by cases hkc : kind == NameKind.cell <;> simp [hkc]) _ _ _ _ ?_)
  rw [show ({ s with heap := s.heap.push { cls := .type "dict", data := .dict #[] } } : Shared).heap.objs.size = s.heap.objs.size + 1 from Heap.size_push ..]
  exact wpAny_bind (wpAny_pure (wpAny_pure h))
end Mine

namespace Mine

structure ScopeOk (scope sc : Scope) (own : List Str) : Prop where
  kind : scope.kind = .function
  nodup : (scope.names.map (·.1)).Nodup
  free : ∀ n, (n, NameKind.free) ∈ scope.names → sc.names.lookup n = some .cell ∨ sc.names.lookup n = some .free
  own : ∀ x ∈ own, scope.names.lookup x = some .local ∨ scope.names.lookup x = some .cell

def scopeOk (scope sc : Scope) (own : List Str) : Bool :=
  decide (scope.kind = .function) && decide ((scope.names.map (·.1)).Nodup) &&
    (scope.names.all fun p => p.2 != .free || (sc.names.lookup p.1 == some .cell || sc.names.lookup p.1 == some .free)) &&
    own.all fun x => scope.names.lookup x == some .local || scope.names.lookup x == some .cell

theorem ScopeOk.of {scope sc : Scope} {own : List Str} (h : scopeOk scope sc own = true) : ScopeOk scope sc own := by
  simp only [scopeOk, Bool.and_eq_true, decide_eq_true_eq, List.all_eq_true, Bool.or_eq_true, beq_iff_eq, bne_iff_ne, ne_eq] at h
  obtain ⟨⟨⟨h1, h2⟩, h3⟩, h4⟩ := h
  refine ⟨h1, h2, fun n hn => ?_, h4⟩
  rcases h3 _ hn with h | h
  · exact absurd rfl h
  · exact h

theorem lookup_of_mem_nodup' {α : Type} : ∀ {l : List (Str × α)} {x : Str} {c : α}, (l.map (·.1)).Nodup → (x, c) ∈ l → l.lookup x = some c
  | (k, v) :: r, x, c, hnd, hm => by
    rw [List.map_cons, List.nodup_cons] at hnd
    rw [List.lookup_cons]
    rcases List.mem_cons.mp hm with e | hm
    · cases e; simp
    · have hne : x ≠ k := fun e => hnd.1 (e ▸ List.mem_map.mpr ⟨_, hm, rfl⟩)
      have : (x == k) = false := by simpa using hne
      rw [this]
      exact lookup_of_mem_nodup' hnd.2 hm

structure CompFrame (scope : Scope) (env : Env) (own : List Str) (h h₃ h₄ : Heap) (cenv : Env) : Prop where
  cok : EnvOk cenv
  frame : FrameOk h₄ cenv
  ext : Ext h₃ h₄
  new : ∀ a, h.get? a = none → FrameAddr cenv a → h₃.get? a = none
  has : ∀ x ∈ own, ∃ a, StoreAddr cenv x a ∧ h₃.get? a = none
  vars : ∀ x v, scope.names.lookup x = some .free → VarAt h env x v → VarAt h₄ cenv x v
  locals : h₃.get? cenv.locals = none

theorem get_none_of_ge {h : Heap} {a : Addr} (x : h.objs.size ≤ a) : h.get? a = none := by
  cases q : h.get? a with
  | none => rfl
  | some o => exact absurd (Heap.lt_size q) (Nat.not_lt.mpr x)

theorem compFrame {K n sc X ρ A env h scope own} (I : In K n sc X ρ A env h) (S : ScopeOk scope sc own) {h₃ : Heap} (x₃ : Ext h h₃) :
    CompFrame scope env own h h₃ (pushCells (h₃.push { cls := .type "dict", data := .dict #[] }) scope.names) (compEnvM scope h₃.objs.size env) := by
  have hsc := I.hsc
  have hfree : ∀ n, (n, NameKind.free) ∈ scope.names → ∃ c, env.cells.lookup n = some c := fun m hm => by
    refine I.henv.all m ?_
    show env.scope.names.lookup m = _ ∨ env.scope.names.lookup m = _
    rw [hsc]; exact S.free m hm
  have hcell : ∀ n, (n, NameKind.free) ∈ scope.names → ∀ c, env.cells.lookup n = some c → ∃ v, h.IsCell c v := fun m hm c hc => I.frame.cells m c hc
  generalize hH : h₃.push { cls := .type "dict", data := .dict #[] } = H
  have hHs : H.objs.size = h₃.objs.size + 1 := by rw [← hH, Heap.size_push]
  have xH : Ext h₃ H := hH ▸ Ext.push _ _
  have x4 : Ext H (pushCells H scope.names) := fun b o e => pushCells_keeps scope.names H b o e
  have ok := cellsFrom_ok scope.names H (h₃.objs.size + 1) [] ⟨fun _ _ hm => (nomatch hm), List.Pairwise.nil⟩ (by rw [hHs]; exact Nat.le_refl _)
  rw [hHs] at ok
  have hcells : (compEnvM scope h₃.objs.size env).cells = cellsFrom (h₃.objs.size + 1) scope.names [] ++ closureL env scope.names [] := cellsFrom_append ..
  have hclo : ∀ m c, (m, c) ∈ closureL env scope.names [] → (m, NameKind.free) ∈ scope.names ∧ env.cells.lookup m = some c := fun m c hm => by
    obtain ⟨h1, h2⟩ := closureL_mem env scope.names hm
    obtain ⟨c', hc'⟩ := hfree m h1
    rw [hc'] at h2
    have : c = c' := h2
    subst this
    exact ⟨h1, hc'⟩
  have hlt : ∀ m c, (m, c) ∈ closureL env scope.names [] → c < h₃.objs.size ∧ ∃ o, h.get? c = some o := fun m c hm => by
    obtain ⟨v, o, ho, _⟩ := hcell m (hclo m c hm).1 c (hclo m c hm).2
    exact ⟨Heap.lt_size (x₃ c o ho), o, ho⟩
  have hkind : ∀ x, (compEnvM scope h₃.objs.size env).kindOf x = (scope.names.lookup x).map fun k => if (k == .free && sc.kind == .function && sc.names.lookup x == some .cell) then .cell else k := fun x => by
    show (relabelS scope env.scope).names.lookup x = _
    rw [hsc]; exact relabelS_lookup scope sc x
  have ownCell : ∀ x, scope.names.lookup x = some .cell → ∃ c, (cellsFrom (h₃.objs.size + 1) scope.names []).lookup x = some c := fun x hx => by
    obtain ⟨c, hc⟩ := cellsFrom_has scope.names (h₃.objs.size + 1) (mem_of_lookup hx)
    exact lookup_isSome_of_mem hc
  have ownNone : ∀ x, scope.names.lookup x = some .free → (cellsFrom (h₃.objs.size + 1) scope.names []).lookup x = none := fun x hx => by
    refine lookup_none_of_not_mem fun c hc => ?_
    have := lookup_of_mem_nodup' S.nodup (cellsFrom_mem scope.names _ hc)
    rw [hx] at this; cases this
  refine ⟨⟨?_, I.henv.globals, I.henv.builtins, ?_, fun x hx => ?_⟩, ⟨?_, fun x c hc => ?_⟩, xH.trans x4, fun a ha hf => ?_, fun x hx => ?_, fun x v hx hv => ?_, push_new _⟩
  · exact S.kind
  · rw [hcells]
    refine List.pairwise_append.mpr ⟨ok.apart, closureL_apart I.henv S.nodup hfree, fun a ha b hb q => ?_⟩
    have h1 := (ok.empty a.1 a.2 ha).2
    have h2 := (hlt b.1 b.2 hb).1
    rw [q] at h1
    exact absurd (Nat.lt_of_lt_of_le h2 (Nat.le_of_succ_le h1)) (Nat.lt_irrefl _)
  · rw [hcells, lookup_append]
    rw [hkind] at hx
    cases hl : scope.names.lookup x with
    | none => rw [hl] at hx; rcases hx with hx | hx <;> cases hx
    | some k =>
      rw [hl] at hx
      have hk : k = .cell ∨ k = .free := by
        simp only [Option.map_some, Option.some.injEq] at hx
        cases k <;> simp_all
      rcases hk with rfl | rfl
      · obtain ⟨c, hc⟩ := ownCell x hl
        exact ⟨c, by rw [hc]; rfl⟩
      · rw [ownNone x hl, closureL_lookup env (mem_of_lookup hl)]
        exact ⟨_, rfl⟩
  · exact ⟨_, Heap.Ns.keeps (hH ▸ Heap.Ns.new h₃ (.type "dict")) x4⟩
  · rw [hcells, lookup_append] at hc
    cases hl : (cellsFrom (h₃.objs.size + 1) scope.names []).lookup x with
    | some c' =>
      rw [hl] at hc
      have : c' = c := by simpa using hc
      subst this
      exact ⟨_, (ok.empty x c' (mem_of_lookup hl)).1⟩
    | none =>
      rw [hl] at hc
      have hm := mem_of_lookup (show (closureL env scope.names []).lookup x = some c by simpa using hc)
      obtain ⟨v, hv⟩ := hcell x (hclo x c hm).1 c (hclo x c hm).2
      exact ⟨v, hv.keeps (x₃.trans (xH.trans x4))⟩
  · rcases hf with rfl | ⟨m, hc⟩
    · exact push_new _
    · rw [hcells, lookup_append] at hc
      cases hl : (cellsFrom (h₃.objs.size + 1) scope.names []).lookup m with
      | some c' =>
        rw [hl] at hc
        have : c' = a := by simpa using hc
        subst this
        exact get_none_of_ge (Nat.le_of_succ_le (ok.empty m c' (mem_of_lookup hl)).2)
      | none =>
        rw [hl] at hc
        have hm := mem_of_lookup (show (closureL env scope.names []).lookup m = some a by simpa using hc)
        obtain ⟨o, ho⟩ := (hlt m a hm).2
        rw [ha] at ho; cases ho
  · rcases S.own x hx with hl | hl
    · refine ⟨h₃.objs.size, .inl ⟨?_, rfl⟩, push_new _⟩
      rw [hkind, hl]; rfl
    · obtain ⟨c, hc⟩ := ownCell x hl
      refine ⟨c, .inr ⟨?_, ?_⟩, get_none_of_ge (Nat.le_of_succ_le (ok.empty x c (mem_of_lookup hc)).2)⟩
      · rw [hkind, hl]; rfl
      · rw [hcells, lookup_append, hc]; rfl
  · have hm := mem_of_lookup hx
    rcases hv with ⟨hl, _⟩ | ⟨_, c, hc, hv⟩
    · have := S.free x hm
      have hl' : sc.names.lookup x = some .local := by rw [← hsc]; exact hl
      rw [hl'] at this; rcases this with h | h <;> cases h
    · refine .inr ⟨?_, c, ?_, hv.keeps (x₃.trans (xH.trans x4))⟩
      · rw [hkind, hx]
        simp only [Option.map_some]
        split
        · exact .inl rfl
        · exact .inr rfl
      · rw [hcells, lookup_append, ownNone x hx, closureL_lookup env hm, hc]; rfl
end Mine

namespace Mine



section
variable {K : Cx} {n : Nat} {sc : Scope} {own : List Str} {elt : Expr} {gens rest : List Comprehension} {scope : Scope} {pos pos' : Pos} {tgt iter : Expr} {ifs : List Expr} {ρ ρ' : List (Str × D)} {fr : Bool}
  {A : Around} {env : Env} {X : Addr → Prop} {F : List (PyData × List PyData)} {s : Shared} {E : Value → Shared → Prop} {Q : Value → Shared → Prop} {use : Option (Value → Sem Unit)}
set_option maxHeartbeats 1000000 in
theorem comp_core (hg : gens = ⟨tgt, iter, ifs, 0⟩ :: rest) (hG : GensOk gens) (S : ScopeOk scope sc own)
    (hm : ∀ x d, ρ'.lookup x = some d → scope.names.lookup x = some .free ∧ ρ.lookup x = some d)
    (hit : EvIt K n sc ρ iter (F.map (·.1))) (turns : ∀ p ∈ F, TurnOk K n (relabelS scope sc) own elt gens scope pos 0 tgt ifs ρ' p.1 p.2 fr) (hsz : (F.flatMap (·.2)).length ≤ sizeLine)
    (I : In K n sc X ρ A env s.heap)
    (q : ∀ h' tk D C as m, Ext s.heap h' → Rd h' (.ref D) (.list (F.flatMap (·.2))) (D :: as) → (∀ a ∈ D :: as, ¬ X a ∧ a ≠ C) → s.heap.get? D = none →
      (fr = true → (D :: as).Nodup ∧ ∀ a ∈ D :: as, s.heap.get? a = none) → h'.Ns C m → s.heap.get? C = none →
      compPost (model K.prog K.w) A E use Q (.ref D) C (.ok .next) { s with heap := h', toks := tk }) :
    wpAny (model K.prog K.w) A (comprehension (.ListComp elt gens scope pos) scope env pos' (newList []) false (eval iter env) use) Q E s := by
  have hfree : ∀ n, (n, NameKind.free) ∈ scope.names → ∃ c, env.cells.lookup n = some c := fun m hm => by
    refine I.henv.all m ?_
    show env.scope.names.lookup m = _ ∨ env.scope.names.lookup m = _
    rw [I.hsc]; exact S.free m hm
  have h0 : gens[0]? = some ⟨tgt, iter, ifs, 0⟩ := by rw [hg]; rfl
  refine wpAny_comprehension_free (use := use) (show clausesOf (.ListComp elt gens scope pos) = ⟨tgt, iter, ifs, 0⟩ :: rest from hg) (fun x => (hG _ (by rw [hg]; exact .head _)).2 env x) (closureFor_eq hfree) S.kind
    (fun x hx hl => lookup_of_mem_nodup' S.nodup (by rw [← hl]; exact hx)) ?_
  refine hit.run I fun t h₂ tk x₂ T => ?_
  refine wpAny_newObj_type ?_
  generalize hh3 : h₂.push { cls := .type "list", dict := none, data := .seq ([] : List Value).toArray } = h₃
  have x₃ : Ext h₂ h₃ := hh3 ▸ Ext.push _ _
  have hD2 : h₂.get? h₂.objs.size = none := push_new _
  have hD3 : h₃.PlainList h₂.objs.size ([] : List Value).toArray := ⟨0, hh3 ▸ Heap.get?_push_size _ rfl⟩
  generalize h₂.objs.size = D at hD2 hD3 ⊢
  refine wpAny_newCompEnv ?_
  have CF := compFrame I S (x₂.trans x₃)
  show codeAny _ A (.compStart (.ListComp elt gens scope pos) 0 (.ref t.I) (.ref D) (compEnvM scope h₃.objs.size env)) _ _
  show codeAny _ A _ (compPost _ A E use Q (.ref D) (compEnvM scope h₃.objs.size env).locals) { s with heap := pushCells (h₃.push { cls := .type "dict", data := .dict #[] }) scope.names, toks := tk }
  generalize hcenv : compEnvM scope h₃.objs.size env = cenv at CF ⊢
  have hscC : cenv.scope = relabelS scope sc := by rw [← hcenv, ← I.hsc]; rfl
  generalize pushCells (h₃.push { cls := .type "dict", data := .dict #[] }) scope.names = h₄ at CF ⊢
  have x₄ := CF.ext
  have P₄ : h₄.PlainList D ([] : List Value).toArray := hD3.at fun o ho => x₄ _ o ho
  have bD : s.heap.get? D = none := x₂.none hD2
  -- what is the comprehension's own
  let X₀ : Addr → Prop := fun a => X a ∨ Wc s.heap cenv D a
  have new3 : ∀ a, Wc s.heap cenv D a → h₂.get? a = none := fun a ha => ha.2.elim (fun q => q ▸ hD2) fun q => x₃.none (CF.new a ha.1 q)
  have dom4 : ∀ a, Wc s.heap cenv D a → ∃ o, h₄.get? a = some o := fun a ha => ha.2.elim (fun q => by obtain ⟨_, ho⟩ := P₄; exact ⟨_, q ▸ ho⟩) fun q => by
    obtain ⟨o, ho, _⟩ := CF.frame.noSeq q; exact ⟨o, ho⟩
  have xx := x₂.trans (x₃.trans x₄)
  have pI := t.plain _ _ T.st
  have T₄ : ItAt t 0 s.heap h₄ X₀ (F.map (·.1)) := by
    have T' := T.eff ((x₃.trans x₄).eff fun _ => False) (fun _ => False.elim) (fun _ => False.elim)
    refine ⟨T'.st, T'.len, fun a ha hx => hx.elim (T.off a ha) fun w => ?_, T'.new, T'.dom, fun j v hv => ?_⟩
    · obtain ⟨o, ho⟩ := T.dom a ha; rw [new3 a w] at ho; cases ho
    · obtain ⟨d, as, h1, h2, h3⟩ := T.items j v hv
      refine ⟨d, as, h1, h2.ext (x₃.trans x₄), fun a ha => ⟨fun hx => hx.elim (h3 a ha).1 fun w => ?_, (h3 a ha).2⟩⟩
      obtain ⟨o, ho⟩ := h2.dom a ha; rw [new3 a w] at ho; cases ho
  have nXI : ¬ X₀ t.I := T₄.off t.I (t.W.sub _ (.head _))
  have I₄ : In K n (relabelS scope sc) (fun a => X₀ a ∨ a = t.I) ρ' A cenv h₄ := by
    refine ⟨I.room, I.ok.mono xx, hscC, CF.cok, CF.frame, fun a ha => ?_, fun x d hx => ?_⟩
    · rcases ha with (ha | ha) | ha
      · obtain ⟨o, ho⟩ := I.dom a ha; exact ⟨o, xx a o ho⟩
      · exact dom4 a ha
      · rw [ha]; obtain ⟨o, ho⟩ := pI.some; exact ⟨o, x₄ _ _ (x₃ _ _ ho)⟩
    · obtain ⟨h1, h2⟩ := hm x d hx
      obtain ⟨v, as, hv, hr, ho⟩ := I.vars x d h2
      refine ⟨v, as, CF.vars x v h1 hv, hr.ext xx, fun a ha hx => ?_⟩
      obtain ⟨o, hd⟩ := hr.dom a ha
      rcases hx with (hx | hx) | hx
      · exact ho a ha hx
      · rw [hx.1] at hd; cases hd
      · rw [hx, T.new] at hd; cases hd
  have C₄ : CompIn K s.heap (fun a => X₀ a ∨ a = t.I) own cenv D h₄ :=
    { frame := CF.frame, base := I.ok.ext, ownX := fun a h1 h2 => .inl (.inr ⟨h1, .inr h2⟩), has := fun x hx => let ⟨a, h1, h2⟩ := CF.has x hx; ⟨a, h1, x₂.none (x₃.none h2)⟩,
      newD := bD, XD := .inl (.inr ⟨bD, .inl rfl⟩), ext := xx }
  refine codeAny_compStart h0 rfl ?_ fun Q' E' hq => t.W.self 0 _ _ _ T₄.st hq
  refine loop_ok (s := { s with heap := h₄, toks := tk }) (X₀ := X₀) (b := s.heap) (b₀ := s.heap) h0 hG turns t I₄ C₄ P₄ T₄ (fun a ha => .inr ha) T.new (by simpa using hsz) fun h' tk' zs as e' C' I' P' rd off new => ?_
  obtain ⟨m, hmC⟩ := C'.frame.ns
  have hCl : s.heap.get? cenv.locals = none := x₂.none (x₃.none CF.locals)
  have hDC : D ≠ cenv.locals := fun q => PlainList.not_frame P' C'.frame (q ▸ .inl rfl)
  have xe : Ext s.heap h' := fun a o ho => e' a o (fun w => w.elim (fun w => by rw [w.1] at ho; cases ho) fun w => by rw [w, T.new] at ho; cases ho) (xx a o ho)
  refine q h' tk' D cenv.locals as m xe ?_ (fun a ha => ?_) bD (fun hfr => ?_) hmC hCl
  · obtain ⟨n', ho⟩ := P'
    exact .list (by simpa using ho) rd
  · rcases List.mem_cons.mp ha with rfl | ha
    · refine ⟨fun hx => ?_, hDC⟩
      obtain ⟨o, ho⟩ := I.dom _ hx; rw [bD] at ho; cases ho
    · exact ⟨fun hx => (off a ha).1 (.inl hx), fun e => (off a ha).1 (.inr ⟨e ▸ hCl, .inr (.inl e)⟩)⟩
  · obtain ⟨n1, n2⟩ := new hfr
    refine ⟨List.nodup_cons.mpr ⟨fun hm => (off D hm).1 (.inr ⟨bD, .inl rfl⟩), n1⟩, fun a ha => ?_⟩
    rcases List.mem_cons.mp ha with rfl | ha
    · exact bD
    · exact xx.none (n2 a ha)
end

theorem Ev.comp {K n sc own elt gens rest scope pos tgt iter ifs ρ ρ' fr} {F : List (PyData × List PyData)} (hg : gens = ⟨tgt, iter, ifs, 0⟩ :: rest) (hG : GensOk gens) (S : ScopeOk scope sc own)
    (hm : ∀ x d, ρ'.lookup x = some d → scope.names.lookup x = some .free ∧ ρ.lookup x = some d)
    (hit : EvIt K n sc ρ iter (F.map (·.1))) (turns : ∀ p ∈ F, TurnOk K n (relabelS scope sc) own elt gens scope pos 0 tgt ifs ρ' p.1 p.2 fr) (hsz : (F.flatMap (·.2)).length ≤ sizeLine) :
    Ev K n sc ρ (.ListComp elt gens scope pos) (.py (.list (F.flatMap (·.2)))) fr := Hide.mk fun {A env s X E} I => by
  rw [eval_ListComp]
  have e1 : firstAsync gens = false := by rw [hg]; rfl
  have e2 : firstIter gens env = eval iter env := by rw [hg]; rfl
  rw [e1, e2]
  refine comp_core (use := none) hg hG S hm hit turns hsz I fun h' tk D C as m xe rd off bD new hn hC => ?_
  refine ⟨m, hn, fun h'' hs => ?_⟩
  have eC := Eff.of_sameBut hs
  have nt : ∀ a, a = C → NoTup h' a := fun a ha xs k e => by
    subst ha; obtain ⟨o, es, ep, ho, hd, _⟩ := hn; rw [ho] at e; cases e; cases hd
  refine ⟨h'', tk, D :: as, rfl, eC.ext xe fun a ha => ha ▸ hC, Rd.off rd (eC.off (fun a ha e => (off a ha).2 e) nt), fun a ha => (off a ha).1, new⟩
end Mine

namespace Mine

section
variable {K : Cx} {n : Nat} {sc : Scope} {ρ : List (Str × D)} {a b : Expr} {pos : Pos} {fa fb : Bool} {x y : Int}

theorem Ev.op2 {op : Operator} {da db : PyData} {d : PyData} (ha : Ev K n sc ρ a (.py da) fa) (hb : Ev K n sc ρ b (.py db) fb)
    (h : ∀ {A : Around} {s : Shared} {X : Addr → Prop} {E} {va vb as bs}, Room A n → K.Ok s.heap → Rd s.heap va da as → Rd s.heap vb db bs →
      (∀ a, X a → ∃ o, s.heap.get? a = some o) → (∀ a ∈ as, ¬ X a) → (∀ a ∈ bs, ¬ X a) →
      wpAny (model K.prog K.w) A (binaryOp op va vb) (Post K s X (.py d) true) E s) :
    Ev K n sc ρ (.BinOp a op b pos) (.py d) true := Hide.mk fun {A env s X E} I => by
  refine wpAny_BinOp (Ev.then ha hb I fun va vb h₁ h₂ tk as bs ga gb => ?_)
  have x₂ := ga.ext.trans gb.ext
  refine wpAny_mono (h (s := { s with heap := h₂, toks := tk }) (X := X) I.room (I.ok.mono x₂) (Rd.ext ga.rd gb.ext) gb.rd (fun a ha => let ⟨o, ho⟩ := I.dom a ha; ⟨o, x₂ a o ho⟩) ga.off gb.off) (fun v s' p => ?_) fun _ _ x => x
  obtain ⟨h', tk', cs, rfl, g⟩ := p
  exact ⟨h', tk', cs, rfl, x₂.trans g.ext, g.rd, g.off, fun hf => ⟨(g.new hf).1, fun c hc => x₂.none ((g.new hf).2 c hc)⟩⟩

theorem Ev.addI (ha : Ev K n sc ρ a (.py (.int x)) fa) (hb : Ev K n sc ρ b (.py (.int y)) fb) : Ev K n sc ρ (.BinOp a .Add b pos) (.py (.int (x + y))) true :=
  Ev.op2 ha hb fun {A s X E va vb as bs} _ _ ra rb _ _ _ => by cases ra; cases rb; exact add_int (Post.flat (.refl _) (.int ..))
theorem Ev.subI (ha : Ev K n sc ρ a (.py (.int x)) fa) (hb : Ev K n sc ρ b (.py (.int y)) fb) : Ev K n sc ρ (.BinOp a .Sub b pos) (.py (.int (x - y))) true :=
  Ev.op2 ha hb fun {A s X E va vb as bs} _ _ ra rb _ _ _ => by cases ra; cases rb; exact sub_int (Post.flat (.refl _) (.int ..))
theorem Ev.mulI (ha : Ev K n sc ρ a (.py (.int x)) fa) (hb : Ev K n sc ρ b (.py (.int y)) fb) (hm : IntMulOk x y) : Ev K n sc ρ (.BinOp a .Mult b pos) (.py (.int (x * y))) true :=
  Ev.op2 ha hb fun {A s X E va vb as bs} _ _ ra rb _ _ _ => by cases ra; cases rb; exact mul_int (Post.flat (.refl _) (.int ..)) hm
theorem Ev.divI (ha : Ev K n sc ρ a (.py (.int x)) fa) (hb : Ev K n sc ρ b (.py (.int y)) fb) (hy : 0 < y) (hs : y < 1073741824) : Ev K n sc ρ (.BinOp a .FloorDiv b pos) (.py (.int (x / y))) true :=
  Ev.op2 ha hb fun {A s X E va vb as bs} _ _ ra rb _ _ _ => by
    cases ra; cases rb
    refine floordiv_int (by omega) ?_ (.inl (PyProof.noPylong_small (by omega)))
    rw [Int.fdiv_eq_ediv_of_nonneg _ (by omega)]
    exact Post.flat (.refl _) (.int ..)
theorem Ev.modI (ha : Ev K n sc ρ a (.py (.int x)) fa) (hb : Ev K n sc ρ b (.py (.int y)) fb) (hy : 0 < y) : Ev K n sc ρ (.BinOp a .Mod b pos) (.py (.int (x % y))) true :=
  Ev.op2 ha hb fun {A s X E va vb as bs} _ _ ra rb _ _ _ => by
    cases ra; cases rb
    refine mod_int' (by omega) ?_
    rw [Int.fmod_eq_emod_of_nonneg _ (by omega)]
    exact Post.flat (.refl _) (.int ..)

/-- lists put together -/
theorem Ev.addL {xs ys : List PyData} (ha : Ev K n sc ρ a (.py (.list xs)) fa) (hb : Ev K n sc ρ b (.py (.list ys)) fb) (hsz : xs.length + ys.length ≤ sizeLine) :
    Ev K n sc ρ (.BinOp a .Add b pos) (.py (.list (xs ++ ys))) (fa && fb) := Hide.mk fun {A env s X E} I => by
  refine wpAny_BinOp (Ev.then ha hb I fun va vb h₁ h₂ tk as bs ga gb => ?_)
  have x₂ := ga.ext.trans gb.ext
  have ra : Rd h₂ va (.list xs) as := Rd.ext ga.rd gb.ext
  have rb : Rd h₂ vb (.list ys) bs := gb.rd
  have na := ga.new; have nb := gb.new; have oa := ga.off; have ob := gb.off
  have da : ∀ c ∈ as, ∃ o, h₁.get? c = some o := ga.rd.dom
  cases ra with
  | @list l vs k _ as ea ra =>
  cases rb with
  | @list r ws k' _ bs eb rb =>
    refine P.add_list (n := k) (n2 := k') ea eb ?_ (by simp [ra.length, rb.length]; exact hsz)
    refine ⟨_, tk, h₂.objs.size :: (as ++ bs), rfl, x₂.trans (Ext.push _ _), ?_, fun c hc => ?_, fun hf => ?_⟩
    · refine Rd.list (vs := vs ++ ws) (n := 0) ?_ ((ra.ext (Ext.push _ _)).append (rb.ext (Ext.push _ _)))
      have := Heap.get?_push_size h₂ (o := { cls := .type "list", data := .seq (vs.toArray ++ ws.toArray) }) rfl
      simpa using this
    · rcases List.mem_cons.mp hc with rfl | hc
      · intro hx; obtain ⟨o, ho⟩ := I.dom _ hx; have := x₂ _ _ ho; rw [push_new] at this; cases this
      · rcases List.mem_append.mp hc with hc | hc
        · exact oa c (.tail _ hc)
        · exact ob c (.tail _ hc)
    · rw [Bool.and_eq_true] at hf
      obtain ⟨n1, m1⟩ := na hf.1
      obtain ⟨n2, m2⟩ := nb hf.2
      refine ⟨List.nodup_cons.mpr ⟨fun hm => ?_, nodup_append (List.nodup_cons.mp n1).2 (List.nodup_cons.mp n2).2 fun c hc hd => ?_⟩, fun c hc => ?_⟩
      · rcases List.mem_append.mp hm with hm | hm
        · obtain ⟨o, ho⟩ := ra.dom _ hm; rw [push_new] at ho; cases ho
        · obtain ⟨o, ho⟩ := rb.dom _ hm; rw [push_new] at ho; cases ho
      · obtain ⟨o, ho⟩ := da c (.tail _ hc); rw [m2 c (.tail _ hd)] at ho; cases ho
      · rcases List.mem_cons.mp hc with rfl | hc
        · exact x₂.none (push_new _)
        · rcases List.mem_append.mp hc with hc | hc
          · exact m1 c (.tail _ hc)
          · exact ga.ext.none (m2 c (.tail _ hc))
/-- lists of ints put together: the new one is its own -/
theorem Ev.addLI {xs ys : List Int} (ha : Ev K n sc ρ a (.py (iL xs)) fa) (hb : Ev K n sc ρ b (.py (iL ys)) fb) (hsz : xs.length + ys.length ≤ sizeLine) :
    Ev K n sc ρ (.BinOp a .Add b pos) (.py (iL (xs ++ ys))) true :=
  Ev.op2 ha hb fun {A s X E va vb as bs} _ _ ra rb hX _ _ => by
    cases ra with
    | @list l vs k _ as ea ra =>
    cases rb with
    | @list r ws k' _ bs eb rb =>
      obtain rfl := ra.iL_nil
      obtain rfl := rb.iL_nil
      have e1 := ra.length; have e2 := rb.length
      simp only [List.length_map] at e1 e2
      refine P.add_list (n := k) (n2 := k') ea eb ?_ (by simp [e1, e2]; exact hsz)
      refine ⟨_, s.toks, [s.heap.objs.size], rfl, Ext.push _ _, ?_, fun c hc hx => ?_, fun _ => ⟨by simp, fun c hc => ?_⟩⟩
      · show Rd _ _ (.list ((xs ++ ys).map .int)) _
        rw [List.map_append]
        refine Rd.list (vs := vs ++ ws) (n := 0) ?_ (by simpa using (ra.ext (Ext.push _ _)).append (rb.ext (Ext.push _ _)))
        have := Heap.get?_push_size s.heap (o := { cls := .type "list", data := .seq (vs.toArray ++ ws.toArray) }) rfl
        simpa using this
      · rw [List.mem_singleton.mp hc] at hx; obtain ⟨o, ho⟩ := hX _ hx; rw [push_new] at ho; cases ho
      · rw [List.mem_singleton.mp hc]; exact push_new _

theorem Ev.negI (ha : Ev K n sc ρ a (.py (.int x)) fa) : Ev K n sc ρ (.UnaryOp .USub a pos) (.py (.int (-x))) true := Hide.mk fun {A env s X E} I => by
  refine UnaryOp_ (wpAny_mono (ha.run I) (fun v s₁ p => ?_) fun _ _ x => x)
  obtain ⟨h₁, tk, as, rfl, g⟩ := p
  have ra : Rd h₁ v (.int x) as := g.rd
  cases ra
  exact neg_int (Post.flat g.ext (.int ..))
end
end Mine

namespace Mine

/-! ### comparisons -/
def CmpOk (K : Cx) (n : Nat) (op : CmpOp) (da db : D) (r : Bool) : Prop := Hide <|
  ∀ {A : Around} {s : Shared} {E : Value → Shared → Prop} {Q : Value → Shared → Prop} {va vb : Value} {as bs : List Addr}, Room A n → K.Ok s.heap → RdD K s.heap va da as → RdD K s.heap vb db bs →
    (∀ tk, Q (.bool r) { s with toks := tk }) → wpAny (model K.prog K.w) A (compareOp op va vb) Q E s

section
variable {K : Cx} {n : Nat} {sc : Scope} {ρ : List (Str × D)} {a b : Expr} {pos : Pos} {fa fb : Bool} {x y : Int} {op : CmpOp} {da db : D} {r : Bool}

theorem Ev.cmp (ha : Ev K n sc ρ a da fa) (hb : Ev K n sc ρ b db fb) (h : CmpOk K n op da db r) (hm : behindInMarks op b = false := by rfl) : Ev K n sc ρ (.Compare a [op] [b] pos) (.py (.bool r)) true :=
  Hide.mk fun {A env s X E} I => by
  refine wpAny_Compare1 (Ev.then ha hb I fun va vb h₁ h₂ tk as bs ga gb => ?_) hm
  have x₂ := ga.ext.trans gb.ext
  exact h.run (s := { s with heap := h₂, toks := tk }) I.room (I.ok.mono x₂) (ga.rd.ext gb.ext) gb.rd fun tk' => Post.flat x₂ (.bool r)
theorem Tr.cmp (ha : Ev K n sc ρ a da fa) (hb : Ev K n sc ρ b db fb) (h : CmpOk K n op da db r) (hm : behindInMarks op b = false := by rfl) : Tr K n sc ρ (.Compare a [op] [b] pos) r :=
  Hide.mk fun {A env s X E} I => by
  refine wpAny_isTrue_Compare1 (Ev.then ha hb I fun va vb h₁ h₂ tk as bs ga gb => ?_) hm
  have x₂ := ga.ext.trans gb.ext
  exact h.run (s := { s with heap := h₂, toks := tk }) I.room (I.ok.mono x₂) (ga.rd.ext gb.ext) gb.rd fun tk' => wpAny_truthy_bool ⟨rfl, h₂, tk', rfl, x₂⟩

theorem CmpOk.cast {r' : Bool} (h : CmpOk K n op da db r) (q : r = r') : CmpOk K n op da db r' := q ▸ h
theorem CmpOk.eqI : CmpOk K n .Eq (.py (.int x)) (.py (.int y)) (x == y) := Hide.mk fun {A s E Q va vb as bs} _ _ ra rb h => by
  cases ra; cases rb; exact eq_int (h s.toks)
theorem CmpOk.neI : CmpOk K n .NotEq (.py (.int x)) (.py (.int y)) (x != y) := Hide.mk fun {A s E Q va vb as bs} _ _ ra rb h => by
  cases ra; cases rb; exact ne_int (h s.toks)
theorem CmpOk.ltI : CmpOk K n .Lt (.py (.int x)) (.py (.int y)) (decide (x < y)) := Hide.mk fun {A s E Q va vb as bs} _ _ ra rb h => by
  cases ra; cases rb; exact lt_int (h s.toks)
theorem CmpOk.leI : CmpOk K n .LtE (.py (.int x)) (.py (.int y)) (decide (x ≤ y)) := Hide.mk fun {A s E Q va vb as bs} _ _ ra rb h => by
  cases ra; cases rb; exact le_int (h s.toks)
theorem CmpOk.gtI : CmpOk K n .Gt (.py (.int x)) (.py (.int y)) (decide (y < x)) := Hide.mk fun {A s E Q va vb as bs} _ _ ra rb h => by
  cases ra; cases rb; exact gt_int (h s.toks)
theorem CmpOk.geI : CmpOk K n .GtE (.py (.int x)) (.py (.int y)) (decide (y ≤ x)) := Hide.mk fun {A s E Q va vb as bs} _ _ ra rb h => by
  cases ra; cases rb; exact ge_int (h s.toks)

def Shp (d : PyData) : Prop := SeqAt.shaped d = true
theorem CmpOk.eqD {p q : PyData} (hp : Shp p) (hq : Shp q) : CmpOk K n .Eq (.py p) (.py q) (PyData.eqv p q) := Hide.mk fun {A s E Q va vb as bs} ro _ ra rb h =>
  SeqAt.compareEq_shaped (Rd.reads ra) (Rd.reads rb) hp hq (by have := ro.units; omega) (h s.toks)
theorem CmpOk.neD {p q : PyData} (hp : Shp p) (hq : Shp q) : CmpOk K n .NotEq (.py p) (.py q) (!PyData.eqv p q) := Hide.mk fun {A s E Q va vb as bs} ro _ ra rb h =>
  SeqAt.compareNe_shaped (Rd.reads ra) (Rd.reads rb) hp hq (by have := ro.units; omega) (h s.toks)
theorem CmpOk.inL {p : PyData} {ds : List PyData} (hp : Shp p) (hq : Shp (.list ds)) : CmpOk K n .In (.py p) (.py (.list ds)) (ds.any fun y => PyData.eqv y p) := Hide.mk fun {A s E Q va vb as bs} ro _ ra rb h => by
  refine SeqAt.in_list_reads (Rd.reads rb) (Rd.reads ra) (by have := SeqAt.canLay_of_shaped hq; simpa [PyData.canLay0] using this) (SeqAt.canLay_of_shaped hp) ?_ (h s.toks)
  have h1 := SeqAt.depth_of_shaped hp
  have h2 := ro.units
  have := Nat.min_le_right (PyData.depthAll ds) p.depth
  omega
theorem CmpOk.notInL {p : PyData} {ds : List PyData} (hp : Shp p) (hq : Shp (.list ds)) : CmpOk K n .NotIn (.py p) (.py (.list ds)) (!ds.any fun y => PyData.eqv y p) := Hide.mk fun {A s E Q va vb as bs} ro _ ra rb h => by
  refine SeqAt.notIn_list_reads (Rd.reads rb) (Rd.reads ra) (by have := SeqAt.canLay_of_shaped hq; simpa [PyData.canLay0] using this) (SeqAt.canLay_of_shaped hp) ?_ (h s.toks)
  have h1 := SeqAt.depth_of_shaped hp
  have h2 := ro.units
  have := Nat.min_le_right (PyData.depthAll ds) p.depth
  omega

theorem CmpOk.inS {xs : List Int} : CmpOk K n .In (.py (.int x)) (.set xs) (decide (x ∈ xs)) := Hide.mk fun {A s E Q va vb as bs} ro _ ra rb h => by
  cases ra
  obtain ⟨a, rfl, _, _, hS⟩ := rb
  exact wpAny_inSet_of (knd := intKind K.prog K.w) (intKind_is _ _ _ _) rfl hS (h _)
theorem CmpOk.notInS {xs : List Int} : CmpOk K n .NotIn (.py (.int x)) (.set xs) (!decide (x ∈ xs)) := Hide.mk fun {A s E Q va vb as bs} ro _ ra rb h => by
  cases ra
  obtain ⟨a, rfl, _, _, hS⟩ := rb
  exact wpAny_notInSet_of (knd := intKind K.prog K.w) (intKind_is _ _ _ _) rfl hS (h _)

theorem valueAt_zip_isSome (ks : List Int) (vs : List Value) (h : vs.length = ks.length) (x : Int) : (valueAt (ks.zip vs) x).isSome = decide (x ∈ ks) := by
  induction ks generalizing vs with
  | nil => simp [valueAt]
  | cons k ks ih =>
    cases vs with
    | nil => simp at h
    | cons v vs =>
      have := ih vs (by simpa using h)
      simp only [valueAt, List.zip_cons_cons, List.find?_cons] at this ⊢
      by_cases e : k = x
      · subst e; simp
      · simp only [e, decide_false, List.mem_cons]
        rw [this]
        have e' : ¬ x = k := fun q => e q.symm
        simp [e']
theorem CmpOk.inD {kvs : List (Int × PyData)} : CmpOk K n .In (.py (.int x)) (.dict kvs) (decide (x ∈ kvs.map (·.1))) := Hide.mk fun {A s E Q va vb as bs} ro _ ra rb h => by
  cases ra
  obtain ⟨a, vs, as', rfl, _, hs, hl, hd, _⟩ := rb
  refine wpAny_in_of (knd := intKind K.prog K.w) (intKind_is _ _ _ _) hs hd.mapOf ?_
  rw [valueAt_zip_isSome _ _ (by simpa using hl)]
  exact h _
theorem CmpOk.notInD {kvs : List (Int × PyData)} : CmpOk K n .NotIn (.py (.int x)) (.dict kvs) (!decide (x ∈ kvs.map (·.1))) := Hide.mk fun {A s E Q va vb as bs} ro _ ra rb h => by
  cases ra
  obtain ⟨a, vs, as', rfl, _, hs, hl, hd, _⟩ := rb
  refine wpAny_notIn_of (knd := intKind K.prog K.w) (intKind_is _ _ _ _) hs hd.mapOf ?_
  rw [valueAt_zip_isSome _ _ (by simpa using hl)]
  exact h _

def isNoneD : PyData → Bool | .none => true | _ => false
theorem CmpOk.isNone {p : PyData} : CmpOk K n .Is (.py p) (.py .none) (isNoneD p) := Hide.mk fun {A s E Q va vb as bs} ro _ ra rb h => by
  cases rb
  refine is_none_gen ?_
  have e : (va == Value.none) = isNoneD p := by cases ra <;> rfl
  rw [e]; exact h s.toks

/-! ### tests -/
theorem Tr.not {b : Bool} (h : Tr K n sc ρ a b) : Tr K n sc ρ (.UnaryOp .Not a pos) (!b) := Hide.mk fun I =>
  isTrue_not (wpAny_mono (h.run I) (fun c s' ⟨e, r⟩ => ⟨by rw [e], r⟩) fun _ _ x => x)
def TruthOk (K : Cx) (n : Nat) (d : D) (r : Bool) : Prop := Hide <|
  ∀ {A : Around} {s : Shared} {E : Value → Shared → Prop} {Q : Bool → Shared → Prop} {v : Value} {as : List Addr}, Room A n → K.Ok s.heap → RdD K s.heap v d as →
    (∀ tk, Q r { s with toks := tk }) → wpAny (model K.prog K.w) A (truthy v) Q E s
theorem TruthOk.bool {b : Bool} : TruthOk K n (.py (.bool b)) b := Hide.mk fun {A s E Q v as} _ _ r h => by cases r; exact wpAny_truthy_bool (h s.toks)
theorem TruthOk.list {ds : List PyData} (hsz : ds.length ≤ sizeLine) : TruthOk K n (.py (.list ds)) (!ds.isEmpty) := Hide.mk fun {A s E Q v as} _ _ r h => by
  cases r with
  | @list l vs k _ as e r =>
    have hl := r.length
    refine wpAny_truthy_list (items := vs.toArray) ⟨_, e, rfl, _, rfl⟩ ?_ ?_
    · rw [sizeLine_eq] at hsz; simp only [List.size_toArray]; omega
    · have : (vs.toArray.isEmpty) = ds.isEmpty := by
        cases vs <;> cases ds <;> simp_all
      rw [this]; exact h _
theorem Tr.val {d : D} {r : Bool} (h : Ev K n sc ρ a d fa) (t : TruthOk K n d r)
    (he : ∀ env whole, isTrue a env whole = (do let v ← whole; standAt a.pos; holding [v] (truthy v)) := by intro _ _; rfl) : Tr K n sc ρ a r := Hide.mk fun {A env s X E} I => by
  refine isTrue_plain (wpAny_mono (h.run I) (fun v s₁ p => ?_) fun _ _ x => x) (he _ _)
  obtain ⟨h₁, tk, as, rfl, g⟩ := p
  exact t.run (s := { s with heap := h₁, toks := tk }) I.room (I.ok.mono g.ext) g.rd fun tk' => ⟨rfl, h₁, tk', rfl, g.ext⟩

/-- a list of tests, all of them (and) or one of them (or) -/
theorem Tr.andNil : Tr K n sc ρ (.BoolOp .And [] pos) true := Hide.mk fun {A env s X E} I => isTrue_and_nil ⟨rfl, s.heap, s.toks, shared_eta s, .refl _⟩
theorem Tr.orNil : Tr K n sc ρ (.BoolOp .Or [] pos) false := Hide.mk fun {A env s X E} I => isTrue_or_nil ⟨rfl, s.heap, s.toks, shared_eta s, .refl _⟩
theorem Tr.andCons {b c : Bool} {rest : List Expr} (h : Tr K n sc ρ a b) (h' : b = true → Tr K n sc ρ (.BoolOp .And rest pos) c) : Tr K n sc ρ (.BoolOp .And (a :: rest) pos) (b && c) := Hide.mk fun {A env s X E} I => by
  refine isTrue_and (wpAny_mono (h.run I) (fun b' s' p => ?_) fun _ _ x => x)
  obtain ⟨rfl, h₁, tk, rfl, x₁⟩ := p
  cases b' with
  | false => exact ⟨rfl, h₁, tk, rfl, x₁⟩
  | true =>
    rw [if_pos rfl]
    refine wpAny_mono ((h' rfl).run (s := { s with heap := h₁, toks := tk }) (I.ext x₁)) (fun c' s' p => ?_) fun _ _ x => x
    obtain ⟨rfl, h₂, tk', rfl, x₂⟩ := p
    exact ⟨by simp, h₂, tk', rfl, x₁.trans x₂⟩
theorem Tr.orCons {b c : Bool} {rest : List Expr} (h : Tr K n sc ρ a b) (h' : b = false → Tr K n sc ρ (.BoolOp .Or rest pos) c) : Tr K n sc ρ (.BoolOp .Or (a :: rest) pos) (b || c) := Hide.mk fun {A env s X E} I => by
  refine isTrue_or (wpAny_mono (h.run I) (fun b' s' p => ?_) fun _ _ x => x)
  obtain ⟨rfl, h₁, tk, rfl, x₁⟩ := p
  cases b' with
  | true => exact ⟨rfl, h₁, tk, rfl, x₁⟩
  | false =>
    rw [if_neg Bool.false_ne_true]
    refine wpAny_mono ((h' rfl).run (s := { s with heap := h₁, toks := tk }) (I.ext x₁)) (fun c' s' p => ?_) fun _ _ x => x
    obtain ⟨rfl, h₂, tk', rfl, x₂⟩ := p
    exact ⟨by simp, h₂, tk', rfl, x₁.trans x₂⟩
end
end Mine

namespace Mine

section
variable {K : Cx} {n : Nat} {sc : Scope} {ρ : List (Str × D)} {a b c : Expr} {pos : Pos} {fa fb fr : Bool} {x y : Int}

/-! ### and, or, not, if as values -/
theorem Ev.not {d : D} {r : Bool} (ha : Ev K n sc ρ a d fa) (t : TruthOk K n d r) : Ev K n sc ρ (.UnaryOp .Not a pos) (.py (.bool (!r))) true := Hide.mk fun {A env s X E} I => by
  refine UnaryOp_ (wpAny_mono (ha.run I) (fun v s₁ p => ?_) fun _ _ x => x)
  obtain ⟨h₁, tk, as, rfl, g⟩ := p
  exact not_of (t.run (s := { s with heap := h₁, toks := tk }) I.room (I.ok.mono g.ext) g.rd fun tk' => Post.flat g.ext (.bool _))
theorem Ev.and {p q : Bool} (ha : Ev K n sc ρ a (.py (.bool p)) fa) (hb : p = true → Ev K n sc ρ b (.py (.bool q)) fb) : Ev K n sc ρ (.BoolOp .And [a, b] pos) (.py (.bool (p && q))) true := Hide.mk fun {A env s X E} I => by
  refine BoolOp_and (wpAny_mono (ha.run I) (fun v s₁ t => ?_) fun _ _ x => x)
  obtain ⟨h₁, tk, as, rfl, g⟩ := t
  have ra : Rd h₁ v (.bool p) as := g.rd
  cases ra
  refine wpAny_truthy_bool ?_
  cases p with
  | false => exact Post.flat g.ext (.bool _)
  | true =>
    rw [if_pos rfl]
    refine BoolOp_one (wpAny_mono ((hb rfl).run (s := { s with heap := h₁, toks := tk }) (I.ext g.ext)) (fun v s₂ t => ?_) fun _ _ x => x)
    obtain ⟨h₂, tk', bs, rfl, g'⟩ := t
    have rb : Rd h₂ v (.bool q) bs := g'.rd
    cases rb
    exact Post.flat (g.ext.trans g'.ext) (.bool _)
theorem Ev.or {p q : Bool} (ha : Ev K n sc ρ a (.py (.bool p)) fa) (hb : p = false → Ev K n sc ρ b (.py (.bool q)) fb) : Ev K n sc ρ (.BoolOp .Or [a, b] pos) (.py (.bool (p || q))) true := Hide.mk fun {A env s X E} I => by
  refine BoolOp_or (wpAny_mono (ha.run I) (fun v s₁ t => ?_) fun _ _ x => x)
  obtain ⟨h₁, tk, as, rfl, g⟩ := t
  have ra : Rd h₁ v (.bool p) as := g.rd
  cases ra
  refine wpAny_truthy_bool ?_
  cases p with
  | true => exact Post.flat g.ext (.bool _)
  | false =>
    rw [if_neg Bool.false_ne_true]
    refine BoolOp_one (wpAny_mono ((hb rfl).run (s := { s with heap := h₁, toks := tk }) (I.ext g.ext)) (fun v s₂ t => ?_) fun _ _ x => x)
    obtain ⟨h₂, tk', bs, rfl, g'⟩ := t
    have rb : Rd h₂ v (.bool q) bs := g'.rd
    cases rb
    exact Post.flat (g.ext.trans g'.ext) (.bool _)

theorem Post.after {s : Shared} {X : Addr → Prop} {d : D} {v : Value} {s' : Shared} {h₁ : Heap} {tk : Nat} (x : Ext s.heap h₁) (p : Post K { s with heap := h₁, toks := tk } X d fr v s') : Post K s X d fr v s' := by
  obtain ⟨h₂, tk', as, rfl, g⟩ := p
  exact ⟨h₂, tk', as, rfl, x.trans g.ext, g.rd, g.off, fun hf => ⟨(g.new hf).1, fun c hc => x.none ((g.new hf).2 c hc)⟩⟩

theorem Ev.ifExp {r : Bool} {d : D} (ht : Tr K n sc ρ c r) (ha : r = true → Ev K n sc ρ a d fr) (hb : r = false → Ev K n sc ρ b d fr) : Ev K n sc ρ (.IfExp c a b pos) d fr := Hide.mk fun {A env s X E} I => by
  refine IfExp_ (wpAny_mono (ht.run I) (fun v s₁ t => ?_) fun _ _ x => x)
  obtain ⟨rfl, h₁, tk, rfl, x₁⟩ := t
  cases v with
  | true => exact wpAny_mono ((ha rfl).run (s := { s with heap := h₁, toks := tk }) (I.ext x₁)) (fun v s' p => Post.after x₁ p) fun _ _ x => x
  | false => exact wpAny_mono ((hb rfl).run (s := { s with heap := h₁, toks := tk }) (I.ext x₁)) (fun v s' p => Post.after x₁ p) fun _ _ x => x

/-! ### rows of expressions: displays, arguments -/
def EvAll (K : Cx) (n : Nat) (sc : Scope) (ρ : List (Str × D)) (es : List Expr) (ds : List PyData) (fr : Bool) : Prop := Hide <|
  ∀ {A : Around} {env : Env} {s : Shared} {X : Addr → Prop} {E : Value → Shared → Prop} {Q : List Value → Shared → Prop} {pos : Pos}, In K n sc X ρ A env s.heap →
    (∀ vs h' tk as, Ext s.heap h' → RdAll h' vs ds as → (∀ a ∈ as, ¬ X a) → (fr = true → as.Nodup ∧ ∀ a ∈ as, s.heap.get? a = none) → Q vs { s with heap := h', toks := tk }) →
    wpAny (model K.prog K.w) A (spliced (backTo pos (starEach es env))) Q E s
theorem EvAll.nil : EvAll K n sc ρ [] [] true := Hide.mk fun {A env s X E Q pos} I k => by
  refine args_nil ?_
  have := k [] s.heap s.toks [] (.refl _) .nil nofun fun _ => ⟨.nil, nofun⟩
  exact this
theorem EvAll.cons {e : Expr} {es : List Expr} {d : PyData} {ds : List PyData} {f g : Bool} (h : Ev K n sc ρ e (.py d) f) (hs : EvAll K n sc ρ es ds g)
    (he : ∀ env, starEach (e :: es) env = (false, eval e env) :: starEach es env := by intro _; rfl) : EvAll K n sc ρ (e :: es) (d :: ds) (f && g) := Hide.mk fun {A env s X E Q pos} I k => by
  refine args_cons (wpAny_mono (h.run I) (fun v s₁ p => ?_) fun _ _ x => x) (he env)
  obtain ⟨h₁, tk, as, rfl, ga⟩ := p
  refine hs.run (s := { s with heap := h₁, toks := tk }) (I.ext ga.ext) fun vs h₂ tk' bs x₂ rd off new => ?_
  refine k (v :: vs) h₂ tk' (as ++ bs) (ga.ext.trans x₂) (.cons (Rd.ext ga.rd x₂) rd) (fun c hc => ?_) fun hf => ?_
  · rcases List.mem_append.mp hc with hc | hc
    · exact ga.off c hc
    · exact off c hc
  · rw [Bool.and_eq_true] at hf
    obtain ⟨n1, m1⟩ := ga.new hf.1
    obtain ⟨n2, m2⟩ := new hf.2
    refine ⟨nodup_append n1 n2 fun c hc hd => ?_, fun c hc => ?_⟩
    · obtain ⟨o, ho⟩ := Rd.dom ga.rd c hc; rw [m2 c hd] at ho; cases ho
    · rcases List.mem_append.mp hc with hc | hc
      · exact m1 c hc
      · exact ga.ext.none (m2 c hc)

theorem Ev.list {es : List Expr} {ds : List PyData} (h : EvAll K n sc ρ es ds fr) (hsz : ds.length ≤ sizeLine := by first | decide | simp [sizeLine]) : Ev K n sc ρ (.List es pos) (.py (.list ds)) fr := Hide.mk fun {A env s X E} I => by
  refine List_ (h.run I fun vs h' tk as x rd off new => ?_)
  refine wpAny_newObj_type ?_ (by show vs.toArray.size ≤ sizeLine; rw [List.size_toArray, rd.length]; exact hsz)
  refine ⟨_, tk, h'.objs.size :: as, rfl, x.trans (Ext.push _ _), ?_, fun c hc => ?_, fun hf => ?_⟩
  · exact Rd.list (vs := vs) (n := 0) (Heap.get?_push_size _ rfl) (rd.ext (Ext.push _ _))
  · rcases List.mem_cons.mp hc with rfl | hc
    · intro hx; obtain ⟨o, ho⟩ := I.dom _ hx; have := x _ _ ho; rw [push_new] at this; cases this
    · exact off c hc
  · obtain ⟨n1, m1⟩ := new hf
    refine ⟨List.nodup_cons.mpr ⟨fun hm => ?_, n1⟩, fun c hc => ?_⟩
    · obtain ⟨o, ho⟩ := rd.dom _ hm; rw [push_new] at ho; cases ho
    · rcases List.mem_cons.mp hc with rfl | hc
      · exact x.none (push_new _)
      · exact m1 c hc
theorem Ev.tuple {es : List Expr} {ds : List PyData} {k : Nat} (h : EvAll K n sc ρ es ds fr) (hsz : ds.length ≤ sizeLine := by first | decide | simp [sizeLine]) : Ev K n sc ρ (.Tuple es k pos) (.py (.tuple ds)) fr := Hide.mk fun {A env s X E} I => by
  refine Tuple_ (h.run I fun vs h' tk as x rd off new => ?_)
  refine wpAny_newObj_type ?_ (by show vs.toArray.size ≤ sizeLine; rw [List.size_toArray, rd.length]; exact hsz)
  refine ⟨_, tk, as, rfl, x.trans (Ext.push _ _), ?_, off, new⟩
  exact Rd.tuple (vs := vs) (n := 0) (Heap.get?_push_size _ rfl) (rd.ext (Ext.push _ _))

/-! ### items -/
theorem Ev.item {ds : List PyData} {i : Int} {d : PyData} (ha : Ev K n sc ρ a (.py (.list ds)) fa) (hb : Ev K n sc ρ b (.py (.int i)) fb) (h0 : 0 ≤ i) (hi : ds[i.toNat]? = some d) (hsz : ds.length ≤ sizeLine)
    (hs : ∀ o j, subscripted b false o j = operate [o, j] (getItem o j) := by intro _ _; rfl) : Ev K n sc ρ (.Subscript a b pos) (.py d) false := Hide.mk fun {A env s X E} I => by
  refine Subscript_ (Ev.then ha hb I fun va vb h₁ h₂ tk as bs ga gb => ?_)
  have x₂ := ga.ext.trans gb.ext
  have ra : Rd h₂ va (.list ds) as := Rd.ext ga.rd gb.ext
  have rb : Rd h₂ vb (.int i) bs := gb.rd
  have oa := ga.off
  cases rb
  cases ra with
  | @list l vs k _ as ea ra =>
    obtain ⟨v, cs, h1, h2, h3⟩ := ra.get' hi
    have hl : ({ s with heap := h₂, toks := tk } : Shared).heap.IsList l vs.toArray := ⟨_, ea, rfl, _, rfl⟩
    have hlt : i.toNat < ds.length := (List.getElem?_eq_some_iff.mp hi).1
    refine tail_any hl.typeIs slot_list_getitem.lookup (wpAny_getItem_list hl h0 (by rw [sizeLine_eq] at hsz; omega) (by simpa using h1) ?_) (hs _ _)
    exact ⟨h₂, tk, cs, rfl, x₂, h2, fun c hc => oa c (.tail _ (h3 c hc)), nofun⟩
theorem Ev.fresh {d : PyData} (h : Ev K n sc ρ a (.py d) fa) (f : Flat d) : Ev K n sc ρ a (.py d) true := Hide.mk fun {A env s X E} I => by
  refine wpAny_mono (h.run I) (fun v s₁ p => ?_) fun _ _ x => x
  obtain ⟨h₁, tk, as, rfl, g⟩ := p
  obtain rfl := Rd.flat g.rd f
  exact Post.flat g.ext g.rd
theorem Ev.itemNeg {ds : List PyData} {i : Int} {d : PyData} (ha : Ev K n sc ρ a (.py (.list ds)) fa) (hb : Ev K n sc ρ b (.py (.int i)) fb) (h0 : i < 0) (h1 : -(ds.length : Int) ≤ i) (hi : ds[(i + ds.length).toNat]? = some d) (hsz : ds.length ≤ sizeLine)
    (hs : ∀ o j, subscripted b false o j = operate [o, j] (getItem o j) := by intro _ _; rfl) : Ev K n sc ρ (.Subscript a b pos) (.py d) false := Hide.mk fun {A env s X E} I => by
  refine Subscript_ (Ev.then ha hb I fun va vb h₁ h₂ tk as bs ga gb => ?_)
  have x₂ := ga.ext.trans gb.ext
  have ra : Rd h₂ va (.list ds) as := Rd.ext ga.rd gb.ext
  have rb : Rd h₂ vb (.int i) bs := gb.rd
  have oa := ga.off
  cases rb
  cases ra with
  | @list l vs k _ as ea ra =>
    obtain ⟨v, cs, h1', h2, h3⟩ := ra.get' hi
    have hl : ({ s with heap := h₂, toks := tk } : Shared).heap.IsList l vs.toArray := ⟨_, ea, rfl, _, rfl⟩
    have hlen := ra.length
    refine tail_any hl.typeIs slot_list_getitem.lookup (wpAny_getItem_list_neg hl h0 (by simp [hlen]; exact h1) (by rw [sizeLine_eq] at hsz; omega) (by simp [hlen]; exact h1') ?_) (hs _ _)
    exact ⟨h₂, tk, cs, rfl, x₂, h2, fun c hc => oa c (.tail _ (h3 c hc)), nofun⟩
end
end Mine

namespace Mine

theorem RdAll.flat_nil {h : Heap} : ∀ {vs : List Value} {ds : List PyData} {as}, RdAll h vs ds as → (∀ d ∈ ds, Flat d) → as = []
  | [], [], _, .nil, _ => rfl
  | _ :: _, _ :: _, _, .cons a b, f => by rw [a.flat (f _ (.head _)), b.flat_nil fun d hd => f d (.tail _ hd)]; rfl

/-- some of the items, picked by place -/
theorem RdAll.drop {h : Heap} : ∀ {vs : List Value} {ds : List PyData} {as} (k : Nat), RdAll h vs ds as → ∃ bs, RdAll h (vs.drop k) (ds.drop k) bs ∧ ∀ b ∈ bs, b ∈ as
  | vs, ds, as, 0, r => ⟨as, r, fun _ h => h⟩
  | _, _, _, k + 1, .nil => ⟨[], .nil, fun _ h => h⟩
  | _, _, _, k + 1, .cons a b => let ⟨bs, r, s⟩ := b.drop k; ⟨bs, r, fun c hc => List.mem_append_right _ (s c hc)⟩
theorem RdAll.take {h : Heap} : ∀ {vs : List Value} {ds : List PyData} {as} (k : Nat), RdAll h vs ds as → ∃ bs, RdAll h (vs.take k) (ds.take k) bs ∧ ∀ b ∈ bs, b ∈ as
  | _, _, _, 0, _ => ⟨[], .nil, nofun⟩
  | _, _, _, k + 1, .nil => ⟨[], .nil, fun _ h => h⟩
  | _, _, _, k + 1, .cons a b => let ⟨bs, r, s⟩ := b.take k
    ⟨_, .cons a r, fun c hc => (List.mem_append.mp hc).elim (fun h => List.mem_append_left _ h) fun h => List.mem_append_right _ (s c h)⟩
theorem RdAll.reverse {h : Heap} : ∀ {vs : List Value} {ds : List PyData} {as}, RdAll h vs ds as → ∃ bs, RdAll h vs.reverse ds.reverse bs ∧ ∀ b ∈ bs, b ∈ as
  | _, _, _, .nil => ⟨[], .nil, fun _ h => h⟩
  | _, _, _, .cons a b => let ⟨bs, r, s⟩ := b.reverse
    ⟨bs ++ _, by simpa using r.append (.one a), fun c hc => (List.mem_append.mp hc).elim (fun h => List.mem_append_right _ (s c h)) fun h => List.mem_append_left _ h⟩

section
variable {K : Cx} {n : Nat} {sc : Scope} {ρ : List (Str × D)} {a b c : Expr} {pos p : Pos} {fa fb fc fr : Bool} {i j : Int} {ds : List PyData}

def EvPart (K : Cx) (n : Nat) (sc : Scope) (ρ : List (Str × D)) (o : Option Expr) (k : Option Int) : Prop := Hide <|
  ∀ {A : Around} {env : Env} {s : Shared} {X : Addr → Prop} {E : Value → Shared → Prop} {Q : Value → Shared → Prop}, In K n sc X ρ A env s.heap →
    (∀ v h' tk, Ext s.heap h' → IsPart v k → Q v { s with heap := h', toks := tk }) → wpAny (model K.prog K.w) A (evalPart o env) Q E s
theorem EvPart.none : EvPart K n sc ρ none none := Hide.mk fun {A env s X E Q} I k => by
  rw [evalPart_none]
  have := k .none s.heap s.toks (.refl _) .none
  exact wpAny_pure this
theorem EvPart.some (h : Ev K n sc ρ a (.py (.int i)) fa) : EvPart K n sc ρ (some a) (some i) := Hide.mk fun {A env s X E Q} I k => by
  rw [evalPart_some]
  refine wpAny_mono (h.run I) (fun v s₁ p => ?_) fun _ _ x => x
  obtain ⟨h₁, tk, as, rfl, g⟩ := p
  have r : Rd h₁ v (.int i) as := g.rd
  cases r
  exact k _ h₁ tk g.ext (.int i _)

theorem Ev.slice {es : List PyData} {lo hi st : Option Expr} {l u t : Option Int} (ha : Ev K n sc ρ a (.py (.list ds)) fa) (hl : EvPart K n sc ρ lo l) (hu : EvPart K n sc ρ hi u) (ht : EvPart K n sc ρ st t) (h0 : t ≠ some 0)
    (hsz : ds.length ≤ sizeLine)
    (pick : ∀ {h : Heap} {vs : List Value} {as}, RdAll h vs ds as → ∃ bs, RdAll h (slicePick vs.toArray l u t).toList es bs ∧ ∀ b ∈ bs, b ∈ as)
    (hf : fr = true → ∀ d ∈ es, Flat d) : Ev K n sc ρ (.Subscript a (.Slice lo hi st p) pos) (.py (.list es)) fr := Hide.mk fun {A env s X E} I => by
  refine Subscript_ (wpAny_mono (ha.run I) (fun va s₁ q => ?_) fun _ _ x => x)
  obtain ⟨h₁, tk, as, rfl, ga⟩ := q
  have I₁ := I.ext ga.ext
  refine wpAny_Slice (hl.run (s := { s with heap := h₁, toks := tk }) I₁ fun vl h₂ tk₂ x₂ pl => hu.run (s := { s with heap := h₂, toks := tk₂ }) (I₁.ext x₂) fun vu h₃ tk₃ x₃ pu => ht.run (s := { s with heap := h₃, toks := tk₃ }) ((I₁.ext x₂).ext x₃) fun vt h₄ tk₄ x₄ pt => ?_)
  have ra : Rd h₁ va (.list ds) as := ga.rd
  have oa := ga.off
  cases ra with
  | @list r vs k _ as ea ra =>
    have xx := x₂.trans (x₃.trans x₄)
    generalize hh5 : h₄.push { cls := .type "slice", data := .fields #[vl, vu, vt] } = h₅
    have x₅ : Ext h₄ h₅ := hh5 ▸ Ext.push _ _
    have hS : h₅.IsSliceOf h₄.objs.size vl vu vt := hh5 ▸ Heap.IsSliceOf.new ..
    have x15 := xx.trans x₅
    have hL : ({ s with heap := h₅, toks := tk₄ } : Shared).heap.IsList r vs.toArray := ⟨_, x15 _ _ ea, rfl, _, rfl⟩
    have ops : ∃ ops, subscripted (.Slice lo hi st p) false (.ref r) (.ref h₄.objs.size) = operate ops (getItem (.ref r) (.ref h₄.objs.size)) := by
      cases st with
      | none => exact ⟨_, rfl⟩
      | some e => exact ⟨_, rfl⟩
    obtain ⟨ops, hops⟩ := ops
    refine tail_any hL.typeIs slot_list_getitem.lookup (wpAny_getItem_list_slice hL hS pl pu pt h0 ?_ (by simp [ra.length]; exact hsz)) hops
    obtain ⟨bs, rb, sb⟩ := pick (ra.ext x15)
    have xs5 : Ext s.heap h₅ := ga.ext.trans x15
    refine ⟨_, tk₄, h₅.objs.size :: bs, rfl, xs5.trans (Ext.push _ _), ?_, fun c hc => ?_, fun hfr => ?_⟩
    · refine Rd.list (vs := (slicePick vs.toArray l u t).toList) (n := 0) ?_ (rb.ext (Ext.push _ _))
      simpa using Heap.get?_push_size h₅ (o := { cls := .type "list", data := .seq (slicePick vs.toArray l u t) }) rfl
    · rcases List.mem_cons.mp hc with rfl | hc
      · intro hx; obtain ⟨o, ho⟩ := I.dom _ hx; have := xs5 _ _ ho; rw [push_new] at this; cases this
      · exact oa c (.tail _ (sb c hc))
    · obtain rfl := rb.flat_nil (hf hfr)
      exact ⟨by simp, fun c hc => by rw [List.mem_singleton.mp hc]; exact xs5.none (push_new _)⟩

theorem Ev.sliceFrom (ha : Ev K n sc ρ a (.py (.list ds)) fa) (hb : Ev K n sc ρ b (.py (.int i)) fb) (h0 : 0 ≤ i) (hsz : ds.length ≤ sizeLine) (hf : fr = true → ∀ d ∈ ds, Flat d) :
    Ev K n sc ρ (.Subscript a (.Slice (some b) none none p) pos) (.py (.list (ds.drop i.toNat))) fr :=
  Ev.slice ha (EvPart.some hb) EvPart.none EvPart.none nofun hsz (fun r => by
    obtain ⟨k, rfl⟩ := Int.eq_ofNat_of_zero_le h0
    show ∃ bs, RdAll _ (slicePick _ (some (k : Int)) none none).toList _ bs ∧ _
    rw [slicePick_from']; exact r.drop k) fun h d hd => hf h d (List.mem_of_mem_drop hd)
theorem Ev.sliceUpto (ha : Ev K n sc ρ a (.py (.list ds)) fa) (hb : Ev K n sc ρ b (.py (.int i)) fb) (h0 : 0 ≤ i) (hsz : ds.length ≤ sizeLine) (hf : fr = true → ∀ d ∈ ds, Flat d) :
    Ev K n sc ρ (.Subscript a (.Slice none (some b) none p) pos) (.py (.list (ds.take i.toNat))) fr :=
  Ev.slice ha EvPart.none (EvPart.some hb) EvPart.none nofun hsz (fun r => by
    obtain ⟨k, rfl⟩ := Int.eq_ofNat_of_zero_le h0
    show ∃ bs, RdAll _ (slicePick _ none (some (k : Int)) none).toList _ bs ∧ _
    rw [slicePick_upto']; exact r.take k) fun h d hd => hf h d (List.mem_of_mem_take hd)
theorem Ev.sliceRev (ha : Ev K n sc ρ a (.py (.list ds)) fa) (hb : Ev K n sc ρ b (.py (.int (-1))) fb) (hsz : ds.length ≤ sizeLine) (hf : fr = true → ∀ d ∈ ds, Flat d) :
    Ev K n sc ρ (.Subscript a (.Slice none none (some b) p) pos) (.py (.list ds.reverse)) fr :=
  Ev.slice ha EvPart.none EvPart.none (EvPart.some hb) (by decide) hsz (fun r => by
    rw [krv_pick]; exact r.reverse) fun h d hd => hf h d (List.mem_reverse.mp hd)
theorem slicePick_run' (items : Array Value) (x y : Nat) : slicePick items (some (x : Int)) (some (y : Int)) none = ((items.toList.drop x).take (y - x)).toArray := by
  by_cases hx : x ≤ items.size
  · by_cases hy : y ≤ items.size
    · by_cases hxy : x ≤ y
      · exact slicePick_run items x y hy hxy
      · have h0 : y - x = 0 := by omega
        have := kmk_pick_nat (lo := some (x : Int)) (hi := some (y : Int)) items (a := x) (b := y) (by
          simp only [sliceBounds, Option.getD_none]; simp; omega)
        exact this
    · have := kmk_pick_nat (lo := some (x : Int)) (hi := some (y : Int)) items (a := x) (b := items.size) (by
          simp only [sliceBounds, Option.getD_none]; simp; omega)
      rw [this]
      congr 1
      rw [List.take_of_length_le, List.take_of_length_le] <;> simp <;> omega
  · have := kmk_pick_nat (lo := some (x : Int)) (hi := some (y : Int)) items (a := items.size) (b := min y items.size) (by
          simp only [sliceBounds, Option.getD_none]; simp; omega)
    rw [this]
    congr 1
    rw [List.drop_of_length_le (by simp), List.drop_of_length_le (by simp; omega)]; simp
theorem Ev.sliceRun (ha : Ev K n sc ρ a (.py (.list ds)) fa) (hb : Ev K n sc ρ b (.py (.int i)) fb) (hc : Ev K n sc ρ c (.py (.int j)) fc) (h0 : 0 ≤ i) (h1 : 0 ≤ j) (hsz : ds.length ≤ sizeLine) (hf : fr = true → ∀ d ∈ ds, Flat d) :
    Ev K n sc ρ (.Subscript a (.Slice (some b) (some c) none p) pos) (.py (.list ((ds.drop i.toNat).take (j.toNat - i.toNat)))) fr :=
  Ev.slice ha (EvPart.some hb) (EvPart.some hc) EvPart.none nofun hsz (fun r => by
    obtain ⟨k, rfl⟩ := Int.eq_ofNat_of_zero_le h0
    obtain ⟨m, rfl⟩ := Int.eq_ofNat_of_zero_le h1
    show ∃ bs, RdAll _ (slicePick _ (some (k : Int)) (some (m : Int)) none).toList _ bs ∧ _
    rw [slicePick_run']
    obtain ⟨bs, h1, h2⟩ := r.drop k
    obtain ⟨cs, h3, h4⟩ := h1.take (m - k)
    exact ⟨cs, h3, fun c hc => h2 c (h4 c hc)⟩) fun h d hd => hf h d (List.mem_of_mem_drop (List.mem_of_mem_take hd))

/-- an item of a tuple -/
theorem Ev.itemT {d : PyData} (ha : Ev K n sc ρ a (.py (.tuple ds)) fa) (hb : Ev K n sc ρ b (.py (.int i)) fb) (h0 : 0 ≤ i) (hi : ds[i.toNat]? = some d) (hsz : ds.length ≤ 64)
    (hs : ∀ o j, subscripted b false o j = operate [o, j] (getItem o j) := by intro _ _; rfl) : Ev K n sc ρ (.Subscript a b pos) (.py d) false := Hide.mk fun {A env s X E} I => by
  refine Subscript_ (Ev.then ha hb I fun va vb h₁ h₂ tk as bs ga gb => ?_)
  have x₂ := ga.ext.trans gb.ext
  have ra : Rd h₂ va (.tuple ds) as := Rd.ext ga.rd gb.ext
  have rb : Rd h₂ vb (.int i) bs := gb.rd
  have oa := ga.off
  cases rb
  cases ra with
  | @tuple l vs k _ as ea ra =>
    obtain ⟨v, cs, h1, h2, h3⟩ := ra.get' hi
    have hl : ({ s with heap := h₂, toks := tk } : Shared).heap.IsTuple l vs.toArray := ⟨_, ea, rfl, _, rfl⟩
    have hlt : i.toNat < ds.length := (List.getElem?_eq_some_iff.mp hi).1
    refine tail_any hl.typeIs slot_tuple_getitem.lookup (getItem_tuple (items := vs.toArray) hl (by omega) (by omega) (seqIndex_of h0 (by simp [ra.length]; omega)) (by simpa using h1) ?_) (hs _ _)
    exact ⟨h₂, tk, cs, rfl, x₂, h2, fun c hc => oa c (h3 c hc), nofun⟩
end
end Mine

namespace Mine

def GV (K : Cx) (x : Str) (v : Value) : Prop := K.mg x = some v ∨ (K.mg x = none ∧ K.mb x = some v)

theorem name_global {K n sc X ρ A env} {s : Shared} {E : Value → Shared → Prop} {Q : Value → Shared → Prop} {x : Str} {pos : Pos} {v : Value} (I : In K n sc X ρ A env s.heap) (g : GV K x v) (hx : sc.names.lookup x = some .globalImplicit)
    (h : Q v s) (hd : (x == ("__debug__" : Str)) = false := by decide) : wpAny (model K.prog K.w) A (eval (.Name x pos) env) Q E s := by
  refine Calls.Name_function_global I.henv.kind (by show env.scope.names.lookup x = _; rw [I.hsc]; exact hx) ?_ hd
  have hg : s.heap.Ns env.globals K.mg := by rw [I.henv.globals]; exact I.ok.g.keeps I.ok.ext
  have hb : s.heap.Ns env.builtins K.mb := by rw [I.henv.builtins]; exact I.ok.b.keeps I.ok.ext
  rcases g with g | ⟨g1, g2⟩
  · exact Calls.loadGlobal_global hg g h
  · exact Calls.loadGlobal_builtin hg g1 hb g2 h

inductive RdDs (K : Cx) (h : Heap) : List Value → List D → List Addr → Prop
  | nil : RdDs K h [] [] []
  | cons {v vs d ds as bs} : RdD K h v d as → RdDs K h vs ds bs → RdDs K h (v :: vs) (d :: ds) (as ++ bs)
theorem RdDs.ext {K : Cx} {h h' : Heap} (x : Ext h h') : ∀ {vs ds as}, RdDs K h vs ds as → RdDs K h' vs ds as
  | _, _, _, .nil => .nil
  | _, _, _, .cons a b => .cons (a.ext x) (b.ext x)

section
variable {K : Cx} {n : Nat} {sc : Scope} {ρ : List (Str × D)} {a b c : Expr} {pos p : Pos} {fa fb fc fr : Bool} {i j : Int} {ds : List PyData}

def EvArgs (K : Cx) (n : Nat) (sc : Scope) (ρ : List (Str × D)) (es : List Expr) (ds : List D) : Prop := Hide <|
  ∀ {A : Around} {env : Env} {s : Shared} {X : Addr → Prop} {E : Value → Shared → Prop} {Q : List Value → Shared → Prop} {pos : Pos}, In K n sc X ρ A env s.heap →
    (∀ vs h' tk as, Ext s.heap h' → RdDs K h' vs ds as → (∀ a ∈ as, ¬ X a) → Q vs { s with heap := h', toks := tk }) →
    wpAny (model K.prog K.w) A (spliced (backTo pos (starEach es env))) Q E s
theorem EvArgs.nil : EvArgs K n sc ρ [] [] := Hide.mk fun {A env s X E Q pos} I k => args_nil (k [] s.heap s.toks [] (.refl _) .nil nofun)
theorem EvArgs.cons {e : Expr} {es : List Expr} {d : D} {ds : List D} {f : Bool} (h : Ev K n sc ρ e d f) (hs : EvArgs K n sc ρ es ds)
    (he : ∀ env, starEach (e :: es) env = (false, eval e env) :: starEach es env := by intro _; rfl) : EvArgs K n sc ρ (e :: es) (d :: ds) := Hide.mk fun {A env s X E Q pos} I k => by
  refine args_cons (wpAny_mono (h.run I) (fun v s₁ p => ?_) fun _ _ x => x) (he env)
  obtain ⟨h₁, tk, as, rfl, ga⟩ := p
  refine hs.run (s := { s with heap := h₁, toks := tk }) (I.ext ga.ext) fun vs h₂ tk' bs x₂ rd off => ?_
  refine k (v :: vs) h₂ tk' (as ++ bs) (ga.ext.trans x₂) (.cons (ga.rd.ext x₂) rd) fun c hc => ?_
  rcases List.mem_append.mp hc with hc | hc
  · exact ga.off c hc
  · exact off c hc

def CallOk (K : Cx) (n : Nat) (f : Value) (ds : List D) (d : D) (fr : Bool) : Prop := Hide <|
  ∀ {A : Around} {s : Shared} {X : Addr → Prop} {E : Value → Shared → Prop} {vs : List Value} {as : List Addr}, Room A n → K.Ok s.heap → RdDs K s.heap vs ds as → (∀ a, X a → ∃ o, s.heap.get? a = some o) → (∀ a ∈ as, ¬ X a) →
    wpAny (model K.prog K.w) A (call f vs) (Post K s X d fr) E s

/-- a call of a built-in function by its name -/
theorem Ev.callB {fn : Str} {id : String} {e : Expr} {es : List Expr} {ds : List D} {d : D} (g : GV K fn (.builtin id)) (args : EvArgs K n sc ρ (e :: es) ds) (h : CallOk K n (.builtin id) ds d fr)
    (hx : sc.names.lookup fn = some .globalImplicit := by rfl) (hd : (fn == ("__debug__" : Str)) = false := by decide)
    (he : ∀ env, starEach (e :: es) env = (false, eval e env) :: starEach es env := by intro _; rfl) (hpl : ∀ env, (backTo pos (starEach es env)).any (·.1) = false := by intro _; rfl)
    (hc : ∀ env, eval (.Call (.Name fn p) (e :: es) [] pos) env = (do callWith pos (← eval (.Name fn p) env) [] (backTo pos (starEach (e :: es) env)) (backToKw pos (keywordEach [] env))) := by intro _; rfl) :
    Ev K n sc ρ (.Call (.Name fn p) (e :: es) [] pos) d fr := Hide.mk fun {A env s X E} I => by
  refine Call_ (name_global I g hx ?_ hd) (hc env)
  refine callWith_builtin1 (args.run I fun vs h' tk as x rd off => ?_) (he env) (hpl env)
  exact wpAny_mono (h.run (s := { s with heap := h', toks := tk }) (X := X) I.room (I.ok.mono x) rd (fun a ha => let ⟨o, ho⟩ := I.dom a ha; ⟨o, x a o ho⟩) off) (fun v s' p => Post.after x p) fun _ _ x => x
/-- a call of a type by its name -/
theorem Ev.callT {fn : Str} {T : String} {e : Expr} {es : List Expr} {ds : List D} {d : D} (g : GV K fn (.type T)) (args : EvArgs K n sc ρ (e :: es) ds) (h : CallOk K n (.type T) ds d fr)
    (hx : sc.names.lookup fn = some .globalImplicit := by rfl) (hd : (fn == ("__debug__" : Str)) = false := by decide)
    (he : ∀ env, starEach (e :: es) env = (false, eval e env) :: starEach es env := by intro _; rfl) (hpl : ∀ env, (backTo pos (starEach es env)).any (·.1) = false := by intro _; rfl)
    (hc : ∀ env, eval (.Call (.Name fn p) (e :: es) [] pos) env = (do callWith pos (← eval (.Name fn p) env) [] (backTo pos (starEach (e :: es) env)) (backToKw pos (keywordEach [] env))) := by intro _; rfl) :
    Ev K n sc ρ (.Call (.Name fn p) (e :: es) [] pos) d fr := Hide.mk fun {A env s X E} I => by
  refine Call_ (name_global I g hx ?_ hd) (hc env)
  have hpl' : (backTo pos (starEach (e :: es) env)).any (·.1) = false := by rw [he env]; show (false || _) = false; rw [Bool.false_or]; exact hpl env
  refine PySem.callWith_type hpl' ?_
  have key := args.run (pos := pos) (E := E) I (Q := fun vs s₁ => wpAny (model K.prog K.w) A (call (.type T) vs) (Post K s X d fr) E s₁) fun vs h' tk as x rd off =>
    wpAny_mono (h.run (s := { s with heap := h', toks := tk }) (X := X) I.room (I.ok.mono x) rd (fun a ha => let ⟨o, ho⟩ := I.dom a ha; ⟨o, x a o ho⟩) off) (fun v s' p => Post.after x p) fun _ _ x => x
  rw [he env] at key ⊢
  exact Calls.evalArgs_plain (wpAny_mono key (fun vs s₁ h₁ => h₁) fun _ _ x => x)

/-! ### built-ins -/
theorem CallOk.lenL (hsz : ds.length ≤ sizeLine) : CallOk K n (.builtin "len") [.py (.list ds)] (.py (.int ds.length)) true := Hide.mk fun {A s X E vs as} ro ok rd _ _ => by
  cases rd with
  | cons r rs =>
    cases rs
    have q : Rd s.heap _ (.list ds) _ := r
    clear r
    cases q with
    | @list l ws k _ bs e r =>
      have hl := r.length
      refine len_list (items := ws.toArray) ⟨_, e, rfl, _, rfl⟩ (by rw [sizeLine_eq] at hsz; simp only [List.size_toArray]; omega) ?_
      simp only [List.size_toArray, hl]
      exact Post.flat (.refl _) (.int ..)
theorem CallOk.lenS {xs : List Int} : CallOk K n (.builtin "len") [.set xs] (.py (.int xs.length)) true := Hide.mk fun {A s X E vs as} ro ok rd _ _ => by
  cases rd with
  | cons r rs =>
    cases rs
    obtain ⟨a, rfl, _, _, o, es, ep, t, ho, hex, hd, _, _, hb, hf, hn⟩ := r
    have hb' : es.size < 4096 := hb
    refine call_len_set ho hex hd hf (by omega) ?_
    rw [hn]
    exact Post.flat (.refl _) (.int ..)

theorem SetOf_congr' {prog : Program} {w : World} {h : Heap} {a : Addr} {S S' : Int → Bool} {n n' : Nat} (hS : h.SetOf (intKind prog w) a S n) (e : ∀ k, S k = S' k) (en : n = n') : h.SetOf (intKind prog w) a S' n' := by
  have : S = S' := funext e
  subst this; subst en; exact hS

/-- the unlike items of a list, as they first come -/
def dedup (xs : List Int) : List Int := xs.foldl step_dedup []
theorem step_dedup_mem (acc : List Int) (x k : Int) : k ∈ step_dedup acc x ↔ k ∈ acc ∨ k = x := by
  unfold step_dedup
  split
  · rename_i h
    constructor
    · exact Or.inl
    · rintro (h' | rfl)
      · exact h'
      · simpa using h
  · simp
theorem step_dedup_nodup {acc : List Int} {x : Int} (h : acc.Nodup) : (step_dedup acc x).Nodup := by
  unfold step_dedup
  split
  · exact h
  · rename_i hx
    refine nodup_append h (by simp) fun a ha hb => ?_
    rw [List.mem_singleton] at hb
    subst hb
    exact hx (by simpa using ha)
theorem foldl_dedup_mem (xs acc : List Int) (k : Int) : k ∈ xs.foldl step_dedup acc ↔ k ∈ acc ∨ k ∈ xs := by
  induction xs generalizing acc with
  | nil => simp
  | cons x xs ih => rw [List.foldl_cons, ih, step_dedup_mem]; simp [or_assoc]
theorem mem_dedup {xs : List Int} {k : Int} : k ∈ dedup xs ↔ k ∈ xs := by simp [dedup, foldl_dedup_mem]
theorem foldl_dedup_nodup (xs acc : List Int) (h : acc.Nodup) : (xs.foldl step_dedup acc).Nodup := by
  induction xs generalizing acc with
  | nil => exact h
  | cons x xs ih => exact ih _ (step_dedup_nodup h)
theorem nodup_dedup (xs : List Int) : (dedup xs).Nodup := foldl_dedup_nodup xs [] .nil
theorem firstMet_eq (xs : List Int) : firstMet (fun i => xs.getD i 0) xs.length = dedup xs := by
  unfold firstMet dedup
  congr 1
  apply List.ext_getElem
  · simp
  · intro i h1 h2; simp at h1; simp [h1]
theorem length_dedup_le (xs : List Int) : (dedup xs).length ≤ xs.length := by rw [← firstMet_eq]; exact firstMet_length_le _ _

theorem CallOk.set {xs : List Int} (hsz : xs.length + 1 < 4096) : CallOk K n (.type "set") [.py (iL xs)] (.set (dedup xs)) true := Hide.mk fun {A s X E vs as} ro ok rd hX _ => by
  cases rd with
  | cons r rs =>
    cases rs
    have q : Rd s.heap _ (.list (xs.map .int)) _ := r
    clear r
    cases q with
    | @list l ws k _ bs e r =>
      have hl := r.length
      simp only [List.length_map] at hl
      refine call_set_list (items := ws.toArray) (ns := xs) ro.quiet ⟨_, e, rfl, _, rfl⟩ (by simpa using r.intsAre) (by simp [hl]; exact hsz) fun h' tk hS hk => ?_
      simp only [List.size_toArray, hl, firstMet_eq] at hS
      have hx : Ext s.heap h' := fun b o ho => hk b o (Heap.lt_size ho) ho
      refine ⟨h', tk, [s.heap.objs.size], rfl, hx, ⟨_, rfl, rfl, nodup_dedup xs, SetOf_congr' hS (fun k => ?_) rfl⟩, fun c hc hx => ?_, fun _ => ⟨by simp, fun c hc => ?_⟩⟩
      · rw [Bool.eq_iff_iff]; simp
      · rw [List.mem_singleton.mp hc] at hx; obtain ⟨o, ho⟩ := hX _ hx; rw [push_new] at ho; cases ho
      · rw [List.mem_singleton.mp hc]; exact push_new _

theorem CallOk.list (hsz : ds.length ≤ sizeLine) (hf : fr = true → ∀ d ∈ ds, Flat d) : CallOk K n (.type "list") [.py (.list ds)] (.py (.list ds)) fr := Hide.mk fun {A s X E vs as} ro ok rd hX ha => by
  cases rd with
  | cons r rs =>
    cases rs
    have q : Rd s.heap _ (.list ds) _ := r
    clear r
    cases q with
    | @list l ws k _ bs e r =>
      refine call_list_seq (T := "list") l (.inl rfl) e rfl rfl (fun h' c' hk hn => ?_) (by simp [r.length]; exact hsz)
      refine ⟨h', s.toks, s.heap.objs.size :: bs, rfl, hk, ?_, fun c hc hx => ?_, fun hfr => ?_⟩
      · exact Rd.list hn (r.ext hk)
      · rcases List.mem_cons.mp hc with rfl | hc
        · obtain ⟨o, ho⟩ := hX _ hx; rw [push_new] at ho; cases ho
        · exact ha c (by simp [hc]) hx
      · obtain rfl := r.flat_nil (hf hfr)
        exact ⟨by simp, fun c hc => by rw [List.mem_singleton.mp hc]; exact push_new _⟩

theorem CallOk.divmod (hy : 0 < j) (hs : j < 1073741824) : CallOk K n (.builtin "divmod") [.py (.int i), .py (.int j)] (.py (.tuple [.int (i / j), .int (i % j)])) true := Hide.mk fun {A s X E vs as} ro ok rd hX ha => by
  cases rd with
  | cons r rs =>
    cases rs with
    | cons r' rs =>
    cases rs
    cases r; cases r'
    refine divmod_int (by omega) ?_ (.inl (PyProof.noPylong_small (by omega)))
    rw [Int.fdiv_eq_ediv_of_nonneg _ (by omega), Int.fmod_eq_emod_of_nonneg _ (by omega)]
    refine ⟨_, s.toks + 1 + 1, [], rfl, Ext.push _ _, ?_, nofun, fun _ => ⟨.nil, nofun⟩⟩
    exact Rd.tuple (vs := [.int (i / j) s.toks, .int (i % j) (s.toks + 1)]) (n := 0) (Heap.get?_push_size _ rfl) (.cons (.int ..) (.cons (.int ..) .nil))
end
end Mine

namespace Mine

/-! ### statements: a map of names that are read (sh) and of names that are owned alone (ow) -/
structure Own (K : Cx) (g : Addr → Option Obj) (X : Addr → Prop) (env : Env) (sh ow : List (Str × D)) (fp : Str → List Addr) (h : Heap) : Prop where
  own : ∀ x d, ow.lookup x = some d → ∃ v, VarAt h env x v ∧ RdD K h v d (fp x) ∧ (fp x).Nodup ∧ ∀ a ∈ fp x, g a = none ∧ ¬ FrameAddr env a ∧ ¬ X a
  apart : ∀ x y, x ≠ y → (ow.lookup x).isSome = true → (ow.lookup y).isSome = true → ∀ a ∈ fp x, a ∉ fp y
  shared : ∀ x d, sh.lookup x = some d → ∃ v as, VarAt h env x v ∧ RdD K h v d as ∧ ∀ a ∈ as, ¬ FrameAddr env a ∧ ¬ X a ∧ ∀ y, (ow.lookup y).isSome = true → a ∉ fp y

structure St (K : Cx) (lv : Bool) (n : Nat) (sc : Scope) (X : Addr → Prop) (g : Addr → Option Obj) (sh ow : List (Str × D)) (A : Around) (env : Env) (h : Heap) : Prop where
  room : Room A n
  ok : K.Ok h
  hsc : env.scope = sc
  henv : EnvOk env
  frame : FrameOk h env
  base : ∀ a o, g a = some o → h.get? a = some o
  bK : ∀ a o, K.h₀.get? a = some o → g a = some o
  new : ∀ a, FrameAddr env a → g a = none
  dom : ∀ a, X a → ∃ o, h.get? a = some o
  top : lv = true → A.frames = some [env] ∧ env.frame = some env.locals
  vars : ∃ fp, Own K g X env sh ow fp h

def ownX (X : Addr → Prop) (env : Env) (ow : List (Str × D)) (fp : Str → List Addr) (a : Addr) : Prop := X a ∨ FrameAddr env a ∨ ∃ y, (ow.lookup y).isSome = true ∧ a ∈ fp y

theorem FrameOk.some {h : Heap} {env : Env} (F : FrameOk h env) {a : Addr} (x : FrameAddr env a) : ∃ o, h.get? a = some o := let ⟨o, ho, _⟩ := F.noSeq x; ⟨o, ho⟩

section
variable {K : Cx} {lv : Bool} {n : Nat} {sc : Scope} {X : Addr → Prop} {g : Addr → Option Obj} {sh ow : List (Str × D)} {A : Around} {env : Env} {h h' : Heap} {fp : Str → List Addr}

/-- reading alone: every name -/
theorem St.inAll (S : St K lv n sc X g sh ow A env h) : In K n sc (fun a => X a ∨ FrameAddr env a) (ow ++ sh) A env h := by
  obtain ⟨fp, O⟩ := S.vars
  refine ⟨S.room, S.ok, S.hsc, S.henv, S.frame, fun a ha => ha.elim (S.dom a) fun q => S.frame.some q, fun x d hx => ?_⟩
  rw [lookup_append] at hx
  cases ho : ow.lookup x with
  | some d' =>
    rw [ho] at hx
    have : d' = d := by simpa using hx
    subst this
    obtain ⟨v, h1, h2, _, h4⟩ := O.own x d' ho
    exact ⟨v, fp x, h1, h2, fun a ha q => q.elim (h4 a ha).2.2 (h4 a ha).2.1⟩
  | none =>
    rw [ho] at hx
    obtain ⟨v, as, h1, h2, h3⟩ := O.shared x d (by simpa using hx)
    exact ⟨v, as, h1, h2, fun a ha q => q.elim (h3 a ha).2.1 (h3 a ha).1⟩

/-- the names that may be handed on -/
theorem St.inSh (S : St K lv n sc X g sh ow A env h) (O : Own K g X env sh ow fp h) : In K n sc (ownX X env ow fp) sh A env h := by
  refine ⟨S.room, S.ok, S.hsc, S.henv, S.frame, fun a ha => ?_, fun x d hx => ?_⟩
  · rcases ha with ha | ha | ⟨y, hy, ha⟩
    · exact S.dom a ha
    · exact S.frame.some ha
    · obtain ⟨d, hd⟩ := Option.isSome_iff_exists.mp hy
      obtain ⟨v, _, h2, _⟩ := O.own y d hd
      exact h2.dom a ha
  · obtain ⟨v, as, h1, h2, h3⟩ := O.shared x d hx
    exact ⟨v, as, h1, h2, fun a ha q => q.elim (h3 a ha).2.1 fun q => q.elim (h3 a ha).1 fun ⟨y, hy, hm⟩ => (h3 a ha).2.2 y hy hm⟩

theorem Own.ext (O : Own K g X env sh ow fp h) (e : Ext h h') : Own K g X env sh ow fp h' :=
  ⟨fun x d hx => let ⟨v, h1, h2, h3⟩ := O.own x d hx; ⟨v, h1.ext e, h2.ext e, h3⟩, O.apart, fun x d hx => let ⟨v, as, h1, h2, h3⟩ := O.shared x d hx; ⟨v, as, h1.ext e, h2.ext e, h3⟩⟩
theorem St.withOwn (S : St K lv n sc X g sh ow A env h) {sh' ow' : List (Str × D)} (e : Ext h h') (O : Own K g X env sh' ow' fp h') : St K lv n sc X g sh' ow' A env h' :=
  ⟨S.room, S.ok.mono e, S.hsc, S.henv, S.frame.ext e, fun a o ha => e a o (S.base a o ha), S.bK, S.new, fun a ha => let ⟨o, ho⟩ := S.dom a ha; ⟨o, e a o ho⟩, S.top, fp, O⟩
theorem St.ext (S : St K lv n sc X g sh ow A env h) (e : Ext h h') : St K lv n sc X g sh ow A env h' := let ⟨fp, O⟩ := S.vars; S.withOwn e (O.ext e)

/-- forget names -/
theorem St.sub (S : St K lv n sc X g sh ow A env h) {sh' ow' : List (Str × D)} (h1 : ∀ x d, sh'.lookup x = some d → sh.lookup x = some d) (h2 : ∀ x d, ow'.lookup x = some d → ow.lookup x = some d) : St K lv n sc X g sh' ow' A env h := by
  obtain ⟨fp, O⟩ := S.vars
  have h2' : ∀ y, (ow'.lookup y).isSome = true → (ow.lookup y).isSome = true := fun y hy => by
    obtain ⟨d, hd⟩ := Option.isSome_iff_exists.mp hy; rw [h2 y d hd]; rfl
  exact S.withOwn (.refl _) ⟨fun x d hx => O.own x d (h2 x d hx), fun x y hxy hx hy => O.apart x y hxy (h2' x hx) (h2' y hy), fun x d hx => let ⟨v, as, a1, a2, a3⟩ := O.shared x d (h1 x d hx); ⟨v, as, a1, a2, fun a ha => ⟨(a3 a ha).1, (a3 a ha).2.1, fun y hy => (a3 a ha).2.2 y (h2' y hy)⟩⟩⟩

/-- an owned name is read only from now on -/
theorem St.share (S : St K lv n sc X g sh ow A env h) {x : Str} {d : D} (hx : ow.lookup x = some d) : St K lv n sc X g ((x, d) :: sh) (ow.filter fun p => !(p.1 == x)) A env h := by
  obtain ⟨fp, O⟩ := S.vars
  have look : ∀ y, (ow.filter fun p => !(p.1 == x)).lookup y = if y = x then none else ow.lookup y := by
    intro y
    clear hx O S
    induction ow with
    | nil => simp
    | cons p r ih =>
      obtain ⟨k, v⟩ := p
      by_cases hk : k = x
      · subst hk
        simp only [List.filter_cons, beq_self_eq_true, Bool.not_true, Bool.false_eq_true, if_false, ih, List.lookup_cons]
        by_cases hy : y = k
        · simp [hy]
        · have : (y == k) = false := by simpa using hy
          simp [hy, this]
      · have hk' : (k == x) = false := by simpa using hk
        simp only [List.filter_cons, hk', Bool.not_false, if_true, List.lookup_cons, ih]
        by_cases hy : y = k
        · subst hy; simp [hk]
        · have : (y == k) = false := by simpa using hy
          simp [this]
  have some' : ∀ y, ((ow.filter fun p => !(p.1 == x)).lookup y).isSome = true → y ≠ x ∧ (ow.lookup y).isSome = true := fun y hy => by
    rw [look] at hy
    by_cases q : y = x
    · simp [q] at hy
    · rw [if_neg q] at hy; exact ⟨q, hy⟩
  refine S.withOwn (fp := fp) (.refl _) ⟨fun y d' hy => ?_, fun y z hyz hy hz => O.apart y z hyz (some' y hy).2 (some' z hz).2, fun y d' hy => ?_⟩
  · rw [look] at hy
    by_cases q : y = x
    · simp [q] at hy
    · rw [if_neg q] at hy; exact O.own y d' hy
  · rw [List.lookup_cons] at hy
    by_cases q : y = x
    · subst q
      simp only [beq_self_eq_true] at hy; cases hy
      obtain ⟨v, h1, h2, h3, h4⟩ := O.own y d hx
      refine ⟨v, fp y, h1, h2, fun a ha => ⟨(h4 a ha).2.1, (h4 a ha).2.2, fun z hz hm => ?_⟩⟩
      obtain ⟨z1, z2⟩ := some' z hz
      exact O.apart y z (Ne.symm z1) (by rw [hx]; rfl) z2 a ha hm
    · have hb : (y == x) = false := by simpa using q
      simp only [hb] at hy
      obtain ⟨v, as, a1, a2, a3⟩ := O.shared y d' hy
      exact ⟨v, as, a1, a2, fun a ha => ⟨(a3 a ha).1, (a3 a ha).2.1, fun z hz => (a3 a ha).2.2 z (some' z hz).2⟩⟩
end

inductive Out where
  | next (sh ow : List (Str × D))
  | brk (sh ow : List (Str × D))
  | cont (sh ow : List (Str × D))
  | ret (d : D) (fr : Bool)

def OutOk (K : Cx) (lv : Bool) (n : Nat) (sc : Scope) (X : Addr → Prop) (g : Addr → Option Obj) (A : Around) (env : Env) (s : Shared) (o : Out) (f : Flow) (s' : Shared) : Prop :=
  ∃ h tk, s' = { s with heap := h, toks := tk } ∧ match o, f with
    | .next sh ow, .next => St K lv n sc X g sh ow A env h
    | .brk sh ow, .brk => St K lv n sc X g sh ow A env h
    | .cont sh ow, .cont => St K lv n sc X g sh ow A env h
    | .ret d fr, .ret v => ∃ as, (∀ a o, g a = some o → h.get? a = some o) ∧ RdD K h v d as ∧ (∀ a ∈ as, ¬ X a) ∧ (fr = true → as.Nodup ∧ ∀ a ∈ as, g a = none)
    | _, _ => False

def Ex (K : Cx) (lv : Bool) (n : Nat) (sc : Scope) (sh ow : List (Str × D)) (ss : List Stmt) (Q : Out → Prop) : Prop := Hide <|
  ∀ {A : Around} {env : Env} {s : Shared} {X : Addr → Prop} {g : Addr → Option Obj} {E : Value → Shared → Prop}, St K lv n sc X g sh ow A env s.heap →
    wpAny (model K.prog K.w) A (execs ss env) (fun f s' => ∃ o, Q o ∧ OutOk K lv n sc X g A env s o f s') E s
def Ex1 (K : Cx) (lv : Bool) (n : Nat) (sc : Scope) (sh ow : List (Str × D)) (st : Stmt) (Q : Out → Prop) : Prop := Hide <|
  ∀ {A : Around} {env : Env} {s : Shared} {X : Addr → Prop} {g : Addr → Option Obj} {E : Value → Shared → Prop}, St K lv n sc X g sh ow A env s.heap →
    wpAny (model K.prog K.w) A (exec st env) (fun f s' => ∃ o, Q o ∧ OutOk K lv n sc X g A env s o f s') E s

theorem OutOk.after {K lv n sc X g A env} {s : Shared} {o : Out} {f : Flow} {s' : Shared} {h : Heap} {tk : Nat} (x : OutOk K lv n sc X g A env { s with heap := h, toks := tk } o f s') : OutOk K lv n sc X g A env s o f s' := by
  obtain ⟨h', tk', rfl, r⟩ := x
  exact ⟨h', tk', rfl, r⟩

section
variable {K : Cx} {lv : Bool} {n : Nat} {sc : Scope} {sh ow : List (Str × D)} {Q : Out → Prop}

theorem Ex.nil (h : Q (.next sh ow)) : Ex K lv n sc sh ow [] Q := Hide.mk fun {A env s X g E} S => wpAny_execs_nil ⟨_, h, s.heap, s.toks, shared_eta s, S⟩
theorem Ex.mono {ss : List Stmt} {Q' : Out → Prop} (h : Ex K lv n sc sh ow ss Q) (hq : ∀ o, Q o → Q' o) : Ex K lv n sc sh ow ss Q' := Hide.mk fun S =>
  wpAny_mono (h.run S) (fun f s' ⟨o, h1, h2⟩ => ⟨o, hq o h1, h2⟩) fun _ _ x => x
theorem Ex1.mono {st : Stmt} {Q' : Out → Prop} (h : Ex1 K lv n sc sh ow st Q) (hq : ∀ o, Q o → Q' o) : Ex1 K lv n sc sh ow st Q' := Hide.mk fun S =>
  wpAny_mono (h.run S) (fun f s' ⟨o, h1, h2⟩ => ⟨o, hq o h1, h2⟩) fun _ _ x => x
theorem Ex.sub {ss : List Stmt} {sh' ow' : List (Str × D)} (h : Ex K lv n sc sh' ow' ss Q) (h1 : ∀ x d, sh'.lookup x = some d → sh.lookup x = some d) (h2 : ∀ x d, ow'.lookup x = some d → ow.lookup x = some d) : Ex K lv n sc sh ow ss Q :=
  Hide.mk fun S => h.run (S.sub h1 h2)
theorem Ex.share {ss : List Stmt} {x : Str} {d : D} (hx : ow.lookup x = some d) (h : Ex K lv n sc ((x, d) :: sh) (ow.filter fun p => !(p.1 == x)) ss Q) : Ex K lv n sc sh ow ss Q := Hide.mk fun S => h.run (S.share hx)

theorem Ex.cons {st : Stmt} {ss : List Stmt} (h : Ex1 K lv n sc sh ow st fun o => match o with | .next sh' ow' => Ex K lv n sc sh' ow' ss Q | o => Q o) : Ex K lv n sc sh ow (st :: ss) Q := Hide.mk fun {A env s X g E} S => by
  refine wpAny_execs_cons (wpAny_mono (h.run S) (fun f s' p => ?_) fun _ _ x => x)
  obtain ⟨o, hq, h', tk, rfl, r⟩ := p
  cases o with
  | next sh' ow' =>
    cases f with
    | next => exact wpAny_mono (hq.run (s := { s with heap := h', toks := tk }) r) (fun f s' ⟨o, h1, h2⟩ => ⟨o, h1, h2.after⟩) fun _ _ x => x
    | _ => exact r.elim
  | brk sh' ow' =>
    cases f with
    | brk => exact ⟨_, hq, h', tk, rfl, r⟩
    | _ => exact r.elim
  | cont sh' ow' =>
    cases f with
    | cont => exact ⟨_, hq, h', tk, rfl, r⟩
    | _ => exact r.elim
  | ret d fr =>
    cases f with
    | ret v => exact ⟨_, hq, h', tk, rfl, r⟩
    | _ => exact r.elim

theorem Ex1.if {test : Expr} {body orelse : List Stmt} {pos : Pos} {b : Bool} (ht : Tr K n sc (ow ++ sh) test b) (h1 : b = true → Ex K lv n sc sh ow body Q) (h2 : b = false → Ex K lv n sc sh ow orelse Q) :
    Ex1 K lv n sc sh ow (.If test body orelse pos) Q := Hide.mk fun {A env s X g E} S => by
  refine wpAny_If (wpAny_mono (ht.run S.inAll) (fun b' s' p => ?_) fun _ _ x => x)
  obtain ⟨rfl, h', tk, rfl, x⟩ := p
  cases b' with
  | true => exact wpAny_mono ((h1 rfl).run (s := { s with heap := h', toks := tk }) (S.ext x)) (fun f s' ⟨o, h1, h2⟩ => ⟨o, h1, h2.after⟩) fun _ _ x => x
  | false => exact wpAny_mono ((h2 rfl).run (s := { s with heap := h', toks := tk }) (S.ext x)) (fun f s' ⟨o, h1, h2⟩ => ⟨o, h1, h2.after⟩) fun _ _ x => x

theorem Ex1.ret {e : Expr} {pos : Pos} {d : D} {fr : Bool} (h : Ev K n sc (ow ++ sh) e d fr) (hq : Q (.ret d fr)) : Ex1 K lv n sc sh ow (.Return (some e) pos) Q := Hide.mk fun {A env s X g E} S => by
  refine wpAny_Return_some (wpAny_mono (h.run S.inAll) (fun v s' p => ?_) fun _ _ x => x)
  obtain ⟨h', tk, as, rfl, gt⟩ := p
  refine ⟨_, hq, h', tk, rfl, as, fun a o ha => gt.ext a o (S.base a o ha), gt.rd, fun a ha q => gt.off a ha (.inl q), fun hf => ⟨(gt.new hf).1, fun a ha => ?_⟩⟩
  cases hg : g a with
  | none => rfl
  | some o => have := (gt.new hf).2 a ha; rw [S.base a o hg] at this; cases this
theorem Ex1.break {pos : Pos} (h : Q (.brk sh ow)) : Ex1 K lv n sc sh ow (.Break pos) Q := Hide.mk fun {A env s X g E} S => fun _ _ _ => ⟨_, h, s.heap, s.toks, shared_eta s, S⟩
theorem Ex1.continue {pos : Pos} (h : Q (.cont sh ow)) : Ex1 K lv n sc sh ow (.Continue pos) Q := Hide.mk fun {A env s X g E} S => fun _ _ _ => ⟨_, h, s.heap, s.toks, shared_eta s, S⟩
end
end Mine

namespace Mine

def del (x : Str) (l : List (Str × D)) : List (Str × D) := l.filter fun p => !(p.1 == x)
theorem lookup_del (x y : Str) (l : List (Str × D)) : (del x l).lookup y = if y = x then none else l.lookup y := by
  unfold del
  induction l with
  | nil => simp
  | cons p r ih =>
    obtain ⟨k, v⟩ := p
    by_cases hk : k = x
    · subst hk
      simp only [List.filter_cons, beq_self_eq_true, Bool.not_true, Bool.false_eq_true, if_false, ih, List.lookup_cons]
      by_cases hy : y = k
      · simp [hy]
      · have : (y == k) = false := by simpa using hy
        simp [hy, this]
    · have hk' : (k == x) = false := by simpa using hk
      simp only [List.filter_cons, hk', Bool.not_false, if_true, List.lookup_cons, ih]
      by_cases hy : y = k
      · subst hy; simp [hk]
      · have : (y == k) = false := by simpa using hy
        simp [this]
theorem lookup_del_some {x y : Str} {l : List (Str × D)} {d : D} (h : (del x l).lookup y = some d) : y ≠ x ∧ l.lookup y = some d := by
  rw [lookup_del] at h
  by_cases q : y = x
  · simp [q] at h
  · rw [if_neg q] at h; exact ⟨q, h⟩
theorem lookup_del_isSome {x y : Str} {l : List (Str × D)} (h : ((del x l).lookup y).isSome = true) : y ≠ x ∧ (l.lookup y).isSome = true := by
  obtain ⟨d, hd⟩ := Option.isSome_iff_exists.mp h
  exact ⟨(lookup_del_some hd).1, by rw [(lookup_del_some hd).2]; rfl⟩

section
variable {K : Cx} {lv : Bool} {n : Nat} {sc : Scope} {X : Addr → Prop} {g : Addr → Option Obj} {sh ow : List (Str × D)} {A : Around} {env : Env} {h h' : Heap} {fp : Str → List Addr} {x : Str} {v : Value} {a : Addr} {d : D} {as : List Addr}

theorem Own.stored (O : Own K g X env sh ow fp h) (F : FrameOk h env) (sa : StoreAddr env x a) (hs : Heap.SameBut a h h') (st : Stored env x v h h') : Own K g X env (del x sh) (del x ow) fp h' := by
  have eff := Eff.of_sameBut hs
  have nt : ∀ b, b = a → NoTup h b := fun b q => q ▸ (F.noSeq sa.frame).noTup
  refine ⟨fun y d' hy => ?_, fun y z hyz hy hz => O.apart y z hyz (lookup_del_isSome hy).2 (lookup_del_isSome hz).2, fun y d' hy => ?_⟩
  · obtain ⟨hne, hy⟩ := lookup_del_some hy
    obtain ⟨u, h1, h2, h3, h4⟩ := O.own y d' hy
    exact ⟨u, st.others y u hne h1, h2.off (eff.off (fun b hb q => (h4 b hb).2.1 (q ▸ sa.frame)) nt), h3, h4⟩
  · obtain ⟨hne, hy⟩ := lookup_del_some hy
    obtain ⟨u, bs, h1, h2, h3⟩ := O.shared y d' hy
    exact ⟨u, bs, st.others y u hne h1, h2.off (eff.off (fun b hb q => (h3 b hb).1 (q ▸ sa.frame)) nt), fun b hb => ⟨(h3 b hb).1, (h3 b hb).2.1, fun z hz => (h3 b hb).2.2 z (lookup_del_isSome hz).2⟩⟩

theorem Own.addSh (O : Own K g X env sh ow fp h) (va : VarAt h env x v) (rd : RdD K h v d as) (off : ∀ b ∈ as, ¬ ownX X env ow fp b) : Own K g X env ((x, d) :: sh) ow fp h := by
  refine ⟨O.own, O.apart, fun y d' hy => ?_⟩
  rw [List.lookup_cons] at hy
  by_cases q : y = x
  · subst q
    simp only [beq_self_eq_true] at hy; cases hy
    exact ⟨v, as, va, rd, fun b hb => ⟨fun q => off b hb (.inr (.inl q)), fun q => off b hb (.inl q), fun z hz hm => off b hb (.inr (.inr ⟨z, hz, hm⟩))⟩⟩
  · have hb : (y == x) = false := by simpa using q
    simp only [hb] at hy
    exact O.shared y d' hy

theorem Own.addOw (O : Own K g X env sh ow fp h) (hx : ow.lookup x = none) (va : VarAt h env x v) (rd : RdD K h v d as) (nd : as.Nodup) (off : ∀ b ∈ as, ¬ ownX X env ow fp b ∧ g b = none)
    (offs : ∀ y d', sh.lookup y = some d' → ∃ u bs, VarAt h env y u ∧ RdD K h u d' bs ∧ ∀ b ∈ bs, ¬ FrameAddr env b ∧ ¬ X b ∧ (∀ z, (ow.lookup z).isSome = true → b ∉ fp z) ∧ b ∉ as) :
    Own K g X env sh ((x, d) :: ow) (fun y => if y = x then as else fp y) h := by
  have look : ∀ y, ((x, d) :: ow).lookup y = if y = x then some d else ow.lookup y := fun y => by
    rw [List.lookup_cons]
    by_cases q : y = x
    · simp [q]
    · have hb : (y == x) = false := by simpa using q
      simp [q, hb]
  refine ⟨fun y d' hy => ?_, fun y z hyz hy hz b hb => ?_, fun y d' hy => ?_⟩
  · rw [look] at hy
    by_cases q : y = x
    · subst q
      simp only [if_true] at hy ⊢; cases hy
      exact ⟨v, va, rd, nd, fun b hb => ⟨(off b hb).2, fun q => (off b hb).1 (.inr (.inl q)), fun q => (off b hb).1 (.inl q)⟩⟩
    · rw [if_neg q] at hy ⊢
      exact O.own y d' hy
  · rw [look] at hy hz
    have hb : b ∈ (if y = x then as else fp y) := hb
    show b ∉ (if z = x then as else fp z)
    by_cases q : y = x
    · rw [if_pos q] at hb
      have qz : z ≠ x := fun e => hyz (q.trans e.symm)
      rw [if_neg qz] at hz ⊢
      exact fun hm => (off b hb).1 (.inr (.inr ⟨z, hz, hm⟩))
    · rw [if_neg q] at hb hy
      by_cases qz : z = x
      · rw [if_pos qz]
        exact fun hm => (off b hm).1 (.inr (.inr ⟨y, hy, hb⟩))
      · rw [if_neg qz] at hz ⊢
        exact O.apart y z hyz hy hz b hb
  · obtain ⟨u, bs, h1, h2, h3⟩ := offs y d' hy
    refine ⟨u, bs, h1, h2, fun b hb => ⟨(h3 b hb).1, (h3 b hb).2.1, fun z hz => ?_⟩⟩
    rw [look] at hz
    by_cases qz : z = x
    · simp only [qz, if_true]; exact (h3 b hb).2.2.2
    · rw [if_neg qz] at hz
      simp only [qz, if_false]
      exact (h3 b hb).2.2.1 z hz

/-- the frame's own store -/
theorem St.stored (S : St K lv n sc X g sh ow A env h) {sh' ow' : List (Str × D)} {fp' : Str → List Addr} (sa : StoreAddr env x a) (hs : Heap.SameBut a h h') (st : Stored env x v h h') (O : Own K g X env sh' ow' fp' h') :
    St K lv n sc X g sh' ow' A env h' := by
  have eff := Eff.of_sameBut hs
  have hg : g a = none := S.new a sa.frame
  have hK : K.h₀.get? a = none := by
    cases q : K.h₀.get? a with
    | none => rfl
    | some o => rw [S.bK a o q] at hg; cases hg
  refine ⟨S.room, ⟨S.ok.g, S.ok.b, S.ok.lim, eff.ext S.ok.ext fun b q => q ▸ hK⟩, S.hsc, S.henv, st.frame, fun b o hb => eff b o (fun q => by rw [q, hg] at hb; cases hb) (S.base b o hb), S.bK, S.new, fun b hb => ?_, S.top, fp', O⟩
  by_cases q : b = a
  · subst q; exact st.frame.some sa.frame
  · obtain ⟨o, ho⟩ := S.dom b hb; exact ⟨o, eff b o q ho⟩

theorem St.storeAddr (S : St K lv n sc X g sh ow A env h) (hx : sc.names.lookup x = some .local ∨ sc.names.lookup x = some .cell) : ∃ a, StoreAddr env x a := by
  rcases hx with hx | hx
  · exact ⟨_, .inl ⟨by show env.scope.names.lookup x = _; rw [S.hsc]; exact hx, rfl⟩⟩
  · have hk : env.kindOf x = some .cell := by show env.scope.names.lookup x = _; rw [S.hsc]; exact hx
    obtain ⟨c, hc⟩ := S.henv.all x (.inl hk)
    exact ⟨c, .inr ⟨hk, hc⟩⟩
end

section
variable {K : Cx} {lv : Bool} {n : Nat} {sc : Scope} {sh ow : List (Str × D)} {Q : Out → Prop} {x : Str} {p pos : Pos} {e : Expr} {d : D} {fr : Bool}

/-- x takes a value that may be shared with others that are read -/
theorem store_sh {A : Around} {env : Env} {s : Shared} {X : Addr → Prop} {g : Addr → Option Obj} {fp : Str → List Addr} {v : Value} {as : List Addr} {E : Value → Shared → Prop} {R : Unit → Shared → Prop}
    (S : St K lv n sc X g sh ow A env s.heap) (O : Own K g X env sh ow fp s.heap) (hx : sc.names.lookup x = some .local ∨ sc.names.lookup x = some .cell) (rd : RdD K s.heap v d as) (off : ∀ b ∈ as, ¬ ownX X env ow fp b)
    (k : ∀ h' tk a, FrameAddr env a → Heap.SameBut a s.heap h' → St K lv n sc X g ((x, d) :: del x sh) (del x ow) A env h' → R () { s with heap := h', toks := tk }) : wpAny (model K.prog K.w) A (storeName env x v) R E s := by
  obtain ⟨a, sa⟩ := S.storeAddr hx
  refine store_at S.henv S.frame sa fun h' tk hs st => k h' tk a sa.frame hs ?_
  have eff := Eff.of_sameBut hs
  have nt : ∀ b, b = a → NoTup s.heap b := fun b q => q ▸ (S.frame.noSeq sa.frame).noTup
  refine S.stored sa hs st ((O.stored S.frame sa hs st).addSh st.at_ (rd.off (eff.off (fun b hb q => off b hb (.inr (.inl (q ▸ sa.frame)))) nt)) fun b hb q => off b hb ?_)
  rcases q with q | q | ⟨y, hy, hm⟩
  · exact .inl q
  · exact .inr (.inl q)
  · exact .inr (.inr ⟨y, (lookup_del_isSome hy).2, hm⟩)

/-- x takes a value that nobody else has -/
theorem store_ow {A : Around} {env : Env} {s : Shared} {h₀ : Heap} {X : Addr → Prop} {g : Addr → Option Obj} {fp : Str → List Addr} {v : Value} {as : List Addr} {E : Value → Shared → Prop} {R : Unit → Shared → Prop}
    (S₀ : St K lv n sc X g sh ow A env h₀) (O : Own K g X env sh ow fp h₀) (xe : Ext h₀ s.heap) (hx : sc.names.lookup x = some .local ∨ sc.names.lookup x = some .cell) (rd : RdD K s.heap v d as) (nd : as.Nodup) (new : ∀ b ∈ as, h₀.get? b = none)
    (k : ∀ h' tk a, FrameAddr env a → Heap.SameBut a s.heap h' → St K lv n sc X g (del x sh) ((x, d) :: del x ow) A env h' → R () { s with heap := h', toks := tk }) : wpAny (model K.prog K.w) A (storeName env x v) R E s := by
  have S := S₀.ext xe
  obtain ⟨a, sa⟩ := S.storeAddr hx
  refine store_at S.henv S.frame sa fun h' tk hs st => k h' tk a sa.frame hs ?_
  have eff := Eff.of_sameBut hs
  have nt : ∀ b, b = a → NoTup s.heap b := fun b q => q ▸ (S.frame.noSeq sa.frame).noTup
  have nF : ∀ b ∈ as, ¬ FrameAddr env b := fun b hb q => by obtain ⟨o, ho⟩ := S₀.frame.some q; rw [new b hb] at ho; cases ho
  have O' := (O.ext xe).stored S.frame sa hs st
  refine S.stored sa hs st (O'.addOw (by rw [lookup_del]; simp) st.at_ (rd.off (eff.off (fun b hb q => nF b hb (q ▸ sa.frame)) nt)) nd (fun b hb => ⟨?_, ?_⟩) fun y d' hy => ?_)
  · rintro (q | q | ⟨y, hy, hm⟩)
    · obtain ⟨o, ho⟩ := S₀.dom b q; rw [new b hb] at ho; cases ho
    · exact nF b hb q
    · obtain ⟨d', hd'⟩ := Option.isSome_iff_exists.mp (lookup_del_isSome hy).2
      obtain ⟨_, _, h2, _⟩ := O.own y d' hd'
      obtain ⟨o, ho⟩ := h2.dom b hm; rw [new b hb] at ho; cases ho
  · cases q : g b with
    | none => rfl
    | some o => have := S₀.base b o q; rw [new b hb] at this; cases this
  · obtain ⟨hne, hy⟩ := lookup_del_some hy
    obtain ⟨u, bs, h1, h2, h3⟩ := O.shared y d' hy
    refine ⟨u, bs, st.others y u hne (h1.ext xe), (h2.ext xe).off (eff.off (fun b hb q => (h3 b hb).1 (q ▸ sa.frame)) nt), fun b hb => ⟨(h3 b hb).1, (h3 b hb).2.1, fun z hz => (h3 b hb).2.2 z (lookup_del_isSome hz).2, fun hm => ?_⟩⟩
    obtain ⟨o, ho⟩ := h2.dom b hb; rw [new b hm] at ho; cases ho

theorem Ex1.assign (h : Ev K n sc sh e d fr) (hq : Q (.next ((x, d) :: del x sh) (del x ow))) (hx : sc.names.lookup x = some .local ∨ sc.names.lookup x = some .cell := by first | exact Or.inl rfl | exact Or.inr rfl)
    (hsw : ∀ env, env.scope = sc → swapsWith e (some (.Name x p)) pos.line env = pure false := by intro _ _; rfl) : Ex1 K lv n sc sh ow (.Assign [.Name x p] e pos) Q := Hide.mk fun {A env s X g E} S => by
  obtain ⟨fp, O⟩ := S.vars
  refine wpAny_Assign_Name (wpAny_mono (h.run (S.inSh O)) (fun v s₁ t => ?_) fun _ _ x => x) (hsw env S.hsc)
  obtain ⟨h₁, tk, as, rfl, gt⟩ := t
  exact store_sh (s := { s with heap := h₁, toks := tk }) (S.ext gt.ext) (O.ext gt.ext) hx gt.rd gt.off fun h' tk' _ _ _ S' => ⟨_, hq, h', tk', rfl, S'⟩
/-- a value of its own, in whose making all names may be read -/
theorem Ex1.assignOwn (h : Ev K n sc (ow ++ sh) e d true) (hq : Q (.next (del x sh) ((x, d) :: del x ow))) (hx : sc.names.lookup x = some .local ∨ sc.names.lookup x = some .cell := by first | exact Or.inl rfl | exact Or.inr rfl)
    (hsw : ∀ env, env.scope = sc → swapsWith e (some (.Name x p)) pos.line env = pure false := by intro _ _; rfl) : Ex1 K lv n sc sh ow (.Assign [.Name x p] e pos) Q := Hide.mk fun {A env s X g E} S => by
  obtain ⟨fp, O⟩ := S.vars
  refine wpAny_Assign_Name (wpAny_mono (h.run S.inAll) (fun v s₁ t => ?_) fun _ _ x => x) (hsw env S.hsc)
  obtain ⟨h₁, tk, as, rfl, gt⟩ := t
  obtain ⟨nd, new⟩ := gt.new rfl
  exact store_ow (s := { s with heap := h₁, toks := tk }) S O gt.ext hx gt.rd nd new fun h' tk' _ _ _ S' => ⟨_, hq, h', tk', rfl, S'⟩
end
end Mine

namespace Mine

section
variable {K : Cx} {lv : Bool} {n : Nat} {sc : Scope} {X : Addr → Prop} {g : Addr → Option Obj} {sh ow : List (Str × D)} {A : Around} {env : Env} {h h' : Heap} {fp : Str → List Addr} {c : Addr}

theorem Own.moreX1 (O : Own K g X env sh ow fp h) (hc : h.get? c = none) : Own K g (fun a => X a ∨ a = c) env sh ow fp h := by
  refine ⟨fun x d hx => ?_, O.apart, fun x d hx => ?_⟩
  · obtain ⟨v, h1, h2, h3, h4⟩ := O.own x d hx
    exact ⟨v, h1, h2, h3, fun a ha => ⟨(h4 a ha).1, (h4 a ha).2.1, fun q => q.elim (h4 a ha).2.2 fun q => by obtain ⟨o, ho⟩ := h2.dom a ha; rw [q, hc] at ho; cases ho⟩⟩
  · obtain ⟨v, as, h1, h2, h3⟩ := O.shared x d hx
    exact ⟨v, as, h1, h2, fun a ha => ⟨(h3 a ha).1, (fun q => q.elim (h3 a ha).2.1 fun q => by obtain ⟨o, ho⟩ := h2.dom a ha; rw [q, hc] at ho; cases ho), (h3 a ha).2.2⟩⟩
theorem St.moreX1 (S : St K lv n sc X g sh ow A env h) (e : Ext h h') (hc : h.get? c = none) (hc' : ∃ o, h'.get? c = some o) : St K lv n sc (fun a => X a ∨ a = c) g sh ow A env h' := by
  obtain ⟨fp, O⟩ := S.vars
  have S' := S.ext e
  exact ⟨S'.room, S'.ok, S'.hsc, S'.henv, S'.frame, S'.base, S'.bK, S'.new, fun a ha => ha.elim (S'.dom a) fun q => q ▸ hc', S'.top, fp, (O.moreX1 hc).ext e⟩
theorem St.at1 (S : St K lv n sc X g sh ow A env h) (e : Eff (· = c) h h') (hX : X c) (hc' : ∃ o, h'.get? c = some o) (nt : NoTup h c) (nf : ¬ FrameAddr env c) (hg : g c = none) : St K lv n sc X g sh ow A env h' := by
  obtain ⟨fp, O⟩ := S.vars
  have nt' : ∀ a, a = c → NoTup h a := fun a ha => ha ▸ nt
  have hK : K.h₀.get? c = none := by
    cases q : K.h₀.get? c with
    | none => rfl
    | some o => rw [S.bK c o q] at hg; cases hg
  have va : ∀ {y u}, VarAt h env y u → VarAt h' env y u := fun {y u} r => by
    rcases r with ⟨hl, m, hn, hm⟩ | ⟨hl, c', hc', hv⟩
    · exact .inl ⟨hl, m, hn.at' fun o ho => e _ o (fun q => nf (q ▸ .inl rfl)) ho, hm⟩
    · obtain ⟨o, ho, hd⟩ := hv
      exact .inr ⟨hl, c', hc', o, e c' o (fun q => nf (q ▸ .inr ⟨_, hc'⟩)) ho, hd⟩
  refine ⟨S.room, ⟨S.ok.g, S.ok.b, S.ok.lim, e.ext S.ok.ext fun a ha => ha ▸ hK⟩, S.hsc, S.henv, S.frame.at1 e nf, fun a o ha => e a o (fun q => by rw [q, hg] at ha; cases ha) (S.base a o ha), S.bK, S.new, fun a ha => ?_, S.top, fp, ⟨fun x d hx => ?_, O.apart, fun x d hx => ?_⟩⟩
  · by_cases q : a = c
    · exact q ▸ hc'
    · obtain ⟨o, ho⟩ := S.dom a ha; exact ⟨o, e a o q ho⟩
  · obtain ⟨v, h1, h2, h3, h4⟩ := O.own x d hx
    exact ⟨v, va h1, h2.off (e.off (fun a ha q => (h4 a ha).2.2 (q ▸ hX)) nt'), h3, h4⟩
  · obtain ⟨v, as, h1, h2, h3⟩ := O.shared x d hx
    exact ⟨v, as, va h1, h2.off (e.off (fun a ha q => (h3 a ha).2.1 (q ▸ hX)) nt'), h3⟩
theorem St.lessX {X' : Addr → Prop} (S : St K lv n sc X g sh ow A env h) (s : ∀ a, X' a → X a) : St K lv n sc X' g sh ow A env h := by
  obtain ⟨fp, O⟩ := S.vars
  exact ⟨S.room, S.ok, S.hsc, S.henv, S.frame, S.base, S.bK, S.new, fun a ha => S.dom a (s a ha), S.top, fp, ⟨fun x d hx => let ⟨v, h1, h2, h3, h4⟩ := O.own x d hx; ⟨v, h1, h2, h3, fun a ha => ⟨(h4 a ha).1, (h4 a ha).2.1, fun q => (h4 a ha).2.2 (s a q)⟩⟩, O.apart,
    fun x d hx => let ⟨v, as, h1, h2, h3⟩ := O.shared x d hx; ⟨v, as, h1, h2, fun a ha => ⟨(h3 a ha).1, fun q => (h3 a ha).2.1 (s a q), (h3 a ha).2.2⟩⟩⟩⟩
theorem St.drop1 (S : St K lv n sc (fun a => X a ∨ a = c) g sh ow A env h) (e : Eff (· = c) h h') (hX : ¬ X c) (nt : NoTup h c) (nf : ¬ FrameAddr env c) (hg : g c = none) : St K lv n sc X g sh ow A env h' := by
  obtain ⟨fp, O⟩ := S.vars
  have nt' : ∀ a, a = c → NoTup h a := fun a ha => ha ▸ nt
  have hK : K.h₀.get? c = none := by
    cases q : K.h₀.get? c with
    | none => rfl
    | some o => rw [S.bK c o q] at hg; cases hg
  have va : ∀ {y u}, VarAt h env y u → VarAt h' env y u := fun {y u} r => by
    rcases r with ⟨hl, m, hn, hm⟩ | ⟨hl, c', hc', hv⟩
    · exact .inl ⟨hl, m, hn.at' fun o ho => e _ o (fun q => nf (q ▸ .inl rfl)) ho, hm⟩
    · obtain ⟨o, ho, hd⟩ := hv
      exact .inr ⟨hl, c', hc', o, e c' o (fun q => nf (q ▸ .inr ⟨_, hc'⟩)) ho, hd⟩
  refine ⟨S.room, ⟨S.ok.g, S.ok.b, S.ok.lim, e.ext S.ok.ext fun a ha => ha ▸ hK⟩, S.hsc, S.henv, S.frame.at1 e nf, fun a o ha => e a o (fun q => by rw [q, hg] at ha; cases ha) (S.base a o ha), S.bK, S.new, fun a ha => ?_, S.top, fp, ⟨fun x d hx => ?_, O.apart, fun x d hx => ?_⟩⟩
  · obtain ⟨o, ho⟩ := S.dom a (.inl ha); exact ⟨o, e a o (fun q => hX (q ▸ ha)) ho⟩
  · obtain ⟨v, h1, h2, h3, h4⟩ := O.own x d hx
    exact ⟨v, va h1, h2.off (e.off (fun a ha q => (h4 a ha).2.2 (.inr q)) nt'), h3, fun a ha => ⟨(h4 a ha).1, (h4 a ha).2.1, fun q => (h4 a ha).2.2 (.inl q)⟩⟩
  · obtain ⟨v, as, h1, h2, h3⟩ := O.shared x d hx
    exact ⟨v, as, va h1, h2.off (e.off (fun a ha q => (h3 a ha).2.1 (.inr q)) nt'), fun a ha => ⟨(h3 a ha).1, fun q => (h3 a ha).2.1 (.inl q), (h3 a ha).2.2⟩⟩
end

theorem ns_noTup {h : Heap} {a : Addr} {m} (hn : h.Ns a m) : NoTup h a := fun xs k e => by
  obtain ⟨o, es, ep, ho, hd, _⟩ := hn; rw [ho] at e; cases e; cases hd

section
variable {K : Cx} {lv : Bool} {n : Nat} {sc : Scope} {sh ow : List (Str × D)} {Q : Out → Prop} {x : Str} {p pos cpos : Pos} {own : List Str} {elt tgt iter : Expr} {ifs : List Expr} {gens rest : List Comprehension} {scope : Scope} {ρ' : List (Str × D)} {fr : Bool} {F : List (PyData × List PyData)}

/-- a comprehension's list goes to a local name before the comprehension's own names go -/
theorem Ex1.assignComp (hg : gens = ⟨tgt, iter, ifs, 0⟩ :: rest) (hG : GensOk gens) (So : ScopeOk scope sc own) (hm : ∀ y d, ρ'.lookup y = some d → scope.names.lookup y = some .free ∧ sh.lookup y = some d)
    (hit : EvIt K n sc sh iter (F.map (·.1))) (turns : ∀ q ∈ F, TurnOk K n (relabelS scope sc) own elt gens scope cpos 0 tgt ifs ρ' q.1 q.2 fr) (hsz : (F.flatMap (·.2)).length ≤ sizeLine)
    (hq : Q (.next ((x, .py (.list (F.flatMap (·.2)))) :: del x sh) (del x ow))) (hx : sc.names.lookup x = some .local := by rfl)
    (hsw : ∀ env, env.scope = sc → swapsWith (.ListComp elt gens scope cpos) (some (.Name x p)) pos.line env = pure true) : Ex1 K lv n sc sh ow (.Assign [.Name x p] (.ListComp elt gens scope cpos) pos) Q := Hide.mk fun {A env s X g E} S => by
  obtain ⟨fp, O⟩ := S.vars
  rw [exec_Assign_Name_used _ _ _ _ (hsw env S.hsc)]
  refine wpAny_bind (wpAny_standAt (wpAny_bind ?_))
  have e1 : firstAsync gens = false := by rw [hg]; rfl
  have e2 : firstIter gens env = eval iter env := by rw [hg]; rfl
  show wpAny _ A (do let _ ← comprehension (.ListComp elt gens scope cpos) scope env (firstIterPos gens cpos) (newList []) (firstAsync gens) (firstIter gens env) (some (PySem.assign (.Name x p) env))) _ _ s
  rw [e1, e2]
  refine wpAny_bind (wpAny_mono (comp_core (use := some (PySem.assign (.Name x p) env)) (Q := fun _ s' => ∃ o, Q o ∧ OutOk K lv n sc X g A env s o .next s') hg hG So hm hit turns hsz (S.inSh O) fun h' tk D C as m xe rd off bD new hn hC => ?_)
    (fun _ s' hq' => wpAny_pure (wpAny_pure hq')) fun _ _ x => x)
  show wpAny _ A (PySem.assign (.Name x p) env (.ref D)) _ _ _
  refine wpAny_assign_Name ?_
  have S' := S.moreX1 (c := C) xe hC (let ⟨o, _, _, ho, _⟩ := hn; ⟨o, ho⟩)
  have O' := (O.moreX1 (c := C) hC).ext xe
  have nf : ¬ FrameAddr env C := fun q => by obtain ⟨o, ho⟩ := S.frame.some q; rw [hC] at ho; cases ho
  have rd' : RdD K h' (.ref D) (.py (.list (F.flatMap (·.2)))) (D :: as) := rd
  refine store_sh (s := { s with heap := h', toks := tk }) S' O' (.inl hx) rd' (fun b hb q => ?_) fun h'' tk' a ha hs S'' => ?_
  · rcases q with (q | q) | q | q
    · exact (off b hb).1 (.inl q)
    · exact (off b hb).2 q
    · exact (off b hb).1 (.inr (.inl q))
    · exact (off b hb).1 (.inr (.inr q))
  · have hne : C ≠ a := fun q => nf (q ▸ ha)
    have hn' := hn.sameBut hs hne
    refine ⟨m, hn', fun h₃ hs₃ => ⟨_, hq, h₃, tk', rfl, ?_⟩⟩
    have hgC : g C = none := by
      cases q : g C with
      | none => rfl
      | some o => have := S.base C o q; rw [hC] at this; cases this
    exact S''.drop1 (Eff.of_sameBut hs₃) (fun q => by obtain ⟨o, ho⟩ := S.dom C q; rw [hC] at ho; cases ho) (ns_noTup hn') nf hgC
end
end Mine

namespace Mine

theorem codeAny_for {prog : Program} {w : World} {A : Around} {s : Shared} {R : Result → Shared → Prop} {target : Expr} {it : Value} {body orelse : List Stmt} {env : Env} (I : Nat → Shared → Prop)
    (turn : ∀ n s, I n s → wpAny (model prog w) A (pyNext it) (fun r s₁ => match r with
      | none => wpAny (model prog w) A (execs orelse env) (fun f s₃ => R (.ok f) s₃) (fun _ _ => False) s₁
      | some v => wpAny (model prog w) A (letOwnedTupleGo target it v) (fun _ s₁' => wpAny (model prog w) A (assign target env v) (fun _ s₂ => wpAny (model prog w) A (execs body env) (fun f s₃ => match f with
          | .next | .cont => ∃ m, m < n ∧ I m s₃
          | .brk => R (.ok .next) s₃
          | .ret v => R (.ok (.ret v)) s₃) (fun _ _ => False) s₂) (fun _ _ => False) s₁') (fun _ _ => False) s₁) (fun _ _ => False) s)
    (n : Nat) (h : I n s) : codeAny (model prog w) A (.forLoop target it body orelse env) R s := by
  refine codeAny_loop' rfl I (fun n s hI => ?_) n h
  show wpAny _ A ((forTurn target it body orelse env).onRaise (fun x => do noteFrame x env; theTreesLotGoes x)) _ _ s
  refine wpAny_noted ?_
  simp only [forTurn]
  refine wpAny_bind (wpAny_standAt (wpAny_bind (wpAny_onRaise (wpAny_mono (turn n s hI) (fun r s₁ h₁ => ?_) fun _ _ h' => h'.elim))))
  cases r with
  | none => exact wpAny_pure (.inr ⟨rfl, codeAny_block (wpAny_mono h₁ (fun _ _ q => q) fun _ _ h' => h'.elim)⟩)
  | some v =>
    refine wpAny_bind (wpAny_mono h₁ (fun _ s₁' h₁' => wpAny_bind (wpAny_mono h₁' (fun _ s₂ h₂ => wpAny_bind (wpAny_mono h₂ (fun f s₃ h₃ => ?_) fun _ _ h' => h'.elim)) fun _ _ h' => h'.elim)) fun _ _ h' => h'.elim)
    cases f with
    | next => exact wpAny_pure (.inl ⟨rfl, h₃⟩)
    | cont => exact wpAny_pure (.inl ⟨rfl, h₃⟩)
    | brk => exact wpAny_pure h₃
    | ret v => exact wpAny_pure h₃

theorem RdD.noTup {K : Cx} {h : Heap} {v : Value} {d : D} {as : List Addr} (r : RdD K h v d as) : ∀ a ∈ as, NoTup h a := by
  have key : ∀ {vs : List Value} {ds : List PyData} {as}, RdAll h vs ds as → ∀ a ∈ as, NoTup h a := by
    intro vs ds as r
    refine RdAll.rec (motive_1 := fun v d as _ => ∀ a ∈ as, NoTup h a) (motive_2 := fun vs ds as _ => ∀ a ∈ as, NoTup h a) ?_ ?_ ?_ ?_ ?_ ?_ ?_ ?_ r
    · intro a ha; cases ha
    · intro b a ha; cases ha
    · intro i t a ha; cases ha
    · intro x t a ha; cases ha
    · intro l vs m ds as e _ ih a ha
      rcases List.mem_cons.mp ha with rfl | ha
      · exact PlainList.noTup ⟨_, e⟩
      · exact ih a ha
    · intro l vs m ds as e _ ih a ha; exact ih a ha
    · intro a ha; cases ha
    · intro v vs d ds as bs _ _ ih1 ih2 a ha
      rcases List.mem_append.mp ha with ha | ha
      · exact ih1 a ha
      · exact ih2 a ha
  cases d with
  | py d =>
    have r : Rd h v d as := r
    intro a ha
    have := key (.one r) a ha
    exact this
  | set xs =>
    obtain ⟨a, rfl, rfl, hn, o, es, ep, t, ho, hex, hd, _⟩ := r
    intro b hb xs m e
    rw [List.mem_singleton.mp hb, ho] at e; cases e; cases hd
  | dict kvs =>
    obtain ⟨a, vs, as', rfl, rfl, hs, hl, ⟨o, es, ep, ho, hx⟩, hr⟩ := r
    intro b hb
    rcases List.mem_cons.mp hb with rfl | hb
    · intro xs m e
      rw [ho] at e; cases e
      obtain ⟨h1, h2, h3, h4, h5⟩ := hx
      simp_all
    · exact key hr b hb

section
variable {K : Cx} {lv : Bool} {n : Nat} {sc : Scope} {X : Addr → Prop} {g g' : Addr → Option Obj} {sh ow : List (Str × D)} {A : Around} {env : Env} {h h' : Heap} {fp : Str → List Addr} {c : Addr}

/-- less is kept than before -/
theorem St.lessG (S : St K lv n sc X g' sh ow A env h) (s : ∀ a o, g a = some o → g' a = some o) (hK : ∀ a o, K.h₀.get? a = some o → g a = some o) : St K lv n sc X g sh ow A env h := by
  have nn : ∀ a, g' a = none → g a = none := fun a ha => by
    cases q : g a with
    | none => rfl
    | some o => rw [s a o q] at ha; cases ha
  obtain ⟨fp, O⟩ := S.vars
  exact ⟨S.room, S.ok, S.hsc, S.henv, S.frame, fun a o ha => S.base a o (s a o ha), hK, fun a ha => nn a (S.new a ha), S.dom, S.top, fp, ⟨fun x d hx => let ⟨v, h1, h2, h3, h4⟩ := O.own x d hx; ⟨v, h1, h2, h3, fun a ha => ⟨nn a (h4 a ha).1, (h4 a ha).2⟩⟩, O.apart, O.shared⟩⟩

open Classical in
/-- all that stands is kept, but what is owned and the frame -/
noncomputable def snap (h : Heap) (env : Env) (ow : List (Str × D)) (fp : Str → List Addr) (c a : Addr) : Option Obj :=
  if FrameAddr env a ∨ (∃ y, (ow.lookup y).isSome = true ∧ a ∈ fp y) ∨ a = c then none else h.get? a
theorem snap_of {h : Heap} {env : Env} {ow : List (Str × D)} {fp : Str → List Addr} {c a : Addr} (h1 : ¬ FrameAddr env a) (h2 : ∀ y, (ow.lookup y).isSome = true → a ∉ fp y) (h3 : a ≠ c) : snap h env ow fp c a = h.get? a := by
  unfold snap
  rw [if_neg]
  rintro (q | ⟨y, hy, q⟩ | q)
  · exact h1 q
  · exact h2 y hy q
  · exact h3 q
theorem snap_none {h : Heap} {env : Env} {ow : List (Str × D)} {fp : Str → List Addr} {c a : Addr} (q : FrameAddr env a ∨ (∃ y, (ow.lookup y).isSome = true ∧ a ∈ fp y) ∨ a = c) : snap h env ow fp c a = none := by
  unfold snap; rw [if_pos q]
theorem snap_some {h : Heap} {env : Env} {ow : List (Str × D)} {fp : Str → List Addr} {c a : Addr} {o : Obj} (q : snap h env ow fp c a = some o) : h.get? a = some o ∧ ¬ FrameAddr env a ∧ (∀ y, (ow.lookup y).isSome = true → a ∉ fp y) ∧ a ≠ c := by
  unfold snap at q
  split at q
  · cases q
  · rename_i hn
    exact ⟨q, fun x => hn (.inl x), fun y hy x => hn (.inr (.inl ⟨y, hy, x⟩)), fun x => hn (.inr (.inr x))⟩

theorem St.snapped (S : St K lv n sc X g sh ow A env h) (O : Own K g X env sh ow fp h) (hc : g c = none) : St K lv n sc X (snap h env ow fp c) sh ow A env h ∧ ∀ a o, g a = some o → snap h env ow fp c a = some o := by
  have sub : ∀ a o, g a = some o → snap h env ow fp c a = some o := fun a o ha => by
    rw [snap_of]
    · exact S.base a o ha
    · intro q; rw [S.new a q] at ha; cases ha
    · intro y hy hm
      obtain ⟨d, hd⟩ := Option.isSome_iff_exists.mp hy
      obtain ⟨_, _, _, _, h4⟩ := O.own y d hd
      rw [(h4 a hm).1] at ha; cases ha
    · intro q; rw [q, hc] at ha; cases ha
  refine ⟨⟨S.room, S.ok, S.hsc, S.henv, S.frame, fun a o ha => (snap_some ha).1, fun a o ha => sub a o (S.bK a o ha), fun a ha => snap_none (.inl ha), S.dom, S.top, fp, ⟨fun x d hx => ?_, O.apart, O.shared⟩⟩, sub⟩
  obtain ⟨v, h1, h2, h3, h4⟩ := O.own x d hx
  exact ⟨v, h1, h2, h3, fun a ha => ⟨snap_none (.inr (.inl ⟨x, by rw [hx]; rfl, ha⟩)), (h4 a ha).2⟩⟩

/-- one address more is kept -/
theorem St.pin (S : St K lv n sc X g sh ow A env h) (hX : X c) (nf : ¬ FrameAddr env c) : St K lv n sc X (fun a => if a = c then h.get? c else g a) sh ow A env h := by
  obtain ⟨fp, O⟩ := S.vars
  refine ⟨S.room, S.ok, S.hsc, S.henv, S.frame, fun a o ha => ?_, fun a o ha => ?_, fun a ha => ?_, S.dom, S.top, fp, ⟨fun x d hx => ?_, O.apart, O.shared⟩⟩
  · by_cases q : a = c
    · subst q; simpa using ha
    · simp only [q, if_false] at ha; exact S.base a o ha
  · by_cases q : a = c
    · subst q; simp only [if_true]; exact S.ok.ext a o ha
    · simp only [q, if_false]; exact S.bK a o ha
  · by_cases q : a = c
    · exact absurd (q ▸ ha) nf
    · simp only [q, if_false]; exact S.new a ha
  · obtain ⟨v, h1, h2, h3, h4⟩ := O.own x d hx
    refine ⟨v, h1, h2, h3, fun a ha => ⟨?_, (h4 a ha).2⟩⟩
    by_cases q : a = c
    · exact absurd (q ▸ hX) (h4 a ha).2.2
    · simp only [q, if_false]; exact (h4 a ha).1
end

/-- a loop's target takes an item -/
def AsgS (K : Cx) (lv : Bool) (n : Nat) (sc : Scope) (tgt : Expr) (d : PyData) (sh ow sh' ow' : List (Str × D)) : Prop := Hide <|
  ∀ {A : Around} {env : Env} {s : Shared} {X : Addr → Prop} {g : Addr → Option Obj} {fp : Str → List Addr} {v : Value} {as : List Addr} {E : Value → Shared → Prop} {R : Unit → Shared → Prop},
    St K lv n sc X g sh ow A env s.heap → Own K g X env sh ow fp s.heap → Rd s.heap v d as → (∀ b ∈ as, ¬ ownX X env ow fp b) →
    (∀ h' tk, Eff (FrameAddr env) s.heap h' → St K lv n sc X g sh' ow' A env h' → R () { s with heap := h', toks := tk }) → wpAny (model K.prog K.w) A (assign tgt env v) R E s
theorem AsgS.name {K lv n sc sh ow d} {x : Str} {p : Pos} (hx : sc.names.lookup x = some .local ∨ sc.names.lookup x = some .cell := by first | exact Or.inl rfl | exact Or.inr rfl) : AsgS K lv n sc (.Name x p) d sh ow ((x, .py d) :: del x sh) (del x ow) :=
  Hide.mk fun {A env s X g fp v as E R} S O rd off k => wpAny_assign_Name (store_sh S O hx (d := .py d) rd off fun h' tk a ha hs S' => k h' tk ((Eff.of_sameBut hs).mono fun b q => q ▸ ha) S')

section
variable {K : Cx} {lv : Bool} {n : Nat} {sc : Scope} {sh ow : List (Str × D)} {Q : Out → Prop} {tgt iter : Expr} {body orelse : List Stmt} {pos : Pos} {its : List PyData}
set_option maxHeartbeats 1000000 in
theorem Ex1.for (hit : EvIt K n sc sh iter its) (Inv : Nat → List (Str × D) → List (Str × D) → Prop) (h0 : Inv 0 sh ow)
    (turn : ∀ i d sh ow, its[i]? = some d → Inv i sh ow → ∃ sh₁ ow₁, AsgS K lv n sc tgt d sh ow sh₁ ow₁ ∧ Ex K lv n sc sh₁ ow₁ body fun o => match o with
      | .next sh' ow' => Inv (i + 1) sh' ow' | .cont sh' ow' => Inv (i + 1) sh' ow' | .brk sh' ow' => Q (.next sh' ow') | .ret d fr => Q (.ret d fr))
    (done : ∀ sh ow, Inv its.length sh ow → Ex K lv n sc sh ow orelse Q) (hs : ∀ env x, foldedSetIterable iter env x = pure x := by intro _ _; rfl) :
    Ex1 K lv n sc sh ow (.For tgt iter body orelse pos) Q := Hide.mk fun {A env s X g E} S => by
  obtain ⟨fp, O⟩ := S.vars
  refine wpAny_For (hit.run (S.inSh O) fun t h₁ tk x₁ T => ?_) (hs env)
  have pI := t.plain _ _ T.st
  have hIn : s.heap.get? t.I = none := T.new
  have hgI : g t.I = none := by
    cases q : g t.I with
    | none => rfl
    | some o => have := S.base _ o q; rw [hIn] at this; cases this
  have S₁ := S.moreX1 (c := t.I) x₁ hIn pI.some
  have O₁ := (O.moreX1 (c := t.I) hIn).ext x₁
  obtain ⟨S₂, sub⟩ := S₁.snapped (c := t.I) O₁ hgI
  generalize hg2 : snap h₁ env ow fp t.I = g₂ at S₂ sub
  -- what the items and the thing are, is kept
  have kept : ∀ a, ¬ ownX X env ow fp a → a ≠ t.I → g₂ a = h₁.get? a := fun a h1 h2 => by
    rw [← hg2]; exact snap_of (fun q => h1 (.inr (.inl q))) (fun y hy q => h1 (.inr (.inr ⟨y, hy, q⟩))) h2
  have keptTup : ∀ a xs m, h₁.get? a = some { cls := .type "tuple", data := .seq xs m } → g₂ a = some { cls := .type "tuple", data := .seq xs m } := fun a xs m ha => by
    rw [← hg2, snap_of]
    · exact ha
    · intro q; obtain ⟨o, ho, hn⟩ := S₁.frame.noSeq q; rw [ho] at ha; cases ha; exact hn _ _ rfl
    · intro y hy q
      obtain ⟨d, hd⟩ := Option.isSome_iff_exists.mp hy
      obtain ⟨_, _, h2, _⟩ := O₁.own y d hd
      exact h2.noTup a q xs m ha
    · intro q; exact pI.noTup xs m (q ▸ ha)
  have gnI : g₂ t.I = none := by rw [← hg2]; exact snap_none (.inr (.inr rfl))
  have nXI : ¬ X t.I := fun q => by obtain ⟨o, ho⟩ := S.dom _ q; rw [hIn] at ho; cases ho
  refine codeAny_for (fun m s' => ∃ i sh' ow' h tk', i ≤ its.length ∧ m = its.length - i + 1 ∧ s' = { s with heap := h, toks := tk' } ∧ Inv i sh' ow' ∧ t.St i h ∧ St K lv n sc (fun a => X a ∨ a = t.I) g₂ sh' ow' A env h)
    (fun m s' hI => ?_) (its.length - 0 + 1) ⟨0, sh, ow, h₁, tk, Nat.zero_le _, rfl, rfl, h0, T.st, S₂⟩
  obtain ⟨i, sh', ow', h, tk', hi, rfl, rfl, hInv, st, S'⟩ := hI
  have pI' := t.plain _ _ st
  have nf' := pI'.not_frame S'.frame
  by_cases hlt : i < its.length
  · refine t.W.item i _ _ _ (by rw [T.len]; exact hlt) st fun v h₂ tk₂ hv st₂ hk₂ => ?_
    have e₂ : Eff (· = t.I) h h₂ := fun a o ha ho => hk₂ a o (by simpa using ha) ho
    have pI₂ := t.plain _ _ st₂
    have S₃ := S'.at1 e₂ (.inr rfl) pI₂.some pI'.noTup nf' gnI
    obtain ⟨fp₃, O₃⟩ := S₃.vars
    refine letOwned_ok pI₂ ?_
    obtain ⟨d, as, hd, rd, off⟩ := T.items i v hv
    obtain ⟨sh₁, ow₁, asg, bodyOk⟩ := turn i d sh' ow' hd hInv
    have rd₂ : Rd h₂ v d as := rd.off ⟨fun b hb o ho => S₃.base b o (by rw [kept b (off b hb).1 (off b hb).2]; exact ho), fun b xs m e => S₃.base b _ (keptTup b xs m e)⟩
    refine asg.run (s := { s with heap := h₂, toks := tk₂ }) S₃ O₃ rd₂ (fun b hb q => ?_) fun h₃ tk₃ e₃ S₄ => ?_
    · rcases q with (q | q) | q | ⟨y, hy, q⟩
      · exact (off b hb).1 (.inl q)
      · exact (off b hb).2 q
      · exact (off b hb).1 (.inr (.inl q))
      · obtain ⟨d', hd'⟩ := Option.isSome_iff_exists.mp hy
        obtain ⟨_, _, _, _, h4⟩ := O₃.own y d' hd'
        obtain ⟨o, ho⟩ := rd.dom b hb
        have := (h4 b q).1
        rw [kept b (off b hb).1 (off b hb).2, ho] at this; cases this
    · have nfI : ¬ FrameAddr env t.I := pI₂.not_frame S₃.frame
      have st₃ : t.St (i + 1) h₃ := t.W.frame _ _ _ st₂ fun b hb o ho => e₃ b o (fun q => T.off b hb (.inr (.inl q))) ho
      have S₅ := S₄.pin (c := t.I) (.inr rfl) nfI
      refine wpAny_mono (bodyOk.run (s := { s with heap := h₃, toks := tk₃ }) S₅) (fun f s₄ p => ?_) fun _ _ x => x
      obtain ⟨o, hq, h₄, tk₄, rfl, r⟩ := p
      have lessG : ∀ {sh ow}, St K lv n sc (fun a => X a ∨ a = t.I) (fun a => if a = t.I then h₃.get? t.I else g₂ a) sh ow A env h₄ → St K lv n sc (fun a => X a ∨ a = t.I) g₂ sh ow A env h₄ := fun S => S.lessG (fun a o ha => by
        by_cases q : a = t.I
        · rw [q, gnI] at ha; cases ha
        · simp only [q, if_false]; exact ha) S₂.bK
      have stNext : ∀ {sh ow}, St K lv n sc (fun a => X a ∨ a = t.I) (fun a => if a = t.I then h₃.get? t.I else g₂ a) sh ow A env h₄ → t.St (i + 1) h₄ := fun S => t.W.frame _ _ _ st₃ fun b hb o ho => by
        refine S.base b o ?_
        by_cases q : b = t.I
        · subst q; simpa using ho
        · simp only [q, if_false]
          rw [kept b (T.off b hb) q]
          obtain ⟨o', ho'⟩ := T.dom b hb
          have h3 := S₄.base b o' (by rw [kept b (T.off b hb) q]; exact ho')
          rw [ho] at h3; cases h3; exact ho'
      have back : ∀ {sh ow}, St K lv n sc (fun a => X a ∨ a = t.I) (fun a => if a = t.I then h₃.get? t.I else g₂ a) sh ow A env h₄ → St K lv n sc X g sh ow A env h₄ := fun Z => ((lessG Z).lessX fun a ha => .inl ha).lessG sub S.bK
      cases o with
      | next sh' ow' =>
        cases f with
        | next => exact ⟨its.length - (i + 1) + 1, by omega, i + 1, sh', ow', h₄, tk₄, hlt, rfl, rfl, hq, stNext r, lessG r⟩
        | _ => exact r.elim
      | cont sh' ow' =>
        cases f with
        | cont => exact ⟨its.length - (i + 1) + 1, by omega, i + 1, sh', ow', h₄, tk₄, hlt, rfl, rfl, hq, stNext r, lessG r⟩
        | _ => exact r.elim
      | brk sh' ow' =>
        cases f with
        | brk => exact ⟨_, hq, h₄, tk₄, rfl, back r⟩
        | _ => exact r.elim
      | ret d fr =>
        cases f with
        | ret v =>
          obtain ⟨as, r1, r2, r3, r4⟩ := r
          have gi : ∀ a o, g a = some o → (if a = t.I then h₃.get? t.I else g₂ a) = some o := fun a o ha => by
            by_cases q : a = t.I
            · rw [q, hgI] at ha; cases ha
            · simp only [q, if_false]; exact sub a o ha
          refine ⟨_, hq, h₄, tk₄, rfl, as, fun a o ha => r1 a o (gi a o ha), r2, fun a ha q => r3 a ha (.inl q), fun hf => ⟨(r4 hf).1, fun a ha => ?_⟩⟩
          cases q : g a with
          | none => rfl
          | some o =>
            have h1 : (if a = t.I then h₃.get? t.I else g₂ a) = none := (r4 hf).2 a ha
            rw [gi a o q] at h1; cases h1
        | _ => exact r.elim
  · have hie : i = its.length := by omega
    subst hie
    refine t.W.done _ _ _ (by rw [T.len]; exact st) fun h₂ tk₂ hk₂ => ?_
    have e₂ : Eff (· = t.I) h h₂ := fun a o ha ho => hk₂ a o (by simpa using ha) ho
    have S₃ := (S'.drop1 e₂ nXI pI'.noTup nf' gnI).lessG sub S.bK
    refine wpAny_mono ((done sh' ow' hInv).run (s := { s with heap := h₂, toks := tk₂ }) S₃) (fun f s' p => ?_) fun _ _ x => x
    obtain ⟨o, hq, r⟩ := p
    exact ⟨o, hq, r.after⟩
end
end Mine

namespace Mine

/-! ### the merge, plainly -/
section
variable {α : Type} (eq : α → α → Bool)
def strike1 (c : α) : List α → List α
  | [] => []
  | x :: t => if eq x c then t else x :: t
def okHead (R : List (List α)) (x : α) : Bool := R.all fun s => !(s.tail.any fun y => eq y x)
def cand (R : List (List α)) : Option α := R.findSome? fun r => match r with
  | [] => none
  | x :: _ => if okHead eq R x then some x else none
def c3 : Nat → List (List α) → List α × List (List α) × Bool
  | 0, R => ([], R, R.all (·.isEmpty))
  | n + 1, R => if R.all (·.isEmpty) then ([], R, true) else match cand eq R with
    | none => ([], R, false)
    | some c => (c :: (c3 n (R.map (strike1 eq c))).1, (c3 n (R.map (strike1 eq c))).2)
end

def sS : Str := "sequences"
def sR : Str := "result"
def sC : Str := "candidate"
def s1' : Str := "s1"
def s2' : Str := "s2"
def sQ : Str := "seq"
def c3Rec : DefRec := ((recsOf PySem.Challenge.pw_dn0018_09).head?).getD ⟨"", ⟨[], [], none, [], [], none, []⟩, [], { kind := .function, names := [], isGenerator := false, isCoroutine := false, more := [] }, ⟨0, 0, 0, 0⟩⟩
def c3Body : List Stmt := c3Rec.body
def c3Scope : Scope := c3Rec.scope

structure C3I (K : Cx) (env : Env) (h₀ : Heap) (As : List Addr) (h : Heap) (m : Str → Option Value) (l r : Addr) (P : List Addr) (f : Addr → List PyData) (out : List PyData) : Prop where
  ok : K.Ok h
  base : Ext K.h₀ h₀
  ns : h.Ns env.locals m
  Lnew : h₀.get? env.locals = none
  keep : Eff (· ∈ As) h₀ h
  inner : ∀ a ∈ As, ∃ (vs : List Value) (n : Nat), h.get? a = some { cls := .type "list", data := .seq vs.toArray n } ∧ RdAll h vs (f a) []
  seqV : m sS = some (.ref l)
  seqL : h.IsList l (P.map Value.ref).toArray
  resV : m sR = some (.ref r)
  resL : ∃ ws : List Value, h.PlainList r ws.toArray ∧ RdAll h ws out []
  rnew : h₀.get? r = none
  rA : r ∉ As
  lA : l ∉ As
  lr : l ≠ r
  PA : ∀ a ∈ P, a ∈ As
  AK : ∀ a ∈ As, K.h₀.get? a = none

section
variable {K : Cx} {env : Env} {h₀ h h' : Heap} {As : List Addr} {m m' : Str → Option Value} {l r : Addr} {P : List Addr} {f : Addr → List PyData} {out : List PyData}

theorem C3I.upd (C : C3I K env h₀ As h m l r P f out) {W : Addr → Prop} (e : Eff W h h') (ns' : h'.Ns env.locals m') (v1 : m' sS = m sS) (v2 : m' sR = m sR)
    (w : ∀ c, W c → c ≠ l ∧ c ≠ r ∧ c ∉ As ∧ h₀.get? c = none ∧ NoTup h c) : C3I K env h₀ As h' m' l r P f out where
  ok := ⟨C.ok.g, C.ok.b, C.ok.lim, e.ext C.ok.ext fun c hc => C.base.none (w c hc).2.2.2.1⟩
  base := C.base
  ns := ns'
  Lnew := C.Lnew
  keep := fun b o hb ho => e b o (fun hw => by rw [(w b hw).2.2.2.1] at ho; cases ho) (C.keep b o hb ho)
  inner := fun a ha => let ⟨vs, n, h1, h2⟩ := C.inner a ha; ⟨vs, n, e a _ (fun hw => (w a hw).2.2.1 ha) h1, h2.off (e.off nofun fun c hc => (w c hc).2.2.2.2)⟩
  seqV := v1.trans C.seqV
  seqL := let ⟨o, ho, hr⟩ := C.seqL; ⟨o, e l o (fun hw => (w l hw).1 rfl) ho, hr⟩
  resV := v2.trans C.resV
  resL := let ⟨ws, h1, h2⟩ := C.resL; ⟨ws, h1.at fun o ho => e r o (fun hw => (w r hw).2.1 rfl) ho, h2.off (e.off nofun fun c hc => (w c hc).2.2.2.2)⟩
  rnew := C.rnew
  rA := C.rA
  lA := C.lA
  lr := C.lr
  PA := C.PA
  AK := C.AK
theorem C3I.ext (C : C3I K env h₀ As h m l r P f out) (e : Ext h h') : C3I K env h₀ As h' m l r P f out :=
  C.upd (W := fun _ => False) (e.eff _) (C.ns.keeps e) rfl rfl nofun
theorem C3I.stored (C : C3I K env h₀ As h m l r P f out) {x : Str} {v : Value} (hs : Heap.SameBut env.locals h h') (hn : h'.Ns env.locals fun y => if y = x then some v else m y) (hx : x ≠ sS) (hx' : x ≠ sR) :
    C3I K env h₀ As h' (fun y => if y = x then some v else m y) l r P f out := by
  refine C.upd (W := (· = env.locals)) (Eff.of_sameBut hs) hn (by simp [Ne.symm hx]) (by simp [Ne.symm hx']) fun c hc => ?_
  subst hc
  refine ⟨fun q => ?_, fun q => ?_, fun q => ?_, C.Lnew, ns_noTup C.ns⟩
  · obtain ⟨o, ho, _, k, hd⟩ := C.seqL; obtain ⟨o', es, ep, ho', hd', _⟩ := C.ns; rw [q, ho] at ho'; cases ho'; rw [hd] at hd'; cases hd'
  · obtain ⟨ws, ⟨k, ho⟩, _⟩ := C.resL; obtain ⟨o', es, ep, ho', hd', _⟩ := C.ns; rw [q, ho] at ho'; cases ho'; cases hd'
  · obtain ⟨vs, k, ho, _⟩ := C.inner _ q; obtain ⟨o', es, ep, ho', hd', _⟩ := C.ns; rw [ho] at ho'; cases ho'; cases hd'

/-- the environment of the merge's frame -/
structure C3E (K : Cx) (A : Around) (n : Nat) (env : Env) : Prop where
  room : Room A n
  henv : EnvOk env
  hsc : env.scope = c3Scope
  cells : env.cells = []

theorem C3I.frameOk {A : Around} {n : Nat} (C : C3I K env h₀ As h m l r P f out) (V : C3E K A n env) : FrameOk h env := ⟨⟨m, C.ns⟩, fun x c hc => by rw [V.cells] at hc; cases hc⟩

theorem C3I.in {A : Around} {n : Nat} {ρ : List (Str × D)} (C : C3I K env h₀ As h m l r P f out) (V : C3E K A n env)
    (hv : ∀ x d, ρ.lookup x = some d → ∃ v as, m x = some v ∧ c3Scope.names.lookup x = some .local ∧ RdD K h v d as) : In K n c3Scope (fun _ => False) ρ A env h := by
  refine ⟨V.room, C.ok, V.hsc, V.henv, C.frameOk V, nofun, fun x d hx => ?_⟩
  obtain ⟨v, as, h1, h2, h3⟩ := hv x d hx
  exact ⟨v, as, .inl ⟨by show env.scope.names.lookup x = _; rw [V.hsc]; exact h2, m, C.ns, h1⟩, h3, fun _ _ q => q⟩
end
end Mine

namespace Mine

section
variable {K : Cx} {A : Around} {n : Nat} {env : Env} {s : Shared} {l : Addr} {P : List Addr} {x : Str} {px pi pos : Pos} {body orelse : List Stmt} {Q : Flow → Shared → Prop} {E : Value → Shared → Prop} {m : Str → Option Value}

theorem c3_for (V : C3E K A n env) (hx : c3Scope.names.lookup x = some .local) (J : Nat → Heap → (Str → Option Value) → Prop) (QB : Heap → (Str → Option Value) → Prop)
    (facts : ∀ i h m, J i h m → h.Ns env.locals m ∧ h.IsList l (P.map Value.ref).toArray) (hm : m sS = some (.ref l)) (h0 : J 0 s.heap m)
    (stab : ∀ i h h' m, J i h m → Eff (· = s.heap.objs.size) h h' → NoTup h s.heap.objs.size → J i h' m)
    (turn : ∀ i a h m h' tk oI, P[i]? = some a → J i h m → Heap.SameBut env.locals h h' → h'.Ns env.locals (fun y => if y = x then some (.ref a) else m y) → h'.get? s.heap.objs.size = some oI → NoTup h' s.heap.objs.size →
      wpAny (model K.prog K.w) A (execs body env) (fun f s' => ∃ h₂ tk₂ m₂, s' = { s with heap := h₂, toks := tk₂ } ∧ h₂.get? s.heap.objs.size = some oI ∧ match f with
        | .next => J (i + 1) h₂ m₂ | .cont => J (i + 1) h₂ m₂ | .brk => QB h₂ m₂ | .ret _ => False) (fun _ _ => False) { s with heap := h', toks := tk })
    (brk : ∀ h m tk, QB h m → Q .next { s with heap := h, toks := tk })
    (done : ∀ h m tk, J P.length h m → wpAny (model K.prog K.w) A (execs orelse env) Q (fun _ _ => False) { s with heap := h, toks := tk }) :
    wpAny (model K.prog K.w) A (exec (.For (.Name x px) (.Name sS pi) body orelse pos) env) Q E s := by
  have hk : ∀ y, c3Scope.names.lookup y = some .local → env.kindOf y = some .local := fun y hy => by show env.scope.names.lookup y = _; rw [V.hsc]; exact hy
  have hp : (env.scope.kind == .class || (env.scope.kind == .module && env.locals != env.globals)) = false := by rw [V.henv.kind]; rfl
  obtain ⟨hn, hl⟩ := facts 0 _ _ h0
  refine wpAny_For ?_
  refine wpAny_Name (wpAny_loadName_local V.henv.kind (hk _ rfl) hn hm ?_) (by decide)
  refine wpAny_pyIter_list hl ?_
  have hne : l ≠ s.heap.objs.size := Nat.ne_of_lt (by obtain ⟨o, ho, _⟩ := hl; exact Heap.lt_size ho)
  have hLne : env.locals ≠ s.heap.objs.size := Nat.ne_of_lt hn.lt
  have W := Walks.list (prog := K.prog) (w := K.w) V.room.quiet s.heap.objs.size l hne (P.map Value.ref).toArray
  have hsize : (P.map Value.ref).toArray.size = P.length := by simp
  have nt : ∀ {i h}, h.IsListIter s.heap.objs.size l i → NoTup h s.heap.objs.size := fun {i h} hit xs k e => by
    obtain ⟨o, ho, _, hd⟩ := hit; rw [ho] at e; cases e; cases hd
  refine codeAny_for (fun k s' => ∃ i h tk m', i ≤ P.length ∧ k = P.length - i + 1 ∧ s' = { s with heap := h, toks := tk } ∧ J i h m' ∧ h.IsListIter s.heap.objs.size l i) (fun k s' hI => ?_) (P.length - 0 + 1)
    ⟨0, _, s.toks, m, Nat.zero_le _, rfl, rfl, stab 0 _ _ m h0 (fun b o hb ho => Heap.get?_push_of_some _ ho) (NoTup.of_none (push_new _)), ⟨_, Heap.get?_push_size _ rfl, rfl, rfl⟩⟩
  obtain ⟨i, h, tk, m', hi, rfl, rfl, hJ, hit⟩ := hI
  obtain ⟨hn', hl'⟩ := facts i h m' hJ
  by_cases hlt : i < P.length
  · refine W.item i _ _ _ (by rw [hsize]; exact hlt) ⟨hit, hl'⟩ fun v h₁ tk₁ hv st₁ hk₁ => ?_
    have e₁ : Eff (· = s.heap.objs.size) h h₁ := fun b o hb ho => hk₁ b o (by simpa using hb) ho
    have hJ₁ := stab i h h₁ m' hJ e₁ (nt hit)
    have hPi : ∃ a, P[i]? = some a ∧ v = .ref a := by
      have : (P.map Value.ref).toArray[i]? = some v := hv
      simp only [List.getElem?_toArray, List.getElem?_map] at this
      cases hq : P[i]? with
      | none => rw [hq] at this; cases this
      | some a => rw [hq] at this; exact ⟨a, rfl, by simpa using this.symm⟩
    obtain ⟨a, ha, rfl⟩ := hPi
    refine wpAny_pure (wpAny_assign_Name ?_)
    refine wpAny_storeName_local (hk x hx) (facts i h₁ m' hJ₁).1 (fun h₂ hn₂ hs₂ => ?_) hp
    obtain ⟨oI, hoI, hcI, hdI⟩ := st₁.1
    have hoI₂ : h₂.get? s.heap.objs.size = some oI := (hs₂.2 _ (Ne.symm hLne)).trans hoI
    refine wpAny_mono (turn i a h₁ m' h₂ _ oI ha hJ₁ hs₂ hn₂ hoI₂ (nt ⟨oI, hoI₂, hcI, hdI⟩)) (fun f' s' p => ?_) fun _ _ q => q
    obtain ⟨h₃, tk₃, m₃, rfl, hoI₃, hr⟩ := p
    cases f' with
    | next => exact ⟨P.length - (i + 1) + 1, by omega, i + 1, h₃, tk₃, m₃, hlt, rfl, rfl, hr, oI, hoI₃, hcI, hdI⟩
    | cont => exact ⟨P.length - (i + 1) + 1, by omega, i + 1, h₃, tk₃, m₃, hlt, rfl, rfl, hr, oI, hoI₃, hcI, hdI⟩
    | brk => exact brk h₃ m₃ tk₃ hr
    | ret v => exact hr.elim
  · have hie : i = P.length := by omega
    subst hie
    refine W.done _ _ _ (by rw [hsize]; exact ⟨hit, hl'⟩) fun h₁ tk₁ hk₁ => ?_
    have e₁ : Eff (· = s.heap.objs.size) h h₁ := fun b o hb ho => hk₁ b o (by simpa using hb) ho
    exact done h₁ m' tk₁ (stab _ h h₁ m' hJ e₁ (nt hit))
end
end Mine

namespace Mine

/-- data without a list in it, not too deep -/
structure Atom (d : PyData) : Prop where
  fp : ∀ {h v as}, Rd h v d as → as = []
  lay : d.canLay0 = true
  depth : d.depth ≤ 60
  refl : PyData.eqv d d = true
  some : isNoneD d = false
theorem Atom.int (i : Int) : Atom (.int i) := ⟨fun r => r.flat trivial, by simp [PyData.canLay0], by simp [PyData.depth], by simp [PyData.eqv], rfl⟩
theorem Atom.bool (b : Bool) : Atom (.bool b) := ⟨fun r => r.flat trivial, by simp [PyData.canLay0], by simp [PyData.depth], by simp [PyData.eqv], rfl⟩
theorem Atom.pair {a b : PyData} (ha : Atom a) (hb : Atom b) (h1 : a.depth ≤ 50) (h2 : b.depth ≤ 50) : Atom (.tuple [a, b]) := by
  refine ⟨fun r => ?_, by simp [PyData.canLay0, PyData.canLayAll0, ha.lay, hb.lay], ?_, by simp [PyData.eqv, PyData.eqvAll, ha.refl, hb.refl], rfl⟩
  · cases r with
    | tuple e r =>
      cases r with
      | cons x y =>
        cases y with
        | cons y z =>
          cases z
          rw [ha.fp x, hb.fp y]; rfl
  · simp only [PyData.depth, PyData.depthAll]; omega

theorem canLayAll_of {ds : List PyData} (h : ∀ d ∈ ds, d.canLay0 = true) : PyData.canLayAll0 ds = true := by
  induction ds with
  | nil => simp [PyData.canLayAll0]
  | cons d ds ih => simp [PyData.canLayAll0, h d (.head _), ih fun e he => h e (.tail _ he)]
theorem depthAll_le {ds : List PyData} {k : Nat} (h : ∀ d ∈ ds, d.depth ≤ k) : PyData.depthAll ds ≤ k := by
  induction ds with
  | nil => simp [PyData.depthAll]
  | cons d ds ih =>
    have := h d (.head _)
    have := ih fun e he => h e (.tail _ he)
    simp only [PyData.depthAll]; omega
theorem Atom.shp {d : PyData} (h : Atom d) : Shp d := by
  have := h.depth
  simp [Shp, SeqAt.shaped, h.lay]; omega
theorem Shp.list {ds : List PyData} (h : ∀ d ∈ ds, Atom d) : Shp (.list ds) := by
  have := depthAll_le (k := 60) fun d hd => (h d hd).depth
  simp [Shp, SeqAt.shaped, PyData.canLay0, canLayAll_of fun d hd => (h d hd).lay, PyData.depth]; omega
theorem RdAll.atoms {h : Heap} : ∀ {vs ds as}, RdAll h vs ds as → (∀ d ∈ ds, Atom d) → as = []
  | _, _, _, .nil, _ => rfl
  | _, _, _, .cons a b, f => by rw [(f _ (.head _)).fp a, b.atoms fun d hd => f d (.tail _ hd)]; rfl

theorem Tr.use {K n sc ρ e b X A env} {s : Shared} {Q : Bool → Shared → Prop} {E : Value → Shared → Prop} (I : In K n sc X ρ A env s.heap) (ht : Tr K n sc ρ e b) (k : ∀ h' tk, Ext s.heap h' → Q b { s with heap := h', toks := tk }) :
    wpAny (model K.prog K.w) A (isTrue e env (eval e env)) Q E s := wpAny_mono (ht.run I) (fun b' s' p => by obtain ⟨rfl, h', tk, rfl, x⟩ := p; exact k h' tk x) fun _ _ x => x
theorem Ev.use {K n sc ρ e d fr X A env} {s : Shared} {Q : Value → Shared → Prop} {E : Value → Shared → Prop} (I : In K n sc X ρ A env s.heap) (ht : Ev K n sc ρ e d fr) (k : ∀ v h' tk as, Got K s.heap X d fr v h' as → Q v { s with heap := h', toks := tk }) :
    wpAny (model K.prog K.w) A (eval e env) Q E s := wpAny_mono (ht.run I) (fun v s' p => by obtain ⟨h', tk, as, rfl, g⟩ := p; exact k v h' tk as g) fun _ _ x => x

section
variable {K : Cx} {A : Around} {n : Nat} {env : Env} {s : Shared} {Q : Value → Shared → Prop} {E : Value → Shared → Prop} {m : Str → Option Value}

theorem c3_kind (V : C3E K A n env) {y : Str} (hy : c3Scope.names.lookup y = some .local) : env.kindOf y = some .local := by show env.scope.names.lookup y = _; rw [V.hsc]; exact hy
theorem c3_name (V : C3E K A n env) {y : Str} {p : Pos} {v : Value} (hy : c3Scope.names.lookup y = some .local) (hn : s.heap.Ns env.locals m) (hm : m y = some v) (h : Q v s) (hd : (y == ("__debug__" : Str)) = false := by decide) :
    wpAny (model K.prog K.w) A (eval (.Name y p) env) Q E s := wpAny_Name (wpAny_loadName_local V.henv.kind (c3_kind V hy) hn hm h) hd
theorem c3_store (V : C3E K A n env) {y : Str} {v : Value} {R : Unit → Shared → Prop} (hy : c3Scope.names.lookup y = some .local) (hn : s.heap.Ns env.locals m)
    (h : ∀ h', h'.Ns env.locals (fun z => if z = y then some v else m z) → Heap.SameBut env.locals s.heap h' → R () { s with heap := h', toks := s.toks + 1 }) : wpAny (model K.prog K.w) A (storeName env y v) R E s :=
  wpAny_storeName_local (c3_kind V hy) hn h (by rw [V.henv.kind]; rfl)

/-- the first item of a list that a name holds -/
theorem c3_first (V : C3E K A n env) {y : Str} {p p' pos : Pos} {k : Nat} {a : Addr} {vs : List Value} {c : Nat} {v : Value} (hy : c3Scope.names.lookup y = some .local) (hn : s.heap.Ns env.locals m) (hm : m y = some (.ref a))
    (ha : s.heap.get? a = some { cls := .type "list", data := .seq (v :: vs).toArray c }) (h : Q v { s with toks := s.toks + 1 }) (hd : (y == ("__debug__" : Str)) = false := by decide) :
    wpAny (model K.prog K.w) A (eval (.Subscript (.Name y p) (.Constant (.int 0) k p') pos) env) Q E s := by
  refine Subscript_ (c3_name V hy hn hm (wpAny_Constant_int ?_) hd)
  have hl : ({ s with toks := s.toks + 1 } : Shared).heap.IsList a (v :: vs).toArray := ⟨_, ha, rfl, _, rfl⟩
  exact tail_any hl.typeIs slot_list_getitem.lookup (wpAny_getItem_list hl (by omega) (by omega) (by rfl) h) rfl
end
end Mine

namespace Mine

def whileBody : List Stmt := match c3Body with | [_, .While _ b _ _] => b | _ => []
def stSearch : Stmt := whileBody.getD 2 (.Pass ⟨0, 0, 0, 0⟩)
def stStrike : Stmt := whileBody.getD 5 (.Pass ⟨0, 0, 0, 0⟩)

theorem RdAll.uncons {h : Heap} {vs d ds as} (r : RdAll h vs (d :: ds) as) : ∃ v vs' a b, vs = v :: vs' ∧ as = a ++ b ∧ Rd h v d a ∧ RdAll h vs' ds b := by
  cases r with
  | cons x y => exact ⟨_, _, _, _, rfl, rfl, x, y⟩

theorem push_ne {h : Heap} {a : Addr} (x : ∃ o, h.get? a = some o) : a ≠ h.objs.size := let ⟨_, ho⟩ := x; Nat.ne_of_lt (Heap.lt_size ho)

section
variable {K : Cx} {A : Around} {n : Nat} {env : Env} {s : Shared} {h₀ : Heap} {As : List Addr} {l r : Addr} {P : List Addr} {f : Addr → List PyData} {out : List PyData} {Q : Flow → Shared → Prop} {E : Value → Shared → Prop} {m : Str → Option Value}

/-- a new address is none of the merge's own -/
theorem C3I.fresh (C : C3I K env h₀ As s.heap m l r P f out) : s.heap.objs.size ≠ l ∧ s.heap.objs.size ≠ r ∧ s.heap.objs.size ∉ As ∧ s.heap.objs.size ≠ env.locals := by
  refine ⟨fun q => ?_, fun q => ?_, fun q => ?_, fun q => ?_⟩
  · obtain ⟨o, ho, _⟩ := C.seqL; exact push_ne ⟨o, ho⟩ q.symm
  · obtain ⟨ws, ⟨k, ho⟩, _⟩ := C.resL; exact push_ne ⟨_, ho⟩ q.symm
  · obtain ⟨vs, k, ho, _⟩ := C.inner _ q; exact push_ne ⟨_, ho⟩ rfl
  · obtain ⟨o, _, _, ho, _⟩ := C.ns; exact push_ne ⟨o, ho⟩ q.symm

theorem C3I.new (C : C3I K env h₀ As s.heap m l r P f out) : h₀.get? s.heap.objs.size = none := by
  cases hg : h₀.get? s.heap.objs.size with
  | none => rfl
  | some o => exact absurd (C.keep _ o C.fresh.2.2.1 hg) (by rw [push_new]; exact nofun)

def stInner : Stmt := match stSearch with | .For _ _ (_ :: b :: _) _ _ => b | s => s

theorem sameBut_iter {h h' : Heap} {c : Addr} {o : Obj} (hs : Heap.SameBut env.locals h h') (hc : c ≠ env.locals) (ho : h.get? c = some o) : h'.get? c = some o := (hs.2 c hc).trans ho

/-- is the candidate behind the first of any row? -/
theorem c3_inner (V : C3E K A n env) (C : C3I K env h₀ As s.heap m l r P f out) (hat : ∀ a ∈ As, ∀ d ∈ f a, Atom d) (hsz : ∀ a ∈ As, (f a).length ≤ sizeLine)
    {x : PyData} {v : Value} (hx : Atom x) (hc : m sC = some v) (rv : Rd s.heap v x [])
    (k1 : okHead PyData.eqv (P.map f) x = true → ∀ h' tk m', C3I K env h₀ As h' m' l r P f out → m' sC = some v → Rd h' v x [] → (∀ b o, b ≠ env.locals → s.heap.get? b = some o → h'.get? b = some o) → Q .brk { s with heap := h', toks := tk })
    (k2 : okHead PyData.eqv (P.map f) x = false → ∀ h' tk m', C3I K env h₀ As h' m' l r P f out → m' sC = some .none → (∀ b o, b ≠ env.locals → s.heap.get? b = some o → h'.get? b = some o) → Q .next { s with heap := h', toks := tk }) :
    wpAny (model K.prog K.w) A (exec stInner env) Q E s := by
  have fr := C.fresh
  have hnew := C.new
  have stab : ∀ {h h' m}, C3I K env h₀ As h m l r P f out → Eff (· = s.heap.objs.size) h h' → NoTup h s.heap.objs.size → C3I K env h₀ As h' m l r P f out := fun {h h' m} C' e nt =>
    C'.upd e (C'.ns.at' fun o ho => e _ o (Ne.symm fr.2.2.2) ho) rfl rfl fun c hc => by cases hc; exact ⟨fr.1, fr.2.1, fr.2.2.1, hnew, nt⟩
  have kp : ∀ {h h' : Heap}, (∀ b o, b ≠ env.locals → s.heap.get? b = some o → h.get? b = some o) → Eff (· = s.heap.objs.size) h h' → ∀ b o, b ≠ env.locals → s.heap.get? b = some o → h'.get? b = some o := fun {h h'} h1 h2 b o hb ho =>
    h2 b o (push_ne ⟨o, ho⟩) (h1 b o hb ho)
  refine c3_for (P := P) (l := l) (x := s2') V (by rfl)
    (fun i h m' => C3I K env h₀ As h m' l r P f out ∧ m' sC = some v ∧ Rd h v x [] ∧ (∀ b o, b ≠ env.locals → s.heap.get? b = some o → h.get? b = some o) ∧ ∀ (j : Nat) a, j < i → P[j]? = some a → ((f a).tail.any fun y => PyData.eqv y x) = false)
    (fun h m' => C3I K env h₀ As h m' l r P f out ∧ m' sC = some .none ∧ (∀ b o, b ≠ env.locals → s.heap.get? b = some o → h.get? b = some o) ∧ okHead PyData.eqv (P.map f) x = false)
    (fun i h m' J => ⟨J.1.ns, J.1.seqL⟩) C.seqV ⟨C, hc, rv, fun _ _ _ e => e, fun j a hj => absurd hj (Nat.not_lt_zero _)⟩
    (fun i h h' m' J e nt => ⟨stab J.1 e nt, J.2.1, J.2.2.1.off (e.off nofun fun b hb => hb ▸ nt), kp J.2.2.2.1 e, J.2.2.2.2⟩) ?_ ?_ ?_
  · rintro i a h m₁ h₁ tk oI hPi ⟨C₁, hc₁, rv₁, kp₁, hno⟩ hs₁ hn₁ hoI ntI
    have haP : a ∈ P := List.mem_of_getElem? hPi
    have haA := C₁.PA a haP
    have C₂ := C₁.stored hs₁ hn₁ (by decide) (by decide)
    have rv₂ : Rd h₁ v x [] := rv₁.off ((Eff.of_sameBut hs₁).off nofun fun b hb => hb ▸ ns_noTup C₁.ns)
    obtain ⟨vs, c, hva, rva⟩ := C₂.inner a haA
    have I : In K n c3Scope (fun _ => False) [(sC, .py x), (s2', .py (.list (f a)))] A env h₁ := C₂.in V fun y d hy => by
      rw [List.lookup_cons] at hy
      by_cases q : y = sC
      · subst q; simp at hy; subst hy
        exact ⟨v, [], by simp [show sC ≠ s2' from by decide]; exact hc₁, by rfl, rv₂⟩
      · have hb : (y == sC) = false := by simpa using q
        simp only [hb, List.lookup_cons] at hy
        by_cases q2 : y = s2'
        · subst q2; simp at hy; subst hy
          exact ⟨.ref a, [a], by simp, by rfl, Rd.list hva rva⟩
        · have hb2 : (y == s2') = false := by simpa using q2
          simp [hb2] at hy
    refine wpAny_execs_cons (wpAny_If (Tr.use (b := (f a).tail.any fun y => PyData.eqv y x) (s := { s with heap := h₁, toks := tk }) I
      (Tr.cmp (Ev.name (by rfl)) (Ev.sliceFrom (fr := false) (Ev.name (by rfl)) Ev.cInt (by decide) (hsz a haA) nofun) (CmpOk.cast (CmpOk.inL hx.shp (Shp.list fun d hd => hat a haA d (List.mem_of_mem_drop hd))) (by
        cases f a <;> simp))) fun h₂ tk₂ x₂ => ?_))
    have C₃ := C₂.ext x₂
    have kp₃ : ∀ b o, b ≠ env.locals → s.heap.get? b = some o → h₂.get? b = some o := fun b o hb ho => x₂ b o ((hs₁.2 b hb).trans (kp₁ b o hb ho))
    cases hb : (f a).tail.any fun y => PyData.eqv y x with
    | true =>
      rw [if_pos rfl]
      refine wpAny_execs_cons (wpAny_Assign_Name (Constant_none ?_))
      refine c3_store V (y := sC) (by rfl) C₃.ns fun h₃ hn₃ hs₃ => ?_
      have C₄ := C₃.stored hs₃ hn₃ (by decide) (by decide)
      refine wpAny_execs_cons ?_
      refine fun _ _ _ => ⟨h₃, _, _, rfl, sameBut_iter hs₃ fr.2.2.2 (x₂ _ _ hoI), C₄, by simp, fun b o hb ho => (hs₃.2 b hb).trans (kp₃ b o hb ho), ?_⟩
      unfold okHead
      rw [List.all_eq_false]
      exact ⟨f a, List.mem_map.mpr ⟨a, haP, rfl⟩, by simp [hb]⟩
    | false =>
      rw [if_neg Bool.false_ne_true]
      refine wpAny_execs_nil (wpAny_execs_nil ⟨h₂, tk₂, _, rfl, x₂ _ _ hoI, C₃, by simp [show sC ≠ s2' from by decide]; exact hc₁, rv₂.ext x₂, kp₃, fun j b hj hb' => ?_⟩)
      by_cases q : j = i
      · subst q; rw [hPi] at hb'; cases hb'; exact hb
      · exact hno j b (by omega) hb'
  · rintro h m₁ tk ⟨C₁, hc₁, kp₁, hno⟩
    exact k2 hno h tk m₁ C₁ hc₁ kp₁
  · rintro h m₁ tk ⟨C₁, hc₁, rv₁, kp₁, hno⟩
    refine wpAny_execs_cons ?_
    refine fun _ _ _ => k1 ?_ h tk m₁ C₁ hc₁ rv₁ kp₁
    unfold okHead
    rw [List.all_eq_true]
    intro t ht
    obtain ⟨a, ha, rfl⟩ := List.mem_map.mp ht
    obtain ⟨j, hj, e⟩ := List.getElem_of_mem ha
    have := hno j a hj (by rw [List.getElem?_eq_getElem hj, e])
    simp [this]

theorem cand_none {R : List (List PyData)} (h : ∀ y t, y :: t ∈ R → okHead PyData.eqv R y = false) : cand PyData.eqv R = none := by
  unfold cand
  rw [List.findSome?_eq_none_iff]
  intro r hr
  cases r with
  | nil => rfl
  | cons y t => simp [h y t hr]
theorem cand_some {R : List (List PyData)} {i : Nat} {x : PyData} {t : List PyData} (hi : R[i]? = some (x :: t)) (hx : okHead PyData.eqv R x = true) (hno : ∀ (j : Nat) y t, j < i → R[j]? = some (y :: t) → okHead PyData.eqv R y = false) : cand PyData.eqv R = some x := by
  have hl : i < R.length := (List.getElem?_eq_some_iff.mp hi).1
  have hsp : R = R.take i ++ (x :: t) :: R.drop (i + 1) := by
    have := List.take_append_drop i R
    rw [List.drop_eq_getElem_cons hl, (List.getElem?_eq_some_iff.mp hi).2] at this
    exact this.symm
  unfold cand
  generalize hg : okHead PyData.eqv R = g at *
  rw [hsp, List.findSome?_append]
  rw [List.findSome?_eq_none_iff (l := R.take i) |>.mpr ?_]
  · simp [hx]
  ·
    intro r hr
    obtain ⟨j, hj, e⟩ := List.getElem_of_mem hr
    cases r with
    | nil => rfl
    | cons y t' =>
      have hj' : j < i := by simp at hj; omega
      have := hno j y t' hj' (by rw [List.getElem_take] at e; rw [← e]; exact List.getElem?_eq_getElem _)
      simp [this]

/-- the search for the next one -/
theorem c3_search (V : C3E K A n env) (C : C3I K env h₀ As s.heap m l r P f out) (hat : ∀ a ∈ As, ∀ d ∈ f a, Atom d) (hsz : ∀ a ∈ As, (f a).length ≤ sizeLine)
    (hne : ∀ a ∈ P, f a ≠ []) (hP : P ≠ [])
    (k1 : ∀ x, cand PyData.eqv (P.map f) = some x → ∀ h' tk m' v, C3I K env h₀ As h' m' l r P f out → m' sC = some v → Rd h' v x [] → Q .next { s with heap := h', toks := tk })
    (k2 : cand PyData.eqv (P.map f) = none → ∀ h' tk m', C3I K env h₀ As h' m' l r P f out → m' sC = some .none → Q .next { s with heap := h', toks := tk }) :
    wpAny (model K.prog K.w) A (exec stSearch env) Q E s := by
  have fr := C.fresh
  have hnew := C.new
  have stab : ∀ {h h' m}, C3I K env h₀ As h m l r P f out → Eff (· = s.heap.objs.size) h h' → NoTup h s.heap.objs.size → C3I K env h₀ As h' m l r P f out := fun {h h' m} C' e nt =>
    C'.upd e (C'.ns.at' fun o ho => e _ o (Ne.symm fr.2.2.2) ho) rfl rfl fun c hc => by cases hc; exact ⟨fr.1, fr.2.1, fr.2.2.1, hnew, nt⟩
  refine c3_for (P := P) (l := l) (x := s1') V (by rfl)
    (fun i h m' => C3I K env h₀ As h m' l r P f out ∧ (0 < i → m' sC = some .none) ∧ ∀ (j : Nat) y t, j < i → (P.map f)[j]? = some (y :: t) → okHead PyData.eqv (P.map f) y = false)
    (fun h m' => C3I K env h₀ As h m' l r P f out ∧ ∃ x v, cand PyData.eqv (P.map f) = some x ∧ m' sC = some v ∧ Rd h v x [])
    (fun i h m' J => ⟨J.1.ns, J.1.seqL⟩) C.seqV ⟨C, fun q => absurd q (Nat.lt_irrefl 0), fun j y t hj => absurd hj (Nat.not_lt_zero _)⟩
    (fun i h h' m' J e nt => ⟨stab J.1 e nt, J.2.1, J.2.2⟩) ?_ ?_ ?_
  · rintro i a h m₁ h₁ tk oI hPi ⟨C₁, hc₁, hno⟩ hs₁ hn₁ hoI ntI
    have haP : a ∈ P := List.mem_of_getElem? hPi
    have haA := C₁.PA a haP
    have C₂ := C₁.stored hs₁ hn₁ (by decide) (by decide)
    obtain ⟨vs, c, hva, rva⟩ := C₂.inner a haA
    obtain ⟨x, t, hfa⟩ : ∃ x t, f a = x :: t := by
      cases hq : f a with
      | nil => exact absurd hq (hne a haP)
      | cons x t => exact ⟨x, t, rfl⟩
    have hRi : (P.map f)[i]? = some (x :: t) := by rw [List.getElem?_map, hPi]; simp [hfa]
    have hx : Atom x := hat a haA x (by rw [hfa]; exact .head _)
    rw [hfa] at rva
    obtain ⟨v, vs', rfl, rv⟩ : ∃ v vs', vs = v :: vs' ∧ Rd h₁ v x [] := by
      obtain ⟨v, vs', a1, b1, e1, e2, r1, r2⟩ := rva.uncons
      exact ⟨v, vs', e1, by rw [← hx.fp r1]; exact r1⟩
    refine wpAny_execs_cons (wpAny_Assign_Name ?_)
    refine c3_first V (y := s1') (by rfl) C₂.ns (by simp) hva ?_
    refine c3_store V (y := sC) (by rfl) C₂.ns fun h₂ hn₂ hs₂ => ?_
    have C₃ := C₂.stored hs₂ hn₂ (by decide) (by decide)
    have rv₂ : Rd h₂ v x [] := rv.off ((Eff.of_sameBut hs₂).off nofun fun b hb => hb ▸ ns_noTup C₂.ns)
    have hoI₂ : h₂.get? s.heap.objs.size = some oI := (hs₂.2 _ fr.2.2.2).trans hoI
    refine wpAny_execs_cons ?_
    refine c3_inner (h₀ := h₀) V C₃ hat hsz hx (by simp) rv₂ (fun ok h₃ tk₃ m₃ C₄ hm₃ rv₃ kp₃ => ?_) (fun ok h₃ tk₃ m₃ C₄ hm₃ kp₃ => ?_)
    · exact ⟨h₃, tk₃, m₃, rfl, kp₃ _ _ fr.2.2.2 hoI₂, C₄, x, v, cand_some hRi ok hno, hm₃, rv₃⟩
    · refine wpAny_execs_nil ⟨h₃, tk₃, m₃, rfl, kp₃ _ _ fr.2.2.2 hoI₂, C₄, fun _ => hm₃, fun j y t' hj hq => ?_⟩
      by_cases q : j = i
      · subst q; rw [hRi] at hq; cases hq; exact ok
      · exact hno j y t' (by omega) hq
  · rintro h m₁ tk ⟨C₁, x, v, hx, hm, rv⟩
    exact k1 x hx h tk m₁ v C₁ hm rv
  · rintro h m₁ tk ⟨C₁, hc₁, hno⟩
    refine wpAny_execs_nil (k2 (cand_none fun y t hyt => ?_) h tk m₁ C₁ (hc₁ (List.length_pos_iff.mpr hP)))
    obtain ⟨j, hj, e⟩ := List.getElem_of_mem hyt
    exact hno j y t (by simpa using hj) (by rw [List.getElem?_eq_getElem hj, e])
end
end Mine

namespace Mine

theorem noTup_list {h : Heap} {a : Addr} {vs : Array Value} {n : Nat} (ho : h.get? a = some { cls := .type "list", data := .seq vs n }) : NoTup h a := fun xs k e => by
  rw [ho] at e; injection e with e; injection e with e1; exact absurd e1 (by decide)

section
variable {K : Cx} {A : Around} {n : Nat} {env : Env} {s : Shared} {h₀ h h' : Heap} {As : List Addr} {l r : Addr} {P : List Addr} {f : Addr → List PyData} {out : List PyData} {Q : Flow → Shared → Prop} {E : Value → Shared → Prop} {m : Str → Option Value}

theorem C3I.ne_locals (C : C3I K env h₀ As h m l r P f out) : l ≠ env.locals ∧ r ≠ env.locals ∧ env.locals ∉ As := by
  refine ⟨fun q => ?_, fun q => ?_, fun q => ?_⟩
  · obtain ⟨o, ho, _, k, hd⟩ := C.seqL; obtain ⟨o', es, ep, ho', hd', _⟩ := C.ns; rw [q, ho'] at ho; cases ho; rw [hd] at hd'; cases hd'
  · obtain ⟨ws, ⟨k, ho⟩, _⟩ := C.resL; obtain ⟨o', es, ep, ho', hd', _⟩ := C.ns; rw [q, ho'] at ho; cases ho; cases hd'
  · obtain ⟨vs, k, ho, _⟩ := C.inner _ q; obtain ⟨o', es, ep, ho', hd', _⟩ := C.ns; rw [ho] at ho'; cases ho'; cases hd'

theorem C3I.setInner (C : C3I K env h₀ As h m l r P f out) {a : Addr} (ha : a ∈ As) {ws : List Value} {c : Nat} {ds : List PyData} (ho : h'.get? a = some { cls := .type "list", data := .seq ws.toArray c }) (rd : RdAll h ws ds []) (hs : Heap.SameBut a h h') :
    C3I K env h₀ As h' m l r P (fun b => if b = a then ds else f b) out := by
  have e := Eff.of_sameBut hs
  have nt : NoTup h a := let ⟨_, _, h1, _⟩ := C.inner a ha; noTup_list h1
  have off : ∀ {vs ds}, RdAll h vs ds [] → RdAll h' vs ds [] := fun {vs ds} q => q.off (e.off nofun fun c hc => hc ▸ nt)
  have na : env.locals ≠ a := fun q => C.ne_locals.2.2 (q ▸ ha)
  exact {
    ok := ⟨C.ok.g, C.ok.b, C.ok.lim, e.ext C.ok.ext fun c hc => hc ▸ C.AK a ha⟩
    base := C.base
    ns := C.ns.at' fun o ho => (hs.2 _ na).trans ho
    Lnew := C.Lnew
    keep := fun b o hb hb' => (hs.2 b fun q => hb (q ▸ ha)).trans (C.keep b o hb hb')
    inner := fun b hb => by
      by_cases q : b = a
      · subst q; exact ⟨ws, c, ho, by simp; exact off rd⟩
      · obtain ⟨vs, k, h1, h2⟩ := C.inner b hb
        exact ⟨vs, k, (hs.2 b q).trans h1, by simp [q]; exact off h2⟩
    seqV := C.seqV
    seqL := let ⟨o, ho, hr⟩ := C.seqL; ⟨o, (hs.2 l fun q => C.lA (q ▸ ha)).trans ho, hr⟩
    resV := C.resV
    resL := let ⟨ws, h1, h2⟩ := C.resL; ⟨ws, h1.at fun o ho => (hs.2 r fun q => C.rA (q ▸ ha)).trans ho, off h2⟩
    rnew := C.rnew
    rA := C.rA
    lA := C.lA
    lr := C.lr
    PA := C.PA
    AK := C.AK }

theorem C3I.setRes (C : C3I K env h₀ As h m l r P f out) {ws : List Value} {ds : List PyData} (ho : h'.PlainList r ws.toArray) (rd : RdAll h ws ds []) (hs : Heap.SameBut r h h') :
    C3I K env h₀ As h' m l r P f ds := by
  have e := Eff.of_sameBut hs
  have nt : NoTup h r := let ⟨_, ⟨_, h1⟩, _⟩ := C.resL; noTup_list h1
  have off : ∀ {vs ds}, RdAll h vs ds [] → RdAll h' vs ds [] := fun {vs ds} q => q.off (e.off nofun fun c hc => hc ▸ nt)
  exact {
    ok := ⟨C.ok.g, C.ok.b, C.ok.lim, e.ext C.ok.ext fun c hc => hc ▸ C.base.none C.rnew⟩
    base := C.base
    ns := C.ns.at' fun o ho => (hs.2 _ C.ne_locals.2.1.symm).trans ho
    Lnew := C.Lnew
    keep := fun b o hb hb' => (hs.2 b fun q => by rw [q, C.rnew] at hb'; cases hb').trans (C.keep b o hb hb')
    inner := fun b hb => let ⟨vs, k, h1, h2⟩ := C.inner b hb; ⟨vs, k, (hs.2 b fun q => C.rA (q ▸ hb)).trans h1, off h2⟩
    seqV := C.seqV
    seqL := let ⟨o, ho, hr⟩ := C.seqL; ⟨o, (hs.2 l C.lr).trans ho, hr⟩
    resV := C.resV
    resL := ⟨ws, ho, off rd⟩
    rnew := C.rnew
    rA := C.rA
    lA := C.lA
    lr := C.lr
    PA := C.PA
    AK := C.AK }

theorem C3I.congr {g : Addr → List PyData} (C : C3I K env h₀ As h m l r P f out) (e : ∀ a ∈ As, g a = f a) : C3I K env h₀ As h m l r P g out :=
  { C with inner := fun a ha => by rw [e a ha]; exact C.inner a ha }

def stDel : Stmt := match stStrike with | .For _ _ [.If _ [b] _ _] _ _ => b | s => s

/-- `del seq[0]` -/
theorem c3_del (V : C3E K A n env) (C : C3I K env h₀ As s.heap m l r P f out) {a : Addr} (ha : a ∈ As) (hm : m sQ = some (.ref a)) {x : PyData} {t : List PyData} (hfa : f a = x :: t) (hx : Atom x) (hsz : (f a).length ≤ sizeLine)
    (k : ∀ h' tk, C3I K env h₀ As h' m l r P (fun b => if b = a then t else f b) out → Heap.SameBut a s.heap h' → Q .next { s with heap := h', toks := tk }) :
    wpAny (model K.prog K.w) A (exec stDel env) Q E s := by
  obtain ⟨vs, c, hva, rva⟩ := C.inner a ha
  rw [hfa] at rva
  obtain ⟨v, vs', a1, b1, rfl, e2, r1, r2⟩ := rva.uncons
  have hlen : (v :: vs').length = (f a).length := by rw [hfa]; exact rva.length
  obtain rfl : b1 = [] := (List.append_eq_nil_iff.mp e2.symm).2
  refine wpAny_Delete (wpAny_deleteEach_cons (wpAny_delete_Subscript ?_))
  refine c3_name V (y := sQ) (by rfl) C.ns hm (wpAny_Constant_int ?_)
  refine wpAny_delItem_plain (k := 0) ⟨c, hva⟩ (by rfl) (by simp [seqIndex?]) (fun h' hl' hs' => ?_) (by simpa [hlen] using hsz)
  obtain ⟨c', hl'⟩ := hl'
  refine wpAny_deleteEach_nil (k h' _ (C.setInner (ws := vs') (c := c') ha (by rw [hl']; simp) r2 hs') hs')

/-- the candidate goes from the front of each row -/
theorem c3_strike (V : C3E K A n env) (C : C3I K env h₀ As s.heap m l r P f out) (hat : ∀ a ∈ As, ∀ d ∈ f a, Atom d) (hsz : ∀ a ∈ As, (f a).length ≤ sizeLine)
    (hne : ∀ a ∈ P, f a ≠ []) (hnd : P.Nodup) {x : PyData} {v : Value} (hx : Atom x) (hc : m sC = some v) (rv : Rd s.heap v x [])
    (k : ∀ h' tk m', C3I K env h₀ As h' m' l r P (fun a => if a ∈ P then strike1 PyData.eqv x (f a) else f a) out → Q .next { s with heap := h', toks := tk }) :
    wpAny (model K.prog K.w) A (exec stStrike env) Q E s := by
  have fr := C.fresh
  have hnew := C.new
  have stab : ∀ {h h' m f}, C3I K env h₀ As h m l r P f out → Eff (· = s.heap.objs.size) h h' → NoTup h s.heap.objs.size → C3I K env h₀ As h' m l r P f out := fun {h h' m f} C' e nt =>
    C'.upd e (C'.ns.at' fun o ho => e _ o (Ne.symm fr.2.2.2) ho) rfl rfl fun c hc => by cases hc; exact ⟨fr.1, fr.2.1, fr.2.2.1, hnew, nt⟩
  refine c3_for (P := P) (l := l) (x := sQ) V (by rfl)
    (fun i h m' => C3I K env h₀ As h m' l r P (fun a => if a ∈ P.take i then strike1 PyData.eqv x (f a) else f a) out ∧ m' sC = some v ∧ Rd h v x [])
    (fun h m' => False)
    (fun i h m' J => ⟨J.1.ns, J.1.seqL⟩) C.seqV ⟨C.congr fun a _ => by simp, hc, rv⟩
    (fun i h h' m' J e nt => ⟨stab J.1 e nt, J.2.1, J.2.2.off (e.off nofun fun b hb => hb ▸ nt)⟩) ?_ (fun _ _ _ q => q.elim) ?_
  · rintro i a h m₁ h₁ tk oI hPi ⟨C₁, hc₁, rv₁⟩ hs₁ hn₁ hoI ntI
    have haP : a ∈ P := List.mem_of_getElem? hPi
    have haA := C₁.PA a haP
    have hi : i < P.length := (List.getElem?_eq_some_iff.mp hPi).1
    have hai : P[i] = a := (List.getElem?_eq_some_iff.mp hPi).2
    have hnot : a ∉ P.take i := fun q => by
      obtain ⟨j, hj, e⟩ := List.getElem_of_mem q
      rw [List.getElem_take] at e
      have hj' : j < i := by simp at hj; omega
      exact List.pairwise_iff_getElem.mp hnd j i (by omega) hi hj' (e.trans hai.symm)
    have htk : P.take (i + 1) = P.take i ++ [a] := by rw [List.take_succ_eq_append_getElem hi, hai]
    have C₂ := C₁.stored hs₁ hn₁ (by decide) (by decide)
    have rv₂ : Rd h₁ v x [] := rv₁.off ((Eff.of_sameBut hs₁).off nofun fun b hb => hb ▸ ns_noTup C₁.ns)
    obtain ⟨vs, c, hva, rva⟩ := C₂.inner a haA
    rw [if_neg hnot] at rva
    obtain ⟨y, t, hfa⟩ : ∃ x t, f a = x :: t := by
      cases hq : f a with
      | nil => exact absurd hq (hne a haP)
      | cons x t => exact ⟨x, t, rfl⟩
    have hy : Atom y := hat a haA y (by rw [hfa]; exact .head _)
    have I : In K n c3Scope (fun _ => False) [(sC, .py x), (sQ, .py (.list (f a)))] A env h₁ := C₂.in V fun z d hz => by
      rw [List.lookup_cons] at hz
      by_cases q : z = sC
      · subst q; simp at hz; subst hz
        exact ⟨v, [], by simp [show sC ≠ sQ from by decide]; exact hc₁, by rfl, rv₂⟩
      · have hb : (z == sC) = false := by simpa using q
        simp only [hb, List.lookup_cons] at hz
        by_cases q2 : z = sQ
        · subst q2; simp at hz; subst hz
          exact ⟨.ref a, [a], by simp, by rfl, Rd.list hva rva⟩
        · have hb2 : (z == sQ) = false := by simpa using q2
          simp [hb2] at hz
    refine wpAny_execs_cons (wpAny_If (Tr.use (b := PyData.eqv y x) (s := { s with heap := h₁, toks := tk }) I
      (Tr.cmp (Ev.item (Ev.name (by rfl)) Ev.cInt (by decide) (by rw [hfa]; rfl) (hsz a haA)) (Ev.name (by rfl)) (CmpOk.eqD hy.shp hx.shp)) fun h₂ tk₂ x₂ => ?_))
    have C₃ := C₂.ext x₂
    cases hb : PyData.eqv y x with
    | true =>
      rw [if_pos rfl]
      refine wpAny_execs_cons (c3_del V C₃ haA (by simp) (by rw [if_neg hnot]; exact hfa) hy (by rw [if_neg hnot]; exact hsz a haA) fun h₃ tk₃ C₄ hs₃ => wpAny_execs_nil (wpAny_execs_nil
        ⟨h₃, tk₃, _, rfl, ?_, C₄.congr fun b hbA => ?_, by simp [show sC ≠ sQ from by decide]; exact hc₁, ?_⟩))
      · exact (hs₃.2 s.heap.objs.size fun q => fr.2.2.1 (q ▸ haA)).trans (x₂ _ _ hoI)
      · rw [htk]
        by_cases q : b = a
        · subst q; simp [hfa, strike1, hb]
        · simp [q]
      · exact (rv₂.ext x₂).off ((Eff.of_sameBut hs₃).off nofun fun b hb => hb ▸ (let ⟨_, _, h1, _⟩ := C₃.inner a haA; noTup_list h1))
    | false =>
      rw [if_neg Bool.false_ne_true]
      refine wpAny_execs_nil (wpAny_execs_nil ⟨h₂, tk₂, _, rfl, x₂ _ _ hoI, C₃.congr fun b hbA => ?_, by simp [show sC ≠ sQ from by decide]; exact hc₁, rv₂.ext x₂⟩)
      rw [htk]
      by_cases q : b = a
      · subst q; simp [hfa, strike1, hb]
      · simp [q]
  · rintro h m₁ tk ⟨C₁, hc₁, rv₁⟩
    exact wpAny_execs_nil (k h tk m₁ (C₁.congr fun a _ => by simp))
end
end Mine

namespace Mine

def stPurge : Stmt := whileBody.getD 0 (.Pass ⟨0, 0, 0, 0⟩)
def stEmpty : Stmt := whileBody.getD 1 (.Pass ⟨0, 0, 0, 0⟩)
def stNone : Stmt := whileBody.getD 3 (.Pass ⟨0, 0, 0, 0⟩)
def stAppend : Stmt := whileBody.getD 4 (.Pass ⟨0, 0, 0, 0⟩)

theorem paired_eq {α : Type} : ∀ {l₁ l₂ : List α}, Paired (fun a b => a = b) l₁ l₂ → l₁ = l₂
  | _, _, .nil => rfl
  | _, _, .cons a b => by rw [a, paired_eq b]

theorem RdAll.eq_iff_len {h : Heap} {vs ds as} (r : RdAll h vs ds as) : vs.toArray.isEmpty = ds.isEmpty := by
  have := r.length
  cases vs <;> cases ds <;> simp_all

section
variable {K : Cx} {A : Around} {n : Nat} {env : Env} {s : Shared} {h₀ h h' : Heap} {As : List Addr} {l r : Addr} {P : List Addr} {f : Addr → List PyData} {out : List PyData} {Q : Flow → Shared → Prop} {E : Value → Shared → Prop} {m : Str → Option Value}

theorem C3I.purged (C : C3I K env h₀ As h m l r P f out) {D : Addr} {P' : List Addr} (hD : h.get? D = none) (hl : h'.IsList D (P'.map Value.ref).toArray) (hP : ∀ a ∈ P', a ∈ P) (hn : h'.Ns env.locals fun z => if z = sS then some (.ref D) else m z)
    (e : Eff (· = env.locals) h h') : C3I K env h₀ As h' (fun z => if z = sS then some (.ref D) else m z) D r P' f out := by
  have nt : NoTup h env.locals := ns_noTup C.ns
  have off : ∀ {vs ds}, RdAll h vs ds [] → RdAll h' vs ds [] := fun {vs ds} q => q.off (e.off nofun fun c hc => hc ▸ nt)
  have nl := C.ne_locals
  exact {
    ok := ⟨C.ok.g, C.ok.b, C.ok.lim, e.ext C.ok.ext fun c hc => hc ▸ C.base.none C.Lnew⟩
    base := C.base
    ns := hn
    Lnew := C.Lnew
    keep := fun b o hb hb' => e b o (fun q => by rw [q, C.Lnew] at hb'; cases hb') (C.keep b o hb hb')
    inner := fun b hb => let ⟨vs, k, h1, h2⟩ := C.inner b hb; ⟨vs, k, e b _ (fun q => nl.2.2 (q ▸ hb)) h1, off h2⟩
    seqV := by simp
    seqL := hl
    resV := by simp [show sR ≠ sS from by decide]; exact C.resV
    resL := let ⟨ws, h1, h2⟩ := C.resL; ⟨ws, h1.at fun o ho => e r o nl.2.1 ho, off h2⟩
    rnew := C.rnew
    rA := C.rA
    lA := fun q => by obtain ⟨vs, k, ho, _⟩ := C.inner _ q; rw [hD] at ho; cases ho
    lr := fun q => by obtain ⟨ws, ⟨k, ho⟩, _⟩ := C.resL; rw [← q, hD] at ho; cases ho
    PA := fun a ha => C.PA a (hP a ha)
    AK := C.AK }

def ne' (f : Addr → List PyData) (a : Addr) : Bool := !(f a).isEmpty

/-- `sequences = [s for s in sequences if s]` -/
theorem c3_purge (V : C3E K A n env) (C : C3I K env h₀ As s.heap m l r P f out) (hsz : ∀ a ∈ As, (f a).length ≤ sizeLine) (hP : P.length ≤ sizeLine)
    (k : ∀ h' tk m' l', C3I K env h₀ As h' m' l' r (P.filter (ne' f)) f out → Q .next { s with heap := h', toks := tk }) :
    wpAny (model K.prog K.w) A (exec stPurge env) Q E s := by
  have hkS : env.kindOf sS = some .local := c3_kind V (by rfl)
  refine wpAny_Assign_ListComp_map (fun v => match v with | .ref a => ne' f a | _ => false) (fun v y => v = y) ?_ V.room.quiet (by decide) (by decide) rfl (by decide) (by decide) (y := sS) hkS (by rw [V.henv.kind]; rfl) ?_
  · show pure _ = pure true
    congr 1
    have h1 : env.blockKind = .function := by unfold Env.blockKind; rw [V.henv.kind]; rfl
    rw [h1, hkS]
    decide
  · refine c3_name V (y := sS) (by rfl) C.ns C.seqV ⟨l, _, m, rfl, C.seqL, by simpa using hP, C.ns, ?_, ?_, ?_⟩
    · intro Cm v s₂ m₂ E' hv hn hm hk
      obtain ⟨a, ha, rfl⟩ : ∃ a ∈ P, Value.ref a = v := by simpa using hv
      obtain ⟨vs, c, hva, rva⟩ := C.inner a (C.PA a ha)
      have hva₂ := hk _ _ hva
      refine wpAny_tests_one (isTrue_plain (wpAny_Name (wpAny_loadName_local rfl (by rfl) hn hm ?_) (by decide)))
      refine wpAny_truthy_list (items := vs.toArray) ⟨_, hva₂, rfl, _, rfl⟩ ?_ ?_
      · have := hsz a (C.PA a ha)
        rw [List.size_toArray, rva.length]
        exact Int.lt_of_le_of_lt (Int.ofNat_le.mpr this) (by decide)
      · exact ⟨by show _ = !(f a).isEmpty; rw [rva.eq_iff_len], s₂.heap, _, rfl, fun _ _ q => q⟩
    · intro Cm v s₂ m₂ E' hv hp hn hm hk
      exact wpAny_Name (wpAny_loadName_local rfl (by rfl) hn hm ⟨rfl, s₂.heap, _, rfl, fun _ _ q => q⟩) (by decide)
    · intro D h' tk ys hD hl hF hn hk
      have hys : ys = ((P.filter (ne' f)).map Value.ref).toArray := by
        have := paired_eq hF
        rw [List.filter_map] at this
        rw [← Array.toArray_toList (xs := ys), ← this]
        rfl
      exact k h' tk _ D (C.purged hD (hys ▸ hl) (fun a ha => (List.mem_filter.mp ha).1) hn fun b o hb ho => hk b o hb ho)

/-- `result.append(candidate)` -/
theorem c3_append (V : C3E K A n env) (C : C3I K env h₀ As s.heap m l r P f out) {x : PyData} {v : Value} (hc : m sC = some v) (rv : Rd s.heap v x []) (hsz : out.length ≤ sizeLine)
    (k : ∀ h' tk, C3I K env h₀ As h' m l r P f (out ++ [x]) → Rd h' v x [] → Q .next { s with heap := h', toks := tk }) :
    wpAny (model K.prog K.w) A (exec stAppend env) Q E s := by
  have hint : interactive env = false := by unfold interactive; rw [V.henv.kind]; rfl
  refine wpAny_Expr_any (wpAny_Call_method1_late (by rfl) (by rfl) (by rfl) (c3_name V (y := sR) (by rfl) C.ns C.resV ?_)) hint (by rfl)
  obtain ⟨ws, ⟨c, hr⟩, rd⟩ := C.resL
  have nt : NoTup s.heap r := noTup_list hr
  refine ⟨"list", "list.append", F.plainAttrs_list, F.slot_list_append, F.type_list_append, ⟨_, hr, rfl⟩, fun a ha => by cases ha; exact ⟨_, hr, rfl⟩, PySem.P.append_list (c3_name V (y := sC) (by rfl) C.ns hc
    ⟨ws.toArray, c, by rw [List.size_toArray, rd.length]; exact hsz, hr, ?_⟩)⟩
  have hs : Heap.SameBut r s.heap (s.heap.update r (Obj.mapSeq fun xs => xs.push v)) := Heap.SameBut.update ..
  refine k _ _ (C.setRes (ws := ws ++ [v]) ⟨_, by simpa using IsL.update (n := c) hr (fun xs => xs.push v)⟩ ?_ hs) (rv.off ((Eff.of_sameBut hs).off nofun fun b hb => hb ▸ nt))
  exact rd.append (RdAll.one rv)
end
end Mine

namespace Mine

def words : Str := "Inconsistent hierarchy"

def Kept (S : List Addr) (h h' : Heap) : Prop := ∀ b o, h.get? b = some o → ∃ sl, h'.get? b = some { o with slots := sl } ∧ (b ∉ S → sl = o.slots)
theorem Kept.refl (S : List Addr) (h : Heap) : Kept S h h := fun b o e => ⟨o.slots, e, fun _ => rfl⟩
theorem Kept.trans {S : List Addr} {h₁ h₂ h₃ : Heap} (x : Kept S h₁ h₂) (y : Kept S h₂ h₃) : Kept S h₁ h₃ := fun b o e =>
  let ⟨_, e₁, k₁⟩ := x b o e; let ⟨sl, e₂, k₂⟩ := y b _ e₁; ⟨sl, e₂, fun hb => (k₂ hb).trans (k₁ hb)⟩
theorem Kept.get {S : List Addr} {h h' : Heap} (x : Kept S h h') {b : Addr} {o : Obj} (hb : b ∉ S) (ho : h.get? b = some o) : h'.get? b = some o := by
  obtain ⟨sl, e, k⟩ := x b o ho
  rw [k hb] at e; exact e
theorem Ext.kept {h h' : Heap} (S : List Addr) (x : Ext h h') : Kept S h h' := fun b o e => ⟨o.slots, x b o e, fun _ => rfl⟩

/-- frames that stand around, as the heap has them -/
def Fms (h : Heap) : List Env → Prop := h.FunFrames {}

section
variable {M : Model} {A : Around} {E : Value → Shared → Prop} {s : Shared} {B : Heap}

theorem newEntry_ok {env : Env} {outer : List Env} {L e : Addr} {oe : Obj} {vs : Array Value} {head : Value} {hadNext : Bool} {Q : Unit → Shared → Prop}
    (hfr : A.frames = some (env :: outer)) (hl : s.heap.FunFrames B (env :: outer)) (hf : env.frame = some L)
    (he : s.heap.get? e = some oe) (hd : oe.data = .fields vs) (hsz : 1 < vs.size)
    (k : ∀ h' T oT ts, s.heap.get? T = none → T ≠ e → h'.get? T = some oT → oT.data = .fields ts → ts[3]? = some (rawInt L) → h'.get? e = some (oe.mapFields (·.setIfInBounds 1 (.ref T))) →
      (∀ b o, b ≠ e → s.heap.get? b = some o → ∃ sl, h'.get? b = some { o with slots := sl } ∧ (b ∉ (env :: outer).filterMap (·.frame) → sl = o.slots)) → Q () { s with heap := h' }) :
    wpAny M A (do let a ← frameOf env; let pl ← entryPlaceOf L hadNext; let b ← EntryCells.newEntry head a .none (rawInt L) .none pl; setField (.ref e) 1 b) Q E s := by
  have hene : e ∉ (env :: outer).filterMap (·.frame) := fun hm => by
    obtain ⟨_, o, ho, hnf⟩ := hl.mem hm
    rw [he] at ho; injection ho with ho; subst ho; exact hnf vs hd
  refine wpAny_bind (wpAny_frameOf_fun hfr hl hf fun h₁ hs₁ => ?_)
  refine wpAny_bind (wpAny_entryPlaceOf fun pl hpl => ?_)
  unfold EntryCells.newEntry newFields
  refine wpAny_bind (wpAny_newObj_type ?_ (hpl.sizeOk5 _ _ _ _ _))
  have he₁ : h₁.get? e = some oe := (hs₁.2.1 e hene).trans he
  have he₂ := Heap.get?_push_of_some (h := h₁) { cls := .type "traceback", dict := none, data := .fields ([head, .ref L, .none, rawInt L, .none] ++ (if pl.isEmpty then List.replicate 6 Value.none else pl)).toArray } he₁
  refine wpAny_setField he₂ hd hsz ?_
  have hTe : h₁.objs.size ≠ e := Nat.ne_of_gt (Heap.lt_size he₁)
  have hd₃ := Obj.data_mapFields hd (·.setIfInBounds 1 (Value.ref h₁.objs.size))
  have he₃ := Heap.get?_update_self (Obj.mapFields (·.setIfInBounds 1 (Value.ref h₁.objs.size))) he₂ (Obj.isFreed_of_fields hd₃)
  have hT₃ := (Heap.get?_update_other (h₁.push { cls := .type "traceback", dict := none, data := .fields ([head, .ref L, .none, rawInt L, .none] ++ (if pl.isEmpty then List.replicate 6 Value.none else pl)).toArray })
    (Obj.mapFields (·.setIfInBounds 1 (Value.ref h₁.objs.size))) (Ne.symm hTe)).trans (Heap.get?_push_size h₁ rfl)
  refine k _ h₁.objs.size _ _ (Heap.get?_none_of_le (by rw [hs₁.1]; exact Nat.le_refl _)) hTe hT₃ rfl (by simp) he₃ fun b o hbe hb => ?_
  obtain ⟨sl, hsl⟩ := hs₁.2.2 b o hb
  refine ⟨sl, ?_, fun hbS => ?_⟩
  · rw [Heap.get?_update_other _ _ (Ne.symm hbe)]
    exact Heap.get?_push_of_some _ hsl
  · have := (hs₁.2.1 b hbS).trans hb
    rw [hsl] at this
    have := congrArg Obj.slots (Option.some.inj this)
    exact this
end

/-- the refusal on its way: where it has been noted last -/
structure Fly (hb h : Heap) (e : Addr) (st : Option (Option Addr)) : Prop where
  there : ∃ o vs t ot u k, h.get? e = some o ∧ o.cls = .type "RuntimeError" ∧ o.data = .fields vs ∧ 3 < vs.size ∧ vs[0]? = some (.ref t) ∧ h.get? t = some ot ∧ ot.cls = .type "tuple" ∧ ot.data = .seq #[.str words u] k ∧
    match st with
    | none => vs[1]? = some .none
    | some f => ∃ T oT ts, vs[1]? = some (.ref T) ∧ T ≠ e ∧ hb.get? T = none ∧ h.get? T = some oT ∧ oT.data = .fields ts ∧ ts[3]? = some (f.elim .none fun a => rawInt a)
  new : hb.get? e = none

theorem Fly.keep {hb h h' : Heap} {S : List Addr} {e : Addr} {st} (F : Fly hb h e st) (k : Kept S h h') : Fly hb h' e st := by
  obtain ⟨o, vs, t, ot, u, kk, h1, h2, h3, h4, h5, h6, h7, h8, h9⟩ := F.there
  obtain ⟨sl, e1, _⟩ := k e o h1
  obtain ⟨sl', e2, _⟩ := k t ot h6
  refine ⟨⟨_, vs, t, _, u, kk, e1, h2, h3, h4, h5, e2, h7, h8, ?_⟩, F.new⟩
  cases st with
  | none => exact h9
  | some f =>
    obtain ⟨T, oT, ts, a1, a2, a3, a4, a5, a6⟩ := h9
    obtain ⟨sl'', e3, _⟩ := k T oT a4
    exact ⟨T, _, ts, a1, a2, a3, e3, a5, a6⟩

section
variable {M : Model} {A : Around} {E : Value → Shared → Prop} {s : Shared} {B hb : Heap}

theorem note_new {env : Env} {outer : List Env} {L e : Addr} {Q : Unit → Shared → Prop} (hfr : A.frames = some (env :: outer)) (hl : s.heap.FunFrames B (env :: outer)) (hf : env.frame = some L) (F : Fly hb s.heap e none)
    (kb : Kept ((env :: outer).filterMap (·.frame)) hb s.heap)
    (k : ∀ h', Fly hb h' e (some (some L)) → Kept ((env :: outer).filterMap (·.frame)) hb h' → h'.FunFrames B (env :: outer) → Q () { s with heap := h' }) :
    wpAny M A (noteFrame (.ref e) env) Q E s := by
  obtain ⟨o, vs, t, ot, u, kk, h1, h2, h3, h4, h5, h6, h7, h8, h9⟩ := F.there
  unfold noteFrame
  simp only [hf]
  refine wpAny_bind (wpAny_field h1 h3 h9 ?_)
  rw [if_neg (by decide)]
  refine newEntry_ok hfr hl hf h1 h3 (by omega) fun h' T oT ts hT hTe hT' hdT h3T he' keep => ?_
  have hbk : ∀ b o', hb.get? b = some o' → b ≠ e := fun b o' hb' q => by rw [q, F.new] at hb'; cases hb'
  have hte : t ≠ e := fun q => by rw [q, h1] at h6; cases h6; rw [h8] at h3; cases h3
  obtain ⟨slt, ht', _⟩ := keep t ot hte h6
  have hsz' : 3 < (vs.setIfInBounds 1 (.ref T)).size := by rw [Array.size_setIfInBounds]; exact h4
  have hv0 : (vs.setIfInBounds 1 (.ref T))[0]? = some (.ref t) := by rw [Array.getElem?_setIfInBounds_ne (by decide)]; exact h5
  have hv1 : (vs.setIfInBounds 1 (.ref T))[1]? = some (.ref T) := by rw [Array.getElem?_setIfInBounds_self]; simp; omega
  refine k h' ⟨⟨_, vs.setIfInBounds 1 (.ref T), t, _, u, kk, he', (Obj.cls_mapFields _ _).trans h2, Obj.data_mapFields h3 _, hsz', hv0, ht', h7, h8, T, oT, ts, hv1, hTe, ?_, hT', hdT, h3T⟩, F.new⟩ (fun b o' hb' => ?_) (hl.of_keeps fun b o' hb' hnf => ?_)
  · cases q : hb.get? T with
    | none => rfl
    | some o' => obtain ⟨sl, hsl, _⟩ := kb T o' q; rw [hT] at hsl; cases hsl
  · obtain ⟨sl, e1, k1⟩ := kb b o' hb'
    obtain ⟨sl', e2, k2⟩ := keep b _ (hbk b o' hb') e1
    exact ⟨sl', e2, fun hbS => (k2 hbS).trans (k1 hbS)⟩
  · have : b ≠ e := fun q => by rw [q, h1] at hb'; cases hb'; exact hnf vs h3
    obtain ⟨sl, e1, _⟩ := keep b o' this hb'
    exact ⟨_, e1, rfl⟩

theorem note_again {env : Env} {L e : Addr} {Q : Unit → Shared → Prop} (hf : env.frame = some L) (F : Fly hb s.heap e (some (some L))) (k : Q () s) : wpAny M A (noteFrame (.ref e) env) Q E s := by
  obtain ⟨o, vs, t, ot, u, kk, h1, h2, h3, h4, h5, h6, h7, h8, T, oT, ts, a1, a2, a3, a4, a5, a6⟩ := F.there
  exact wpAny_noteFrame_inFlight hf h1 h3 a1 a4 a5 a6 k

/-- its last entry is marked -/
theorem flight_set {e : Addr} {f f' : Option Addr} {Q : Unit → Shared → Prop} {S : List Addr} (F : Fly hb s.heap e (some f)) (kb : Kept S hb s.heap) {l : List Env} (hl : s.heap.FunFrames B l)
    (k : ∀ h', Fly hb h' e (some f') → Kept S hb h' → h'.FunFrames B l → Q () { s with heap := h' }) : wpAny M A (setFlight (.ref e) f') Q E s := by
  obtain ⟨o, vs, t, ot, u, kk, h1, h2, h3, h4, h5, h6, h7, h8, T, oT, ts, a1, a2, a3, a4, a5, a6⟩ := F.there
  have hs3 : 3 < ts.size := (Array.getElem?_eq_some_iff.mp a6).1
  unfold setFlight
  refine wpAny_bind (wpAny_field h1 h3 a1 ?_)
  rw [if_pos (show (Value.ref T != Value.none) = true from by simp)]
  refine wpAny_setField a4 a5 hs3 ?_
  have other : ∀ b, b ≠ T → (s.heap.update T (Obj.mapFields (·.setIfInBounds 3 (f'.elim .none fun a => rawInt a)))).get? b = s.heap.get? b := fun b hb => Heap.get?_update_other _ _ (Ne.symm hb)
  have hd' := Obj.data_mapFields a5 (·.setIfInBounds 3 (f'.elim .none fun a => rawInt a))
  have htT : t ≠ T := fun q => by rw [q, a4] at h6; cases h6; rw [h8] at a5; cases a5
  refine k _ ⟨⟨o, vs, t, ot, u, kk, (other e (Ne.symm a2)).trans h1, h2, h3, h4, h5, (other t htT).trans h6, h7, h8, T, _, _, a1, a2, a3, Heap.get?_update_self _ a4 (Obj.isFreed_of_fields hd'), hd', by simp [hs3]⟩, F.new⟩ (fun b o' hb' => ?_) (hl.of_keeps fun b o' hb' hnf => ?_)
  · obtain ⟨sl, e1, k1⟩ := kb b o' hb'
    exact ⟨sl, (other b fun q => by rw [q, a3] at hb'; cases hb').trans e1, k1⟩
  · exact ⟨o', (other b fun q => by rw [q, a4] at hb'; cases hb'; exact hnf ts a5).trans hb', rfl⟩

theorem cameBack_ok {env : Env} {e : Addr} {f : Option Addr} {S : List Addr} {l : List Env} (F : Fly hb s.heap e (some f)) (kb : Kept S hb s.heap) (hl : s.heap.FunFrames B l)
    (k : ∀ h', Fly hb h' e (some env.frame) → Kept S hb h' → h'.FunFrames B l → E (.ref e) { s with heap := h' }) : cameBackBy M A env E (.ref e) s := by
  obtain ⟨o, vs, t, ot, u, kk, h1, h2, h3, h4, h5, h6, h7, h8, T, oT, ts, a1, a2, a3, a4, a5, a6⟩ := F.there
  unfold cameBackBy
  refine wpAny_bind (wpAny_field h1 h3 a1 ?_)
  rw [if_neg (show ¬ ((Value.ref T == Value.none) = true) from by simp)]
  exact flight_set F kb hl k
end
end Mine

namespace Mine

/-! ### the merge, plainly: how much to do is left -/
section
variable {α : Type} {eq : α → α → Bool} {R : List (List α)} {c : α}

def tot (R : List (List α)) : Nat := (R.map List.length).sum
def mg3 (eq : α → α → Bool) (R : List (List α)) : List α × List (List α) × Bool := c3 eq (tot R) R
def Rfl (eq : α → α → Bool) (R : List (List α)) : Prop := ∀ r ∈ R, ∀ x ∈ r, eq x x = true

theorem tot_cons {r : List α} : tot (r :: R) = r.length + tot R := by simp [tot]
theorem tot_zero (h : tot R = 0) : R.all (·.isEmpty) = true := by
  induction R with
  | nil => rfl
  | cons r R ih =>
    rw [tot_cons] at h
    simp only [List.all_cons, ih (by omega), Bool.and_true, List.isEmpty_iff]
    exact List.eq_nil_of_length_eq_zero (by omega)
theorem strike1_length_le (r : List α) : (strike1 eq c r).length ≤ r.length := by
  cases r with
  | nil => simp [strike1]
  | cons x t => simp only [strike1]; split <;> simp
theorem strike1_mem {r : List α} {x : α} (h : x ∈ strike1 eq c r) : x ∈ r := by
  cases r with
  | nil => exact h
  | cons y t =>
    simp only [strike1] at h
    split at h
    · exact .tail _ h
    · exact h
theorem tot_strike_le (R : List (List α)) : tot (R.map (strike1 eq c)) ≤ tot R := by
  induction R with
  | nil => simp [tot]
  | cons r R ih => rw [List.map_cons, tot_cons, tot_cons]; have := strike1_length_le (eq := eq) (c := c) r; omega
theorem cand_spec (h : cand eq R = some c) : (∃ t, c :: t ∈ R) ∧ okHead eq R c = true := by
  unfold cand at h
  obtain ⟨r, hr, e⟩ := List.exists_of_findSome?_eq_some h
  cases r with
  | nil => cases e
  | cons x t =>
    simp only at e
    split at e
    · rename_i ho; cases e; exact ⟨⟨t, hr⟩, ho⟩
    · cases e
theorem tot_strike_lt {t : List α} (h : c :: t ∈ R) (hr : eq c c = true) : tot (R.map (strike1 eq c)) < tot R := by
  induction R with
  | nil => cases h
  | cons r R ih =>
    rw [List.map_cons, tot_cons, tot_cons]
    have h1 := strike1_length_le (eq := eq) (c := c) r
    have h2 := tot_strike_le (eq := eq) (c := c) R
    rcases List.mem_cons.mp h with e | h
    · subst e; simp [strike1, hr] at *; omega
    · have := ih h; omega
theorem Rfl.strike (h : Rfl eq R) : Rfl eq (R.map (strike1 eq c)) := by
  intro r hr x hx
  obtain ⟨q, hq, rfl⟩ := List.mem_map.mp hr
  exact h q hq x (strike1_mem hx)
theorem cand_refl (hr : Rfl eq R) (h : cand eq R = some c) : eq c c = true := let ⟨⟨t, ht⟩, _⟩ := cand_spec h; hr _ ht c (.head _)
theorem cand_empty (h : R.all (·.isEmpty) = true) : cand eq R = none := by
  cases hc : cand eq R with
  | none => rfl
  | some c =>
    obtain ⟨⟨t, ht⟩, _⟩ := cand_spec hc
    have := List.all_eq_true.mp h _ ht
    simp at this

theorem c3_succ : ∀ {n : Nat} {R : List (List α)}, Rfl eq R → tot R ≤ n → c3 eq (n + 1) R = c3 eq n R
  | 0, R, _, h => by
    have := tot_zero (R := R) (by omega)
    simp only [c3, this, if_true]
  | n + 1, R, hr, h => by
    rw [c3]
    conv => rhs; rw [c3]
    split
    · rfl
    · cases hc : cand eq R with
      | none => rfl
      | some c =>
        obtain ⟨⟨t, ht⟩, _⟩ := cand_spec hc
        have := tot_strike_lt ht (cand_refl hr hc)
        simp only
        rw [c3_succ hr.strike (by omega)]
theorem c3_fuel {n : Nat} (hr : Rfl eq R) (h : tot R ≤ n) : c3 eq n R = mg3 eq R := by
  obtain ⟨k, rfl⟩ := Nat.le.dest h
  clear h
  induction k with
  | zero => rfl
  | succ k ih => rw [← Nat.add_assoc, c3_succ hr (by omega)]; exact ih
theorem mg3_empty (h : R.all (·.isEmpty) = true) : mg3 eq R = ([], R, true) := by
  unfold mg3
  cases tot R <;> simp only [c3, h, if_true]
theorem mg3_none (h : R.all (·.isEmpty) = false) (hc : cand eq R = none) : mg3 eq R = ([], R, false) := by
  unfold mg3
  cases ht : tot R with
  | zero => rw [tot_zero ht] at h; cases h
  | succ n => simp only [c3, h, hc]; rfl
theorem mg3_some (hr : Rfl eq R) (hc : cand eq R = some c) : mg3 eq R = (c :: (mg3 eq (R.map (strike1 eq c))).1, (mg3 eq (R.map (strike1 eq c))).2) := by
  obtain ⟨⟨t, ht⟩, _⟩ := cand_spec hc
  have hlt := tot_strike_lt ht (cand_refl hr hc)
  have hne : R.all (·.isEmpty) = false := by
    cases q : R.all (·.isEmpty) with
    | false => rfl
    | true => rw [cand_empty q] at hc; cases hc
  rw [mg3]
  cases hn : tot R with
  | zero => omega
  | succ n => simp only [c3, hne, hc]; rw [c3_fuel hr.strike (by omega)]; rfl

theorem okHead_filter (x : α) : okHead eq (R.filter fun r => !r.isEmpty) x = okHead eq R x := by
  unfold okHead
  rw [Bool.eq_iff_iff, List.all_eq_true, List.all_eq_true]
  constructor
  · intro h r hr
    cases r with
    | nil => simp
    | cons y t => exact h _ (List.mem_filter.mpr ⟨hr, by simp⟩)
  · intro h r hr
    exact h r (List.mem_filter.mp hr).1
theorem cand_filter : cand eq (R.filter fun r => !r.isEmpty) = cand eq R := by
  unfold cand
  have : okHead eq (R.filter fun r => !r.isEmpty) = okHead eq R := funext okHead_filter
  rw [this]
  clear this
  generalize okHead eq R = g
  induction R with
  | nil => rfl
  | cons r R ih =>
    cases r with
    | nil => simpa using ih
    | cons x t =>
      simp only [List.filter_cons, List.isEmpty_cons, Bool.not_false, if_true, List.findSome?_cons, ih]
end

section
variable {K : Cx} {A : Around} {n : Nat} {env : Env} {s : Shared} {h₀ h h' : Heap} {As : List Addr} {l r : Addr} {P : List Addr} {f : Addr → List PyData} {out : List PyData} {Q : Flow → Shared → Prop} {E : Value → Shared → Prop} {m : Str → Option Value} {outer : List Env}

/-- `if not sequences: return result` -/
theorem c3_empty (V : C3E K A n env) (C : C3I K env h₀ As s.heap m l r P f out) (hP : P.length ≤ sizeLine)
    (k1 : P = [] → ∀ tk, Q (.ret (.ref r)) { s with toks := tk }) (k2 : P ≠ [] → ∀ tk, Q .next { s with toks := tk }) : wpAny (model K.prog K.w) A (exec stEmpty env) Q E s := by
  refine wpAny_If (isTrue_not (isTrue_plain (c3_name V (y := sS) (by rfl) C.ns C.seqV (wpAny_truthy_list C.seqL ?_ ?_))))
  · simp only [List.size_toArray, List.length_map]; rw [sizeLine_eq] at hP; omega
  · cases P with
    | nil => exact wpAny_execs_cons (wpAny_Return_some (c3_name V (y := sR) (by rfl) C.ns C.resV (k1 rfl _)))
    | cons a P => exact wpAny_execs_nil (k2 (by simp) _)

def stRaise : Stmt := match stNone with | .If _ [b] _ _ => b | s => s

theorem c3_raise (V : C3E K A n env) (C : C3I K env h₀ As s.heap m l r P f out) (hg : GV K "RuntimeError" (.type "RuntimeError"))
    (k : ∀ h' e tk, Fly s.heap h' e none → Ext s.heap h' → E (.ref e) { s with heap := h', toks := tk }) : wpAny (model K.prog K.w) A (exec stRaise env) Q E s := by
  have I : In K n c3Scope (fun _ => False) [] A env s.heap := C.in V fun y d hy => by cases hy
  refine wpAny_Raise_call PySem.F.excCall_RuntimeError PySem.F.excRaise_RuntimeError V.room.quiet (by rfl) (name_global I hg (by rfl) ⟨rfl, ?_⟩)
  refine Calls.evalArgs_plain (args_cons (wpAny_Constant_str ?_) (by rfl))
  refine args_nil ⟨rfl, by show 1 ≤ sizeLine; decide, fun h' e X => k h' e _ ?_ X.keeps⟩
  obtain ⟨t, h1, h2, h3⟩ := X.there
  exact ⟨⟨_, _, t, _, _, _, h1, rfl, rfl, by simp, rfl, h3, rfl, rfl, rfl⟩, X.new⟩

theorem c3_none1 (V : C3E K A n env) (C : C3I K env h₀ As s.heap m l r P f out) (hg : GV K "RuntimeError" (.type "RuntimeError")) (hc : m sC = some .none)
    (k : ∀ hb h' e tk, Ext s.heap hb → Fly hb h' e none → Ext hb h' → E (.ref e) { s with heap := h', toks := tk }) : wpAny (model K.prog K.w) A (exec stNone env) Q E s := by
  have I : In K n c3Scope (fun _ => False) [(sC, .py .none)] A env s.heap := C.in V fun y d hy => by
    rw [List.lookup_cons] at hy
    by_cases q : y = sC
    · subst q; simp at hy; subst hy; exact ⟨.none, [], hc, by rfl, .none⟩
    · have hb : (y == sC) = false := by simpa using q
      simp [hb] at hy
  refine wpAny_If (Tr.use (s := s) (b := true) I (Tr.cmp (da := .py .none) (Ev.name (x := sC) (by rfl)) Ev.cNone CmpOk.isNone) fun h₁ tk x => ?_)
  rw [if_pos rfl]
  exact wpAny_execs_cons (c3_raise (s := { s with heap := h₁, toks := tk }) V (C.ext x) hg fun h' e tk' F x' => k h₁ h' e tk' x F x')
theorem c3_none0 (V : C3E K A n env) (C : C3I K env h₀ As s.heap m l r P f out) {x : PyData} {v : Value} (hx : Atom x) (hc : m sC = some v) (rv : Rd s.heap v x [])
    (k : ∀ h' tk, Ext s.heap h' → Q .next { s with heap := h', toks := tk }) : wpAny (model K.prog K.w) A (exec stNone env) Q E s := by
  have I : In K n c3Scope (fun _ => False) [(sC, .py x)] A env s.heap := C.in V fun y d hy => by
    rw [List.lookup_cons] at hy
    by_cases q : y = sC
    · subst q; simp at hy; subst hy; exact ⟨v, [], hc, by rfl, rv⟩
    · have hb : (y == sC) = false := by simpa using q
      simp [hb] at hy
  refine wpAny_If (Tr.use (s := s) (b := false) I (Tr.cmp (da := .py x) (Ev.name (x := sC) (by rfl)) Ev.cNone (CmpOk.cast CmpOk.isNone hx.some)) fun h₁ tk x => ?_)
  rw [if_neg Bool.false_ne_true]
  exact wpAny_execs_nil (k h₁ tk x)
end
end Mine

namespace Mine

structure C3L (As P : List Addr) (f : Addr → List PyData) (out : List PyData) (R₀ : List (List PyData)) : Prop where
  nd : P.Nodup
  PF : P.filter (ne' f) = As.filter (ne' f)
  Psz : P.length ≤ sizeLine
  atoms : ∀ a ∈ As, ∀ d ∈ f a, Atom d
  sz : ∀ a ∈ As, (f a).length ≤ sizeLine
  room : out.length + tot (As.map f) ≤ sizeLine
  run : mg3 PyData.eqv R₀ = (out ++ (mg3 PyData.eqv (As.map f)).1, (mg3 PyData.eqv (As.map f)).2)

def stWhile : Stmt := c3Body.getD 1 (.Pass ⟨0, 0, 0, 0⟩)

theorem filter_map_ne (As : List Addr) (f : Addr → List PyData) : (As.filter (ne' f)).map f = (As.map f).filter fun r => !r.isEmpty := by
  rw [List.filter_map]; rfl

section
variable {K : Cx} {A : Around} {n : Nat} {env : Env} {s : Shared} {h₀ h h' : Heap} {As : List Addr} {l r : Addr} {P : List Addr} {f : Addr → List PyData} {out : List PyData} {Q : Flow → Shared → Prop} {E : Value → Shared → Prop} {m : Str → Option Value} {outer : List Env} {R₀ : List (List PyData)}

theorem C3L.rfl' (L : C3L As P f out R₀) : Rfl PyData.eqv (As.map f) := fun r hr x hx => by
  obtain ⟨a, ha, rfl⟩ := List.mem_map.mp hr
  exact (L.atoms a ha x hx).refl

theorem c3_while (V : C3E K A n env) (hf : env.frame = some env.locals) (C : C3I K env h₀ As s.heap m l r P f out) (L : C3L As P f out R₀)
    (hg : GV K "RuntimeError" (.type "RuntimeError")) (hout : (mg3 PyData.eqv R₀).2.2 = true ∨ (A.frames = some (env :: outer) ∧ ∀ h, Eff (· ∈ As) h₀ h → h.FunFrames K.h₀ outer))
    (k1 : ∀ h' tk m' l' P' f' out', C3I K env h₀ As h' m' l' r P' f' out' → mg3 PyData.eqv R₀ = (out', As.map f', true) → Q (.ret (.ref r)) { s with heap := h', toks := tk })
    (k2 : ∀ hb h' e tk m' l' P' f' out', C3I K env h₀ As hb m' l' r P' f' out' → mg3 PyData.eqv R₀ = (out', As.map f', false) → Fly hb h' e (some (some env.locals)) → Kept ((env :: outer).filterMap (·.frame)) hb h' →
      h'.FunFrames K.h₀ (env :: outer) → E (.ref e) { s with heap := h', toks := tk }) :
    wpAny (model K.prog K.w) A (exec stWhile env) Q E s := by
  refine wpAny_While (codeAny_whileLoop (fun k s' => ∃ h tk m l P f out, s' = { s with heap := h, toks := tk } ∧ C3I K env h₀ As h m l r P f out ∧ C3L As P f out R₀ ∧ tot (As.map f) = k) (fun k s' hI => ?_) _ ⟨s.heap, s.toks, m, l, P, f, out, rfl, C, L, rfl⟩)
  obtain ⟨h, tk, m, l, P, f, out, rfl, C, L, rfl⟩ := hI
  refine Tr.use (s := { s with heap := h, toks := tk }) (b := true) (C.in (ρ := []) V fun y d hy => by cases hy) (Tr.val Ev.cBool TruthOk.bool) fun h₁ tk₁ x₁ => ?_
  rw [if_pos rfl]
  have C₁ := C.ext x₁
  show wpAny _ A (execs [stPurge, stEmpty, stSearch, stNone, stAppend, stStrike] env) _ _ _
  refine wpAny_execs_cons (c3_purge (s := { s with heap := h₁, toks := tk₁ }) V C₁ L.sz L.Psz fun h₂ tk₂ m₂ l₂ C₂ => ?_)
  have hP₂ : P.filter (ne' f) = As.filter (ne' f) := L.PF
  have hsz₂ : (P.filter (ne' f)).length ≤ sizeLine := Nat.le_trans (List.length_filter_le ..) L.Psz
  have hnd₂ : (P.filter (ne' f)).Nodup := L.nd.sublist List.filter_sublist
  have hne₂ : ∀ a ∈ P.filter (ne' f), f a ≠ [] := fun a ha q => by have := (List.mem_filter.mp ha).2; simp [ne', q] at this
  have hmap : (P.filter (ne' f)).map f = (As.map f).filter fun r => !r.isEmpty := by rw [hP₂, filter_map_ne]
  have hcand : cand PyData.eqv ((P.filter (ne' f)).map f) = cand PyData.eqv (As.map f) := by rw [hmap, cand_filter]
  refine wpAny_execs_cons (c3_empty (s := { s with heap := h₂, toks := tk₂ }) V C₂ hsz₂ (fun hP tk₃ => ?_) fun hP tk₃ => ?_)
  · have hall : (As.map f).all (·.isEmpty) = true := by
      rw [hP] at hmap
      have hmap : (As.map f).filter (fun r => !r.isEmpty) = [] := by simpa using hmap.symm
      rw [List.filter_eq_nil_iff] at hmap
      rw [List.all_eq_true]
      intro r hr
      simpa using hmap r hr
    refine k1 h₂ tk₃ m₂ l₂ _ f out C₂ ?_
    rw [L.run, mg3_empty hall]; simp
  · refine wpAny_execs_cons (c3_search (s := { s with heap := h₂, toks := tk₃ }) V C₂ L.atoms L.sz hne₂ hP (fun x hx h₃ tk₄ m₃ v C₃ hm₃ rv => ?_) fun hx h₃ tk₄ m₃ C₃ hm₃ => ?_)
    · rw [hcand] at hx
      obtain ⟨⟨t, ht⟩, _⟩ := cand_spec hx
      have hxa : Atom x := by
        obtain ⟨a, ha, e⟩ := List.mem_map.mp ht
        exact L.atoms a ha x (by rw [e]; exact .head _)
      have hlt := tot_strike_lt ht hxa.refl
      refine wpAny_execs_cons (c3_none0 (s := { s with heap := h₃, toks := tk₄ }) V C₃ hxa hm₃ rv fun h₄ tk₅ x₄ => ?_)
      have C₄ := C₃.ext x₄
      refine wpAny_execs_cons (c3_append (s := { s with heap := h₄, toks := tk₅ }) V C₄ hm₃ (rv.ext x₄) (by have := L.room; omega) fun h₅ tk₆ C₅ rv₅ => ?_)
      refine wpAny_execs_cons (c3_strike (s := { s with heap := h₅, toks := tk₆ }) V C₅ L.atoms L.sz hne₂ hnd₂ hxa hm₃ rv₅ fun h₆ tk₇ m₆ C₆ => wpAny_execs_nil ?_)
      have hstr : As.map (fun a => if a ∈ P.filter (ne' f) then strike1 PyData.eqv x (f a) else f a) = (As.map f).map (strike1 PyData.eqv x) := by
        rw [List.map_map]
        refine List.map_congr_left fun a ha => ?_
        by_cases q : a ∈ P.filter (ne' f)
        · simp only [if_pos q, Function.comp]
        · rw [if_neg q]
          rw [hP₂, List.mem_filter] at q
          have : f a = [] := by
            cases hfa : f a with
            | nil => rfl
            | cons y t => exact absurd ⟨ha, by simp [ne', hfa]⟩ q
          simp [this, strike1]
      refine ⟨_, ?_, h₆, tk₇, m₆, l₂, _, _, _, rfl, C₆, ⟨hnd₂, ?_, hsz₂, ?_, ?_, ?_, ?_⟩, rfl⟩
      · rw [hstr]; exact hlt
      · rw [hP₂, List.filter_filter]
        refine List.filter_congr fun a ha => ?_
        by_cases q : ne' f a = true
        · simp [q]
        · have q' : ne' f a = false := by simpa using q
          have : f a = [] := by
            cases hfa : f a with
            | nil => rfl
            | cons y t => simp [ne', hfa] at q'
          simp [q', ne', this, strike1]
      · intro a ha d hd
        split at hd
        · exact L.atoms a ha d (strike1_mem hd)
        · exact L.atoms a ha d hd
      · intro a ha
        split
        · exact Nat.le_trans (strike1_length_le _) (L.sz a ha)
        · exact L.sz a ha
      · rw [hstr]; have := L.room; simp only [List.length_append, List.length_singleton]; omega
      · rw [hstr, L.run, mg3_some L.rfl' hx]; simp
    · rw [hcand] at hx
      have hall : (As.map f).all (·.isEmpty) = false := by
        cases q : (As.map f).all (·.isEmpty) with
        | false => rfl
        | true =>
          exfalso; apply hP
          have : (P.filter (ne' f)).map f = [] := by
            rw [hmap, List.filter_eq_nil_iff]
            intro r hr
            simpa using List.all_eq_true.mp q r hr
          simpa using this
      refine wpAny_execs_cons (c3_none1 (s := { s with heap := h₃, toks := tk₄ }) V C₃ hg hm₃ fun hb h₄ e tk₅ xb F x₄ => ?_)
      have Cb := C₃.ext xb
      have run : mg3 PyData.eqv R₀ = (out, As.map f, false) := by rw [L.run, mg3_none hall hx]; simp
      obtain ⟨hfr, hout⟩ := hout.resolve_left (by rw [run]; exact Bool.false_ne_true)
      have hk : env.scope.kind ≠ .module := by rw [V.henv.kind]; decide
      have hfm : h₄.FunFrames K.h₀ (env :: outer) := Heap.FunFrames.cons hk hf (Cb.ns.keeps x₄) (Cb.base.none Cb.Lnew) (hout h₄ fun b o hb' ho => x₄ b o (Cb.keep b o hb' ho))
      refine note_new (s := { s with heap := h₄, toks := tk₅ }) hfr hfm hf F (x₄.kept _) fun h₅ F₅ kb₅ fm₅ => ?_
      refine cameBack_ok (s := { s with heap := h₅, toks := tk₅ }) F₅ kb₅ fm₅ fun h₆ F₆ kb₆ fm₆ => ?_
      rw [hf] at F₆
      exact k2 hb h₆ e tk₅ m₃ l₂ _ f out Cb run F₆ kb₆ fm₆
end
end Mine

namespace Mine

/-- a function of the text stands where its name says -/
structure Fn (K : Cx) (d : DefRec) (fa : Addr) (o : Obj) (pm cd doc : Value) : Prop where
  name : K.mg d.name = some (.ref fa)
  get : K.h₀.get? fa = some o
  data : o.data = .func (Calls.docDef d.name d.params d.body d.scope pm cd doc)
  code : K.h₀.CodeRec cd d.name

theorem Room.deeper {A : Around} {n : Nat} {env : Env} (r : Room A (n + 1)) : Room (A.deeper env) n := by
  obtain ⟨h1, h2, h3⟩ := r
  refine ⟨h1, ?_, ?_⟩
  · show A.depth + 1 + n < _; omega
  · show A.units + 3 + 8 * n + 200 < _; omega

/-- the rows as the heap has them -/
def Rows (h : Heap) (As : List Addr) (f : Addr → List PyData) : Prop :=
  ∀ a ∈ As, ∃ (vs : List Value) (c : Nat), h.get? a = some { cls := .type "list", data := .seq vs.toArray c } ∧ RdAll h vs (f a) []

def c3Env (L fa : Addr) (cd : Value) : Env := envOfC c3Rec.name c3Scope L fa cd
theorem c3Env_ok (L fa : Addr) (cd : Value) : EnvOk (c3Env L fa cd) := ⟨rfl, rfl, rfl, .nil, fun n h => by
  have hno : ∀ y ∈ c3Scope.names, y.2 ≠ .cell ∧ y.2 ≠ .free := by decide
  have : ∀ k, c3Scope.names.lookup n = some k → (n, k) ∈ c3Scope.names := fun k hk => mem_of_lookup hk
  rcases h with h | h
  · exact absurd rfl (hno _ (this _ h)).1
  · exact absurd rfl (hno _ (this _ h)).2⟩

section
variable {K : Cx} {A : Around} {n : Nat} {s : Shared} {As : List Addr} {l fa : Addr} {o : Obj} {pm cd doc : Value} {f : Addr → List PyData} {Q : Value → Shared → Prop} {E : Value → Shared → Prop} {outer : List Env}

theorem c3_call (Fc : Fn K c3Rec fa o pm cd doc) (hg : GV K "RuntimeError" (.type "RuntimeError")) (ro : Room A (n + 1)) (ok : K.Ok s.heap)
    (hout : (mg3 PyData.eqv (As.map f)).2.2 = true ∨ (A.frames = some outer ∧ (∀ h, Eff (· ∈ As) s.heap h → h.FunFrames K.h₀ outer) ∧ ∀ b ∈ outer.filterMap (·.frame), NoSeq s.heap b)) (hl : s.heap.IsList l (As.map Value.ref).toArray) (hin : Rows s.heap As f) (hnd : As.Nodup) (hlA : l ∉ As) (hAK : ∀ a ∈ As, K.h₀.get? a = none)
    (hat : ∀ a ∈ As, ∀ d ∈ f a, Atom d) (hsz : ∀ a ∈ As, (f a).length ≤ sizeLine) (htot : tot (As.map f) ≤ sizeLine) (hAs : As.length ≤ sizeLine)
    (k1 : ∀ out f', mg3 PyData.eqv (As.map f) = (out, As.map f', true) → ∀ h' tk r ws, Eff (· ∈ As) s.heap h' → Rows h' As f' → s.heap.get? r = none → h'.PlainList r ws.toArray → RdAll h' ws out [] → K.Ok h' → Q (.ref r) { s with heap := h', toks := tk })
    (k2 : ∀ out f', mg3 PyData.eqv (As.map f) = (out, As.map f', false) → ∀ hb h' e tk, Eff (· ∈ As) s.heap hb → Rows hb As f' → Fly hb h' e (some none) → (∀ b o, s.heap.get? b = some o → b ∉ As → ∃ sl, h'.get? b = some { o with slots := sl } ∧ (b ∉ outer.filterMap (·.frame) → sl = o.slots)) →
      Rows h' As f' → h'.FunFrames K.h₀ outer → K.Ok hb → E (.ref e) { s with heap := h', toks := tk }) :
    wpAny (model K.prog K.w) A (call (.ref fa) [.ref l]) Q E s := by
  refine wpAny_call ?_
  refine call_cells (binds := [(sS, .ref l)]) (by have := ro.depth; omega) (ok.ext _ _ Fc.get) Fc.data (ok.lim.keeps ok.ext) (Fc.code.keeps ok.ext) (by rfl) (fun x hx => by
    obtain rfl : x = (sS, .ref l) := by simpa using hx
    exact .inl (by rfl)) fun h₁ tk₁ F C => ?_
  generalize hL : s.heap.objs.size = L at F C ⊢
  have hLn : s.heap.get? L = none := hL ▸ push_new _
  show wpAny _ (A.deeper (c3Env L fa cd)) (execs [_, stWhile] (c3Env L fa cd)) _ _ _
  have V : C3E K (A.deeper (c3Env L fa cd)) n (c3Env L fa cd) := ⟨ro.deeper, c3Env_ok L fa cd, rfl, by rfl⟩
  have hm : (bindL (envOfC c3Rec.name c3Rec.scope L fa cd).kindOf [(sS, .ref l)] fun _ => none) = fun y => if y = sS then some (.ref l) else none := by rfl
  rw [hm] at F
  have I : In K n c3Scope (fun _ => False) [] (A.deeper (c3Env L fa cd)) (c3Env L fa cd) h₁ := ⟨V.room, ok.mono F.keep, rfl, V.henv, ⟨⟨_, F.ns⟩, fun x c hc => by cases hc⟩, nofun, nofun⟩
  refine wpAny_execs_cons (wpAny_Assign_Name (Ev.use (s := { s with heap := h₁, toks := tk₁ }) I (Ev.list EvAll.nil) fun v h₂ tk₂ as g => ?_))
  have x₂ := g.ext
  have hfn := c3Env_ok L fa cd
  refine c3_store (s := { s with heap := h₂, toks := tk₂ }) V (y := sR) (by rfl) (F.ns.keeps x₂) fun h₃ hn₃ hs₃ => ?_
  have g' : Rd h₂ v (.list []) as := g.rd
  obtain ⟨nd₂, new₂⟩ := g.new rfl
  cases g' with
  | @list r ws c _ as' hr rs =>
  obtain rfl : ws = [] := by cases rs; rfl
  have hr1 : h₁.get? r = none := new₂ r (.head _)
  have hr0 : s.heap.get? r = none := by
    cases q : s.heap.get? r with
    | none => rfl
    | some o => rw [F.keep r o q] at hr1; cases hr1
  have hrL : r ≠ L := fun q => by obtain ⟨o, _, _, ho, _⟩ := F.ns; rw [q, ho] at hr1; cases hr1
  have x₃ : Ext s.heap h₃ := fun b o hb => (hs₃.2 b fun q => by rw [q] at hb; exact absurd (hLn.symm.trans hb) nofun).trans (x₂ b o (F.keep b o hb))
  have C₃ : C3I K (c3Env L fa cd) s.heap As h₃ (fun z => if z = sR then some (.ref r) else if z = sS then some (.ref l) else none) l r As f [] := {
    ok := ok.mono x₃
    base := ok.ext
    ns := hn₃
    Lnew := hLn
    keep := x₃.eff _
    inner := fun a ha => let ⟨vs, c, h1, h2⟩ := hin a ha; ⟨vs, c, x₃ _ _ h1, h2.ext x₃⟩
    seqV := by rfl
    seqL := let ⟨o, ho, hr⟩ := hl; ⟨o, x₃ _ _ ho, hr⟩
    resV := by rfl
    resL := ⟨[], ⟨c, (hs₃.2 r hrL).trans hr⟩, .nil⟩
    rnew := hr0
    rA := fun q => by obtain ⟨vs, c, h1, _⟩ := hin r q; rw [hr0] at h1; cases h1
    lA := hlA
    lr := fun q => by obtain ⟨o, ho, _⟩ := hl; rw [q, hr0] at ho; cases ho
    PA := fun _ h => h
    AK := hAK }
  refine wpAny_execs_cons (c3_while (s := { s with heap := h₃, toks := tk₂ + 1 }) (R₀ := As.map f) V rfl C₃ ⟨hnd, rfl, hAs, hat, hsz, by simpa using htot, by simp⟩ hg (hout.imp id fun q => ⟨Around.frames_deeper q.1, q.2.1⟩) (fun h₄ tk₄ m₄ l₄ P₄ f₄ out₄ C₄ run => ?_) fun hb h₄ e tk₄ m₄ l₄ P₄ f₄ out₄ C₄ run fl kb fm => ?_)
  · obtain ⟨ws, h1, h2⟩ := C₄.resL
    exact k1 out₄ f₄ run h₄ tk₄ r ws C₄.keep C₄.inner hr0 h1 h2 C₄.ok
  · obtain ⟨_, _, hfms⟩ := hout.resolve_left (by rw [run]; exact Bool.false_ne_true)
    have hfm : h₄.FunFrames K.h₀ outer := fm.2.2
    refine wpAny_bind (note_again (s := { s with heap := h₄, toks := tk₄ }) rfl fl ?_)
    refine flight_set (s := { s with heap := h₄, toks := tk₄ }) (f' := none) fl kb fm fun h₅ fl₅ kb₅ fm₅ => ?_
    have kb' : ∀ b o, s.heap.get? b = some o → b ∉ As → ∃ sl, h₅.get? b = some { o with slots := sl } ∧ (b ∉ outer.filterMap (·.frame) → sl = o.slots) := fun b o hb' hA => by
      obtain ⟨sl, e1, e2⟩ := kb₅ b o (C₄.keep b o hA hb')
      refine ⟨sl, e1, fun hn => e2 fun hm => ?_⟩
      rw [List.filterMap_cons] at hm
      rcases List.mem_cons.mp hm with q | q
      · rw [q] at hb'; exact absurd (hLn.symm.trans hb') nofun
      · exact hn q
    have hfr' : ∀ b o, hb.get? b = some o → (∃ xs k, o.data = .seq xs k) → b ∉ (c3Env L fa cd :: outer).filterMap (·.frame) := fun b o ho ⟨xs, k, hd⟩ hm => by
      rw [List.filterMap_cons] at hm
      rcases List.mem_cons.mp hm with q | q
      · obtain ⟨o', es, ep, ho', hd', _⟩ := C₄.ns
        have : hb.get? L = some o' := ho'
        rw [q, this] at ho; cases ho; rw [hd] at hd'; cases hd'
      · obtain ⟨o', ho', hd'⟩ := hfms b q
        have hbA : b ∉ As := fun hA => by obtain ⟨vs, c, h1, _⟩ := hin b hA; rw [h1] at ho'; cases ho'; exact hd' _ _ rfl
        have := C₄.keep b o' hbA ho'
        rw [this] at ho; cases ho; exact hd' _ _ hd
    refine k2 out₄ f₄ run hb h₅ e tk₄ C₄.keep C₄.inner fl₅ kb' (fun a ha => ?_) fm₅.2.2 C₄.ok
    obtain ⟨vs, c, h1, h2⟩ := C₄.inner a ha
    refine ⟨vs, c, kb₅.get (hfr' _ _ h1 ⟨_, _, rfl⟩) h1, h2.off ⟨nofun, fun b xs k hb' => kb₅.get (hfr' _ _ hb' ⟨_, _, rfl⟩) hb'⟩⟩
end
end Mine

namespace Mine

theorem RdAll.rowsFn {h : Heap} : ∀ {rows : List (List PyData)} {vs as}, RdAll h vs (rows.map .list) as → as.Nodup → (∀ r ∈ rows, ∀ d ∈ r, Atom d) → ∃ f, as.map f = rows ∧ vs = as.map Value.ref ∧ Rows h as f
  | [], _, _, r, _, _ => by cases r; exact ⟨fun _ => [], rfl, rfl, nofun⟩
  | t :: rows, vs, as, r, nd, at' => by
    obtain ⟨v, vs', a, b, rfl, rfl, r1, r2⟩ := r.uncons
    cases r1 with
    | @list x ws c _ as' hx rx =>
      obtain rfl := rx.atoms (at' t (.head _))
      obtain ⟨f, h1, h2, h3⟩ := r2.rowsFn (List.nodup_append.mp nd).2.1 fun r hr => at' r (.tail _ hr)
      have hxb : x ∉ b := fun q => by simp at nd; exact nd.1 q
      refine ⟨fun y => if y = x then t else f y, ?_, by simp [h2], fun y hy => ?_⟩
      · have : b.map (fun y => if y = x then t else f y) = b.map f := List.map_congr_left fun y hy => if_neg fun (q : y = x) => hxb (q ▸ hy)
        simp [this, h1]
      · simp at hy
        rcases hy with rfl | hy
        · exact ⟨ws, c, hx, by simpa using rx⟩
        · obtain ⟨ws', c', h4, h5⟩ := h3 y hy
          exact ⟨ws', c', h4, by show RdAll h ws' (if y = x then t else f y) []; rw [if_neg fun (q : y = x) => hxb (q ▸ hy)]; exact h5⟩

theorem length_le_tot {α : Type} {R : List (List α)} {r : List α} (h : r ∈ R) : r.length ≤ tot R := by
  induction R with
  | nil => cases h
  | cons q R ih =>
    rw [tot_cons]
    rcases List.mem_cons.mp h with rfl | h
    · omega
    · have := ih h; omega

def c3N : Str := c3Rec.name

section
variable {K : Cx} {n : Nat} {sc : Scope} {ρ : List (Str × D)} {a : Expr} {p pos : Pos} {fa : Addr} {o : Obj} {pm cd doc : Value} {rows : List (List PyData)} {out : List PyData} {rest : List (List PyData)}

/-- a merge of new lists that is not refused -/
theorem Ev.c3 (Fc : Fn K c3Rec fa o pm cd doc) (hg : GV K "RuntimeError" (.type "RuntimeError")) (ha : Ev K (n + 1) sc ρ a (.py (.list (rows.map .list))) true) (hat : ∀ r ∈ rows, ∀ d ∈ r, Atom d) (hsz : rows.length ≤ sizeLine) (htot : tot rows ≤ sizeLine)
    (run : mg3 PyData.eqv rows = (out, rest, true)) (hx : sc.names.lookup c3N = some .globalImplicit := by rfl)
    (he : ∀ env, starEach [a] env = [(false, eval a env)] := by intro _; rfl)
    (hc : ∀ env, eval (.Call (.Name c3N p) [a] [] pos) env = (do callWith pos (← eval (.Name c3N p) env) [] (backTo pos (starEach [a] env)) (backToKw pos (keywordEach [] env))) := by intro _; rfl) :
    Ev K (n + 1) sc ρ (.Call (.Name c3N p) [a] [] pos) (.py (.list out)) true := Hide.mk fun {A env s X E} I => by
  refine Call_ (name_global I (.inl Fc.name) hx ?_ (by rfl)) (hc env)
  refine callWith_def Fc.data (args_cons (wpAny_mono (ha.run I) (fun v s₁ q => ?_) fun _ _ x => x) (he env)) (he env)
  obtain ⟨h₁, tk, as, rfl, g⟩ := q
  refine args_nil ⟨(I.ok.mono g.ext).ext _ _ Fc.get, ?_⟩
  have g' : Rd h₁ v (.list (rows.map .list)) as := g.rd
  obtain ⟨nd, new⟩ := g.new rfl
  cases g' with
  | @list l vs c _ As hl rs =>
    have ndA : As.Nodup := (List.nodup_cons.mp nd).2
    obtain ⟨f, h1, h2, h3⟩ := rs.rowsFn ndA hat
    subst h1
    have hK : ∀ b, s.heap.get? b = none → K.h₀.get? b = none := fun b hb => I.ok.ext.none hb
    refine c3_call (s := { s with heap := h₁, toks := tk }) (n := n) (outer := []) Fc hg I.room (I.ok.mono g.ext) (.inl (by rw [run])) ⟨_, hl, rfl, _, by rw [h2]⟩ h3 ndA (List.nodup_cons.mp nd).1 (fun a ha => hK a (new a (.tail _ ha)))
      (fun a ha => hat _ (List.mem_map.mpr ⟨a, ha, rfl⟩)) (fun a ha => Nat.le_trans (length_le_tot (List.mem_map.mpr ⟨a, ha, rfl⟩)) htot) htot (by simpa using hsz) (fun out' f' run' h₂ tk₂ r ws e₂ rw₂ hr hrl rd ok₂ => ?_) (fun out' f' run' => by rw [run] at run'; exact absurd (congrArg (·.2.2) run') nofun)
    rw [run] at run'
    obtain rfl : out = out' := congrArg (·.1) run'
    have hr0 : s.heap.get? r = none := g.ext.none hr
    obtain ⟨c', hrl⟩ := hrl
    refine ⟨h₂, tk₂, [r], rfl, fun b o hb => e₂ b o (fun q => by rw [new b (.tail _ q)] at hb; cases hb) (g.ext b o hb), Rd.list hrl rd, fun b hb q => ?_, fun _ => ⟨by simp, fun b hb => by rw [List.mem_singleton.mp hb]; exact hr0⟩⟩
    rw [List.mem_singleton.mp hb] at q
    obtain ⟨o, ho⟩ := I.dom r q; rw [hr0] at ho; cases ho
end
end Mine

namespace Mine

section
variable {M : Model} {A : Around} {E : Value → Shared → Prop} {s : Shared} {B hb : Heap}

theorem note_left {env : Env} {outer : List Env} {L e : Addr} {Q : Unit → Shared → Prop} (hfr : A.frames = some (env :: outer)) (hl : s.heap.FunFrames B (env :: outer)) (hf : env.frame = some L) (F : Fly hb s.heap e (some none))
    (kb : Kept ((env :: outer).filterMap (·.frame)) hb s.heap)
    (k : ∀ h', Fly hb h' e (some (some L)) → Kept ((env :: outer).filterMap (·.frame)) hb h' → h'.FunFrames B (env :: outer) → Q () { s with heap := h' }) :
    wpAny M A (noteFrame (.ref e) env) Q E s := by
  obtain ⟨o, vs, t, ot, u, kk, h1, h2, h3, h4, h5, h6, h7, h8, T₀, oT₀, ts₀, a1, a2, a3, a4, a5, a6⟩ := F.there
  have a6 : ts₀[3]? = some Value.none := a6
  have hs3 : 3 < ts₀.size := (Array.getElem?_eq_some_iff.mp a6).1
  unfold noteFrame
  simp only [hf]
  refine wpAny_bind (wpAny_field h1 h3 a1 ?_)
  rw [if_pos (show (Value.ref T₀ != Value.none) = true from by simp)]
  refine wpAny_bind (wpAny_field a4 a5 a6 ?_)
  rw [if_neg (show ¬ ((Value.none == rawInt L) = true) from by simp [rawInt])]
  refine wpAny_bind (wpAny_setField a4 a5 hs3 ?_)
  have other : ∀ b, b ≠ T₀ → (s.heap.update T₀ (Obj.mapFields (·.setIfInBounds 3 Value.none))).get? b = s.heap.get? b := fun b hb => Heap.get?_update_other _ _ (Ne.symm hb)
  have noRec : ∀ b o', s.heap.get? b = some o' → (∀ vs, o'.data ≠ .fields vs) → b ≠ T₀ := fun b o' hb' hnf q => by rw [q, a4] at hb'; cases hb'; exact hnf ts₀ a5
  refine newEntry_ok (s := { s with heap := s.heap.update T₀ (Obj.mapFields (·.setIfInBounds 3 Value.none)) }) (oe := o) (vs := vs) hfr (hl.of_keeps fun b o' hb' hnf => ⟨o', (other b (noRec b o' hb' hnf)).trans hb', rfl⟩) hf ((other e (Ne.symm a2)).trans h1) h3 (by omega) fun h' T oT ts hT hTe hT' hdT h3T he' keep => ?_
  have hbk : ∀ b o', hb.get? b = some o' → b ≠ e := fun b o' hb' q => by rw [q, F.new] at hb'; cases hb'
  have hbT : ∀ b o', hb.get? b = some o' → b ≠ T₀ := fun b o' hb' q => by rw [q, a3] at hb'; cases hb'
  have hte : t ≠ e := fun q => by rw [q, h1] at h6; cases h6; rw [h8] at h3; cases h3
  have htT : t ≠ T₀ := fun q => by rw [q, a4] at h6; cases h6; rw [h8] at a5; cases a5
  obtain ⟨slt, ht', _⟩ := keep t ot hte ((other t htT).trans h6)
  have hsz' : 3 < (vs.setIfInBounds 1 (.ref T)).size := by rw [Array.size_setIfInBounds]; exact h4
  have hv0 : (vs.setIfInBounds 1 (.ref T))[0]? = some (.ref t) := by rw [Array.getElem?_setIfInBounds_ne (by decide)]; exact h5
  have hv1 : (vs.setIfInBounds 1 (.ref T))[1]? = some (.ref T) := by rw [Array.getElem?_setIfInBounds_self]; simp; omega
  refine k h' ⟨⟨_, vs.setIfInBounds 1 (.ref T), t, _, u, kk, he', (Obj.cls_mapFields _ _).trans h2, Obj.data_mapFields h3 _, hsz', hv0, ht', h7, h8, T, oT, ts, hv1, hTe, ?_, hT', hdT, h3T⟩, F.new⟩ (fun b o' hb' => ?_) (hl.of_keeps fun b o' hb' hnf => ?_)
  · cases q : hb.get? T with
    | none => rfl
    | some o' =>
      obtain ⟨sl, hsl, _⟩ := kb T o' q
      have hT2 : (s.heap.update T₀ (Obj.mapFields (·.setIfInBounds 3 Value.none))).get? T = none := hT
      rw [other T (hbT T o' q), hsl] at hT2; cases hT2
  · obtain ⟨sl, e1, k1⟩ := kb b o' hb'
    obtain ⟨sl', e2, k2⟩ := keep b _ (hbk b o' hb') ((other b (hbT b o' hb')).trans e1)
    exact ⟨sl', e2, fun hbS => (k2 hbS).trans (k1 hbS)⟩
  · have : b ≠ e := fun q => by rw [q, h1] at hb'; cases hb'; exact hnf vs h3
    obtain ⟨sl, e1, _⟩ := keep b o' this ((other b (noRec b o' hb' hnf)).trans hb')
    exact ⟨_, e1, rfl⟩
end

section
variable {K : Cx} {lv : Bool} {n : Nat} {sc : Scope} {X : Addr → Prop} {g : Addr → Option Obj} {sh ow : List (Str × D)} {A : Around} {env : Env} {h h' : Heap} {fp : Str → List Addr} {Q : Out → Prop}

theorem Ns.slots {m : Str → Option Value} {L : Addr} {S : List Addr} (hn : h.Ns L m) (k : Kept S h h') : h'.Ns L m := by
  obtain ⟨o, es, ep, ho, hd, r⟩ := hn
  obtain ⟨sl, e, _⟩ := k L o ho
  exact ⟨_, es, ep, e, hd, r⟩

theorem St.kept (S : St K lv n sc X g sh ow A env h) (k : Kept [env.locals] h h') : St K lv n sc X g sh ow A env h' := by
  obtain ⟨fp, O⟩ := S.vars
  have eff : Eff (· = env.locals) h h' := fun b o hb ho => k.get (by simpa using hb) ho
  have hg : g env.locals = none := S.new _ (.inl rfl)
  have hK : K.h₀.get? env.locals = none := by
    cases q : K.h₀.get? env.locals with
    | none => rfl
    | some o => rw [S.bK _ o q] at hg; cases hg
  have nt : ∀ b, b = env.locals → NoTup h b := fun b q => q ▸ (S.frame.noSeq (.inl rfl)).noTup
  have va : ∀ {y u}, VarAt h env y u → VarAt h' env y u := fun {y u} r => by
    rcases r with ⟨hl, m, hn, hm⟩ | ⟨hl, c', hc', hv⟩
    · exact .inl ⟨hl, m, Ns.slots hn k, hm⟩
    · obtain ⟨o, ho, hd⟩ := hv
      obtain ⟨sl, e, _⟩ := k c' o ho
      exact .inr ⟨hl, c', hc', _, e, hd⟩
  refine ⟨S.room, ⟨S.ok.g, S.ok.b, S.ok.lim, eff.ext S.ok.ext fun b q => q ▸ hK⟩, S.hsc, S.henv, ⟨let ⟨m, hn⟩ := S.frame.ns; ⟨m, Ns.slots hn k⟩, fun x c hc => ?_⟩, fun b o hb => eff b o (fun q => by rw [q, hg] at hb; cases hb) (S.base b o hb), S.bK, S.new, fun b hb => ?_, S.top, fp, ⟨fun x d hx => ?_, O.apart, fun x d hx => ?_⟩⟩
  · obtain ⟨v, o, ho, hd⟩ := S.frame.cells x c hc
    obtain ⟨sl, e, _⟩ := k c o ho
    exact ⟨v, _, e, hd⟩
  · obtain ⟨o, ho⟩ := S.dom b hb
    obtain ⟨sl, e, _⟩ := k b o ho
    exact ⟨_, e⟩
  · obtain ⟨v, h1, h2, h3, h4⟩ := O.own x d hx
    exact ⟨v, va h1, h2.off (eff.off (fun a ha q => (h4 a ha).2.1 (q ▸ .inl rfl)) nt), h3, h4⟩
  · obtain ⟨v, as, h1, h2, h3⟩ := O.shared x d hx
    exact ⟨v, as, va h1, h2.off (eff.off (fun a ha q => (h3 a ha).1 (q ▸ .inl rfl)) nt), h3⟩
end
end Mine

namespace Mine

theorem Fly.rebase {hb hb' h : Heap} {e : Addr} {st} (F : Fly hb h e st) (x : ∀ b o, hb'.get? b = some o → ∃ o', hb.get? b = some o') : Fly hb' h e st := by
  have nn : ∀ b, hb.get? b = none → hb'.get? b = none := fun b hn => by
    cases q : hb'.get? b with
    | none => rfl
    | some o => obtain ⟨o', ho'⟩ := x b o q; rw [hn] at ho'; cases ho'
  obtain ⟨o, vs, t, ot, u, kk, h1, h2, h3, h4, h5, h6, h7, h8, h9⟩ := F.there
  refine ⟨⟨o, vs, t, ot, u, kk, h1, h2, h3, h4, h5, h6, h7, h8, ?_⟩, nn _ F.new⟩
  cases st with
  | none => exact h9
  | some f => obtain ⟨T, oT, ts, a1, a2, a3, a4⟩ := h9; exact ⟨T, oT, ts, a1, a2, nn _ a3, a4⟩

/-- the refusal, by its words -/
def Exc (h : Heap) (e : Addr) : Prop := ∃ t u, h.ExcAt e "RuntimeError" (.ref t) ∧ h.TupAt t [.str words u]
theorem Fly.exc {hb h : Heap} {e : Addr} {st} (F : Fly hb h e st) : Exc h e := by
  obtain ⟨o, vs, t, ot, u, kk, h1, h2, h3, h4, h5, h6, h7, h8, h9⟩ := F.there
  exact ⟨t, u, ⟨o, vs, h1, h2, h3, h5⟩, ⟨ot, kk, h6, h7, h8⟩⟩

section
variable {K : Cx} {lv : Bool} {n : Nat} {sc : Scope} {X : Addr → Prop} {g : Addr → Option Obj} {sh ow ρ : List (Str × D)} {A A' : Around} {env : Env} {s : Shared} {Q : Value → Shared → Prop} {E : Value → Shared → Prop}
variable {a : Expr} {p pos : Pos} {fa : Addr} {o : Obj} {pm cd doc : Value} {rows : List (List PyData)}

theorem nameG (S : St K lv n sc X g sh ow A env s.heap) {x : Str} {v : Value} (g' : GV K x v) (hx : sc.names.lookup x = some .globalImplicit) (h : Q v s) (hd : (x == ("__debug__" : Str)) = false := by decide) :
    wpAny (model K.prog K.w) A' (eval (.Name x pos) env) Q E s := by
  refine Calls.Name_function_global S.henv.kind (by show env.scope.names.lookup x = _; rw [S.hsc]; exact hx) ?_ hd
  have hg : s.heap.Ns env.globals K.mg := by rw [S.henv.globals]; exact S.ok.g.keeps S.ok.ext
  have hb : s.heap.Ns env.builtins K.mb := by rw [S.henv.builtins]; exact S.ok.b.keeps S.ok.ext
  rcases g' with g | ⟨g1, g2⟩
  · exact Calls.loadGlobal_global hg g h
  · exact Calls.loadGlobal_builtin hg g1 hb g2 h

theorem c3_top (Fc : Fn K c3Rec fa o pm cd doc) (hg : GV K "RuntimeError" (.type "RuntimeError")) (S : St K true (n + 1) sc X g sh ow A env s.heap) (ha : Ev K (n + 1) sc (ow ++ sh) a (.py (.list (rows.map .list))) true)
    (hat : ∀ r ∈ rows, ∀ d ∈ r, Atom d) (hsz : rows.length ≤ sizeLine) (htot : tot rows ≤ sizeLine)
    (k1 : ∀ out rest, mg3 PyData.eqv rows = (out, rest, true) → ∀ v h' tk as, Got K s.heap (fun a => X a ∨ FrameAddr env a) (.py (.list out)) true v h' as → Q v { s with heap := h', toks := tk })
    (k2 : (mg3 PyData.eqv rows).2.2 = false → ∀ h' e tk, Fly s.heap h' e (some none) → Kept [env.locals] s.heap h' → h'.FunFrames K.h₀ [env] → E (.ref e) { s with heap := h', toks := tk })
    (hx : sc.names.lookup c3N = some .globalImplicit := by rfl) (he : ∀ env, starEach [a] env = [(false, eval a env)] := by intro _; rfl)
    (hc : ∀ env, eval (.Call (.Name c3N p) [a] [] pos) env = (do callWith pos (← eval (.Name c3N p) env) [] (backTo pos (starEach [a] env)) (backToKw pos (keywordEach [] env))) := by intro _; rfl) :
    wpAny (model K.prog K.w) A (eval (.Call (.Name c3N p) [a] [] pos) env) Q E s := by
  have I := S.inAll
  refine Call_ (name_global I (.inl Fc.name) hx ?_ (by rfl)) (hc env)
  refine callWith_def Fc.data (args_cons (wpAny_mono (ha.run I) (fun v s₁ q => ?_) fun _ _ x => x) (he env)) (he env)
  obtain ⟨h₁, tk, as, rfl, g₁⟩ := q
  refine args_nil ⟨(I.ok.mono g₁.ext).ext _ _ Fc.get, ?_⟩
  have g' : Rd h₁ v (.list (rows.map .list)) as := g₁.rd
  obtain ⟨nd, new⟩ := g₁.new rfl
  cases g' with
  | @list l vs c _ As hl rs =>
    have ndA : As.Nodup := (List.nodup_cons.mp nd).2
    obtain ⟨f, h1, h2, h3⟩ := rs.rowsFn ndA hat
    subst h1
    have hK : ∀ b, s.heap.get? b = none → K.h₀.get? b = none := fun b hb => I.ok.ext.none hb
    have nA : ∀ b o, s.heap.get? b = some o → b ∉ As := fun b o hb q => by rw [new b (.tail _ q)] at hb; cases hb
    obtain ⟨t1, t2⟩ := S.top rfl
    have hk : env.scope.kind ≠ .module := by rw [S.henv.kind]; decide
    have hLK : K.h₀.get? env.locals = none := by
      cases q : K.h₀.get? env.locals with
      | none => rfl
      | some o => have := S.new _ (.inl rfl); rw [S.bK _ o q] at this; cases this
    obtain ⟨m, hn⟩ := S.frame.ns
    have hfr : ([env].filterMap (·.frame)) = [env.locals] := by simp [t2]
    refine c3_call (s := { s with heap := h₁, toks := tk }) (n := n) (outer := [env]) Fc hg I.room (I.ok.mono g₁.ext) (.inr ⟨t1, fun h ef => ?_, fun b hb => ?_⟩) ⟨_, hl, rfl, _, by rw [h2]⟩ h3 ndA (List.nodup_cons.mp nd).1 (fun a ha => hK a (new a (.tail _ ha)))
      (fun a ha => hat _ (List.mem_map.mpr ⟨a, ha, rfl⟩)) (fun a ha => Nat.le_trans (length_le_tot (List.mem_map.mpr ⟨a, ha, rfl⟩)) htot) htot (by simpa using hsz) (fun out' f' run' h₂ tk₂ r ws e₂ rw₂ hr hrl rd ok₂ => ?_) (fun out' f' run' hb h₂ e tk₂ e₂ rw₂ fl kb rw₂' fm ok₂ => ?_)
    · refine Heap.FunFrames.cons (m := m) hk t2 ?_ hLK trivial
      obtain ⟨o', es, ep, ho', r'⟩ := hn
      exact ⟨o', es, ep, ef _ _ (nA _ _ ho') (g₁.ext _ _ ho'), r'⟩
    · rw [hfr] at hb
      rw [List.mem_singleton.mp hb]
      obtain ⟨o', ho', hd'⟩ := S.frame.noSeq (.inl rfl)
      exact ⟨o', g₁.ext _ _ ho', hd'⟩
    · obtain ⟨c', hrl⟩ := hrl
      have hr0 : s.heap.get? r = none := g₁.ext.none hr
      refine k1 out' _ run' _ h₂ tk₂ [r] ⟨fun b o hb => e₂ b o (nA b o hb) (g₁.ext b o hb), Rd.list hrl rd, fun b hb q => ?_, fun _ => ⟨by simp, fun b hb => by rw [List.mem_singleton.mp hb]; exact hr0⟩⟩
      rw [List.mem_singleton.mp hb] at q
      obtain ⟨o, ho⟩ := I.dom r q; rw [hr0] at ho; cases ho
    · refine k2 (by rw [run']) h₂ e tk₂ (fl.rebase fun b o hb' => ⟨o, e₂ b o (nA b o hb') (g₁.ext b o hb')⟩) (fun b o hb' => ?_) fm
      obtain ⟨sl, e1, e2⟩ := kb b o (g₁.ext b o hb') (nA b o hb')
      exact ⟨sl, e1, fun hb'' => e2 (by rw [hfr]; exact hb'')⟩
end

section
variable {K : Cx} {n : Nat} {sc : Scope} {sh ow : List (Str × D)} {Q : Out → Prop}
variable {a : Expr} {x : Str} {p p1 cp ap hp hpos pos : Pos} {fa : Addr} {o : Obj} {pm cd doc : Value} {rows : List (List PyData)} {b₀ : Stmt} {suite : List Stmt}

theorem Ex1.tryC3 (Fc : Fn K c3Rec fa o pm cd doc) (hg : GV K "RuntimeError" (.type "RuntimeError")) (ha : Ev K (n + 1) sc (ow ++ sh) a (.py (.list (rows.map .list))) true)
    (hat : ∀ r ∈ rows, ∀ d ∈ r, Atom d) (hsz : rows.length ≤ sizeLine) (htot : tot rows ≤ sizeLine)
    (ok : ∀ out rest, mg3 PyData.eqv rows = (out, rest, true) → Q (.next (del x sh) ((x, .py (.list out)) :: del x ow)))
    (bad : (mg3 PyData.eqv rows).2.2 = false → ∀ {A : Around} {env : Env} {s : Shared} {X : Addr → Prop} {g : Addr → Option Obj} {e : Addr}, St K true (n + 1) sc X g sh ow A env s.heap → Exc s.heap e →
      wpAny (model K.prog K.w) (A.mark (some (.ref e))) (execs (b₀ :: suite) env) (fun f s' => ∃ o, Q o ∧ OutOk K true (n + 1) sc X g A env s o f s') (fun _ _ => False) s)
    (hxl : sc.names.lookup x = some .local ∨ sc.names.lookup x = some .cell := by first | exact Or.inl rfl | exact Or.inr rfl)
    (hx : sc.names.lookup c3N = some .globalImplicit := by rfl) (hr : sc.names.lookup ("RuntimeError" : Str) = some .globalImplicit := by rfl) (he : ∀ env, starEach [a] env = [(false, eval a env)] := by intro _; rfl)
    (hc : ∀ env, eval (.Call (.Name c3N p) [a] [] cp) env = (do callWith cp (← eval (.Name c3N p) env) [] (backTo cp (starEach [a] env)) (backToKw cp (keywordEach [] env))) := by intro _; rfl)
    (hsw : ∀ env, env.scope = sc → swapsWith (.Call (.Name c3N p) [a] [] cp) (some (.Name x p1)) ap.line env = pure false := by intro _ _; rfl) :
    Ex1 K true (n + 1) sc sh ow (.Try [.Assign [.Name x p1] (.Call (.Name c3N p) [a] [] cp) ap] [.ExceptHandler (some (.Name "RuntimeError" hp)) none (b₀ :: suite) hpos] [] [] pos) Q := Hide.mk fun {A env s X g E} S => by
  obtain ⟨fp, O⟩ := S.vars
  obtain ⟨t1, t2⟩ := S.top rfl
  have hfr : ([env].filterMap (·.frame)) = [env.locals] := by simp [t2]
  refine wpAny_Try_except (wpAny_execs_cons (wpAny_Assign_Name (c3_top Fc hg S ha hat hsz htot (fun out rest run v h₁ tk as gt => ?_) (fun run h₁ e tk fl kb fm => ?_) hx he hc) (hsw env S.hsc)))
  · obtain ⟨nd, new⟩ := gt.new rfl
    refine store_ow (s := { s with heap := h₁, toks := tk }) S O gt.ext hxl gt.rd nd new fun h' tk' _ _ _ S' => wpAny_execs_nil (wpAny_execs_nil ⟨_, ok out rest run, h', tk', rfl, S'⟩)
  · rw [← hfr] at kb
    refine note_left (s := { s with heap := h₁, toks := tk }) t1 fm t2 fl kb fun h₂ fl₂ kb₂ fm₂ => ?_
    refine flight_set (s := { s with heap := h₂, toks := tk }) (f' := none) fl₂ kb₂ fm₂ fun h₃ fl₃ kb₃ fm₃ => ?_
    have S₃ : St K true (n + 1) sc X g sh ow A env h₃ := S.kept (by rw [← hfr]; exact kb₃)
    refine wpAny_handleBy_builtin (X := "RuntimeError") (T := "RuntimeError") (b := true) PySem.F.isExc_RuntimeError (by rw [isSubtype_type]; kernel_rfl) PySem.F.self_RuntimeError (nameG (s := { s with heap := h₃, toks := tk }) S₃ hg hr ⟨rfl, ?_, ?_⟩)
    · obtain ⟨t, u, xa, _⟩ := fl₃.exc; exact xa.typeIs
    · rw [if_pos rfl]
      refine flight_set (s := { s with heap := h₃, toks := tk }) (f' := none) fl₃ kb₃ fm₃ fun h₄ fl₄ kb₄ fm₄ => ?_
      refine wpAny_mono (bad run (s := { s with heap := h₄, toks := tk }) (S.kept (by rw [← hfr]; exact kb₄)) fl₄.exc) (fun f s' q => ?_) fun _ _ q => q.elim
      exact q
end
end Mine

namespace Mine

def pushAll : List Str → List PyData → List (Str × D) → List (Str × D)
  | x :: xs, d :: ds, sh => pushAll xs ds ((x, .py d) :: del x sh)
  | _, _, sh => sh
def delAll : List Str → List (Str × D) → List (Str × D)
  | [], ow => ow
  | x :: xs, ow => delAll xs (del x ow)

section
variable {K : Cx} {lv : Bool} {n : Nat} {sc : Scope} {sh ow : List (Str × D)} {Q : Out → Prop} {x : Str} {p pos : Pos} {e : Expr} {d : D} {fr : Bool}
variable {A : Around} {env : Env} {s : Shared} {X : Addr → Prop} {g : Addr → Option Obj} {fp : Str → List Addr} {v : Value} {as : List Addr} {E : Value → Shared → Prop} {R : Unit → Shared → Prop}

theorem store_sh' (S : St K lv n sc X g sh ow A env s.heap) (O : Own K g X env sh ow fp s.heap) (hx : sc.names.lookup x = some .local ∨ sc.names.lookup x = some .cell) (rd : RdD K s.heap v d as) (off : ∀ b ∈ as, ¬ ownX X env ow fp b)
    (k : ∀ h' tk a, FrameAddr env a → Heap.SameBut a s.heap h' → St K lv n sc X g ((x, d) :: del x sh) (del x ow) A env h' → Own K g X env ((x, d) :: del x sh) (del x ow) fp h' → R () { s with heap := h', toks := tk }) : wpAny (model K.prog K.w) A (storeName env x v) R E s := by
  obtain ⟨a, sa⟩ := S.storeAddr hx
  refine store_at S.henv S.frame sa fun h' tk hs st => ?_
  have eff := Eff.of_sameBut hs
  have nt : ∀ b, b = a → NoTup s.heap b := fun b q => q ▸ (S.frame.noSeq sa.frame).noTup
  have O' : Own K g X env ((x, d) :: del x sh) (del x ow) fp h' := (O.stored S.frame sa hs st).addSh st.at_ (rd.off (eff.off (fun b hb q => off b hb (.inr (.inl (q ▸ sa.frame)))) nt)) fun b hb q => off b hb (by
    rcases q with q | q | ⟨y, hy, hm⟩
    · exact .inl q
    · exact .inr (.inl q)
    · exact .inr (.inr ⟨y, (lookup_del_isSome hy).2, hm⟩))
  exact k h' tk a sa.frame hs (S.stored sa hs st O') O'

theorem stores_sh : ∀ (xs : List Str) {ds : List PyData} {vs : List Value} {as : List Addr} {sh ow : List (Str × D)} {s : Shared} {R : Unit → Shared → Prop} {ts : List (Value → Sem Unit)}, xs.length = ds.length →
    ts.length = xs.length → (∀ (i : Nat) x, xs[i]? = some x → ∃ t, ts[i]? = some t ∧ ∀ {v s R}, wpAny (model K.prog K.w) A (storeName env x v) R E s → wpAny (model K.prog K.w) A (t v) R E s) →
    St K lv n sc X g sh ow A env s.heap → Own K g X env sh ow fp s.heap → (∀ x ∈ xs, sc.names.lookup x = some .local ∨ sc.names.lookup x = some .cell) → RdAll s.heap vs ds as → (∀ b ∈ as, ¬ ownX X env ow fp b) →
    (∀ h' tk, Eff (FrameAddr env) s.heap h' → St K lv n sc X g (pushAll xs ds sh) (delAll xs ow) A env h' → R () { s with heap := h', toks := tk }) →
    wpAny (model K.prog K.w) A (assignInOrder ts vs) R E s
  | [], ds, vs, as, sh, ow, s, R, ts, hl, ht, hts, S, O, hx, rd, off, k => by
    obtain rfl : ts = [] := List.eq_nil_of_length_eq_zero ht
    exact assignInOrder_nil (k s.heap s.toks (.refl _ _) S)
  | x :: xs, [], vs, as, sh, ow, s, R, ts, hl, ht, hts, S, O, hx, rd, off, k => by simp at hl
  | x :: xs, d :: ds, vs, as, sh, ow, s, R, ts, hl, ht, hts, S, O, hx, rd, off, k => by
    obtain ⟨v, vs', a, b, rfl, rfl, r1, r2⟩ := rd.uncons
    cases ts with
    | nil => simp at ht
    | cons t ts =>
    obtain ⟨t', e', ht'⟩ := hts 0 x rfl
    obtain rfl : t = t' := by simpa using e'
    refine assignInOrder_cons (ht' (store_sh' (d := .py d) S O (hx x (.head _)) r1 (fun c hc => off c (List.mem_append.mpr (.inl hc))) fun h' tk c fc hs S' O' => ?_))
    have eff := Eff.of_sameBut hs
    have nt : ∀ b, b = c → NoTup s.heap b := fun b q => q ▸ (S.frame.noSeq fc).noTup
    refine stores_sh xs (s := { s with heap := h', toks := tk }) (by simpa using hl) (by simpa using ht) (fun i y hy => hts (i + 1) y hy) S' O' (fun y hy => hx y (.tail _ hy)) (r2.off (eff.off (fun q hq hqc => off q (List.mem_append.mpr (.inr hq)) (.inr (.inl (hqc ▸ fc)))) nt)) (fun q hq hm => off q (List.mem_append.mpr (.inr hq)) ?_) fun h'' tk' e'' S'' => k h'' tk' ((eff.mono fun b hb => hb ▸ fc).trans e'') S''
    rcases hm with hm | hm | ⟨y, hy, hm⟩
    · exact .inl hm
    · exact .inr (.inl hm)
    · exact .inr (.inr ⟨y, (lookup_del_isSome hy).2, hm⟩)
end

section
variable {K : Cx} {lv : Bool} {n : Nat} {sc : Scope} {sh ow : List (Str × D)} {Q : Out → Prop} {pos : Pos} {e : Expr} {fr : Bool} {ds : List PyData}

theorem ext_extBut {h h' : Heap} (x : Heap.ExtBut h.objs.size h h') : Ext h h' := fun b o hb => x b o (push_ne ⟨o, hb⟩) hb

/-- several names, in the order of the text -/
theorem Ex1.assignTup {elts : List Expr} {xs : List Str} {k : Nat} {tp : Pos} (h : Ev K n sc sh e (.py (.tuple ds)) fr) (hl : xs.length = ds.length) (hq : Q (.next (pushAll xs ds sh) (delAll xs ow)))
    (hel : ∀ env, ((assignEach elts env).map (·.1)) = xs.map fun _ => false := by intro _; rfl)
    (hts : ∀ {A env E} (i : Nat) x, xs[i]? = some x → ∃ t, ((assignEach elts env).map (·.2))[i]? = some t ∧ ∀ {v s R}, wpAny (model K.prog K.w) A (storeName env x v) R E s → wpAny (model K.prog K.w) A (t v) R E s)
    (hx : ∀ x ∈ xs, sc.names.lookup x = some .local ∨ sc.names.lookup x = some .cell := by decide)
    (hs : ∀ env, env.scope = sc → swapsWithSole [.Tuple elts k tp] e pos.line env = pure false := by intro _ _; rfl)
    (hw : ∀ env, EnvOk env → env.scope = sc → swappedStores [.Tuple elts k tp] e env = pure none) :
    Ex1 K lv n sc sh ow (.Assign [.Tuple elts k tp] e pos) Q := Hide.mk fun {A env s X g E} S => by
  obtain ⟨fp, O⟩ := S.vars
  refine Assign_Tuple (wpAny_mono (h.run (S.inSh O)) (fun v s₁ t => ?_) fun _ _ x => x) (hs env S.hsc) (hw env S.henv S.hsc)
  obtain ⟨h₁, tk, as, rfl, gt⟩ := t
  have r : Rd h₁ v (.tuple ds) as := gt.rd
  cases r with
  | @tuple t vs c _ as ht rs =>
    have hlen : (assignEach elts env).length = xs.length := by have := congrArg List.length (hel env); simpa using this
    refine assign_Tuple_tuple (s := { s with heap := h₁, toks := tk }) (items := vs.toArray) S.room.quiet ⟨_, ht, rfl, _, rfl⟩ (by rw [hlen, hl]; simp [rs.length]) ?_ fun h₂ he₂ => ?_
    · rw [List.findIdx?_eq_none_iff]
      intro q hq
      have : q.1 ∈ (assignEach elts env).map (·.1) := List.mem_map.mpr ⟨q, hq, rfl⟩
      rw [hel env] at this
      simp at this; exact this.2.symm ▸ rfl
    have x₂ : Ext h₁ h₂ := ext_extBut he₂
    refine stores_sh xs (s := { s with heap := h₂, toks := tk }) (ds := ds) hl (by simpa using hlen) hts (S.ext (gt.ext.trans x₂)) (O.ext (gt.ext.trans x₂)) hx (rs.ext x₂) (fun b hb => gt.off b hb) fun h' tk' _ S' => ⟨_, hq, h', tk', rfl, S'⟩

/-- several names of a frame, the last first -/
theorem Ex1.assignSwap {elts : List Expr} {xs : List Str} {k : Nat} {tp : Pos} (h : Ev K n sc sh e (.py (.tuple ds)) fr) (hl : xs.length = ds.length) (hq : Q (.next (pushAll xs.reverse ds.reverse sh) (delAll xs.reverse ow)))
    (hx : ∀ x ∈ xs, sc.names.lookup x = some .local ∨ sc.names.lookup x = some .cell := by decide)
    (hs : ∀ env, env.scope = sc → swapsWithSole [.Tuple elts k tp] e pos.line env = pure false := by intro _ _; rfl)
    (hw : ∀ env, EnvOk env → env.scope = sc → swappedStores [.Tuple elts k tp] e env = pure (some xs)) :
    Ex1 K lv n sc sh ow (.Assign [.Tuple elts k tp] e pos) Q := Hide.mk fun {A env s X g E} S => by
  obtain ⟨fp, O⟩ := S.vars
  refine Assign_Tuple_swapped (names := xs) (wpAny_mono (h.run (S.inSh O)) (fun v s₁ t => ?_) fun _ _ x => x) (hs env S.hsc) (hw env S.henv S.hsc)
  obtain ⟨h₁, tk, as, rfl, gt⟩ := t
  have r : Rd h₁ v (.tuple ds) as := gt.rd
  cases r with
  | @tuple t vs c _ as ht rs =>
    have hn : xs.length = vs.toArray.size := by rw [hl]; simp [rs.length]
    rw [hn]
    refine unpackItems_tuple (s := { s with heap := h₁, toks := tk }) (items := vs.toArray) S.room.quiet ⟨_, ht, rfl, _, rfl⟩ fun h₂ he₂ => ?_
    have x₂ : Ext h₁ h₂ := ext_extBut he₂
    obtain ⟨as', rs', hm⟩ : ∃ as', RdAll h₂ vs.reverse ds.reverse as' ∧ ∀ b ∈ as', b ∈ as := by
      obtain ⟨as', r1, r2⟩ := (rs.ext x₂).reverse
      exact ⟨as', r1, r2⟩
    refine stores_sh xs.reverse (s := { s with heap := h₂, toks := tk }) (ds := ds.reverse) (by simp [hl]) (by simp) (fun i x hxi => ?_) (S.ext (gt.ext.trans x₂)) (O.ext (gt.ext.trans x₂)) (fun x hx' => hx x (by simpa using hx')) rs' (fun b hb => gt.off b (hm b hb)) fun h' tk' _ S' => ⟨_, hq, h', tk', rfl, S'⟩
    refine ⟨fun v => bindName env x v, by rw [List.getElem?_map, hxi]; rfl, fun {v s R} q => wpAny_bindName q⟩
end

section
variable {K : Cx} {n : Nat} {sc : Scope} {ρ : List (Str × D)} {a b : Expr} {pos p : Pos} {fa fb : Bool} {xs : List Int} {i : Int} {j : Nat}

theorem Ev.index (ha : Ev K n sc ρ a (.py (iL xs)) fa) (hb : Ev K n sc ρ b (.py (.int i)) fb) (hj : j < xs.length) (hi : xs[j] = i) (hno : ∀ m (hm : m < xs.length), m < j → xs[m] ≠ i) (hsz : xs.length ≤ sizeLine)
    (hbase : ∀ env, attributeBase a "index" env (eval a env) = eval a env := by intro _; rfl) (hline : (p.endLine == pos.line) = true := by rfl)
    (ht : ∀ env, backTo pos (starEach [b] env) = [(false, eval b env)] := by intro _; rfl) :
    Ev K n sc ρ (.Call (.Attribute a "index" p) [b] [] pos) (.py (.int j)) true := Hide.mk fun {A env s X E} I => by
  refine wpAny_Call_method1_late (hbase env) hline (ht env) (wpAny_mono (ha.run I) (fun va s₁ t => ?_) fun _ _ x => x)
  obtain ⟨h₁, tk, as, rfl, ga⟩ := t
  have ra : Rd h₁ va (.list (xs.map .int)) as := ga.rd
  cases ra with
  | @list l vs c _ as hl rs =>
    have hlen : vs.length = xs.length := by rw [rs.length]; simp
    refine ⟨"list", "list.index", F.plainAttrs_list, F.slot_list_index, F.type_list_index, ⟨_, hl, rfl⟩, fun a ha => by cases ha; exact ⟨_, hl, rfl⟩, PySem.P.index_list (wpAny_mono (hb.run (s := { s with heap := h₁, toks := tk }) (I.ext ga.ext)) (fun vb s₂ t => ?_) fun _ _ x => x)⟩
    obtain ⟨h₂, tk₂, bs, rfl, gb⟩ := t
    have rb : Rd h₂ vb (.int i) bs := gb.rd
    cases rb with
    | int _ u =>
    have at' : ∀ m (hm : m < xs.length), ∃ t, vs[m]'(by omega) = .int xs[m] t := fun m hm => by
      obtain ⟨d, bs', h1, r, _⟩ := rs.get (i := m) (v := vs[m]'(by omega)) (List.getElem?_eq_getElem _)
      obtain rfl : d = .int xs[m] := by simpa [hm] using h1.symm
      generalize vs[m]'(by omega) = w at r
      cases r with
      | int _ t => exact ⟨t, rfl⟩
    refine ⟨vs.toArray, c, fun y => match y with | .int z _ => z == i | _ => false, j, by simpa [hlen] using hj, gb.ext _ _ hl, fun y hy => ?_, ?_, ?_, fun m hm hmj => ?_, ?_⟩
    · obtain ⟨m, hm, e⟩ := List.getElem_of_mem (by simpa using hy : y ∈ vs)
      obtain ⟨t, ht⟩ := at' m (by omega)
      rw [← e, ht]; exact PySem.MeetsSeq.EqGives.int _ _ _ _
    · rw [sizeLine_eq] at hsz; omega
    · obtain ⟨t, ht⟩ := at' j hj
      simp only [List.getElem_toArray, ht, hi, beq_self_eq_true]
    · have hm' : m < xs.length := by simpa [hlen] using hm
      obtain ⟨t, ht⟩ := at' m hm'
      simp only [List.getElem_toArray, ht]
      simpa using hno m hm' hmj
    · exact Post.flat (ga.ext.trans gb.ext) (.int ..)
end
end Mine

namespace Mine

theorem bindL_other {kindOf : Str → Option NameKind} : ∀ {binds : List (Str × Value)} {m : Str → Option Value} {x : Str}, x ∉ binds.map (·.1) → bindL kindOf binds m x = m x
  | [], _, _, _ => rfl
  | (k, w) :: r, m, x, h => by
    simp only [List.map_cons, List.mem_cons, not_or] at h
    rw [bindL, bindL_other h.2]
    split
    · simp [h.1]
    · rfl
theorem bindL_get {kindOf : Str → Option NameKind} : ∀ {binds : List (Str × Value)} {m : Str → Option Value} {x : Str} {v : Value}, (binds.map (·.1)).Nodup → (x, v) ∈ binds → kindOf x = some .local → bindL kindOf binds m x = some v
  | (k, w) :: r, m, x, v, nd, h, hk => by
    simp only [List.map_cons, List.nodup_cons] at nd
    rw [bindL]
    rcases List.mem_cons.mp h with e | h
    · cases e
      rw [bindL_other nd.1, if_pos hk]; simp
    · exact bindL_get nd.2 h hk
theorem bindC_other {kindOf : Str → Option NameKind} : ∀ {binds : List (Str × Value)} {m : Str → Option Value} {x : Str}, x ∉ binds.map (·.1) → bindC kindOf binds m x = m x
  | [], _, _, _ => rfl
  | (k, w) :: r, m, x, h => by
    simp only [List.map_cons, List.mem_cons, not_or] at h
    rw [bindC, bindC_other h.2]
    split
    · rfl
    · simp [h.1]
theorem bindC_get {kindOf : Str → Option NameKind} : ∀ {binds : List (Str × Value)} {m : Str → Option Value} {x : Str} {v : Value}, (binds.map (·.1)).Nodup → (x, v) ∈ binds → kindOf x = some .cell → bindC kindOf binds m x = some v
  | (k, w) :: r, m, x, v, nd, h, hk => by
    simp only [List.map_cons, List.nodup_cons] at nd
    rw [bindC]
    rcases List.mem_cons.mp h with e | h
    · cases e
      rw [bindC_other nd.1, if_neg (by rw [hk]; decide)]; simp
    · exact bindC_get nd.2 h hk

theorem RdDs.lookup {K : Cx} {h : Heap} : ∀ {names : List Str} {vs ds as}, RdDs K h vs ds as → ∀ {x d}, (names.zip ds).lookup x = some d → ∃ v bs, (x, v) ∈ names.zip vs ∧ RdD K h v d bs ∧ ∀ b ∈ bs, b ∈ as
  | [], _, _, _, _, x, d, h => by simp at h
  | k :: names, _, _, _, .nil, x, d, h => by simp at h
  | k :: names, _, _, _, .cons r rs, x, d, h => by
    rw [List.zip_cons_cons, List.lookup_cons] at h
    by_cases q : x = k
    · subst q; simp at h; subst h
      exact ⟨_, _, .head _, r, fun b hb => List.mem_append_left _ hb⟩
    · have hb : (x == k) = false := by simpa using q
      simp only [hb] at h
      obtain ⟨v, bs, h1, h2, h3⟩ := rs.lookup h
      exact ⟨v, bs, .tail _ h1, h2, fun b hb => List.mem_append_right _ (h3 b hb)⟩
theorem RdDs.length {K : Cx} {h : Heap} : ∀ {vs ds as}, RdDs K h vs ds as → vs.length = ds.length
  | _, _, _, .nil => rfl
  | _, _, _, .cons _ b => by simp [b.length]

/-- what a function's table of names must be like -/
def topOk (scope : Scope) (names : List Str) : Bool :=
  decide (scope.kind = .function) && decide ((scope.names.map (·.1)).Nodup) && (scope.names.all fun p => p.2 != .free) && decide names.Nodup &&
    (names.all fun x => scope.names.lookup x == some .local || scope.names.lookup x == some .cell) && !scope.isGenerator && !scope.isCoroutine
structure TopOk (scope : Scope) (names : List Str) : Prop where
  kind : scope.kind = .function
  nodup : (scope.names.map (·.1)).Nodup
  free : ∀ x, scope.names.lookup x ≠ some .free
  ndup : names.Nodup
  binds : ∀ x ∈ names, scope.names.lookup x = some .local ∨ scope.names.lookup x = some .cell
  gen : scope.isGenerator = false
  co : scope.isCoroutine = false
theorem TopOk.of {scope : Scope} {names : List Str} (h : topOk scope names = true) : TopOk scope names := by
  simp only [topOk, Bool.and_eq_true, decide_eq_true_eq, List.all_eq_true, Bool.or_eq_true, beq_iff_eq, bne_iff_ne, ne_eq, Bool.not_eq_true'] at h
  obtain ⟨⟨⟨⟨⟨⟨h1, h2⟩, h3⟩, h4⟩, h5⟩, h6⟩, h7⟩ := h
  exact ⟨h1, h2, fun x hx => h3 _ (mem_of_lookup hx) rfl, h4, h5, h6, h7⟩

section
variable {K : Cx} {lv : Bool} {n : Nat} {scope : Scope} {A : Around} {h h₁ : Heap} {L fa : Addr} {name : Str} {cd : Value} {names : List Str} {vs : List Value} {ds : List D} {as : List Addr} {X : Addr → Prop}

theorem St.enter (To : TopOk scope names) (ro : Room A n) (ok : K.Ok h) (hL : h.objs.size = L) (F : Fr h L h₁ (bindL (envOfC name scope L fa cd).kindOf (names.zip vs) fun _ => none))
    (C : Cl L (cellsFrom (L + 1) scope.names []) h₁ (bindC (envOfC name scope L fa cd).kindOf (names.zip vs) fun _ => none)) (rd : RdDs K h vs ds as) (hl : names.length = ds.length)
    (hX : ∀ a, X a → ∃ o, h.get? a = some o) (off : ∀ a ∈ as, ¬ X a) (top : lv = true → A.frames = some [envOfC name scope L fa cd]) :
    St K lv n scope X (fun a => h.get? a) (names.zip ds) [] A (envOfC name scope L fa cd) h₁ := by
  have hLn : h.get? L = none := hL ▸ push_new _
  have hcell : ∀ x, scope.names.lookup x = some .cell → ∃ c, (cellsFrom (L + 1) scope.names []).lookup x = some c := fun x hx => by
    obtain ⟨c, hc⟩ := cellsFrom_has scope.names (L + 1) (mem_of_lookup hx)
    exact lookup_isSome_of_mem hc
  have fnew : ∀ a, FrameAddr (envOfC name scope L fa cd) a → h.get? a = none := fun a ha => by
    rcases ha with rfl | ⟨x, hx⟩
    · exact hLn
    · refine Heap.get?_none_of_le ?_
      rw [hL]; exact Nat.le_of_lt (C.above x a (mem_of_lookup hx))
  have hz : (names.zip vs).map (·.1) = names := by
    rw [List.map_fst_zip]; have := rd.length; omega
  refine ⟨ro, ok.mono F.keep, rfl, ⟨To.kind, rfl, rfl, C.apart, fun x hx => ?_⟩, ⟨⟨_, F.ns⟩, fun x c hc => ⟨_, C.cell x c hc⟩⟩, F.keep, fun a o ha => ok.ext a o ha, fnew, fun a ha => let ⟨o, ho⟩ := hX a ha; ⟨o, F.keep a o ho⟩, fun q => ⟨top q, rfl⟩, fun _ => [], ⟨nofun, nofun, fun x d hx => ?_⟩⟩
  · rcases hx with hx | hx
    · exact hcell x hx
    · exact absurd hx (To.free x)
  · obtain ⟨v, bs, h1, h2, h3⟩ := rd.lookup hx
    have hxn : x ∈ names := by rw [← hz]; exact List.mem_map.mpr ⟨_, h1, rfl⟩
    refine ⟨v, bs, ?_, h2.ext F.keep, fun a ha => ⟨fun q => ?_, off a (h3 a ha), fun y hy => by simp at hy⟩⟩
    · rcases To.binds x hxn with q | q
      · exact .inl ⟨q, _, F.ns, bindL_get (by rw [hz]; exact To.ndup) h1 q⟩
      · obtain ⟨c, hc⟩ := hcell x q
        refine .inr ⟨.inl q, c, hc, ?_⟩
        have := C.cell x c hc
        rw [bindC_get (by rw [hz]; exact To.ndup) h1 q] at this
        exact this
    · obtain ⟨o, ho⟩ := h2.dom a ha; rw [fnew a q] at ho; cases ho

/-- a function of the text, by what its body does -/
theorem CallOk.def {d : DefRec} {o : Obj} {pm cd doc : Value} {r : D} {fr : Bool} {Q : Out → Prop} (Fd : Fn K d fa o pm cd doc) (To : TopOk d.scope names) (hl : names.length = ds.length)
    (hb : ∀ vs : List Value, vs.length = names.length → bindArgs (Calls.docDef d.name d.params d.body d.scope pm cd doc) ⟨vs, []⟩ = pure (names.zip vs))
    (body : Ex K false n d.scope (names.zip ds) [] d.body Q) (hq : ∀ o, Q o → o = .ret r fr) : CallOk K (n + 1) (.ref fa) ds r fr := Hide.mk fun {A s X E vs as} ro ok rd hX off => by
  refine wpAny_call ?_
  have hlv : vs.length = names.length := by rw [rd.length, hl]
  refine call_cells (binds := names.zip vs) (by have := ro.depth; omega) (ok.ext _ _ Fd.get) Fd.data (ok.lim.keeps ok.ext) (Fd.code.keeps ok.ext) (hb vs hlv) (fun x hx => ?_) (fun h₁ tk₁ F C => ?_) To.co To.gen To.kind
  · have : x.1 ∈ names := (List.of_mem_zip (show (x.1, x.2) ∈ names.zip vs from hx)).1
    rcases To.binds _ this with q | q
    · exact .inl q
    · obtain ⟨c, hc⟩ := cellsFrom_has d.scope.names (s.heap.objs.size + 1) (mem_of_lookup q)
      obtain ⟨c', hc'⟩ := lookup_isSome_of_mem hc
      exact .inr ⟨q, by rw [hc']; rfl⟩
  · have S : St K false n d.scope X (fun a => s.heap.get? a) (names.zip ds) [] (A.deeper (envOfC d.name d.scope s.heap.objs.size fa cd)) (envOfC d.name d.scope s.heap.objs.size fa cd) h₁ :=
      St.enter To ro.deeper ok rfl F C rd hl hX off nofun
    refine wpAny_mono (body.run (s := { s with heap := h₁, toks := tk₁ }) (E := fun _ _ => False) S) (fun f s' p => ?_) fun _ _ q => q.elim
    obtain ⟨o', ho', h', tk', rfl, ok'⟩ := p
    obtain rfl := hq o' ho'
    cases f with
    | ret v =>
      obtain ⟨bs, b1, b2, b3, b4⟩ := ok'
      exact ⟨h', tk', bs, rfl, ⟨b1, b2, b3, b4⟩⟩
    | next => exact ok'.elim
    | brk => exact ok'.elim
    | cont => exact ok'.elim
end

section
variable {K : Cx} {n : Nat} {sc : Scope} {ρ : List (Str × D)} {pos p : Pos} {fr : Bool}
/-- a call of a function of the text -/
theorem Ev.callF {d : DefRec} {fa : Addr} {o : Obj} {pm cd doc : Value} {e : Expr} {es : List Expr} {ds : List D} {r : D} (Fd : Fn K d fa o pm cd doc) (args : EvArgs K n sc ρ (e :: es) ds) (h : CallOk K n (.ref fa) ds r fr)
    (hx : sc.names.lookup d.name = some .globalImplicit := by rfl) (hd : (d.name == ("__debug__" : Str)) = false := by rfl)
    (he : ∀ env, starEach (e :: es) env = (false, eval e env) :: starEach es env := by intro _; rfl)
    (hc : ∀ env, eval (.Call (.Name d.name p) (e :: es) [] pos) env = (do callWith pos (← eval (.Name d.name p) env) [] (backTo pos (starEach (e :: es) env)) (backToKw pos (keywordEach [] env))) := by intro _; rfl) :
    Ev K n sc ρ (.Call (.Name d.name p) (e :: es) [] pos) r fr := Hide.mk fun {A env s X E} I => by
  refine Call_ (name_global I (.inl Fd.name) hx ?_ hd) (hc env)
  refine callWith_def Fd.data (args.run I fun vs h' tk as x rd off => ⟨(I.ok.mono x).ext _ _ Fd.get, ?_⟩) (he env)
  exact wpAny_mono (h.run (s := { s with heap := h', toks := tk }) (X := X) I.room (I.ok.mono x) rd (fun a ha => let ⟨o, ho⟩ := I.dom a ha; ⟨o, x a o ho⟩) off) (fun v s' p => Post.after x p) fun _ _ x => x
end
end Mine

namespace Mine

def mask (scope : Scope) (ρ : List (Str × D)) : List (Str × D) := ρ.filter fun p => scope.names.lookup p.1 == some .free
theorem mask_lookup {scope : Scope} : ∀ {ρ : List (Str × D)} {y : Str} {d : D}, (mask scope ρ).lookup y = some d → scope.names.lookup y = some .free ∧ ρ.lookup y = some d
  | [], _, _, h => by cases h
  | (k, v) :: r, y, d, h => by
    unfold mask at h
    rw [List.filter_cons] at h
    split at h
    · rename_i hk
      rw [List.lookup_cons] at h ⊢
      by_cases q : y = k
      · subst q; simp at h hk; subst h; simp [hk]
      · have hb : (y == k) = false := by simpa using q
        simp only [hb] at h ⊢
        exact mask_lookup h
    · rename_i hk
      obtain ⟨h1, h2⟩ := mask_lookup (ρ := r) h
      refine ⟨h1, ?_⟩
      rw [List.lookup_cons]
      have hb : (y == k) = false := by
        cases q : y == k with
        | false => rfl
        | true => rw [beq_iff_eq] at q; subst q; simp [h1] at hk
      simp only [hb]; exact h2

/-- a comprehension, by its turns -/
def Cm (K : Cx) (n : Nat) (sc : Scope) (ρ : List (Str × D)) (elt : Expr) (gens : List Comprehension) (scope : Scope) (cpos : Pos) (out : List PyData) (fr : Bool) : Prop :=
  ∃ tgt iter ifs rest own ρ', ∃ F : List (PyData × List PyData), gens = ⟨tgt, iter, ifs, 0⟩ :: rest ∧ GensOk gens ∧ ScopeOk scope sc own ∧ (∀ x d, ρ'.lookup x = some d → scope.names.lookup x = some .free ∧ ρ.lookup x = some d) ∧
    EvIt K n sc ρ iter (F.map (·.1)) ∧ (∀ p ∈ F, TurnOk K n (relabelS scope sc) own elt gens scope cpos 0 tgt ifs ρ' p.1 p.2 fr) ∧ F.flatMap (·.2) = out ∧ out.length ≤ sizeLine

section
variable {K : Cx} {lv : Bool} {n : Nat} {sc scope : Scope} {ρ sh ow : List (Str × D)} {elt iter iter2 : Expr} {gens : List Comprehension} {cpos p px py pos : Pos} {out : List PyData} {fr : Bool} {x y : Str} {ifs ifs2 : List Expr} {Q : Out → Prop}

theorem Ev.ofCm (h : Cm K n sc ρ elt gens scope cpos out fr) : Ev K n sc ρ (.ListComp elt gens scope cpos) (.py (.list out)) fr := by
  obtain ⟨tgt, iter, ifs, rest, own, ρ', F, h1, h2, h3, h4, h5, h6, rfl, h8⟩ := h
  exact Ev.comp h1 h2 h3 h4 h5 h6 h8
theorem Ex1.assignCm (h : Cm K n sc sh elt gens scope cpos out fr) (hq : Q (.next ((x, .py (.list out)) :: del x sh) (del x ow))) (hx : sc.names.lookup x = some .local := by rfl)
    (hsw : ∀ env, env.scope = sc → swapsWith (.ListComp elt gens scope cpos) (some (.Name x p)) pos.line env = pure true) : Ex1 K lv n sc sh ow (.Assign [.Name x p] (.ListComp elt gens scope cpos) pos) Q := by
  obtain ⟨tgt, iter, ifs, rest, own, ρ', F, h1, h2, h3, h4, h5, h6, rfl, h8⟩ := h
  exact Ex1.assignComp h1 h2 h3 h4 h5 h6 h8 hq hx hsw

theorem swap_true {l : Nat} (hk : sc.kind = .function) (ht : sc.names.lookup x = some .local) (hl : (p.line == cpos.line) = true) (hno : (scope.names.any fun (n, k) => n == x && (k == .local || k == .cell)) = false) :
    ∀ env : Env, env.scope = sc → swapsWith (.ListComp elt gens scope cpos) (some (.Name x p)) l env = pure true := fun env he => by
  show pure (env.blockKind == .function && env.kindOf x == some .local && p.line == cpos.line && !(scope.names.any fun (n, k) => n == x && (k == .local || k == .cell))) = pure true
  have h1 : env.blockKind = .function := by unfold Env.blockKind; rw [he, hk]; rfl
  have h2 : env.kindOf x = some .local := by show env.scope.names.lookup x = _; rw [he]; exact ht
  rw [h1, h2, hl, hno]; rfl
theorem swap_false {l : Nat} (ht : sc.names.lookup x = some .cell) :
    ∀ env : Env, env.scope = sc → swapsWith (.ListComp elt gens scope cpos) (some (.Name x p)) l env = pure false := fun env he => by
  show pure (env.blockKind == .function && env.kindOf x == some .local && p.line == cpos.line && !(scope.names.any fun (n, k) => n == x && (k == .local || k == .cell))) = pure false
  have h2 : env.kindOf x = some .cell := by show env.scope.names.lookup x = _; rw [he]; exact ht
  rw [h2, show (some NameKind.cell == some NameKind.local) = false from rfl, Bool.and_false, Bool.false_and, Bool.false_and]

theorem own_none {own : List Str} (So : ScopeOk scope sc own) {x : Str} (hx : x ∈ own) : (mask scope ρ).lookup x = none := by
  cases q : (mask scope ρ).lookup x with
  | none => rfl
  | some d =>
    have := (mask_lookup q).1
    rcases So.own x hx with h | h <;> (rw [h] at this; cases this)
theorem cons_keep {x : Str} {d : D} {ρ : List (Str × D)} (h : ρ.lookup x = none) : ∀ y e, ρ.lookup y = some e → ((x, d) :: ρ).lookup y = some e := fun y e hy => by
  rw [List.lookup_cons]
  have hb : (y == x) = false := by
    cases q : y == x with
    | false => rfl
    | true => rw [beq_iff_eq] at q; subst q; rw [h] at hy; cases hy
  simp only [hb]; exact hy

/-- `[d for x in iter if pz]` -/
theorem Cm.one {α : Type} (l : List α) (c : α → PyData) (pz : α → Bool) (d : α → PyData) (hit : EvIt K n sc ρ iter (l.map c))
    (test : ∀ a ∈ l, TrAll K n (relabelS scope sc) ((x, .py (c a)) :: mask scope ρ) ifs (pz a)) (el : ∀ a ∈ l, pz a = true → Ev K n (relabelS scope sc) ((x, .py (c a)) :: mask scope ρ) elt (.py (d a)) fr) (hsz : l.length ≤ sizeLine)
    (So : scopeOk scope sc [x] = true := by decide) (hG : ∀ env v, foldedSetIterable iter env v = pure v := by intro _ _; rfl) :
    Cm K n sc ρ elt [⟨.Name x px, iter, ifs, 0⟩] scope cpos ((l.filter pz).map d) fr := by
  have So' := ScopeOk.of So
  refine ⟨_, _, _, _, [x], mask scope ρ, l.map fun a => (c a, if pz a then [d a] else []), rfl, fun g hg => ?_, So', fun y e hy => mask_lookup hy, ?_, fun q hq => ?_, ?_, ?_⟩
  · obtain rfl := List.mem_singleton.mp hg; exact ⟨rfl, hG⟩
  · rw [List.map_map]; exact hit
  · obtain ⟨a, ha, rfl⟩ := List.mem_map.mp hq
    refine ⟨_, pz a, Asg.name (.head _), cons_keep (own_none So' (.head _)), test a ha, fun hp => ?_, fun hp => by simp [hp]⟩
    rw [hp, if_pos rfl]
    exact BodyOk.elt rfl (el a ha hp)
  · clear hit test el hsz
    induction l with
    | nil => rfl
    | cons a l ih => cases h : pz a <;> simp [h, ih]
  · exact Nat.le_trans (by rw [List.length_map]; exact List.length_filter_le ..) hsz

/-- `[d for x in iter for y in iter2 if pz]` -/
theorem Cm.two {α β : Type} (l : List α) (c : α → PyData) (l2 : α → List β) (c2 : β → PyData) (pz : α → β → Bool) (d : α → β → PyData) (p1 : α → Bool) (hit : EvIt K n sc ρ iter (l.map c))
    (test1 : ∀ a ∈ l, TrAll K n (relabelS scope sc) ((x, .py (c a)) :: mask scope ρ) ifs (p1 a))
    (hit2 : ∀ a ∈ l, p1 a = true → EvIt K n (relabelS scope sc) ((x, .py (c a)) :: mask scope ρ) iter2 ((l2 a).map c2))
    (test2 : ∀ a ∈ l, p1 a = true → ∀ b ∈ l2 a, TrAll K n (relabelS scope sc) ((y, .py (c2 b)) :: (x, .py (c a)) :: mask scope ρ) ifs2 (pz a b))
    (el : ∀ a ∈ l, p1 a = true → ∀ b ∈ l2 a, pz a b = true → Ev K n (relabelS scope sc) ((y, .py (c2 b)) :: (x, .py (c a)) :: mask scope ρ) elt (.py (d a b)) fr)
    (hsz : ((l.filter p1).flatMap fun a => ((l2 a).filter (pz a)).map (d a)).length ≤ sizeLine)
    (So : scopeOk scope sc [x, y] = true := by decide) (hxy : x ≠ y := by decide) (hG : ∀ env v, foldedSetIterable iter env v = pure v := by intro _ _; rfl) (hG2 : ∀ env v, foldedSetIterable iter2 env v = pure v := by intro _ _; rfl) :
    Cm K n sc ρ elt [⟨.Name x px, iter, ifs, 0⟩, ⟨.Name y py, iter2, ifs2, 0⟩] scope cpos ((l.filter p1).flatMap fun a => ((l2 a).filter (pz a)).map (d a)) fr := by
  have So' := ScopeOk.of So
  have hGs : GensOk [⟨.Name x px, iter, ifs, 0⟩, ⟨.Name y py, iter2, ifs2, 0⟩] := fun g hg => by
    rcases List.mem_cons.mp hg with rfl | hg
    · exact ⟨rfl, hG⟩
    · obtain rfl := List.mem_singleton.mp hg; exact ⟨rfl, hG2⟩
  have inner : ∀ a, ((l2 a).map fun b => ((c2 b, if pz a b then [d a b] else []) : PyData × List PyData)).flatMap (·.2) = ((l2 a).filter (pz a)).map (d a) := fun a => by
    generalize l2 a = m
    induction m with
    | nil => rfl
    | cons b m ih => cases h : pz a b <;> simp [h, ih]
  refine ⟨_, _, _, _, [x, y], mask scope ρ, l.map fun a => (c a, if p1 a then ((l2 a).map fun b => ((c2 b, if pz a b then [d a b] else []) : PyData × List PyData)).flatMap (·.2) else []), rfl, hGs, So', fun y e hy => mask_lookup hy, ?_, fun q hq => ?_, ?_, hsz⟩
  · rw [List.map_map]; exact hit
  · obtain ⟨a, ha, rfl⟩ := List.mem_map.mp hq
    refine ⟨_, p1 a, Asg.name (.head _), cons_keep (own_none So' (.head _)), test1 a ha, fun hp => ?_, fun hp => by simp [hp]⟩
    rw [hp, if_pos rfl]
    refine BodyOk.gen (F := (l2 a).map fun b => (c2 b, if pz a b then [d a b] else [])) rfl hGs (by rw [List.map_map]; exact hit2 a ha hp) fun q hq => ?_
    obtain ⟨b, hb, rfl⟩ := List.mem_map.mp hq
    have hyn : ((x, D.py (c a)) :: mask scope ρ).lookup y = none := by
      rw [List.lookup_cons]
      have hb : (y == x) = false := by simpa using Ne.symm hxy
      simp only [hb]; exact own_none So' (.tail _ (.head _))
    refine ⟨_, pz a b, Asg.name (.tail _ (.head _)), cons_keep hyn, test2 a ha hp b hb, fun hp2 => ?_, fun hp2 => by simp [hp2]⟩
    rw [hp2, if_pos rfl]
    exact BodyOk.elt rfl (el a ha hp b hb hp2)
  · clear hit hit2 test1 test2 el hsz
    induction l with
    | nil => rfl
    | cons a l ih =>
      rw [List.map_cons, List.flatMap_cons, ih, List.filter_cons]
      cases h : p1 a
      · rw [if_neg Bool.false_ne_true, if_neg Bool.false_ne_true]; rfl
      · rw [if_pos rfl, if_pos rfl, List.flatMap_cons, inner]
end
end Mine

namespace Mine

/-- the built-in names that the laws use -/
structure BG (K : Cx) : Prop where
  rt : GV K "RuntimeError" (.type "RuntimeError")
  len : GV K "len" (.builtin "len")
  set : GV K "set" (.type "set")
  list : GV K "list" (.type "list")
  divmod : GV K "divmod" (.builtin "divmod")
  range : GV K "range" (.type "range")
  sorted : GV K "sorted" (.builtin "sorted")
  sum : GV K "sum" (.builtin "sum")
  min : GV K "min" (.builtin "min")
  max : GV K "max" (.builtin "max")
  str : GV K "str" (.type "str")
  bool : GV K "bool" (.type "bool")
  isinstance : GV K "isinstance" (.builtin "isinstance")

def Sub (l sh : List (Str × D)) : Prop := ∀ x d, l.lookup x = some d → sh.lookup x = some d
theorem Sub.nil {sh : List (Str × D)} : Sub [] sh := fun x d h => by cases h
theorem Sub.refl {sh : List (Str × D)} : Sub sh sh := fun _ _ h => h
theorem Sub.cons {l sh : List (Str × D)} {x : Str} {d : D} (h : sh.lookup x = some d) (t : Sub l sh) : Sub ((x, d) :: l) sh := fun y e hy => by
  rw [List.lookup_cons] at hy
  by_cases q : y = x
  · subst q; simp at hy; subst hy; exact h
  · have hb : (y == x) = false := by simpa using q
    simp only [hb] at hy; exact t y e hy
theorem Sub.push {l sh : List (Str × D)} {y : Str} {e : D} (t : Sub l sh) (h : l.lookup y = none) : Sub l ((y, e) :: del y sh) := fun x d hx => by
  have q : x ≠ y := fun q => by rw [q, h] at hx; cases hx
  have hb : (x == y) = false := by simpa using q
  rw [List.lookup_cons]
  simp only [hb]
  rw [lookup_del, if_neg q]; exact t x d hx
theorem Sub.pushC {l sh : List (Str × D)} {y : Str} {e : D} (t : Sub l sh) (h : l.lookup y = none) : Sub ((y, e) :: l) ((y, e) :: del y sh) := Sub.cons (by simp) (t.push h)
theorem Ex.subs {K lv n sc sh ow} {l : List (Str × D)} {ss : List Stmt} {Q : Out → Prop} (t : Sub l sh) (h : Ex K lv n sc l ow ss Q) : Ex K lv n sc sh ow ss Q := h.sub t fun _ _ q => q

theorem Cm.cast {K n sc ρ elt gens scope cpos out out' fr} (h : Cm K n sc ρ elt gens scope cpos out fr) (e : out = out') : Cm K n sc ρ elt gens scope cpos out' fr := e ▸ h

theorem eqvAll_ints : ∀ a b : List Int, PyData.eqvAll (a.map .int) (b.map .int) = (a == b)
  | [], [] => by simp [PyData.eqvAll]
  | [], _ :: _ => by simp [PyData.eqvAll]
  | _ :: _, [] => by simp [PyData.eqvAll]
  | x :: a, y :: b => by
    simp only [List.map_cons, PyData.eqvAll, PyData.eqv, eqvAll_ints a b]
    rfl
theorem eqv_iL (a b : List Int) : PyData.eqv (iL a) (iL b) = (a == b) := by unfold iL; simp only [PyData.eqv]; exact eqvAll_ints a b
theorem eqvAll_iLs : ∀ a b : List (List Int), PyData.eqvAll (a.map iL) (b.map iL) = (a == b)
  | [], [] => by simp [PyData.eqvAll]
  | [], _ :: _ => by simp [PyData.eqvAll]
  | _ :: _, [] => by simp [PyData.eqvAll]
  | x :: a, y :: b => by
    simp only [List.map_cons, PyData.eqvAll, eqv_iL, eqvAll_iLs a b]
    rfl
theorem any_ints (ds : List Int) (x : Int) : ((ds.map PyData.int).any fun y => PyData.eqv y (.int x)) = ds.contains x := by
  induction ds with
  | nil => rfl
  | cons d ds ih =>
    simp only [List.map_cons, List.any_cons, ih, PyData.eqv, List.contains_cons]
    congr 1
    rw [Bool.eq_iff_iff]; simp only [beq_iff_eq]; exact eq_comm

theorem shp_ints (xs : List Int) : Shp (iL xs) := Shp.list fun d hd => by obtain ⟨x, _, rfl⟩ := List.mem_map.mp hd; exact Atom.int x
theorem flat_ints (xs : List Int) : ∀ d ∈ xs.map PyData.int, Flat d := fun d hd => by obtain ⟨x, _, rfl⟩ := List.mem_map.mp hd; trivial

section
variable {K : Cx} {n : Nat} {sc : Scope} {ρ : List (Str × D)} {a b c : Expr} {pos p : Pos} {fa fb fc fr : Bool} {xs ys : List Int} {i j : Int}
theorem CmpOk.eqIL : CmpOk K n .Eq (.py (iL xs)) (.py (iL ys)) (xs == ys) := CmpOk.cast (CmpOk.eqD (shp_ints xs) (shp_ints ys)) (eqv_iL xs ys)
theorem CmpOk.neIL : CmpOk K n .NotEq (.py (iL xs)) (.py (iL ys)) (!(xs == ys)) := CmpOk.cast (CmpOk.neD (shp_ints xs) (shp_ints ys)) (by rw [eqv_iL])
theorem CmpOk.inIL : CmpOk K n .In (.py (.int i)) (.py (iL xs)) (xs.contains i) := CmpOk.cast (CmpOk.inL (Atom.int i).shp (shp_ints xs)) (any_ints xs i)
theorem CmpOk.notInIL : CmpOk K n .NotIn (.py (.int i)) (.py (iL xs)) (!xs.contains i) := CmpOk.cast (CmpOk.notInL (Atom.int i).shp (shp_ints xs)) (by rw [any_ints])

theorem Ev.lenIL (B : BG K) (ha : Ev K n sc ρ a (.py (iL xs)) fa) (hsz : xs.length ≤ sizeLine) (hx : sc.names.lookup ("len" : Str) = some .globalImplicit := by rfl)
    (he : ∀ env, starEach [a] env = [(false, eval a env)] := by intro _; rfl)
    (hc : ∀ env, eval (.Call (.Name "len" p) [a] [] pos) env = (do callWith pos (← eval (.Name "len" p) env) [] (backTo pos (starEach [a] env)) (backToKw pos (keywordEach [] env))) := by intro _; rfl) :
    Ev K n sc ρ (.Call (.Name "len" p) [a] [] pos) (.py (.int xs.length)) true :=
  Ev.cast (Ev.callB B.len (EvArgs.cons ha EvArgs.nil he) (CallOk.lenL (ds := xs.map .int) (by simpa using hsz)) hx (by decide) he (fun _ => rfl) hc) (by simp)
theorem Ev.listIL (B : BG K) (ha : Ev K n sc ρ a (.py (iL xs)) fa) (hsz : xs.length ≤ sizeLine) (hx : sc.names.lookup ("list" : Str) = some .globalImplicit := by rfl)
    (he : ∀ env, starEach [a] env = [(false, eval a env)] := by intro _; rfl)
    (hc : ∀ env, eval (.Call (.Name "list" p) [a] [] pos) env = (do callWith pos (← eval (.Name "list" p) env) [] (backTo pos (starEach [a] env)) (backToKw pos (keywordEach [] env))) := by intro _; rfl) :
    Ev K n sc ρ (.Call (.Name "list" p) [a] [] pos) (.py (iL xs)) true :=
  Ev.callT B.list (EvArgs.cons ha EvArgs.nil he) (CallOk.list (by simpa using hsz) fun _ => flat_ints xs) hx (by decide) he (fun _ => rfl) hc

theorem Ev.indexOf (ha : Ev K n sc ρ a (.py (iL xs)) fa) (hb : Ev K n sc ρ b (.py (.int i)) fb) (hi : i ∈ xs) (hsz : xs.length ≤ sizeLine)
    (hbase : ∀ env, attributeBase a "index" env (eval a env) = eval a env := by intro _; rfl) (hline : (p.endLine == pos.line) = true := by rfl)
    (ht : ∀ env, backTo pos (starEach [b] env) = [(false, eval b env)] := by intro _; rfl) :
    Ev K n sc ρ (.Call (.Attribute a "index" p) [b] [] pos) (.py (.int (xs.idxOf i : Nat))) true :=
  Ev.index ha hb (List.idxOf_lt_length_of_mem hi) (List.getElem_idxOf _) (fun m hm hmj q => by
    have := List.not_of_lt_findIdx (p := (· == i)) (xs := xs) hmj
    simp at this; exact this q) hsz hbase hline ht

theorem Ev.runIL (ha : Ev K n sc ρ a (.py (iL xs)) fa) {k l : Nat} (hb : Ev K n sc ρ b (.py (.int k)) fb) (hc : Ev K n sc ρ c (.py (.int l)) fc) (hsz : xs.length ≤ sizeLine) :
    Ev K n sc ρ (.Subscript a (.Slice (some b) (some c) none p) pos) (.py (iL ((xs.drop k).take (l - k)))) true :=
  Ev.cast (Ev.sliceRun ha hb hc (Int.natCast_nonneg _) (Int.natCast_nonneg _) (by simpa using hsz) fun _ => flat_ints xs) (by simp [iL, List.map_drop, List.map_take])
theorem Ev.fromIL (ha : Ev K n sc ρ a (.py (iL xs)) fa) {k : Nat} (hb : Ev K n sc ρ b (.py (.int k)) fb) (hsz : xs.length ≤ sizeLine) :
    Ev K n sc ρ (.Subscript a (.Slice (some b) none none p) pos) (.py (iL (xs.drop k))) true :=
  Ev.cast (Ev.sliceFrom ha hb (Int.natCast_nonneg _) (by simpa using hsz) fun _ => flat_ints xs) (by simp [iL, List.map_drop])
theorem Ev.uptoIL (ha : Ev K n sc ρ a (.py (iL xs)) fa) {k : Nat} (hb : Ev K n sc ρ b (.py (.int k)) fb) (hsz : xs.length ≤ sizeLine) :
    Ev K n sc ρ (.Subscript a (.Slice none (some b) none p) pos) (.py (iL (xs.take k))) true :=
  Ev.cast (Ev.sliceUpto ha hb (Int.natCast_nonneg _) (by simpa using hsz) fun _ => flat_ints xs) (by simp [iL, List.map_take])
end
end Mine

namespace Mine

theorem rdAll_of_ints {h : Heap} : ∀ {vs : List Value} {xs : List Int}, IntsAre vs xs → RdAll h vs (xs.map .int) []
  | [], [], _ => .nil
  | v :: vs, x :: xs, hi => by
    cases hi with
    | cons _ t h1 => exact RdAll.cons (as := []) (bs := []) (.int x t) (rdAll_of_ints h1)

theorem rd_script {P : Params} {h : Heap} {l : Addr} {vs : List Value} {xs : List Int} (w : Well P h (.ref l) (ofPy (PyData.list (xs.map .int)))) (hl : h.IsList l vs.toArray) (hi : IntsAre vs xs) : Rd h (.ref l) (iL xs) [l] := by
  obtain ⟨o, ho, hc, k, hd⟩ := hl
  have e : ofPy (PyData.list (xs.map .int)) = .list (ofPys (xs.map .int)) := by simp [ofPy]
  rw [e] at w
  cases w with
  | @list _ vs' _ h1 _ =>
    rw [ho] at h1; cases h1
    have : vs = vs' := by
      injection hd with h2 h3
      simpa using h2.symm
    subst this
    exact Rd.list ho (rdAll_of_ints hi)

/-- a law is called with its script -/
theorem law_top {K : Cx} {d : DefRec} {fa l : Addr} {o : Obj} {pm cd doc : Value} {xs : List Int} {s : Shared} {R : Result → Shared → Prop} {n : Nat} (hn : n ≤ 30) (hK : K.h₀ = s.heap) (ok : K.Ok s.heap) (Fd : Fn K d fa o pm cd doc) (To : TopOk d.scope ["script"])
    (hb : ∀ v : Value, bindArgs (Calls.docDef d.name d.params d.body d.scope pm cd doc) ⟨[v], []⟩ = pure [(("script" : Str), v)]) (rd : Rd s.heap (.ref l) (iL xs) [l])
    (body : Ex K true n d.scope [("script", .py (iL xs))] [] d.body fun o => o = .ret (.py (.bool true)) true)
    (k : ∀ h' tk, Ext s.heap h' → R (.ok (.ret (.bool true))) { s with heap := h', toks := tk }) : codeAny (model K.prog K.w) callerA (.call (.ref fa) ⟨[.ref l], []⟩) R s := by
  have hdep : callerA.depth + 1 + n < recursionLimit := by
    have : callerA.depth = 301 := by decide +kernel
    have : recursionLimit = 1000 := by decide +kernel
    omega
  refine call_cells (binds := [(("script" : Str), .ref l)]) (by omega) (ok.ext _ _ Fd.get) Fd.data (ok.lim.keeps ok.ext) (Fd.code.keeps ok.ext) (hb _) (fun x hx => ?_) (fun h₁ tk₁ F C => ?_) To.co To.gen To.kind
  · obtain rfl := List.mem_singleton.mp hx
    rcases To.binds "script" (.head _) with q | q
    · exact .inl q
    · obtain ⟨c, hc⟩ := cellsFrom_has d.scope.names (s.heap.objs.size + 1) (mem_of_lookup q)
      obtain ⟨c', hc'⟩ := lookup_isSome_of_mem hc
      exact .inr ⟨q, by rw [hc']; rfl⟩
  · have ro : Room (callerA.deeper (envOfC d.name d.scope s.heap.objs.size fa cd)) n := ⟨rfl, hdep, by
      show 4 + 3 + 8 * n + 200 < cLine
      have : cLine = 9900 := by decide +kernel
      omega⟩
    have S : St K true n d.scope (fun _ => False) (fun a => s.heap.get? a) [("script", .py (iL xs))] [] (callerA.deeper (envOfC d.name d.scope s.heap.objs.size fa cd)) (envOfC d.name d.scope s.heap.objs.size fa cd) h₁ :=
      St.enter (names := ["script"]) (vs := [.ref l]) (ds := [.py (iL xs)]) (as := [l] ++ []) To ro ok rfl F C (.cons rd .nil) rfl nofun nofun fun _ => rfl
    refine wpAny_mono (body.run (s := { s with heap := h₁, toks := tk₁ }) (E := fun _ _ => False) S) (fun f s' p => ?_) fun _ _ q => q.elim
    obtain ⟨o', rfl, h', tk', rfl, ok'⟩ := p
    cases f with
    | ret v =>
      obtain ⟨bs, b1, b2, b3, b4⟩ := ok'
      have b2' : Rd h' v (.bool true) bs := b2
      cases b2'
      exact k h' tk' b1
    | next => exact ok'.elim
    | brk => exact ok'.elim
    | cont => exact ok'.elim
end Mine
namespace Mine
theorem BG.of {p : Program} {loose : List Str} {mean : ExcName → Option Value} {mg mb : Str → Option Value} {h : Heap} (T : Top p loose mean mg mb h) (prog : Program) (w : World)
    (hf : ∀ x ∈ (["RuntimeError", "len", "set", "list", "divmod", "range", "sorted", "sum", "min", "max", "str", "bool", "isinstance"] : List Str), mg x = none) : BG ⟨prog, w, h, mg, mb⟩ where
  rt := .inr ⟨hf _ (by decide), (T.builtins _ (by decide)).trans Boot.«RuntimeError»⟩
  len := .inr ⟨hf _ (by decide), (T.builtins _ (by decide)).trans Boot.«len»⟩
  set := .inr ⟨hf _ (by decide), (T.builtins _ (by decide)).trans Boot.«set»⟩
  list := .inr ⟨hf _ (by decide), (T.builtins _ (by decide)).trans Boot.«list»⟩
  divmod := .inr ⟨hf _ (by decide), (T.builtins _ (by decide)).trans Boot.«divmod»⟩
  range := .inr ⟨hf _ (by decide), (T.builtins _ (by decide)).trans Boot.«range»⟩
  sorted := .inr ⟨hf _ (by decide), (T.builtins _ (by decide)).trans Boot.«sorted»⟩
  sum := .inr ⟨hf _ (by decide), (T.builtins _ (by decide)).trans Boot.«sum»⟩
  min := .inr ⟨hf _ (by decide), (T.builtins _ (by decide)).trans Boot.«min»⟩
  max := .inr ⟨hf _ (by decide), (T.builtins _ (by decide)).trans Boot.«max»⟩
  str := .inr ⟨hf _ (by decide), (T.builtins _ (by decide)).trans Boot.«str»⟩
  bool := .inr ⟨hf _ (by decide), (T.builtins _ (by decide)).trans Boot.«bool»⟩
  isinstance := .inr ⟨hf _ (by decide), (T.builtins _ (by decide)).trans Boot.«isinstance»⟩
end Mine

namespace Mine

/-! ### the merge over anything that can be told apart -/
section
variable {α β : Type} {ea : α → α → Bool} {eb : β → β → Bool} {f : α → β}

theorem strike1_map (h : ∀ x y, eb (f x) (f y) = ea x y) (c : α) (r : List α) : strike1 eb (f c) (r.map f) = (strike1 ea c r).map f := by
  cases r with
  | nil => rfl
  | cons x t => simp only [List.map_cons, strike1, h]; split <;> rfl
theorem okHead_map (h : ∀ x y, eb (f x) (f y) = ea x y) (R : List (List α)) (x : α) : okHead eb (R.map (List.map f)) (f x) = okHead ea R x := by
  unfold okHead
  rw [List.all_map]
  congr 1
  funext r
  simp only [Function.comp, ← List.map_tail, List.any_map]
  congr 2
  funext y
  simp [h]
theorem cand_map (h : ∀ x y, eb (f x) (f y) = ea x y) (R : List (List α)) : cand eb (R.map (List.map f)) = (cand ea R).map f := by
  have key : ∀ S : List (List α), (S.map (List.map f)).findSome? (fun r => match r with | [] => none | x :: _ => if okHead eb (R.map (List.map f)) x then some x else none) = (S.findSome? fun r => match r with | [] => none | x :: _ => if okHead ea R x then some x else none).map f := by
    intro S
    induction S with
    | nil => rfl
    | cons r S ih =>
      rw [List.map_cons, List.findSome?_cons, List.findSome?_cons]
      cases r with
      | nil => simpa using ih
      | cons x t =>
        simp only [List.map_cons, okHead_map h]
        cases q : okHead ea R x
        · simpa using ih
        · simp
  exact key R
theorem c3_map (h : ∀ x y, eb (f x) (f y) = ea x y) : ∀ (n : Nat) (R : List (List α)), c3 eb n (R.map (List.map f)) = ((c3 ea n R).1.map f, (c3 ea n R).2.1.map (List.map f), (c3 ea n R).2.2)
  | 0, R => by
    simp only [c3, List.map_nil, List.all_map]
    congr 3
    funext r; simp
  | n + 1, R => by
    have hall : (R.map (List.map f)).all (·.isEmpty) = R.all (·.isEmpty) := by rw [List.all_map]; congr 1; funext r; simp
    rw [c3, c3, hall, cand_map h]
    split
    · simp
    · cases cand ea R with
      | none => simp
      | some c =>
        simp only [Option.map_some]
        have : (R.map (List.map f)).map (strike1 eb (f c)) = (R.map (strike1 ea c)).map (List.map f) := by
          rw [List.map_map, List.map_map]
          exact List.map_congr_left fun r _ => strike1_map h c r
        rw [this, c3_map h n]
        simp
theorem mg3_map (h : ∀ x y, eb (f x) (f y) = ea x y) (R : List (List α)) : mg3 eb (R.map (List.map f)) = ((mg3 ea R).1.map f, (mg3 ea R).2.1.map (List.map f), (mg3 ea R).2.2) := by
  have : tot (R.map (List.map f)) = tot R := by unfold tot; rw [List.map_map]; congr 1; exact List.map_congr_left fun r _ => by simp
  unfold mg3; rw [this]; exact c3_map h _ R
end

def beq' {α : Type} [DecidableEq α] (x y : α) : Bool := decide (x = y)

section
variable {α : Type} [DecidableEq α] {R : List (List α)} {c : α}

abbrev m3 (R : List (List α)) : List α × List (List α) × Bool := mg3 beq' R
theorem rflB (R : List (List α)) : Rfl beq' R := fun _ _ x _ => by simp [beq']
theorem okHead_iff : okHead beq' R c = true ↔ ∀ r ∈ R, c ∉ r.tail := by
  unfold okHead
  rw [List.all_eq_true]
  constructor
  · intro h r hr hc
    have := h r hr
    simp only [Bool.not_eq_true', List.any_eq_false] at this
    exact this c hc (by simp [beq'])
  · intro h r hr
    simp only [Bool.not_eq_true', List.any_eq_false]
    intro y hy q
    simp [beq'] at q; subst q; exact h r hr hy
theorem strike_cons (x : α) (t : List α) : strike1 beq' c (x :: t) = if x = c then t else x :: t := by
  simp only [strike1, beq']
  by_cases q : x = c <;> simp [q]
theorem strike_nil : strike1 (beq' : α → α → Bool) c [] = [] := rfl

theorem m3_empty (h : ∀ r ∈ R, r = []) : m3 R = ([], R, true) := mg3_empty (by rw [List.all_eq_true]; intro r hr; simp [h r hr])
theorem m3_some (hc : cand beq' R = some c) : m3 R = (c :: (m3 (R.map (strike1 beq' c))).1, (m3 (R.map (strike1 beq' c))).2) := mg3_some (rflB R) hc
theorem m3_none (h : ∃ r ∈ R, r ≠ []) (hc : cand (beq' : α → α → Bool) R = none) : m3 R = ([], R, false) := mg3_none (by
  obtain ⟨r, hr, hne⟩ := h
  cases q : R.all (·.isEmpty) with
  | false => rfl
  | true => exact absurd (by simpa using List.all_eq_true.mp q r hr) hne) hc

/-- by what the merge does: nothing left, stuck, or one step -/
theorem m3_cases (R : List (List α)) : ((∀ r ∈ R, r = []) ∧ m3 R = ([], R, true)) ∨ ((∃ r ∈ R, r ≠ []) ∧ cand beq' R = none ∧ m3 R = ([], R, false)) ∨
    (∃ c, cand beq' R = some c ∧ (∃ t, c :: t ∈ R) ∧ (∀ r ∈ R, c ∉ r.tail) ∧ tot (R.map (strike1 beq' c)) < tot R ∧ m3 R = (c :: (m3 (R.map (strike1 beq' c))).1, (m3 (R.map (strike1 beq' c))).2)) := by
  by_cases he : ∀ r ∈ R, r = []
  · exact .inl ⟨he, m3_empty he⟩
  · have he' : ∃ r ∈ R, r ≠ [] := by
      apply Classical.byContradiction
      intro h
      exact he fun r hr => Classical.byContradiction fun q => h ⟨r, hr, q⟩
    right
    cases hc : cand (beq' : α → α → Bool) R with
    | none => exact .inl ⟨he', rfl, m3_none he' hc⟩
    | some c =>
      obtain ⟨⟨t, ht⟩, ho⟩ := cand_spec hc
      exact .inr ⟨c, rfl, ⟨t, ht⟩, okHead_iff.mp ho, tot_strike_lt ht (by simp [beq']), m3_some hc⟩

/-- a merge that is not refused keeps every row, and has each once -/
theorem m3_ok : ∀ (n : Nat) (R : List (List α)), tot R ≤ n → (m3 R).2.2 = true → (m3 R).1.Nodup ∧ (∀ r ∈ R, r.Sublist (m3 R).1) ∧ (∀ x ∈ (m3 R).1, ∃ r ∈ R, x ∈ r) ∧ (∀ r ∈ (m3 R).2.1, r = [])
  | n, R, hn, hok => by
    rcases m3_cases R with ⟨he, e⟩ | ⟨_, _, e⟩ | ⟨c, hc, ⟨t, ht⟩, hh, hlt, e⟩
    · rw [e]
      refine ⟨.nil, fun r hr => ?_, nofun, he⟩
      rw [he r hr]; exact List.Sublist.refl _
    · rw [e] at hok; cases hok
    · cases n with
      | zero => omega
      | succ n =>
        rw [e] at hok ⊢
        obtain ⟨i1, i2, i3, i4⟩ := m3_ok n _ (by omega) hok
        have hno : ∀ r ∈ R, c ∉ strike1 beq' c r := fun r hr q => by
          cases r with
          | nil => cases q
          | cons x u =>
            have := hh _ hr
            rw [strike_cons] at q
            by_cases hx : x = c
            · rw [if_pos hx] at q; exact this q
            · rw [if_neg hx] at q
              rcases List.mem_cons.mp q with q | q
              · exact hx q.symm
              · exact this q
        refine ⟨List.nodup_cons.mpr ⟨fun q => ?_, i1⟩, fun r hr => ?_, fun x hx => ?_, i4⟩
        · obtain ⟨r', hr', hm⟩ := i3 c q
          obtain ⟨r, hr, rfl⟩ := List.mem_map.mp hr'
          exact hno r hr hm
        · have := i2 _ (List.mem_map.mpr ⟨r, hr, rfl⟩)
          cases r with
          | nil => exact List.nil_sublist _
          | cons x u =>
            rw [strike_cons] at this
            split at this
            · rename_i hx; subst hx; exact this.cons_cons _
            · exact this.cons _
        · rcases List.mem_cons.mp hx with rfl | hx
          · exact ⟨_, ht, .head _⟩
          · obtain ⟨r', hr', hm⟩ := i3 x hx
            obtain ⟨r, hr, rfl⟩ := List.mem_map.mp hr'
            exact ⟨r, hr, strike1_mem hm⟩

theorem sublist_strike (r : List α) : (strike1 beq' c r).Sublist r := by
  cases r with
  | nil => exact List.Sublist.refl _
  | cons x t =>
    rw [strike_cons]
    split
    · exact List.sublist_cons_self ..
    · exact List.Sublist.refl _

/-- rows with an order among them are not refused -/
theorem head_free : ∀ {w : List α}, w.Nodup → ∀ {R : List (List α)}, (∀ r ∈ R, r.Sublist w) → (∃ r ∈ R, r ≠ []) → ∃ x t, x :: t ∈ R ∧ ∀ r ∈ R, x ∉ r.tail
  | [], _, R, h, ⟨r, hr, hne⟩ => absurd (List.sublist_nil.mp (h r hr)) hne
  | x :: w, nd, R, h, ⟨r, hr, hne⟩ => by
    obtain ⟨hx, nd⟩ := List.nodup_cons.mp nd
    by_cases q : ∃ t, x :: t ∈ R
    · obtain ⟨t, ht⟩ := q
      refine ⟨x, t, ht, fun r hr hm => ?_⟩
      have hs := h r hr
      cases r with
      | nil => cases hm
      | cons y u =>
        cases hs with
        | cons _ hs => exact hx (hs.subset (.tail _ hm))
        | cons_cons _ hs => exact hx (hs.subset hm)
    · refine head_free nd (fun r hr => ?_) ⟨r, hr, hne⟩
      have hs := h r hr
      cases hs with
      | cons _ hs => exact hs
      | cons_cons _ hs => exact absurd ⟨_, hr⟩ q
theorem cand_isSome {x : α} {t : List α} (hx : x :: t ∈ R) (ho : ∀ r ∈ R, x ∉ r.tail) : ∃ c, cand beq' R = some c := by
  cases q : cand (beq' : α → α → Bool) R with
  | some c => exact ⟨c, rfl⟩
  | none =>
    unfold cand at q
    rw [List.findSome?_eq_none_iff] at q
    have := q _ hx
    simp [okHead_iff.mpr ho] at this
theorem m3_order {w : List α} (nd : w.Nodup) : ∀ (n : Nat) (R : List (List α)), tot R ≤ n → (∀ r ∈ R, r.Sublist w) → (m3 R).2.2 = true
  | n, R, hn, h => by
    rcases m3_cases R with ⟨he, e⟩ | ⟨he, hc, e⟩ | ⟨c, hc, ⟨t, ht⟩, hh, hlt, e⟩
    · rw [e]
    · obtain ⟨x, t, hx, ho⟩ := head_free nd h he
      obtain ⟨c, hc'⟩ := cand_isSome hx ho
      rw [hc] at hc'; cases hc'
    · cases n with
      | zero => omega
      | succ n =>
        rw [e]
        refine m3_order nd n _ (by omega) fun r hr => ?_
        obtain ⟨q, hq, rfl⟩ := List.mem_map.mp hr
        exact (sublist_strike q).trans (h q hq)
end
end Mine

namespace Mine

theorem Walks.lt {prog : Program} {w : World} {A : Around} {I : Addr} {fp wr : List Addr} {n : Nat} {P : Nat → Value → Prop} {St : Nat → Heap → Prop} (W : Walks prog w A I fp wr n P St) : Walks prog w A I fp wr n (fun i v => i < n ∧ P i v) St where
  sub := W.sub
  frame := W.frame
  item := fun i s Q E hi st hQ => W.item i s Q E hi st fun v h' tk hP => hQ v h' tk ⟨hi, hP⟩
  done := W.done
  self := W.self

def rangeIt (K : Cx) {A : Around} (hh : A.handled = none) (I : Addr) (a : Int) (n : Nat) : It K A where
  I := I
  fp := [I]
  n := n
  P := fun i v => i < n ∧ ∃ t, v = .int (a + i * 1) t
  St := fun i h => IsRangeIter h I (a + (i : Nat) * 1) ((n : Int) - (i : Nat)) 1
  W := Walks.lt (Walks.range hh I a 1 n)
  plain := fun i h st => ⟨_, "range_iterator", _, st, rfl, by decide, rfl⟩

section
variable {K : Cx} {n : Nat} {sc : Scope} {ρ : List (Str × D)} {a b : Expr} {pos p : Pos} {fa fb : Bool}

theorem range_core {A : Around} {env : Env} {s : Shared} {X : Addr → Prop} {E : Value → Shared → Prop} {Q : Value → Shared → Prop} {h₁ : Heap} {tk : Nat} {lo : Int} {k : Nat} {r : Addr} {u v t : Tok} (I : In K n sc X ρ A env s.heap) (x : Ext s.heap h₁) (hr : IsRange h₁ r lo (lo + k) 1 u v t)
    (h1 : -(2 ^ 62) ≤ lo) (h2 : lo + k < 2 ^ 62)
    (q : ∀ (t : It K A) h' tk, Ext s.heap h' → ItAt t 0 s.heap h' X ((List.range k).map fun i => .int (lo + (i : Nat))) → Q (.ref t.I) { s with heap := h', toks := tk }) :
    wpAny (model K.prog K.w) A (pyIter (.ref r)) Q E { s with heap := h₁, toks := tk } := by
  refine wpAny_pyIter_range (s := { s with heap := h₁, toks := tk }) hr (small_one h1 (by omega) (by omega) h2) ?_
  have hsz : Builtin.Range.rangeSize lo (lo + k) 1 = (k : Int) := by rw [rangeSize_one]; split <;> omega
  refine q (rangeIt K I.room.quiet h₁.objs.size lo k) _ _ (x.trans (Ext.push _ _)) ⟨?_, ?_, ?_, ?_, ?_, ?_⟩
  · show IsRangeIter _ _ (lo + ((0 : Nat) : Int) * 1) ((k : Int) - ((0 : Nat) : Int)) 1
    have e1 : lo + ((0 : Nat) : Int) * 1 = lo := by simp
    have e2 : (k : Int) - ((0 : Nat) : Int) = Builtin.Range.rangeSize lo (lo + k) 1 := by rw [hsz]; simp
    rw [e1, e2]
    exact Heap.get?_push_size _ rfl
  · show k = _; simp
  · intro b hb hx
    rw [List.mem_singleton.mp hb] at hx
    obtain ⟨o, ho⟩ := I.dom _ hx; have := x _ _ ho; rw [push_new] at this; cases this
  · exact x.none (push_new _)
  · intro b hb
    rw [List.mem_singleton.mp hb]
    exact ⟨_, Heap.get?_push_size _ rfl⟩
  · rintro j v ⟨hj, t, rfl⟩
    have hj' : j < k := hj
    refine ⟨.int (lo + (j : Nat)), [], by simp [hj'], ?_, nofun⟩
    rw [Int.mul_one]; exact .int _ _

theorem EvIt.range1 (B : BG K) {k : Nat} (ha : Ev K n sc ρ a (.py (.int k)) fa) (hk : k ≤ sizeLine) (hx : sc.names.lookup ("range" : Str) = some .globalImplicit := by rfl)
    (he : ∀ env, starEach [a] env = [(false, eval a env)] := by intro _; rfl)
    (hc : ∀ env, eval (.Call (.Name "range" p) [a] [] pos) env = (do callWith pos (← eval (.Name "range" p) env) [] (backTo pos (starEach [a] env)) (backToKw pos (keywordEach [] env))) := by intro _; rfl) :
    EvIt K n sc ρ (.Call (.Name "range" p) [a] [] pos) ((List.range k).map fun i => .int (i : Nat)) := Hide.mk fun {A env s X E Q} I q => by
  refine Call_ (name_global I B.range hx ?_ (by decide)) (hc env)
  refine PySem.callWith_type (by rw [he env]; rfl) ?_
  rw [he env]
  refine Calls.evalArgs_plain (Calls.spliced_cons (wpAny_mono (ha.run I) (fun v s₁ t => ?_) fun _ _ x => x))
  obtain ⟨h₁, tk, as, rfl, g⟩ := t
  refine Calls.spliced_nil ?_
  have r : Rd h₁ v (.int k) as := g.rd
  cases r with
  | int _ t =>
    refine call_range_1 (s := { s with heap := h₁, toks := tk }) ?_
    have hr := IsRange.new h₁ 0 (k : Int) 1 tk t (tk + 1)
    rw [sizeLine_eq] at hk
    refine range_core (s := s) (lo := 0) (k := k) (u := tk) (v := t) (t := tk + 1) I (g.ext.trans (Ext.push _ _)) (by simpa using hr) (by decide) (by omega) fun t h' tk' x it => ?_
    simp only [Int.zero_add] at it
    exact q t h' tk' x it

theorem EvIt.range2 (B : BG K) {lo hi : Nat} (ha : Ev K n sc ρ a (.py (.int lo)) fa) (hb : Ev K n sc ρ b (.py (.int hi)) fb) (hlo : lo ≤ sizeLine) (hhi : hi ≤ sizeLine) (hx : sc.names.lookup ("range" : Str) = some .globalImplicit := by rfl)
    (he : ∀ env, starEach [a, b] env = [(false, eval a env), (false, eval b env)] := by intro _; rfl)
    (hc : ∀ env, eval (.Call (.Name "range" p) [a, b] [] pos) env = (do callWith pos (← eval (.Name "range" p) env) [] (backTo pos (starEach [a, b] env)) (backToKw pos (keywordEach [] env))) := by intro _; rfl) :
    EvIt K n sc ρ (.Call (.Name "range" p) [a, b] [] pos) ((List.range (hi - lo)).map fun i => .int ((lo + i : Nat))) := Hide.mk fun {A env s X E Q} I q => by
  refine Call_ (name_global I B.range hx ?_ (by decide)) (hc env)
  refine PySem.callWith_type (by rw [he env]; rfl) ?_
  rw [he env]
  refine Calls.evalArgs_plain (Calls.spliced_cons (wpAny_mono (ha.run I) (fun v s₁ t => ?_) fun _ _ x => x))
  obtain ⟨h₁, tk, as, rfl, g⟩ := t
  refine Calls.spliced_cons (wpAny_mono (hb.run (s := { s with heap := h₁, toks := tk }) (I.ext g.ext)) (fun v' s₂ t => ?_) fun _ _ x => x)
  obtain ⟨h₂, tk₂, bs, rfl, g₂⟩ := t
  refine Calls.spliced_nil ?_
  have r : Rd h₁ v (.int lo) as := g.rd
  have r' : Rd h₂ v' (.int hi) bs := g₂.rd
  cases r with
  | int _ t =>
  cases r' with
  | int _ t' =>
    refine call_range_2 (s := { s with heap := h₂, toks := tk₂ }) ?_
    have x₂ := g.ext.trans g₂.ext
    rw [sizeLine_eq] at hlo hhi
    by_cases hle : lo ≤ hi
    · have hr := IsRange.new h₂ lo hi 1 t t' tk₂
      have e : (lo : Int) + ((hi - lo : Nat) : Int) = hi := by omega
      refine range_core (s := s) (lo := lo) (k := hi - lo) (u := t) (v := t') (t := tk₂) I (x₂.trans (Ext.push _ _)) (by rw [e]; exact hr) (by omega) (by omega) fun t h' tk' x it => ?_
      simp only [Int.natCast_add] at q
      exact q t h' tk' x it
    · have hr := IsRange.new h₂ lo hi 1 t t' tk₂
      refine wpAny_pyIter_range (s := { s with heap := _, toks := tk₂ + 1 }) hr (small_one (by omega) (by omega) (by omega) (by omega)) ?_
      have hsz : Builtin.Range.rangeSize lo hi 1 = 0 := by rw [rangeSize_one]; split <;> omega
      have x₃ := x₂.trans (Ext.push h₂ { cls := .type "range", data := .fields #[.int lo t, .int hi t', .int 1 tk₂] })
      refine q (rangeIt K I.room.quiet _ lo 0) _ _ (x₃.trans (Ext.push _ _)) ⟨?_, ?_, ?_, ?_, ?_, ?_⟩
      · show IsRangeIter _ _ ((lo : Int) + ((0 : Nat) : Int) * 1) (((0 : Nat) : Int) - ((0 : Nat) : Int)) 1
        have e1 : (lo : Int) + ((0 : Nat) : Int) * 1 = lo := by simp
        have e2 : ((0 : Nat) : Int) - ((0 : Nat) : Int) = Builtin.Range.rangeSize lo hi 1 := by rw [hsz]; simp
        rw [e1, e2]
        exact Heap.get?_push_size _ rfl
      · show 0 = _; simp; omega
      · intro b hb hx
        rw [List.mem_singleton.mp hb] at hx
        obtain ⟨o, ho⟩ := I.dom _ hx; exact absurd (Heap.lt_size (x₃ _ _ ho)) (Nat.lt_irrefl _)
      · exact x₃.none (push_new _)
      · intro b hb
        rw [List.mem_singleton.mp hb]
        exact ⟨_, Heap.get?_push_size _ rfl⟩
      · rintro j v ⟨hj, _⟩
        exact absurd hj (Nat.not_lt_zero _)
end

/-! ### the greatest, the least, the sum -/
def maxI : List Int → Int
  | [] => 0
  | x :: xs => xs.foldl max x
def minI : List Int → Int
  | [] => 0
  | x :: xs => xs.foldl min x
theorem foldl_max (xs : List Int) (x : Int) : (xs.foldl max x = x ∨ xs.foldl max x ∈ xs) ∧ x ≤ xs.foldl max x ∧ ∀ y ∈ xs, y ≤ xs.foldl max x := by
  induction xs generalizing x with
  | nil => simp
  | cons y xs ih =>
    obtain ⟨h1, h2, h3⟩ := ih (max x y)
    rw [List.foldl_cons]
    refine ⟨?_, by omega, fun z hz => ?_⟩
    · rcases h1 with h1 | h1
      · rcases Int.le_total x y with q | q
        · right; rw [h1, Int.max_eq_right q]; exact .head _
        · left; rw [h1, Int.max_eq_left q]
      · right; exact .tail _ h1
    · rcases List.mem_cons.mp hz with rfl | hz
      · omega
      · exact h3 z hz
theorem foldl_min (xs : List Int) (x : Int) : (xs.foldl min x = x ∨ xs.foldl min x ∈ xs) ∧ xs.foldl min x ≤ x ∧ ∀ y ∈ xs, xs.foldl min x ≤ y := by
  induction xs generalizing x with
  | nil => simp
  | cons y xs ih =>
    obtain ⟨h1, h2, h3⟩ := ih (min x y)
    rw [List.foldl_cons]
    refine ⟨?_, by omega, fun z hz => ?_⟩
    · rcases h1 with h1 | h1
      · rcases Int.le_total x y with q | q
        · left; rw [h1, Int.min_eq_left q]
        · right; rw [h1, Int.min_eq_right q]; exact .head _
      · right; exact .tail _ h1
    · rcases List.mem_cons.mp hz with rfl | hz
      · omega
      · exact h3 z hz
theorem maxI_spec {xs : List Int} (h : xs ≠ []) : maxI xs ∈ xs ∧ ∀ y ∈ xs, y ≤ maxI xs := by
  cases xs with
  | nil => exact absurd rfl h
  | cons x xs =>
    obtain ⟨h1, h2, h3⟩ := foldl_max xs x
    refine ⟨?_, fun y hy => ?_⟩
    · rcases h1 with h1 | h1
      · show xs.foldl max x ∈ _; rw [h1]; exact .head _
      · exact .tail _ h1
    · rcases List.mem_cons.mp hy with rfl | hy
      · exact h2
      · exact h3 y hy
theorem minI_spec {xs : List Int} (h : xs ≠ []) : minI xs ∈ xs ∧ ∀ y ∈ xs, minI xs ≤ y := by
  cases xs with
  | nil => exact absurd rfl h
  | cons x xs =>
    obtain ⟨h1, h2, h3⟩ := foldl_min xs x
    refine ⟨?_, fun y hy => ?_⟩
    · rcases h1 with h1 | h1
      · show xs.foldl min x ∈ _; rw [h1]; exact .head _
      · exact .tail _ h1
    · rcases List.mem_cons.mp hy with rfl | hy
      · exact h2
      · exact h3 y hy

section
variable {K : Cx} {n : Nat} {xs : List Int}
theorem getD_mem {xs : List Int} {i : Nat} (h : i < xs.length) : xs.getD i 0 ∈ xs := by
  rw [List.getD_eq_getElem?_getD, List.getElem?_eq_getElem h]; exact List.getElem_mem h

theorem CallOk.max (hne : xs ≠ []) : CallOk K n (.builtin "max") [.py (iL xs)] (.py (.int (maxI xs))) true := Hide.mk fun {A s X E vs as} ro ok rd _ _ => by
  cases rd with
  | cons r rs =>
    cases rs
    have q : Rd s.heap _ (.list (xs.map .int)) _ := r
    clear r
    cases q with
    | @list l ws k _ bs e r =>
      have hlen : ws.length = xs.length := by rw [r.length]; simp
      have hI := r.intsAre
      have hlt : l ≠ s.heap.objs.size := Nat.ne_of_lt (Heap.lt_size e)
      refine call_max_walk (wpAny_pyIter_list (items := ws.toArray) ⟨_, e, rfl, _, rfl⟩ ?_)
      refine ⟨s.heap.objs.size, [s.heap.objs.size, l], _, _, _, _, _, rfl, Walks.list (A := A.in1) (by simpa using ro.quiet) _ l hlt ws.toArray, ⟨⟨_, Heap.get?_push_size _ rfl, rfl, rfl⟩, ⟨_, Heap.get?_push_of_some _ e, rfl, _, rfl⟩⟩, fun b hb => ?_, ?_, CmpOf.ints_gt (fun i => xs.getD i 0) (fun i v hv => IntsAre.int_at hI i v (by simpa using hv)), fun v h' tk hP hk => ?_⟩
      · show b < (s.heap.push _).objs.size
        rw [Heap.size_push]
        rcases List.mem_cons.mp hb with rfl | hb
        · exact Nat.lt_succ_self _
        · rw [List.mem_singleton.mp hb]; exact Nat.lt_succ_of_lt (Heap.lt_size e)
      · simp only [List.size_toArray, hlen]; exact List.length_pos_iff.mpr hne
      · obtain ⟨t, rfl⟩ := IntsAre.int_at hI (argBest (fun i j => decide (xs.getD i 0 > xs.getD j 0)) (ws.toArray.size - 1)) v ((List.getElem?_toArray ..).symm.trans hP)
        have hpos : 0 < xs.length := List.length_pos_iff.mpr hne
        obtain ⟨b1, b2⟩ := argBest_gt (fun i => xs.getD i 0) (ws.toArray.size - 1)
        simp only [List.size_toArray, hlen] at b1 b2 hP ⊢
        have hv : xs.getD (argBest (fun i j => decide (xs.getD i 0 > xs.getD j 0)) (xs.length - 1)) 0 = maxI xs := by
          obtain ⟨m1, m2⟩ := maxI_spec hne
          obtain ⟨j, hj, ej⟩ := List.getElem_of_mem m1
          have h1 := b2 j (by omega)
          rw [List.getD_eq_getElem?_getD (i := j), List.getElem?_eq_getElem hj] at h1
          have h2 := m2 _ (getD_mem (xs := xs) (i := argBest (fun i j => decide (xs.getD i 0 > xs.getD j 0)) (xs.length - 1)) (by omega))
          simp only [Option.getD_some, ej] at h1
          omega
        rw [hv]
        exact Post.flat (fun b o hb => hk b o (by simpa using push_ne ⟨o, hb⟩) (Heap.get?_push_of_some _ hb)) (.int ..)

theorem CallOk.min (hne : xs ≠ []) : CallOk K n (.builtin "min") [.py (iL xs)] (.py (.int (minI xs))) true := Hide.mk fun {A s X E vs as} ro ok rd _ _ => by
  cases rd with
  | cons r rs =>
    cases rs
    have q : Rd s.heap _ (.list (xs.map .int)) _ := r
    clear r
    cases q with
    | @list l ws k _ bs e r =>
      have hlen : ws.length = xs.length := by rw [r.length]; simp
      have hI := r.intsAre
      have hlt : l ≠ s.heap.objs.size := Nat.ne_of_lt (Heap.lt_size e)
      refine call_min_walk (wpAny_pyIter_list (items := ws.toArray) ⟨_, e, rfl, _, rfl⟩ ?_)
      refine ⟨s.heap.objs.size, [s.heap.objs.size, l], _, _, _, _, _, rfl, Walks.list (A := A.in1) (by simpa using ro.quiet) _ l hlt ws.toArray, ⟨⟨_, Heap.get?_push_size _ rfl, rfl, rfl⟩, ⟨_, Heap.get?_push_of_some _ e, rfl, _, rfl⟩⟩, fun b hb => ?_, ?_, CmpOf.ints_lt (fun i => xs.getD i 0) (fun i v hv => IntsAre.int_at hI i v (by simpa using hv)), fun v h' tk hP hk => ?_⟩
      · show b < (s.heap.push _).objs.size
        rw [Heap.size_push]
        rcases List.mem_cons.mp hb with rfl | hb
        · exact Nat.lt_succ_self _
        · rw [List.mem_singleton.mp hb]; exact Nat.lt_succ_of_lt (Heap.lt_size e)
      · simp only [List.size_toArray, hlen]; exact List.length_pos_iff.mpr hne
      · obtain ⟨t, rfl⟩ := IntsAre.int_at hI (argBest (fun i j => decide (xs.getD i 0 < xs.getD j 0)) (ws.toArray.size - 1)) v ((List.getElem?_toArray ..).symm.trans hP)
        have hpos : 0 < xs.length := List.length_pos_iff.mpr hne
        obtain ⟨b1, b2⟩ := argBest_lt (fun i => xs.getD i 0) (ws.toArray.size - 1)
        simp only [List.size_toArray, hlen] at b1 b2 hP ⊢
        have hv : xs.getD (argBest (fun i j => decide (xs.getD i 0 < xs.getD j 0)) (xs.length - 1)) 0 = minI xs := by
          obtain ⟨m1, m2⟩ := minI_spec hne
          obtain ⟨j, hj, ej⟩ := List.getElem_of_mem m1
          have h1 := b2 j (by omega)
          rw [List.getD_eq_getElem?_getD (i := j), List.getElem?_eq_getElem hj] at h1
          have h2 := m2 _ (getD_mem (xs := xs) (i := argBest (fun i j => decide (xs.getD i 0 < xs.getD j 0)) (xs.length - 1)) (by omega))
          simp only [Option.getD_some, ej] at h1
          omega
        rw [hv]
        exact Post.flat (fun b o hb => hk b o (by simpa using push_ne ⟨o, hb⟩) (Heap.get?_push_of_some _ hb)) (.int ..)
end
end Mine

namespace Mine

section
variable {K : Cx} {n : Nat} {xs : List Int}
theorem preSum_getD (xs : List Int) : preSum (fun i => xs.getD i 0) xs.length = xs.sum := by
  have : ∀ k, k ≤ xs.length → preSum (fun i => xs.getD i 0) k = (xs.take k).sum := by
    intro k
    induction k with
    | zero => intro _; simp [preSum]
    | succ k ih =>
      intro hk
      rw [preSum, ih (by omega), List.take_succ_eq_append_getElem (by omega), List.sum_append]
      simp [List.getD_eq_getElem?_getD, List.getElem?_eq_getElem (show k < xs.length by omega)]
  rw [this _ (Nat.le_refl _), List.take_length]
theorem CallOk.sum : CallOk K n (.builtin "sum") [.py (iL xs)] (.py (.int xs.sum)) true := Hide.mk fun {A s X E vs as} ro ok rd _ _ => by
  cases rd with
  | cons r rs =>
    cases rs
    have q : Rd s.heap _ (.list (xs.map .int)) _ := r
    clear r
    cases q with
    | @list l ws k _ bs e r =>
      have hlen : ws.length = xs.length := by rw [r.length]; simp
      have hI := r.intsAre
      have hlt : l ≠ s.heap.objs.size := Nat.ne_of_lt (Heap.lt_size e)
      refine call_sum_walkAnyS (wpAny_pyIter_list (items := ws.toArray) ⟨_, e, rfl, _, rfl⟩ ?_)
      refine ⟨s.heap.objs.size, [s.heap.objs.size, l], _, _, _, _, _, fun i => xs.getD i 0, rfl, (Walks.list (A := A.in1) (by simpa using ro.quiet) _ l hlt ws.toArray).toS, ⟨⟨_, Heap.get?_push_size _ rfl, rfl, rfl⟩, ⟨_, Heap.get?_push_of_some _ e, rfl, _, rfl⟩⟩, fun b hb => ?_, (fun i v hv => IntsAre.int_at hI i v ((List.getElem?_toArray ..).symm.trans hv)), fun s' t' M => ?_⟩
      · show b < (s.heap.push _).objs.size
        rw [Heap.size_push]
        rcases List.mem_cons.mp hb with rfl | hb
        · exact Nat.lt_succ_self _
        · rw [List.mem_singleton.mp hb]; exact Nat.lt_succ_of_lt (Heap.lt_size e)
      · have e1 : preSum (fun i => xs.getD i 0) ws.toArray.size = xs.sum := by simp only [List.size_toArray, hlen]; exact preSum_getD xs
        rw [e1]
        obtain ⟨h', g', d', tk', os'⟩ := s'
        have eg : g' = s.gens := M.gens
        have ed : d' = s.drawn := M.drawn
        have eo : os' = s.os := M.os
        subst eg; subst ed; subst eo
        exact Post.flat (fun b o hb => M.heap b o (by simpa using push_ne ⟨o, hb⟩) (Heap.get?_push_of_some _ hb)) (.int ..)

variable {sc : Scope} {ρ : List (Str × D)} {a : Expr} {pos p : Pos} {fa : Bool}
theorem Ev.sumIL (B : BG K) (ha : Ev K n sc ρ a (.py (iL xs)) fa) (hx : sc.names.lookup ("sum" : Str) = some .globalImplicit := by rfl)
    (he : ∀ env, starEach [a] env = [(false, eval a env)] := by intro _; rfl)
    (hc : ∀ env, eval (.Call (.Name "sum" p) [a] [] pos) env = (do callWith pos (← eval (.Name "sum" p) env) [] (backTo pos (starEach [a] env)) (backToKw pos (keywordEach [] env))) := by intro _; rfl) :
    Ev K n sc ρ (.Call (.Name "sum" p) [a] [] pos) (.py (.int xs.sum)) true := Ev.callB B.sum (EvArgs.cons ha EvArgs.nil he) CallOk.sum hx (by decide) he (fun _ => rfl) hc
theorem Ev.maxIL (B : BG K) (ha : Ev K n sc ρ a (.py (iL xs)) fa) (hne : xs ≠ []) (hx : sc.names.lookup ("max" : Str) = some .globalImplicit := by rfl)
    (he : ∀ env, starEach [a] env = [(false, eval a env)] := by intro _; rfl)
    (hc : ∀ env, eval (.Call (.Name "max" p) [a] [] pos) env = (do callWith pos (← eval (.Name "max" p) env) [] (backTo pos (starEach [a] env)) (backToKw pos (keywordEach [] env))) := by intro _; rfl) :
    Ev K n sc ρ (.Call (.Name "max" p) [a] [] pos) (.py (.int (maxI xs))) true := Ev.callB B.max (EvArgs.cons ha EvArgs.nil he) (CallOk.max hne) hx (by decide) he (fun _ => rfl) hc
theorem Ev.minIL (B : BG K) (ha : Ev K n sc ρ a (.py (iL xs)) fa) (hne : xs ≠ []) (hx : sc.names.lookup ("min" : Str) = some .globalImplicit := by rfl)
    (he : ∀ env, starEach [a] env = [(false, eval a env)] := by intro _; rfl)
    (hc : ∀ env, eval (.Call (.Name "min" p) [a] [] pos) env = (do callWith pos (← eval (.Name "min" p) env) [] (backTo pos (starEach [a] env)) (backToKw pos (keywordEach [] env))) := by intro _; rfl) :
    Ev K n sc ρ (.Call (.Name "min" p) [a] [] pos) (.py (.int (minI xs))) true := Ev.callB B.min (EvArgs.cons ha EvArgs.nil he) (CallOk.min hne) hx (by decide) he (fun _ => rfl) hc
end

/-! ### changes in place of what a name owns alone -/
section
variable {K : Cx} {lv : Bool} {n : Nat} {sc : Scope} {X : Addr → Prop} {g : Addr → Option Obj} {sh ow : List (Str × D)} {A : Around} {env : Env} {h h' : Heap} {fp : Str → List Addr} {x : Str} {d d' : D} {v : Value}

/-- the names as they are, but for x, which owns d' now -/
def put (x : Str) (d : D) (ow : List (Str × D)) : List (Str × D) := (x, d) :: del x ow

/-- one object that x owns is changed; x then reads as d', by old objects of its own and new ones -/
theorem St.change {hp : Heap} (S₀ : St K lv n sc X g sh ow A env hp) (O₀ : Own K g X env sh ow fp hp) (xe : Ext hp h) (hx : ow.lookup x = some d) {a : Addr} (ha : a ∈ fp x) (e : Eff (· = a) h h') (nt : NoTup h a) (va : VarAt h env x v) {as : List Addr} (rd : RdD K h' v d' as) (nd : as.Nodup)
    (new : ∀ b ∈ as, b ∈ fp x ∨ hp.get? b = none) (hsome : ∃ o, h'.get? a = some o) : St K lv n sc X g sh (put x d' ow) A env h' := by
  have S := S₀.ext xe
  have O := O₀.ext xe
  obtain ⟨v₀, o1, o2, o3, o4⟩ := O.own x d hx
  have hga : g a = none := (o4 a ha).1
  have nfa : ¬ FrameAddr env a := (o4 a ha).2.1
  have nXa : ¬ X a := (o4 a ha).2.2
  have hK : K.h₀.get? a = none := by
    cases q : K.h₀.get? a with
    | none => rfl
    | some o => rw [S.bK a o q] at hga; cases hga
  have nt' : ∀ b, b = a → NoTup h b := fun b q => q ▸ nt
  have hxs : (ow.lookup x).isSome = true := by rw [hx]; rfl
  have va' : ∀ {y u}, VarAt h env y u → VarAt h' env y u := fun {y u} r => by
    rcases r with ⟨hl, m, hn, hm⟩ | ⟨hl, c', hc', hv⟩
    · exact .inl ⟨hl, m, hn.at' fun o ho => e _ o (fun q => nfa (q ▸ .inl rfl)) ho, hm⟩
    · obtain ⟨o, ho, hd⟩ := hv
      exact .inr ⟨hl, c', hc', o, e c' o (fun q => nfa (q ▸ .inr ⟨_, hc'⟩)) ho, hd⟩
  have look : ∀ y, (put x d' ow).lookup y = if y = x then some d' else ow.lookup y := fun y => by
    unfold put
    rw [List.lookup_cons]
    by_cases q : y = x
    · simp [q]
    · have hb : (y == x) = false := by simpa using q
      simp only [hb, if_neg q]; rw [lookup_del, if_neg q]
  have isome : ∀ y, ((put x d' ow).lookup y).isSome = true → (ow.lookup y).isSome = true := fun y hy => by
    rw [look] at hy
    by_cases q : y = x
    · rw [q]; exact hxs
    · rw [if_neg q] at hy; exact hy
  have newB : ∀ b ∈ as, (g b = none ∧ ¬ FrameAddr env b ∧ ¬ X b) ∧ (∀ y, y ≠ x → (ow.lookup y).isSome = true → b ∉ fp y) := fun b hb => by
    rcases new b hb with q | q
    · exact ⟨o4 b q, fun y hy hs => O.apart x y (Ne.symm hy) hxs hs b q⟩
    · refine ⟨⟨?_, fun r => ?_, fun r => ?_⟩, fun y hy hs hm => ?_⟩
      · cases r : g b with
        | none => rfl
        | some o => have := S₀.base b o r; rw [q] at this; cases this
      · obtain ⟨o, ho⟩ := S₀.frame.some r; rw [q] at ho; cases ho
      · obtain ⟨o, ho⟩ := S₀.dom b r; rw [q] at ho; cases ho
      · obtain ⟨dy, hdy⟩ := Option.isSome_iff_exists.mp hs
        obtain ⟨_, _, h2, _⟩ := O₀.own y dy hdy
        obtain ⟨o, ho⟩ := h2.dom b hm; rw [q] at ho; cases ho
  refine ⟨S.room, ⟨S.ok.g, S.ok.b, S.ok.lim, e.ext S.ok.ext fun b q => q ▸ hK⟩, S.hsc, S.henv, S.frame.at1 e nfa, fun b o hb => e b o (fun q => by rw [q, hga] at hb; cases hb) (S.base b o hb), S.bK, S.new, fun b hb => ?_, S.top, fun y => if y = x then as else fp y, ⟨fun y dy hy => ?_, fun y z hyz hy hz b hb => ?_, fun y dy hy => ?_⟩⟩
  · obtain ⟨o, ho⟩ := S.dom b hb
    exact ⟨o, e b o (fun q => nXa (q ▸ hb)) ho⟩
  · rw [look] at hy
    by_cases q : y = x
    · subst q; simp only [if_true] at hy ⊢; cases hy
      exact ⟨v, va' va, rd, nd, fun b hb => (newB b hb).1⟩
    · simp only [if_neg q] at hy ⊢
      obtain ⟨u, h1, h2, h3, h4⟩ := O.own y dy hy
      exact ⟨u, va' h1, h2.off (e.off (fun b hb r => O.apart x y (Ne.symm q) hxs (by rw [hy]; rfl) a ha (r ▸ hb)) nt'), h3, h4⟩
  · have hy' := isome y hy
    have hz' := isome z hz
    by_cases q : y = x
    · subst q
      have hzy : z ≠ y := Ne.symm hyz
      simp only [if_true, if_neg hzy] at hb ⊢
      exact (newB b hb).2 z hzy hz'
    · by_cases r : z = x
      · subst r
        simp only [if_true, if_neg q] at hb ⊢
        exact fun hm => (newB b hm).2 y q hy' hb
      · simp only [if_neg q, if_neg r] at hb ⊢
        exact O.apart y z hyz hy' hz' b hb
  · obtain ⟨u, bs, h1, h20, h3⟩ := O₀.shared y dy hy
    have h1 := h1.ext xe
    have h2 := h20.ext xe
    have hoff : ∀ b ∈ bs, b ≠ a := fun b hb q => (h3 b hb).2.2 x hxs (q ▸ ha)
    refine ⟨u, bs, va' h1, h2.off (e.off (fun b hb q => hoff b hb q) nt'), fun b hb => ⟨(h3 b hb).1, (h3 b hb).2.1, fun z hz => ?_⟩⟩
    by_cases q : z = x
    · subst q
      simp only [if_true]
      intro hm
      rcases new b hm with r | r
      · exact (h3 b hb).2.2 z hxs r
      · obtain ⟨o, ho⟩ := h20.dom b hb; rw [r] at ho; cases ho
    · simp only [if_neg q]
      exact (h3 b hb).2.2 z (isome z hz)
end

section
variable {K : Cx} {lv : Bool} {n : Nat} {sc : Scope} {sh ow : List (Str × D)} {Q : Out → Prop} {x : Str} {p p' pos cp : Pos} {e : Expr} {ds : List PyData} {d : PyData} {fr : Bool}

theorem interactive_false {env : Env} (h : EnvOk env) : interactive env = false := by unfold interactive; rw [h.kind]; rfl

/-- `x.append(e)` -/
theorem Ex1.append (hx : ow.lookup x = some (.py (.list ds))) (h : Ev K n sc (ow ++ sh) e (.py d) true) (hsz : ds.length ≤ sizeLine) (hq : Q (.next sh (put x (.py (.list (ds ++ [d]))) ow)))
    (hd : (x == ("__debug__" : Str)) = false := by decide) (hc : (x == ("__classdict__" : Str)) = false := by decide)
    (hline : (p'.endLine == cp.line) = true := by rfl) (ht : ∀ env, backTo cp (starEach [e] env) = [(false, eval e env)] := by intro _; rfl) :
    Ex1 K lv n sc sh ow (.Expr (.Call (.Attribute (.Name x p) "append" p') [e] [] cp) pos) Q := Hide.mk fun {A env s X g E} S => by
  obtain ⟨fp, O⟩ := S.vars
  obtain ⟨v, o1, o2, o3, o4⟩ := O.own x _ hx
  refine wpAny_Expr_any (wpAny_Call_method1_late (by rfl) hline (ht env) (wpAny_Name (loadName_at S.henv o1 ?_ hc) hd)) (interactive_false S.henv) (by rfl)
  have o2' : Rd s.heap v (.list ds) (fp x) := o2
  generalize hfp : fp x = fx at o2' o3 o4
  cases o2' with
  | @list l vs c _ as hl rs =>
    refine ⟨"list", "list.append", F.plainAttrs_list, F.slot_list_append, F.type_list_append, ⟨_, hl, rfl⟩, fun a ha => by cases ha; exact ⟨_, hl, rfl⟩, PySem.P.append_list (wpAny_mono (h.run S.inAll) (fun w s₁ t => ?_) fun _ _ x => x)⟩
    obtain ⟨h₁, tk, bs, rfl, gt⟩ := t
    obtain ⟨nd, new⟩ := gt.new rfl
    have hl₁ := gt.ext _ _ hl
    refine ⟨vs.toArray, c, by rw [List.size_toArray, rs.length]; exact hsz, hl₁, ?_⟩
    have hs : Heap.SameBut l h₁ (h₁.update l (Obj.mapSeq fun xs => xs.push w)) := Heap.SameBut.update ..
    have eff := Eff.of_sameBut hs
    have nt : NoTup h₁ l := noTup_list hl₁
    obtain ⟨lnd, and⟩ := List.nodup_cons.mp o3
    have rdw : Rd h₁ w d bs := gt.rd
    have lb : l ∉ bs := fun q => by have := new l q; rw [hl] at this; cases this
    have hup : (h₁.update l (Obj.mapSeq fun xs => xs.push w)).get? l = some { cls := .type "list", data := .seq (vs ++ [w]).toArray (if ((vs ++ [w]).toArray).size == vs.toArray.size then c else c + 1) } := by
      simpa using IsL.update (n := c) hl₁ (fun xs => xs.push w)
    refine ⟨_, hq, _, tk, rfl, S.change O gt.ext (d' := .py (.list (ds ++ [d]))) (as := l :: (as ++ bs)) hx (a := l) (by rw [hfp]; exact .head _) eff nt (o1.ext gt.ext) ?_ ?_ ?_ ⟨_, hup⟩⟩
    · refine Rd.list hup ?_
      refine RdAll.append ((rs.ext gt.ext).off (eff.off (fun b hb q => lnd (q ▸ hb)) fun b q => q ▸ nt)) ?_
      have := RdAll.one (rdw.off (eff.off (fun b hb q => lb (q ▸ hb)) fun b q => q ▸ nt))
      exact this
    · refine List.nodup_cons.mpr ⟨fun q => ?_, nodup_append and nd fun b hb hb' => ?_⟩
      · rcases List.mem_append.mp q with q | q
        · exact lnd q
        · exact lb q
      · obtain ⟨o, ho⟩ := (rs : RdAll s.heap vs ds as).dom b hb
        have := new b hb'; rw [ho] at this; cases this
    · intro b hb
      rcases List.mem_cons.mp hb with rfl | hb
      · left; rw [hfp]; exact .head _
      · rcases List.mem_append.mp hb with hb | hb
        · left; rw [hfp]; exact .tail _ hb
        · right; exact new b hb
end
end Mine

namespace Mine

section
variable {K : Cx} {lv : Bool} {n : Nat} {sc : Scope} {X Y Z Z' : Addr → Prop} {g : Addr → Option Obj} {sh ow : List (Str × D)} {A : Around} {env : Env} {h h' : Heap} {fp : Str → List Addr} {x : Str} {d : D} {v : Value} {c : Addr}

theorem St.moreXP (S : St K lv n sc X g sh ow A env h) (e : Ext h h') (hY : ∀ a, Y a → h.get? a = none ∧ ∃ o, h'.get? a = some o) : St K lv n sc (fun a => X a ∨ Y a) g sh ow A env h' := by
  obtain ⟨fp, O⟩ := S.vars
  have S' := S.ext e
  refine ⟨S'.room, S'.ok, S'.hsc, S'.henv, S'.frame, S'.base, S'.bK, S'.new, fun a ha => ha.elim (S'.dom a) fun q => (hY a q).2, S'.top, fp, ⟨fun y dy hy => ?_, O.apart, fun y dy hy => ?_⟩⟩
  · obtain ⟨u, h1, h2, h3, h4⟩ := O.own y dy hy
    exact ⟨u, h1.ext e, h2.ext e, h3, fun a ha => ⟨(h4 a ha).1, (h4 a ha).2.1, fun q => q.elim (h4 a ha).2.2 fun q => by obtain ⟨o, ho⟩ := h2.dom a ha; rw [(hY a q).1] at ho; cases ho⟩⟩
  · obtain ⟨u, as, h1, h2, h3⟩ := O.shared y dy hy
    exact ⟨u, as, h1.ext e, h2.ext e, fun a ha => ⟨(h3 a ha).1, (fun q => q.elim (h3 a ha).2.1 fun q => by obtain ⟨o, ho⟩ := h2.dom a ha; rw [(hY a q).1] at ho; cases ho), (h3 a ha).2.2⟩⟩

/-- x takes a thing that was laid aside for it -/
theorem store_owX {s : Shared} {E : Value → Shared → Prop} {R : Unit → Shared → Prop} (S : St K lv n sc Z g sh ow A env s.heap) (hZ : Z c) (sub : ∀ a, Z' a → Z a) (nc : ¬ Z' c) (hg : g c = none) (nf : ¬ FrameAddr env c) (rd : RdD K s.heap v d [c])
    (hx : sc.names.lookup x = some .local ∨ sc.names.lookup x = some .cell)
    (k : ∀ h' tk a, FrameAddr env a → Heap.SameBut a s.heap h' → St K lv n sc Z' g (del x sh) ((x, d) :: del x ow) A env h' → R () { s with heap := h', toks := tk }) : wpAny (model K.prog K.w) A (storeName env x v) R E s := by
  obtain ⟨fp, O⟩ := S.vars
  obtain ⟨a, sa⟩ := S.storeAddr hx
  refine store_at S.henv S.frame sa fun h' tk hs st => k h' tk a sa.frame hs ?_
  have eff := Eff.of_sameBut hs
  have nt : ∀ b, b = a → NoTup s.heap b := fun b q => q ▸ (S.frame.noSeq sa.frame).noTup
  have O' := O.stored S.frame sa hs st
  have O2 : Own K g Z' env (del x sh) (del x ow) fp h' := ⟨fun y dy hy => let ⟨u, h1, h2, h3, h4⟩ := O'.own y dy hy; ⟨u, h1, h2, h3, fun b hb => ⟨(h4 b hb).1, (h4 b hb).2.1, fun q => (h4 b hb).2.2 (sub b q)⟩⟩, O'.apart,
    fun y dy hy => let ⟨u, as, h1, h2, h3⟩ := O'.shared y dy hy; ⟨u, as, h1, h2, fun b hb => ⟨(h3 b hb).1, fun q => (h3 b hb).2.1 (sub b q), (h3 b hb).2.2⟩⟩⟩
  have O3 := O2.addOw (d := d) (as := [c]) (by rw [lookup_del]; simp) st.at_ (rd.off (eff.off (fun b hb q => nf (by rw [← List.mem_singleton.mp hb, q]; exact sa.frame)) nt)) (by simp) (fun b hb => by
      rw [List.mem_singleton.mp hb]
      refine ⟨?_, hg⟩
      rintro (q | q | ⟨y, hy, hm⟩)
      · exact nc q
      · exact nf q
      · obtain ⟨dy, hdy⟩ := Option.isSome_iff_exists.mp hy
        obtain ⟨_, _, _, _, h4⟩ := O'.own y dy hdy
        exact (h4 c hm).2.2 hZ) (fun y dy hy => by
      obtain ⟨u, bs, h1, h2, h3⟩ := O'.shared y dy hy
      refine ⟨u, bs, h1, h2, fun b hb => ⟨(h3 b hb).1, fun q => (h3 b hb).2.1 (sub b q), (h3 b hb).2.2, fun q => ?_⟩⟩
      rw [List.mem_singleton.mp q] at hb
      exact (h3 c hb).2.1 hZ)
  have S2 := S.stored sa hs st O'
  exact ⟨S2.room, S2.ok, S2.hsc, S2.henv, S2.frame, S2.base, S2.bK, S2.new, fun b hb => S2.dom b (sub b hb), S2.top, _, O3⟩
end

section
variable {K : Cx} {lv : Bool} {n : Nat} {sc : Scope} {sh ow : List (Str × D)} {Q : Out → Prop} {x y : Str} {px py pos tp vp p1 p2 : Pos} {k k2 : Nat}

/-- `x, y = ([], [])` -/
theorem Ex1.twoNew (hxy : x ≠ y) (hq : ∀ sh' ow', (∀ z d, z ≠ x → z ≠ y → sh.lookup z = some d → sh'.lookup z = some d) → (∀ z, ow'.lookup z = if z = x ∨ z = y then some (.py (.list [])) else ow.lookup z) → Q (.next sh' ow'))
    (hx : sc.names.lookup x = some .local ∨ sc.names.lookup x = some .cell := by first | exact Or.inl rfl | exact Or.inr rfl) (hy : sc.names.lookup y = some .local ∨ sc.names.lookup y = some .cell := by first | exact Or.inl rfl | exact Or.inr rfl)
    (hw : (∀ env, env.scope = sc → swappedStores [.Tuple [.Name x px, .Name y py] k tp] (.Tuple [.List [] p1, .List [] p2] k2 vp) env = pure none) ∨ (∀ env, env.scope = sc → swappedStores [.Tuple [.Name x px, .Name y py] k tp] (.Tuple [.List [] p1, .List [] p2] k2 vp) env = pure (some [x, y]))) :
    Ex1 K lv n sc sh ow (.Assign [.Tuple [.Name x px, .Name y py] k tp] (.Tuple [.List [] p1, .List [] p2] k2 vp) pos) Q := Hide.mk fun {A env s X g E} S => by
  have two : ∀ {R : Unit → Shared → Prop} {s₁ : Shared} {a b : Addr} {u v : Str} {va vb : Value}, u ≠ v → (sc.names.lookup u = some .local ∨ sc.names.lookup u = some .cell) → (sc.names.lookup v = some .local ∨ sc.names.lookup v = some .cell) →
      Ext s.heap s₁.heap → a ≠ b → s.heap.get? a = none → s.heap.get? b = none → RdD K s₁.heap va (.py (.list [])) [a] → RdD K s₁.heap vb (.py (.list [])) [b] →
      (∀ h' tk, St K lv n sc X g (del v (del u sh)) ((v, .py (.list [])) :: del v ((u, .py (.list [])) :: del u ow)) A env h' → R () { s₁ with heap := h', toks := tk }) →
      ∀ {t1 t2 : Value → Sem Unit}, (∀ {w s R}, wpAny (model K.prog K.w) A (storeName env u w) R E s → wpAny (model K.prog K.w) A (t1 w) R E s) → (∀ {w s R}, wpAny (model K.prog K.w) A (storeName env v w) R E s → wpAny (model K.prog K.w) A (t2 w) R E s) →
      wpAny (model K.prog K.w) A (assignInOrder [t1, t2] [va, vb]) R E s₁ := by
    intro R s₁ a b u v va vb huv hu hv xe hab na nb ra rb kk t1 t2 h1 h2
    have S₁ : St K lv n sc (fun c => X c ∨ (c = a ∨ c = b)) g sh ow A env s₁.heap := S.moreXP xe fun c hc => by
      rcases hc with rfl | rfl
      · exact ⟨na, ra.dom _ (.head _)⟩
      · exact ⟨nb, rb.dom _ (.head _)⟩
    have gn : ∀ c, s.heap.get? c = none → g c = none := fun c hc => by
      cases q : g c with
      | none => rfl
      | some o => rw [S.base c o q] at hc; cases hc
    have nF : ∀ c, s.heap.get? c = none → ¬ FrameAddr env c := fun c hc q => by obtain ⟨o, ho⟩ := S.frame.some q; rw [hc] at ho; cases ho
    have nX : ∀ c, s.heap.get? c = none → ¬ X c := fun c hc q => by obtain ⟨o, ho⟩ := S.dom c q; rw [hc] at ho; cases ho
    refine assignInOrder_cons (h1 (store_owX (Z' := fun c => X c ∨ c = b) (c := a) S₁ (.inr (.inl rfl)) (fun c q => q.imp id .inr) (fun q => q.elim (nX a na) hab) (gn a na) (nF a na) ra hu fun h₂ tk₂ fa ffa hs₂ S₂ => ?_))
    have eff := Eff.of_sameBut hs₂
    have rb₂ : RdD K h₂ vb (.py (.list [])) [b] := rb.off (eff.off (fun c hc q => nF b nb (by rw [← List.mem_singleton.mp hc, q]; exact ffa)) fun c q => q ▸ (S₁.frame.noSeq ffa).noTup)
    refine assignInOrder_cons (h2 (store_owX (s := { s₁ with heap := h₂, toks := tk₂ }) (Z' := X) (c := b) S₂ (.inr rfl) (fun c q => .inl q) (nX b nb) (gn b nb) (nF b nb) rb₂ hv fun h₃ tk₃ _ _ _ S₃ => assignInOrder_nil (kk h₃ tk₃ S₃)))
  have lk : ∀ (u v : Str) (z : Str), u ≠ v → (((v, D.py (.list [])) :: del v ((u, D.py (.list [])) :: del u ow)).lookup z) = if z = u ∨ z = v then some (.py (.list [])) else ow.lookup z := fun u v z huv => by
    rw [List.lookup_cons]
    by_cases q : z = v
    · simp [q]
    · have hb : (z == v) = false := by simpa using q
      simp only [hb]
      rw [lookup_del, if_neg q, List.lookup_cons]
      by_cases r : z = u
      · simp [r]
      · have hb' : (z == u) = false := by simpa using r
        simp only [hb']; rw [lookup_del, if_neg r, if_neg (by simp [q, r])]
  have sl : ∀ (u v : Str) (z : Str) d, z ≠ u → z ≠ v → sh.lookup z = some d → (del v (del u sh)).lookup z = some d := fun u v z d h1 h2 hz => by rw [lookup_del, if_neg h2, lookup_del, if_neg h1]; exact hz
  have ev : Ev K n sc (ow ++ sh) (.Tuple [.List [] p1, .List [] p2] k2 vp) (.py (.tuple [.list [], .list []])) true := Ev.tuple (EvAll.cons (Ev.list EvAll.nil) (EvAll.cons (Ev.list EvAll.nil) EvAll.nil)) (by show 2 ≤ sizeLine; decide)
  rcases hw with hw | hw
  · refine Assign_Tuple (wpAny_mono (ev.run S.inAll) (fun v s₁ t => ?_) fun _ _ x => x) (by rfl) (hw env S.hsc)
    obtain ⟨h₁, tk, as, rfl, gt⟩ := t
    obtain ⟨nd, new⟩ := gt.new rfl
    have r : Rd h₁ v (.tuple [.list [], .list []]) as := gt.rd
    cases r with
    | @tuple t vs c _ as ht rs =>
      obtain ⟨v1, vs', a1, b1, rfl, rfl, r1, r2⟩ := rs.uncons
      obtain ⟨v2, vs'', a2, b2, rfl, rfl, r3, r4⟩ := r2.uncons
      cases r4
      cases r1 with
      | @list l1 w1 c1 _ as1 hl1 rs1 =>
      cases r3 with
      | @list l2 w2 c2 _ as2 hl2 rs2 =>
      cases rs1
      cases rs2
      have hne : l1 ≠ l2 := by simpa using nd
      refine assign_Tuple_tuple (s := { s with heap := h₁, toks := tk }) (items := [Value.ref l1, Value.ref l2].toArray) S.room.quiet ⟨_, ht, rfl, _, rfl⟩ (by rfl) (by rfl) fun h₂ he₂ => ?_
      have x₂ : Ext h₁ h₂ := ext_extBut he₂
      exact two (s₁ := { s with heap := h₂, toks := tk }) hxy hx hy (gt.ext.trans x₂) hne (new l1 (by simp)) (new l2 (by simp)) (Rd.list (x₂ _ _ hl1) .nil) (Rd.list (x₂ _ _ hl2) .nil) (fun h' tk' S' => ⟨_, hq _ _ (fun z d h1 h2 => sl x y z d h1 h2) (fun z => lk x y z hxy), h', tk', rfl, S'⟩)
        (fun q => assign_Name q) (fun q => assign_Name q)
  · refine Assign_Tuple_swapped (names := [x, y]) (wpAny_mono (ev.run S.inAll) (fun v s₁ t => ?_) fun _ _ x => x) (by rfl) (hw env S.hsc)
    obtain ⟨h₁, tk, as, rfl, gt⟩ := t
    obtain ⟨nd, new⟩ := gt.new rfl
    have r : Rd h₁ v (.tuple [.list [], .list []]) as := gt.rd
    cases r with
    | @tuple t vs c _ as ht rs =>
      obtain ⟨v1, vs', a1, b1, rfl, rfl, r1, r2⟩ := rs.uncons
      obtain ⟨v2, vs'', a2, b2, rfl, rfl, r3, r4⟩ := r2.uncons
      cases r4
      cases r1 with
      | @list l1 w1 c1 _ as1 hl1 rs1 =>
      cases r3 with
      | @list l2 w2 c2 _ as2 hl2 rs2 =>
      cases rs1
      cases rs2
      have hne : l1 ≠ l2 := by simpa using nd
      refine unpackItems_tuple (s := { s with heap := h₁, toks := tk }) (items := [Value.ref l1, Value.ref l2].toArray) S.room.quiet ⟨_, ht, rfl, _, rfl⟩ fun h₂ he₂ => ?_
      have x₂ : Ext h₁ h₂ := ext_extBut he₂
      exact two (s₁ := { s with heap := h₂, toks := tk }) (Ne.symm hxy) hy hx (gt.ext.trans x₂) (Ne.symm hne) (new l2 (by simp)) (new l1 (by simp)) (Rd.list (x₂ _ _ hl2) .nil) (Rd.list (x₂ _ _ hl1) .nil) (fun h' tk' S' => ⟨_, hq _ _ (fun z d h1 h2 => sl y x z d h2 h1) (fun z => by rw [lk y x z (Ne.symm hxy)]; simp only [or_comm]), h', tk', rfl, S'⟩)
        (fun q => wpAny_bindName q) (fun q => wpAny_bindName q)
end
end Mine

namespace Mine

def iLL (R : List (List Int)) : PyData := .list (R.map iL)
theorem iLL_eq (R : List (List Int)) : iLL R = .list ((R.map (List.map PyData.int)).map .list) := by unfold iLL; rw [List.map_map]; rfl
theorem le_size {n : Nat} (h : n ≤ 63) : n ≤ sizeLine := by rw [sizeLine_eq]; omega

theorem Sub.del {l ow : List (Str × D)} {y : Str} (t : Sub l ow) (h : l.lookup y = none) : Sub l (del y ow) := fun x d hx => by
  have q : x ≠ y := fun q => by rw [q, h] at hx; cases hx
  rw [lookup_del, if_neg q]; exact t x d hx
theorem Ex.subs2 {K lv n sc sh ow} {l l2 : List (Str × D)} {ss : List Stmt} {Q : Out → Prop} (t : Sub l sh) (t2 : Sub l2 ow) (h : Ex K lv n sc l l2 ss Q) : Ex K lv n sc sh ow ss Q := h.sub t t2
theorem Ex1.subs2 {K lv n sc sh ow} {l l2 : List (Str × D)} {st : Stmt} {Q : Out → Prop} (t : Sub l sh) (t2 : Sub l2 ow) (h : Ex1 K lv n sc l l2 st Q) : Ex1 K lv n sc sh ow st Q := Hide.mk fun S => h.run (S.sub t t2)

theorem hts2 {K : Cx} {x y : Str} {p q : Pos} : ∀ {A : Around} {env : Env} {E : Value → Shared → Prop} (i : Nat) (z : Str), [x, y][i]? = some z → ∃ t, ((assignEach [.Name x p, .Name y q] env).map (·.2))[i]? = some t ∧ ∀ {v : Value} {s : Shared} {R : Unit → Shared → Prop},
    wpAny (model K.prog K.w) A (storeName env z v) R E s → wpAny (model K.prog K.w) A (t v) R E s := by
  intro A env E i z hz
  match i, hz with
  | 0, hz => obtain rfl : x = z := by simpa using hz
             exact ⟨_, rfl, fun h => assign_Name h⟩
  | 1, hz => obtain rfl : y = z := by simpa using hz
             exact ⟨_, rfl, fun h => assign_Name h⟩
  | k + 2, hz => simp at hz

section
variable {K : Cx} {n : Nat} {sc scope : Scope} {ρ : List (Str × D)} {a b iter : Expr} {p px pos cpos lp : Pos} {fa : Bool} {R : List (List Int)} {x : Str}

/-- `[list(row) for row in rows]` -/
theorem Cm.copy (B : BG K) (hit : EvIt K n sc ρ iter (R.map iL)) (hR : ∀ r ∈ R, r.length ≤ sizeLine) (hsz : R.length ≤ sizeLine) (hl : (relabelS scope sc).names.lookup ("list" : Str) = some .globalImplicit := by rfl) (hd : (x == ("__debug__" : Str)) = false := by decide) (hcd : (x == ("__classdict__" : Str)) = false := by decide)
    (So : scopeOk scope sc [x] = true := by decide) (hG : ∀ env v, foldedSetIterable iter env v = pure v := by intro _ _; rfl)
    (hc : ∀ env, eval (.Call (.Name "list" lp) [.Name x p] [] pos) env = (do callWith pos (← eval (.Name "list" lp) env) [] (backTo pos (starEach [.Name x p] env)) (backToKw pos (keywordEach [] env))) := by intro _; rfl) :
    Cm K n sc ρ (.Call (.Name "list" lp) [.Name x p] [] pos) [⟨.Name x px, iter, [], 0⟩] scope cpos (R.map iL) true :=
  Cm.cast (Cm.one R iL (fun _ => true) iL hit (fun r _ => TrAll.nil) (fun r hr _ => Ev.listIL B (Ev.name (by simp) hd hcd) (hR r hr) hl (fun _ => rfl) hc) hsz So hG) (by rw [List.filter_eq_self.mpr (by simp)])

theorem mg3_ints (R : List (List Int)) : mg3 PyData.eqv (R.map (List.map PyData.int)) = ((m3 R).1.map .int, (m3 R).2.1.map (List.map .int), (m3 R).2.2) := mg3_map (f := PyData.int) (ea := beq') (fun x y => by simp only [PyData.eqv, beq']; rfl) R

theorem Ev.c3I (B : BG K) {fn : Addr} {o : Obj} {pm cd doc : Value} (Fc : Fn K c3Rec fn o pm cd doc) (ha : Ev K (n + 1) sc ρ a (.py (iLL R)) true) (hsz : R.length ≤ sizeLine) (htot : tot R ≤ sizeLine) (run : (m3 R).2.2 = true)
    (hx : sc.names.lookup c3N = some .globalImplicit := by rfl) (he : ∀ env, starEach [a] env = [(false, eval a env)] := by intro _; rfl)
    (hc : ∀ env, eval (.Call (.Name c3N p) [a] [] pos) env = (do callWith pos (← eval (.Name c3N p) env) [] (backTo pos (starEach [a] env)) (backToKw pos (keywordEach [] env))) := by intro _; rfl) :
    Ev K (n + 1) sc ρ (.Call (.Name c3N p) [a] [] pos) (.py (iL (m3 R).1)) true := by
  refine Ev.c3 (rows := R.map (List.map PyData.int)) (out := (m3 R).1.map .int) (rest := (m3 R).2.1.map (List.map .int)) Fc B.rt (Ev.cast ha (by rw [iLL_eq])) (fun r hr d hd => ?_) (by simpa using hsz) ?_ ?_ hx he hc
  · obtain ⟨q, _, rfl⟩ := List.mem_map.mp hr
    obtain ⟨i, _, rfl⟩ := List.mem_map.mp hd
    exact Atom.int i
  · have : tot (R.map (List.map PyData.int)) = tot R := by unfold tot; rw [List.map_map]; congr 1; exact List.map_congr_left fun r _ => by simp
    rw [this]; exact htot
  · rw [mg3_ints, run]
end

section
variable {K : Cx} {n : Nat} {sc : Scope} {ρ : List (Str × D)} {a b : Expr} {p pos : Pos} {fa fb : Bool} {xs : List Int} {j : Nat}
theorem Ev.itemIL (ha : Ev K n sc ρ a (.py (iL xs)) fa) (hb : Ev K n sc ρ b (.py (.int j)) fb) (hj : j < xs.length) (hsz : xs.length ≤ sizeLine)
    (hs : ∀ o j, subscripted b false o j = operate [o, j] (getItem o j) := by intro _ _; rfl) : Ev K n sc ρ (.Subscript a b pos) (.py (.int (xs.getD j 0))) false :=
  Ev.item (ds := xs.map .int) ha hb (Int.natCast_nonneg _) (by simp [hj, List.getD_eq_getElem?_getD]) (by simpa using hsz) hs
theorem Ev.itemLast (ha : Ev K n sc ρ a (.py (iL xs)) fa) (hb : Ev K n sc ρ b (.py (.int (-1))) fb) (hne : xs ≠ []) (hsz : xs.length ≤ sizeLine)
    (hs : ∀ o j, subscripted b false o j = operate [o, j] (getItem o j) := by intro _ _; rfl) : Ev K n sc ρ (.Subscript a b pos) (.py (.int (xs.getLastD 0))) false := by
  have hp : 0 < xs.length := List.length_pos_iff.mpr hne
  refine Ev.itemNeg (ds := xs.map .int) (i := -1) ha hb (by decide) (by simp; omega) ?_ (by simpa using hsz) hs
  have e : ((-1 : Int) + ((xs.map PyData.int).length : Nat)).toNat = xs.length - 1 := by simp; omega
  rw [e, List.getElem?_map, List.getElem?_eq_getElem (by omega)]
  simp only [Option.map_some, Option.some.injEq]
  congr 1
  rw [List.getLastD_eq_getLast?, List.getLast?_eq_getElem?, List.getElem?_eq_getElem (by omega)]; rfl
end

theorem tot_le {α : Type} {R : List (List α)} {b : Nat} (h : ∀ r ∈ R, r.length ≤ b) : tot R ≤ R.length * b := by
  induction R with
  | nil => simp [tot]
  | cons r R ih =>
    rw [tot_cons, List.length_cons, Nat.add_mul, Nat.one_mul]
    have := h r (.head _)
    have := ih fun q hq => h q (.tail _ hq)
    omega
theorem shp_iLL (R : List (List Int)) : Shp (iLL R) := by
  have h1 : ∀ r : List Int, PyData.canLay0 (iL r) = true := fun r => by
    unfold iL; rw [PyData.canLay0]
    exact canLayAll_of fun d hd => by obtain ⟨x, _, rfl⟩ := List.mem_map.mp hd; exact (Atom.int x).lay
  have h2 : ∀ r : List Int, (iL r).depth ≤ 61 := fun r => by
    unfold iL; rw [PyData.depth]
    have := depthAll_le (ds := r.map PyData.int) (k := 60) fun d hd => by obtain ⟨x, _, rfl⟩ := List.mem_map.mp hd; exact (Atom.int x).depth
    omega
  have h3 := canLayAll_of (ds := R.map iL) fun d hd => by obtain ⟨r, _, rfl⟩ := List.mem_map.mp hd; exact h1 r
  have h4 := depthAll_le (ds := R.map iL) (k := 61) fun d hd => by obtain ⟨r, _, rfl⟩ := List.mem_map.mp hd; exact h2 r
  unfold iLL
  simp [Shp, SeqAt.shaped, PyData.canLay0, h3, PyData.depth]; omega
section
variable {K : Cx} {n : Nat} {P R : List (List Int)}
theorem CmpOk.eqILL : CmpOk K n .Eq (.py (iLL P)) (.py (iLL R)) (P == R) := CmpOk.cast (CmpOk.eqD (shp_iLL P) (shp_iLL R)) (by unfold iLL; simp only [PyData.eqv]; exact eqvAll_iLs P R)
theorem CmpOk.neILL : CmpOk K n .NotEq (.py (iLL P)) (.py (iLL R)) (!(P == R)) := CmpOk.cast (CmpOk.neD (shp_iLL P) (shp_iLL R)) (by unfold iLL; simp only [PyData.eqv]; rw [eqvAll_iLs P R])
end
theorem EvIt.cast {K n sc ρ} {e : Expr} {ds ds' : List PyData} (h : EvIt K n sc ρ e ds) (q : ds = ds') : EvIt K n sc ρ e ds' := q ▸ h
section
variable {K : Cx} {n : Nat} {sc : Scope} {ρ : List (Str × D)} {a b c : Expr} {p pos : Pos} {fa fb fc : Bool} {P R : List (List Int)} {k : Nat}
theorem Ev.addLL (ha : Ev K n sc ρ a (.py (iLL P)) fa) (hb : Ev K n sc ρ b (.py (iLL R)) fb) (hsz : P.length + R.length ≤ sizeLine) : Ev K n sc ρ (.BinOp a .Add b pos) (.py (iLL (P ++ R))) (fa && fb) :=
  Ev.cast (Ev.addL ha hb (by simpa using hsz)) (by unfold iLL; rw [List.map_append])
theorem Ev.iterLL (h : Ev K n sc ρ a (.py (iLL R)) fa) : EvIt K n sc ρ a (R.map iL) := Ev.iter h
theorem Ev.uptoLL (ha : Ev K n sc ρ a (.py (iLL P)) fa) (hb : Ev K n sc ρ b (.py (.int k)) fb) (hsz : P.length ≤ sizeLine) : Ev K n sc ρ (.Subscript a (.Slice none (some b) none p) pos) (.py (iLL (P.take k))) false :=
  Ev.cast (Ev.sliceUpto (fr := false) ha hb (Int.natCast_nonneg _) (by simpa using hsz) nofun) (by simp [iLL, List.map_take])
theorem Ev.fromLL (ha : Ev K n sc ρ a (.py (iLL P)) fa) (hb : Ev K n sc ρ b (.py (.int k)) fb) (hsz : P.length ≤ sizeLine) : Ev K n sc ρ (.Subscript a (.Slice (some b) none none p) pos) (.py (iLL (P.drop k))) false :=
  Ev.cast (Ev.sliceFrom (fr := false) ha hb (Int.natCast_nonneg _) (by simpa using hsz) nofun) (by simp [iLL, List.map_drop])
theorem Ev.itemLL (ha : Ev K n sc ρ a (.py (iLL P)) fa) (hb : Ev K n sc ρ b (.py (.int k)) fb) (hk : k < P.length) (hsz : P.length ≤ sizeLine)
    (hs : ∀ o j, subscripted b false o j = operate [o, j] (getItem o j) := by intro _ _; rfl) : Ev K n sc ρ (.Subscript a b pos) (.py (iL (P.getD k []))) false :=
  Ev.item (ds := P.map iL) ha hb (Int.natCast_nonneg _) (by simp [hk, List.getD_eq_getElem?_getD]) (by simpa using hsz) hs
theorem Ev.lenLL (B : BG K) (ha : Ev K n sc ρ a (.py (iLL P)) fa) (hsz : P.length ≤ sizeLine) (hx : sc.names.lookup ("len" : Str) = some .globalImplicit := by rfl)
    (he : ∀ env, starEach [a] env = [(false, eval a env)] := by intro _; rfl)
    (hc : ∀ env, eval (.Call (.Name "len" p) [a] [] pos) env = (do callWith pos (← eval (.Name "len" p) env) [] (backTo pos (starEach [a] env)) (backToKw pos (keywordEach [] env))) := by intro _; rfl) :
    Ev K n sc ρ (.Call (.Name "len" p) [a] [] pos) (.py (.int P.length)) true :=
  Ev.cast (Ev.callB B.len (EvArgs.cons ha EvArgs.nil he) (CallOk.lenL (ds := P.map iL) (by simpa using hsz)) hx (by decide) he (fun _ => rfl) hc) (by simp)
end
end Mine

namespace Mine

def lawRec : DefRec := ((recsOf PySem.Challenge.pw_dn0018_09).getD 1 c3Rec)
def lawSc : Scope := lawRec.scope
def st09 (i : Nat) : Stmt := lawRec.body.getD i (.Pass ⟨0, 0, 0, 0⟩)

def deal (q : List Int × List Int) (x : Int) : List Int × List Int := if q.1.contains (x / 8) then q else (q.1 ++ [x / 8], q.2 ++ [x % 8])
def dealAt (xs : List Int) (k : Nat) : List Int × List Int := (xs.take k).foldl deal ([], [])
def rows09 (o d : List Int) : List (List Int) := (List.range 8).map fun (r : Nat) => ((List.range o.length).filter fun (j : Nat) => d.getD j 0 == (r : Int)).map fun (j : Nat) => o.getD j 0
def own09 (d : List Int) (j : Nat) : Int := maxI ([-1] ++ ((List.range j).filter fun (i : Nat) => d.getD i 0 == d.getD j 0).map fun (i : Nat) => (i : Int))
def later09 (d : List Int) (j : Nat) : List Nat := ((List.range (j - (own09 d j + 1).toNat)).map fun i => (own09 d j + 1).toNat + i).filter fun i => d.getD i 0 > d.getD j 0
def stepP (o d : List Int) (q : List (List Int) × List (List Int)) (j : Nat) : List (List Int) × List (List Int) :=
  if later09 d j = [] then q else (q.1 ++ [[o.getD ((later09 d j).getLastD 0) 0, o.getD j 0]], q.2 ++ [o.take ((later09 d j).headD 0) ++ [o.getD j 0]])
def pairsAt (o d : List Int) (k : Nat) : List (List Int) × List (List Int) := (List.range k).foldl (stepP o d) ([], [])

theorem foldl_deal_len (l : List Int) (q : List Int × List Int) : (l.foldl deal q).1.length ≤ q.1.length + l.length ∧ (l.foldl deal q).2.length ≤ q.2.length + l.length := by
  induction l generalizing q with
  | nil => simp
  | cons x l ih =>
    obtain ⟨h1, h2⟩ := ih (deal q x)
    have : (deal q x).1.length ≤ q.1.length + 1 ∧ (deal q x).2.length ≤ q.2.length + 1 := by unfold deal; split <;> simp
    simp only [List.foldl_cons, List.length_cons]; omega
theorem dealAt_len (xs : List Int) (k : Nat) : (dealAt xs k).1.length ≤ k ∧ (dealAt xs k).2.length ≤ k := by
  obtain ⟨h1, h2⟩ := foldl_deal_len (xs.take k) ([], [])
  have : (xs.take k).length ≤ k := by rw [List.length_take]; omega
  unfold dealAt; simp only [List.length_nil] at h1 h2; omega
theorem deal_len_eq (l : List Int) (q : List Int × List Int) (h : q.1.length = q.2.length) : (l.foldl deal q).1.length = (l.foldl deal q).2.length := by
  induction l generalizing q with
  | nil => exact h
  | cons x l ih => refine ih _ ?_; unfold deal; split <;> simp [h]

section
variable {K : Cx} {n : Nat} {xs : List Int} {sh ow : List (Str × D)} {Q : Out → Prop} {o d : List Int}

theorem st0 (hs : sh.lookup ("script" : Str) = some (.py (iL xs))) (hq : ∀ sh' ow', Sub [("script", .py (iL xs))] sh' → Sub [("order", .py (iL [])), ("dealt", .py (iL []))] ow' → Q (.next sh' ow')) : Ex1 K true n lawSc sh ow (st09 0) Q := by
  refine Ex1.twoNew (by decide) (fun sh' ow' h1 h2 => hq sh' ow' (Sub.cons (h1 _ _ (by decide) (by decide) hs) Sub.nil) (Sub.cons ((h2 _).trans (by rfl)) (Sub.cons ((h2 _).trans (by rfl)) Sub.nil))) (.inr rfl) (.inr rfl) (.inl fun env he => ?_)
  obtain ⟨scope⟩ := env
  obtain rfl : scope = lawSc := he
  rfl

theorem st1 (B : BG K) (hxs : xs.length ≤ 63) (hs : Sub [("script", .py (iL xs))] sh) (ho : Sub [("order", .py (iL [])), ("dealt", .py (iL []))] ow)
    (hq : ∀ sh' ow', Sub [("script", .py (iL xs))] sh' → Sub [("order", .py (iL (dealAt xs xs.length).1)), ("dealt", .py (iL (dealAt xs xs.length).2))] ow' → Q (.next sh' ow')) : Ex1 K true n lawSc sh ow (st09 1) Q := by
  have hlen : ∀ k, (dealAt xs k).1.length ≤ k ∧ (dealAt xs k).2.length ≤ k := dealAt_len xs
  refine Ex1.for (its := xs.map .int) (Ev.iter (Ev.name (hs _ _ rfl))) (fun i sh' ow' => Sub [("script", .py (iL xs))] sh' ∧ Sub [("order", .py (iL (dealAt xs i).1)), ("dealt", .py (iL (dealAt xs i).2))] ow') ⟨hs, ho⟩ (fun i di sh' ow' hi hI => ?_) (fun sh' ow' hI => ?_)
  · obtain ⟨hS, hO⟩ := hI
    obtain ⟨x, hx, rfl⟩ : ∃ x, xs[i]? = some x ∧ PyData.int x = di := by
      rw [List.getElem?_map] at hi
      cases q : xs[i]? with
      | none => rw [q] at hi; cases hi
      | some x => rw [q] at hi; exact ⟨x, rfl, by simpa using hi⟩
    have hil : i < xs.length := (List.getElem?_eq_some_iff.mp hx).1
    have hstep : dealAt xs (i + 1) = deal (dealAt xs i) x := by
      unfold dealAt
      rw [List.take_succ_eq_append_getElem hil, List.foldl_append, (List.getElem?_eq_some_iff.mp hx).2]; rfl
    generalize hq' : dealAt xs i = q at hO hstep
    refine ⟨_, _, AsgS.name, Ex.subs2 (Sub.pushC hS (by rfl)) (Sub.del hO (by rfl)) ?_⟩
    refine Ex.cons (Ex1.assignTup (xs := ["number", "row"]) (ds := [.int (x / 8), .int (x % 8)]) (Ev.callB B.divmod (EvArgs.cons (Ev.name (by rfl)) (EvArgs.cons Ev.cInt EvArgs.nil)) (CallOk.divmod (by decide) (by decide))) rfl ?_ (by intro _; rfl) hts2 (by decide) (by intro _ _; rfl) (fun _ _ _ => rfl))
    refine Ex.cons (Ex1.if (b := !q.1.contains (x / 8)) (Tr.cmp (Ev.name (by rfl)) (Ev.name (by rfl)) CmpOk.notInIL) (fun h => ?_) (fun h => ?_))
    · have hl := hlen i
      rw [hq'] at hl
      refine Ex.cons (Ex1.append (ds := q.1.map .int) (d := .int (x / 8)) (by rfl) (Ev.nameFlat (by rfl) trivial) (le_size (by simp; omega)) ?_)
      refine Ex.cons (Ex1.append (ds := q.2.map .int) (d := .int (x % 8)) (by rfl) (Ev.nameFlat (by rfl) trivial) (le_size (by simp; omega)) ?_)
      refine Ex.nil (Ex.nil ⟨Sub.cons rfl Sub.nil, ?_⟩)
      have hd : deal q x = (q.1 ++ [x / 8], q.2 ++ [x % 8]) := by unfold deal; rw [if_neg (by simpa using h)]
      rw [hstep, hd]
      refine Sub.cons ?_ (Sub.cons ?_ Sub.nil)
      · show some (D.py (.list (q.1.map .int ++ [.int (x / 8)]))) = some (D.py (iL (q.1 ++ [x / 8])))
        simp [iL]
      · show some (D.py (.list (q.2.map .int ++ [.int (x % 8)]))) = some (D.py (iL (q.2 ++ [x % 8])))
        simp [iL]
    · refine Ex.nil (Ex.nil ⟨Sub.cons rfl Sub.nil, ?_⟩)
      have hd : deal q x = q := by unfold deal; rw [if_pos (by simpa using h)]
      rw [hstep, hd]
      exact Sub.cons rfl (Sub.cons rfl Sub.nil)
  · rw [List.length_map] at hI
    exact Ex.nil (hq sh' ow' hI.1 hI.2)

def env09 (xs o d : List Int) : List (Str × D) := [("dealt", .py (iL d)), ("order", .py (iL o)), ("script", .py (iL xs))]

theorem mask_other {sc : Scope} {l : List (Str × D)} {x : Str} {d : D} (h : l.lookup x = some d) (hf : sc.names.lookup x = some .free) : (mask sc l).lookup x = some d := by
  unfold mask
  induction l with
  | nil => cases h
  | cons p r ih =>
    obtain ⟨k, v⟩ := p
    rw [List.lookup_cons] at h
    rw [List.filter_cons]
    by_cases q : x = k
    · subst q; simp at h; subst h; simp [hf]
    · have hb : (x == k) = false := by simpa using q
      simp only [hb] at h
      split
      · rw [List.lookup_cons]; simp only [hb]; exact ih h
      · exact ih h

theorem st2 (B : BG K) (ho : o.length ≤ 63) (hod : d.length = o.length) (hq : Q (.next (("rows", .py (iLL (rows09 o d))) :: env09 xs o d) [])) : Ex1 K true n lawSc (env09 xs o d) [] (st09 2) Q := by
  refine Ex1.assignCm (fr := false) (x := "rows") (out := (rows09 o d).map iL) ?_ hq (by rfl) (swap_true (by rfl) (by rfl) (by rfl) (by rfl))
  refine Cm.cast (Cm.one (List.range 8) (fun (r : Nat) => .int (r : Int)) (fun _ => true) (fun (r : Nat) => iL (((List.range o.length).filter fun (j : Nat) => d.getD j 0 == (r : Int)).map fun (j : Nat) => o.getD j 0)) (EvIt.range1 (k := 8) B Ev.cInt (by decide)) (fun r _ => TrAll.nil) (fun r _ _ => ?_) (by decide)) ?_
  · refine Ev.ofCm (Cm.cast (Cm.one (List.range o.length) (fun (j : Nat) => .int (j : Int)) (fun (j : Nat) => d.getD j 0 == (r : Int)) (fun (j : Nat) => .int (o.getD j 0)) (EvIt.range1 (k := o.length) B (Ev.lenIL (xs := o) B (Ev.name (by rfl)) (le_size ho)) (le_size ho)) (fun j hj => ?_) (fun j hj _ => ?_) (by simp; exact le_size ho)) ?_)
    · exact TrAll.one (Tr.cmp (Ev.itemIL (xs := d) (Ev.name (by rfl)) (Ev.name (by rfl)) (by rw [hod]; simpa using hj) (by rw [hod]; exact le_size ho)) (Ev.name (by rfl)) CmpOk.eqI)
    · exact Ev.itemIL (xs := o) (Ev.name (by rfl)) (Ev.name (by rfl)) (by simpa using hj) (le_size ho)
    · rw [List.map_map]; rfl
  · rw [List.filter_eq_self.mpr (by simp)]; unfold rows09; rw [List.map_map]; rfl

theorem st3 (hs : Sub (("rows", .py (iLL (rows09 o d))) :: env09 xs o d) sh) (hq : ∀ sh' ow', Sub (("rows", .py (iLL (rows09 o d))) :: env09 xs o d) sh' → Sub [("pairs", .py (iLL [])), ("parting", .py (iLL []))] ow' → Q (.next sh' ow')) : Ex1 K true n lawSc sh ow (st09 3) Q := by
  refine Ex1.twoNew (by decide) (fun sh' ow' h1 h2 => hq sh' ow' (Sub.cons (h1 _ _ (by decide) (by decide) (hs _ _ rfl)) (Sub.cons (h1 _ _ (by decide) (by decide) (hs _ _ rfl)) (Sub.cons (h1 _ _ (by decide) (by decide) (hs _ _ rfl)) (Sub.cons (h1 _ _ (by decide) (by decide) (hs _ _ rfl)) Sub.nil)))) (Sub.cons ((h2 _).trans (by rfl)) (Sub.cons ((h2 _).trans (by rfl)) Sub.nil))) (.inl rfl) (.inl rfl) (.inr fun env he => ?_)
  obtain ⟨scope⟩ := env
  obtain rfl : scope = lawSc := he
  rfl

def env09b (xs o d : List Int) : List (Str × D) := ("rows", .py (iLL (rows09 o d))) :: env09 xs o d

theorem own09_ge (d : List Int) (j : Nat) : -1 ≤ own09 d j ∧ own09 d j < (j : Int) ∨ own09 d j = -1 := by
  obtain ⟨h1, h2⟩ := maxI_spec (xs := [-1] ++ ((List.range j).filter fun (i : Nat) => d.getD i 0 == d.getD j 0).map fun (i : Nat) => (i : Int)) (by simp)
  have hge := h2 (-1) (by simp)
  rcases List.mem_append.mp h1 with q | q
  · right; simpa [own09] using q
  · left
    obtain ⟨i, hi, e⟩ := List.mem_map.mp q
    have := List.mem_range.mp (List.mem_filter.mp hi).1
    unfold own09; rw [← e]; omega

theorem later_cast (l : List Nat) : (l.map fun (i : Nat) => (i : Int)).getLastD 0 = ((l.getLastD 0 : Nat) : Int) := by
  rw [List.getLastD_eq_getLast?, List.getLastD_eq_getLast?, List.getLast?_map]
  cases l.getLast? <;> simp
theorem later_lt {d : List Int} {j i : Nat} (h : i ∈ later09 d j) : i < j := by
  obtain ⟨h1, _⟩ := List.mem_filter.mp h
  obtain ⟨k, hk, rfl⟩ := List.mem_map.mp h1
  have := List.mem_range.mp hk
  omega

theorem pairsAt_succ (o d : List Int) (k : Nat) : pairsAt o d (k + 1) = stepP o d (pairsAt o d k) k := by
  unfold pairsAt; rw [List.range_succ, List.foldl_append]; rfl
theorem pairsAt_len (o d : List Int) : ∀ k, (pairsAt o d k).1.length ≤ k ∧ (pairsAt o d k).2.length ≤ k
  | 0 => by simp [pairsAt]
  | k + 1 => by
    have := pairsAt_len o d k
    rw [pairsAt_succ]; unfold stepP; split
    · omega
    · simp only [List.length_append, List.length_singleton]; omega

theorem st4 (B : BG K) (ho : o.length ≤ 63) (hod : d.length = o.length) (hs : Sub (env09b xs o d) sh) (hp : Sub [("pairs", .py (iLL [])), ("parting", .py (iLL []))] ow)
    (hq : ∀ sh' ow', Sub (env09b xs o d) sh' → Sub [("pairs", .py (iLL (pairsAt o d o.length).1)), ("parting", .py (iLL (pairsAt o d o.length).2))] ow' → Q (.next sh' ow')) : Ex1 K true n lawSc sh ow (st09 4) Q := by
  refine Ex1.for (its := (List.range o.length).map fun (i : Nat) => .int (i : Int)) (EvIt.range1 (k := o.length) B (Ev.lenIL (xs := o) B (Ev.name (hs _ _ rfl)) (le_size ho)) (le_size ho))
    (fun i sh' ow' => Sub (env09b xs o d) sh' ∧ Sub [("pairs", .py (iLL (pairsAt o d i).1)), ("parting", .py (iLL (pairsAt o d i).2))] ow') ⟨hs, hp⟩ (fun j di sh' ow' hi hI => ?_) (fun sh' ow' hI => ?_)
  · obtain ⟨hS, hO⟩ := hI
    have hj : j < o.length := by have := (List.getElem?_eq_some_iff.mp hi).1; simpa using this
    obtain rfl : PyData.int (j : Int) = di := by simpa [hj] using hi
    have hstep := pairsAt_succ o d j
    have hpl := pairsAt_len o d j
    generalize pairsAt o d j = q at hO hstep hpl
    have hown := own09_ge d j
    have hown' : ((own09 d j + 1).toNat : Int) = own09 d j + 1 := by omega
    have hownle : (own09 d j + 1).toNat ≤ 63 := by omega
    have hll : (later09 d j).length ≤ 63 := by
      unfold later09
      refine Nat.le_trans (List.length_filter_le ..) ?_
      simp; omega
    refine ⟨_, _, AsgS.name (.inr rfl), Ex.subs2 (Sub.pushC hS (by rfl)) (Sub.del hO (by rfl)) ?_⟩
    refine Ex.cons (Ex1.assign (d := .py (.int (own09 d j))) (Ev.maxIL B (Ev.addLI (xs := [-1]) (ys := ((List.range j).filter fun (i : Nat) => d.getD i 0 == d.getD j 0).map fun (i : Nat) => (i : Int)) (Ev.list (EvAll.cons (Ev.negI Ev.cInt) EvAll.nil)) (Ev.ofCm (fr := false) (Cm.cast (Cm.one (List.range j) (fun (i : Nat) => .int (i : Int)) (fun (i : Nat) => d.getD i 0 == d.getD j 0) (fun (i : Nat) => .int (i : Int)) (EvIt.range1 (k := j) B (Ev.name (by rfl)) (le_size (by omega))) (fun i hi => ?_) (fun i _ _ => Ev.name (by rfl)) (by simp; exact le_size (by omega))) ?_)) ?_) (by simp)) ?_ (.inl rfl))
    · have hi' : i < j := by simpa using hi
      exact TrAll.one (Tr.cmp (Ev.itemIL (xs := d) (Ev.name (by rfl)) (Ev.name (by rfl)) (by omega) (by rw [hod]; exact le_size ho)) (Ev.itemIL (xs := d) (Ev.name (by rfl)) (Ev.name (by rfl)) (by omega) (by rw [hod]; exact le_size ho)) CmpOk.eqI)
    · rw [List.map_map]; rfl
    · have : (((List.range j).filter fun (i : Nat) => d.getD i 0 == d.getD j 0).map fun (i : Nat) => (i : Int)).length ≤ j := by rw [List.length_map]; refine Nat.le_trans (List.length_filter_le ..) (by simp)
      rw [sizeLine_eq]; simp only [List.length_cons, List.length_nil]; omega
    refine Ex.cons (Ex1.assignCm (fr := false) (x := "later") (out := (later09 d j).map fun (i : Nat) => .int (i : Int)) ?_ ?_ (by rfl) (swap_true (by rfl) (by rfl) (by rfl) (by rfl)))
    · refine Cm.one ((List.range (j - (own09 d j + 1).toNat)).map fun i => (own09 d j + 1).toNat + i) (fun (i : Nat) => .int (i : Int)) (fun i => decide (d.getD i 0 > d.getD j 0)) (fun (i : Nat) => .int (i : Int)) (EvIt.cast (EvIt.range2 (lo := (own09 d j + 1).toNat) (hi := j) B (Ev.cast (Ev.addI (Ev.name (by rfl)) Ev.cInt) (by rw [hown'])) (Ev.name (by rfl)) (le_size hownle) (le_size (by omega))) (by rw [List.map_map]; rfl)) (fun i hi => ?_) (fun i _ _ => Ev.name (by rfl)) (by rw [List.length_map, List.length_range]; exact le_size (by omega))
      obtain ⟨k, hk, rfl⟩ := List.mem_map.mp hi
      have := List.mem_range.mp hk
      exact TrAll.one (Tr.cmp (Ev.itemIL (xs := d) (Ev.name (by rfl)) (Ev.name (by rfl)) (by omega) (by rw [hod]; exact le_size ho)) (Ev.itemIL (xs := d) (Ev.name (by rfl)) (Ev.name (by rfl)) (by omega) (by rw [hod]; exact le_size ho)) CmpOk.gtI)
    generalize hlat : later09 d j = lt at *
    have hlt : ∀ i ∈ lt, i < j := fun i hi => later_lt (d := d) (by rw [hlat]; exact hi)
    refine Ex.cons (Ex1.if (b := !(lt == [])) (Tr.cast (Tr.cmp (Ev.name (d := .py (iL (lt.map fun (i : Nat) => (i : Int)))) (by show some (D.py (.list (lt.map fun (i : Nat) => PyData.int (i : Int)))) = _; simp [iL, Function.comp_def])) (Ev.list EvAll.nil) (CmpOk.neIL (ys := []))) (by cases lt <;> rfl)) (fun h => ?_) (fun h => ?_))
    · have hne : lt ≠ [] := by simpa using h
      have hlast : lt.getLastD 0 < j := by
        obtain ⟨a, la, e⟩ : ∃ a la, lt = la ++ [a] := ⟨lt.getLast hne, lt.dropLast, (List.dropLast_concat_getLast hne).symm⟩
        rw [e]; simp; exact hlt a (by rw [e]; simp)
      have hhead : lt.headD 0 < j := by
        cases lt with
        | nil => exact absurd rfl hne
        | cons a la => exact hlt a (.head _)
      refine Ex.cons (Ex1.append (ds := q.1.map iL) (d := iL [o.getD (lt.getLastD 0) 0, o.getD j 0]) (by rfl) (Ev.list (ds := [.int _, .int _]) (EvAll.cons (Ev.fresh (Ev.itemIL (xs := o) (j := lt.getLastD 0) (Ev.name (by rfl)) (Ev.cast (Ev.itemLast (xs := lt.map fun (i : Nat) => (i : Int)) (Ev.name (by show some (D.py (.list (lt.map fun (i : Nat) => PyData.int (i : Int)))) = _; simp [iL, Function.comp_def])) (Ev.negI Ev.cInt) (by simpa using hne) (by simpa using le_size hll)) (by rw [later_cast])) (by omega) (le_size ho)) trivial) (EvAll.cons (Ev.fresh (Ev.itemIL (xs := o) (Ev.name (by rfl)) (Ev.name (by rfl)) hj (le_size ho)) trivial) EvAll.nil)) (by show 2 ≤ sizeLine; decide)) (le_size (by simp; omega)) ?_)
      refine Ex.cons (Ex1.append (ds := q.2.map iL) (d := iL (o.take (lt.headD 0) ++ [o.getD j 0])) (by rfl) (Ev.addLI (xs := o.take (lt.headD 0)) (ys := [o.getD j 0]) (Ev.uptoIL (xs := o) (k := lt.headD 0) (Ev.name (by rfl)) (Ev.cast (Ev.itemIL (xs := lt.map fun (i : Nat) => (i : Int)) (j := 0) (Ev.name (by show some (D.py (.list (lt.map fun (i : Nat) => PyData.int (i : Int)))) = _; simp [iL, Function.comp_def])) Ev.cInt (by simpa using List.length_pos_iff.mpr hne) (by simpa using le_size hll)) ?_) (le_size ho)) (Ev.list (EvAll.cons (Ev.itemIL (xs := o) (Ev.name (by rfl)) (Ev.name (by rfl)) hj (le_size ho)) EvAll.nil)) ?_) (le_size (by simp; omega)) ?_)
      · cases lt with
        | nil => exact absurd rfl hne
        | cons a la => simp
      · simp only [List.length_take, List.length_singleton]; rw [sizeLine_eq]; omega
      refine Ex.nil (Ex.nil ⟨Sub.cons rfl (Sub.cons rfl (Sub.cons rfl (Sub.cons rfl Sub.nil))), ?_⟩)
      have hst : stepP o d q j = (q.1 ++ [[o.getD (lt.getLastD 0) 0, o.getD j 0]], q.2 ++ [o.take (lt.headD 0) ++ [o.getD j 0]]) := by unfold stepP; rw [hlat, if_neg hne]
      rw [hstep, hst]
      refine Sub.cons ?_ (Sub.cons ?_ Sub.nil)
      · show some (D.py (.list (q.1.map iL ++ [_]))) = some (D.py (iLL (q.1 ++ [_])))
        simp [iLL]
      · show some (D.py (.list (q.2.map iL ++ [_]))) = some (D.py (iLL (q.2 ++ [_])))
        simp [iLL]
    · have hnil : lt = [] := by simpa using h
      refine Ex.nil (Ex.nil ⟨Sub.cons rfl (Sub.cons rfl (Sub.cons rfl (Sub.cons rfl Sub.nil))), ?_⟩)
      have hst : stepP o d q j = q := by unfold stepP; rw [hlat, if_pos hnil]
      rw [hstep, hst]
      exact Sub.cons rfl (Sub.cons rfl Sub.nil)
  · rw [List.length_map, List.length_range] at hI
    exact Ex.nil (hq sh' ow' hI.1 hI.2)

def env09c (xs o d : List Int) (P G : List (List Int)) : List (Str × D) := ("parting", .py (iLL G)) :: ("pairs", .py (iLL P)) :: env09b xs o d

variable {P G : List (List Int)} {fn : Addr} {ob : Obj} {pm cd doc : Value}
theorem rows09_len (o d : List Int) : (rows09 o d).length = 8 ∧ ∀ r ∈ rows09 o d, r.length ≤ o.length := by
  refine ⟨by simp [rows09], fun r hr => ?_⟩
  obtain ⟨k, _, rfl⟩ := List.mem_map.mp hr
  rw [List.length_map]
  refine Nat.le_trans (List.length_filter_le ..) (by simp)

theorem st5 (B : BG K) (Fc : Fn K c3Rec fn ob pm cd doc) (ho : o.length ≤ 63) (hP : P.length ≤ 63) (hP2 : ∀ r ∈ P, r.length ≤ 63) (hm : (m3 (rows09 o d ++ P)).2.2 = true ∧ (m3 (rows09 o d ++ P)).1 = o) (hq : Q (.next (env09c xs o d P G) [])) : Ex1 K true (n + 1) lawSc (env09c xs o d P G) [] (st09 5) Q := by
  obtain ⟨hl, hr⟩ := rows09_len o d
  have hR : ∀ r ∈ rows09 o d ++ P, r.length ≤ 63 := fun r h => (List.mem_append.mp h).elim (fun h => Nat.le_trans (hr r h) ho) (hP2 r)
  have hRl : (rows09 o d ++ P).length ≤ 71 := by simp [hl]; omega
  have ht := tot_le hR
  refine Ex1.if (b := false) (Tr.cast (Tr.cmp (Ev.c3I (R := rows09 o d ++ P) B Fc (Ev.ofCm (Cm.copy B (Ev.iterLL (Ev.addLL (P := rows09 o d) (R := P) (Ev.name (by rfl)) (Ev.name (by rfl)) (by rw [sizeLine_eq]; omega))) (fun r h => le_size (hR r h)) (by rw [sizeLine_eq]; omega))) (by rw [sizeLine_eq]; omega) (by rw [sizeLine_eq]; omega) hm.1) (Ev.name (by rfl)) (CmpOk.neIL (ys := o))) (by rw [hm.2]; simp)) nofun (fun _ => Ex.nil hq)

theorem st6 (B : BG K) (Fc : Fn K c3Rec fn ob pm cd doc) (ho : o.length ≤ 63) (hm : (m3 ([o.drop 1] ++ rows09 o d ++ [o.take 2])).2.2 = true ∧ (m3 ([o.drop 1] ++ rows09 o d ++ [o.take 2])).1 = o) (hq : Q (.next (env09c xs o d P G) [])) : Ex1 K true (n + 1) lawSc (env09c xs o d P G) [] (st09 6) Q := by
  obtain ⟨hl, hr⟩ := rows09_len o d
  have hR : ∀ r ∈ [o.drop 1] ++ rows09 o d ++ [o.take 2], r.length ≤ 63 := fun r h => by
    simp only [List.mem_append, List.mem_singleton] at h
    rcases h with (rfl | h) | rfl
    · rw [List.length_drop]; omega
    · exact Nat.le_trans (hr r h) ho
    · rw [List.length_take]; omega
  have hRl : ([o.drop 1] ++ rows09 o d ++ [o.take 2]).length ≤ 71 := by simp [hl]
  have ht := tot_le hR
  refine Ex1.if (b := false) (Tr.cast (Tr.cmp (Ev.c3I (R := [o.drop 1] ++ rows09 o d ++ [o.take 2]) B Fc (Ev.ofCm (Cm.copy B (Ev.iterLL (Ev.addLL (P := [o.drop 1] ++ rows09 o d) (R := [o.take 2]) (Ev.addLL (P := [o.drop 1]) (R := rows09 o d) (Ev.list (EvAll.cons (Ev.fromIL (xs := o) (k := 1) (Ev.name (by rfl)) Ev.cInt (le_size ho)) EvAll.nil)) (Ev.name (by rfl)) (by rw [sizeLine_eq]; simp [hl])) (Ev.list (EvAll.cons (Ev.uptoIL (xs := o) (k := 2) (Ev.name (by rfl)) Ev.cInt (le_size ho)) EvAll.nil)) (by rw [sizeLine_eq]; simp [hl]))) (fun r h => le_size (hR r h)) (by rw [sizeLine_eq]; omega))) (by rw [sizeLine_eq]; omega) (by rw [sizeLine_eq]; omega) hm.1) (Ev.name (by rfl)) (CmpOk.neIL (ys := o))) (by rw [hm.2]; simp)) nofun (fun _ => Ex.nil hq)

theorem st7 (hq1 : P = [] → Q (.ret (.py (.bool true)) true)) (hq2 : P ≠ [] → Q (.next (env09c xs o d P G) [])) : Ex1 K true n lawSc (env09c xs o d P G) [] (st09 7) Q := by
  refine Ex1.if (b := P == []) (Tr.cmp (Ev.name (by rfl)) (Ev.list EvAll.nil) (CmpOk.eqILL (R := []))) (fun h => ?_) (fun h => Ex.nil (hq2 (by simpa using h)))
  exact Ex.cons (Ex1.ret Ev.cBool (hq1 (by simpa using h)))

def out09 (xs : List Int) (P : List (List Int)) : Nat := (xs.sum % (P.length : Int)).toNat
theorem out09_lt {P : List (List Int)} (h : P ≠ []) : out09 xs P < P.length ∧ ((out09 xs P : Nat) : Int) = xs.sum % (P.length : Int) := by
  have hp : 0 < (P.length : Int) := by have := List.length_pos_iff.mpr h; omega
  have h1 := Int.emod_nonneg xs.sum (Int.ne_of_gt hp)
  have h2 := Int.emod_lt_of_pos xs.sum hp
  unfold out09; omega

theorem st8 (B : BG K) (hne : P ≠ []) (hP : P.length ≤ 63) (hq : Q (.next (("out", .py (.int (out09 xs P : Nat))) :: env09c xs o d P G) [])) : Ex1 K true n lawSc (env09c xs o d P G) [] (st09 8) Q := by
  have hp : 0 < (P.length : Int) := by have := List.length_pos_iff.mpr hne; omega
  exact Ex1.assign (d := .py (.int (out09 xs P : Nat))) (Ev.cast (Ev.modI (Ev.sumIL (xs := xs) B (Ev.name (by rfl))) (Ev.lenLL (P := P) B (Ev.name (by rfl)) (le_size hP)) hp) (by rw [(out09_lt hne).2])) hq (.inl rfl)

theorem st9 (B : BG K) (Fc : Fn K c3Rec fn ob pm cd doc) (ho : o.length ≤ 63) (hP : P.length ≤ 63) (hP2 : ∀ r ∈ P, r.length ≤ 63) {k : Nat} (hk : k < P.length) (hm : (m3 (rows09 o d ++ P.take k ++ P.drop (k + 1))).2.2 = true)
    (hq : Q (.next (("told", .py (iL (m3 (rows09 o d ++ P.take k ++ P.drop (k + 1))).1)) :: ("out", .py (.int (k : Nat))) :: env09c xs o d P G) [])) : Ex1 K true (n + 1) lawSc (("out", .py (.int (k : Nat))) :: env09c xs o d P G) [] (st09 9) Q := by
  obtain ⟨hl, hr⟩ := rows09_len o d
  have hR : ∀ r ∈ rows09 o d ++ P.take k ++ P.drop (k + 1), r.length ≤ 63 := fun r h => by
    simp only [List.mem_append] at h
    rcases h with (h | h) | h
    · exact Nat.le_trans (hr r h) ho
    · exact hP2 r (List.mem_of_mem_take h)
    · exact hP2 r (List.mem_of_mem_drop h)
  have hRl : (rows09 o d ++ P.take k ++ P.drop (k + 1)).length ≤ 71 := by simp [hl]; omega
  have ht := tot_le hR
  refine Ex1.assign (d := .py (iL (m3 (rows09 o d ++ P.take k ++ P.drop (k + 1))).1)) (Ev.c3I (R := rows09 o d ++ P.take k ++ P.drop (k + 1)) B Fc (Ev.ofCm (Cm.copy B (Ev.iterLL (Ev.addLL (P := rows09 o d ++ P.take k) (R := P.drop (k + 1)) (Ev.addLL (P := rows09 o d) (R := P.take k) (Ev.name (by rfl)) (Ev.uptoLL (P := P) (k := k) (Ev.name (by rfl)) (Ev.name (by rfl)) (le_size hP)) (by rw [sizeLine_eq]; simp [hl]; omega)) (Ev.fromLL (P := P) (k := k + 1) (Ev.name (by rfl)) (Ev.cast (Ev.addI (Ev.name (by rfl)) Ev.cInt) (by simp)) (le_size hP)) (by rw [sizeLine_eq]; simp [hl]; omega))) (fun r h => le_size (hR r h)) (by rw [sizeLine_eq]; omega))) (by rw [sizeLine_eq]; omega) (by rw [sizeLine_eq]; omega) hm) hq (.inl rfl)

theorem st10 (B : BG K) (hG : G.length ≤ 63) (hG2 : ∀ r ∈ G, r.length ≤ 64) {k : Nat} {told : List Int} (ht : told.length ≤ sizeLine) (hk : k < G.length) (hm : told.take (G.getD k []).length = G.getD k []) (hq : Q (.ret (.py (.bool true)) true)) :
    Ex1 K true n lawSc (("told", .py (iL told)) :: ("out", .py (.int (k : Nat))) :: env09c xs o d P G) [] (st09 10) Q := by
  have hg : (G.getD k []).length ≤ sizeLine := by
    have : G.getD k [] ∈ G := by rw [List.getD_eq_getElem?_getD, List.getElem?_eq_getElem hk]; exact List.getElem_mem hk
    have := hG2 _ this
    rw [sizeLine_eq]; omega
  refine Ex1.ret (d := .py (.bool true)) (fr := true) (Ev.cast (Ev.cmp (Ev.uptoIL (xs := told) (k := (G.getD k []).length) (Ev.name (by rfl)) (Ev.lenIL (xs := G.getD k []) B (Ev.itemLL (P := G) (k := k) (Ev.name (by rfl)) (Ev.name (by rfl)) hk (le_size hG)) hg) ht) (Ev.itemLL (P := G) (k := k) (Ev.name (by rfl)) (Ev.name (by rfl)) hk (le_size hG)) (CmpOk.eqIL (ys := G.getD k []))) (by rw [hm]; simp)) hq

theorem pairsAt_eqlen (o d : List Int) : ∀ k, (pairsAt o d k).1.length = (pairsAt o d k).2.length
  | 0 => rfl
  | k + 1 => by
    have := pairsAt_eqlen o d k
    rw [pairsAt_succ]; unfold stepP; split
    · exact this
    · simp [this]
theorem pairsAt_rows (o d : List Int) : ∀ k, (∀ r ∈ (pairsAt o d k).1, r.length ≤ 63) ∧ (∀ r ∈ (pairsAt o d k).2, r.length ≤ o.length + 1)
  | 0 => by simp [pairsAt]
  | k + 1 => by
    obtain ⟨h1, h2⟩ := pairsAt_rows o d k
    rw [pairsAt_succ]; unfold stepP; split
    · exact ⟨h1, h2⟩
    · refine ⟨fun r hr => ?_, fun r hr => ?_⟩
      · rcases List.mem_append.mp hr with h | h
        · exact h1 r h
        · rw [List.mem_singleton.mp h]; simp
      · rcases List.mem_append.mp hr with h | h
        · exact h2 r h
        · rw [List.mem_singleton.mp h]; simp; omega

theorem m3_len {R : List (List Int)} (h : (m3 R).2.2 = true) : (m3 R).1.length ≤ tot R := by
  have : ∀ (n : Nat) (R : List (List Int)), tot R ≤ n → (m3 R).1.length ≤ tot R := by
    intro n
    induction n with
    | zero =>
      intro R hn
      rcases m3_cases R with ⟨_, e⟩ | ⟨_, _, e⟩ | ⟨c, _, _, _, hlt, e⟩
      · rw [e]; simp
      · rw [e]; simp
      · omega
    | succ n ih =>
      intro R hn
      rcases m3_cases R with ⟨_, e⟩ | ⟨_, _, e⟩ | ⟨c, _, _, _, hlt, e⟩
      · rw [e]; simp
      · rw [e]; simp
      · have := ih _ (show tot (R.map (strike1 beq' c)) ≤ n by omega)
        rw [e]; simp only [List.length_cons]; omega
  exact this _ R (Nat.le_refl _)

structure Law09 (o d : List Int) (P G : List (List Int)) : Prop where
  all : (m3 (rows09 o d ++ P)).2.2 = true ∧ (m3 (rows09 o d ++ P)).1 = o
  two : (m3 ([o.drop 1] ++ rows09 o d ++ [o.take 2])).2.2 = true ∧ (m3 ([o.drop 1] ++ rows09 o d ++ [o.take 2])).1 = o
  less : ∀ k, k < P.length → (m3 (rows09 o d ++ P.take k ++ P.drop (k + 1))).2.2 = true ∧ (m3 (rows09 o d ++ P.take k ++ P.drop (k + 1))).1.take (G.getD k []).length = G.getD k []

theorem law09_body (B : BG K) (Fc : Fn K c3Rec fn ob pm cd doc) (hxs : xs.length ≤ 63)
    (L : Law09 (dealAt xs xs.length).1 (dealAt xs xs.length).2 (pairsAt (dealAt xs xs.length).1 (dealAt xs xs.length).2 (dealAt xs xs.length).1.length).1 (pairsAt (dealAt xs xs.length).1 (dealAt xs xs.length).2 (dealAt xs xs.length).1.length).2) :
    Ex K true (n + 1) lawSc [("script", .py (iL xs))] [] lawRec.body fun o => o = .ret (.py (.bool true)) true := by
  show Ex K true (n + 1) lawSc [("script", .py (iL xs))] [] [st09 0, st09 1, st09 2, st09 3, st09 4, st09 5, st09 6, st09 7, st09 8, st09 9, st09 10] _
  refine Ex.cons (st0 rfl fun sh ow h1 h2 => ?_)
  refine Ex.cons (st1 B hxs h1 h2 fun sh ow h1 h2 => ?_)
  have hl := dealAt_len xs xs.length
  have he : (dealAt xs xs.length).1.length = (dealAt xs xs.length).2.length := deal_len_eq _ _ rfl
  generalize (dealAt xs xs.length).1 = o at *
  generalize (dealAt xs xs.length).2 = d at *
  have ho : o.length ≤ 63 := by omega
  refine Ex.subs2 h1 h2 ?_
  refine Ex.share (x := "order") (d := .py (iL o)) rfl ?_
  refine Ex.share (x := "dealt") (d := .py (iL d)) rfl ?_
  show Ex K true (n + 1) lawSc (env09 xs o d) [] _ _
  refine Ex.cons (st2 B ho he.symm ?_)
  refine Ex.cons (st3 (o := o) (d := d) (xs := xs) Sub.refl fun sh ow h1 h2 => ?_)
  refine Ex.cons (st4 (xs := xs) B ho he.symm h1 h2 fun sh ow h1 h2 => ?_)
  have hpl := pairsAt_len o d o.length
  have hpe := pairsAt_eqlen o d o.length
  have hpr := pairsAt_rows o d o.length
  generalize (pairsAt o d o.length).1 = P at *
  generalize (pairsAt o d o.length).2 = G at *
  refine Ex.subs2 h1 h2 ?_
  refine Ex.share (x := "pairs") (d := .py (iLL P)) rfl ?_
  refine Ex.share (x := "parting") (d := .py (iLL G)) rfl ?_
  show Ex K true (n + 1) lawSc (env09c xs o d P G) [] _ _
  refine Ex.cons (st5 B Fc ho (by omega) hpr.1 L.all ?_)
  refine Ex.cons (st6 B Fc ho L.two ?_)
  refine Ex.cons (st7 (fun _ => rfl) fun hne => ?_)
  refine Ex.cons (st8 B hne (by omega) ?_)
  obtain ⟨hk, _⟩ := out09_lt (xs := xs) hne
  generalize out09 xs P = k at hk ⊢
  obtain ⟨m1, m2⟩ := L.less k hk
  refine Ex.cons (st9 B Fc ho (by omega) hpr.1 hk m1 ?_)
  have hR : ∀ r ∈ rows09 o d ++ P.take k ++ P.drop (k + 1), r.length ≤ 63 := fun r h => by
    simp only [List.mem_append] at h
    rcases h with (h | h) | h
    · exact Nat.le_trans ((rows09_len o d).2 r h) ho
    · exact hpr.1 r (List.mem_of_mem_take h)
    · exact hpr.1 r (List.mem_of_mem_drop h)
  have hRl : (rows09 o d ++ P.take k ++ P.drop (k + 1)).length ≤ 71 := by simp [(rows09_len o d).1]; omega
  have ht := tot_le hR
  have hml := m3_len m1
  refine Ex.cons (st10 B (by omega) (fun r hr => by have := hpr.2 r hr; omega) (by rw [sizeLine_eq]; omega) (by omega) m2 rfl)
end
end Mine

namespace Mine

/-! ### rising rows of numbers, merged in the order of the numbers -/
def Inc (r : List Nat) : Prop := r.Pairwise (· < ·)
def cutR (t : Nat) (R : List (List Nat)) : List (List Nat) := R.map fun r => r.filter fun x => decide (t ≤ x)

theorem filter_ge_all {t : Nat} {r : List Nat} (h : ∀ x ∈ r, t ≤ x) : r.filter (fun x => decide (t ≤ x)) = r := List.filter_eq_self.mpr fun x hx => by simpa using h x hx
theorem strike_cut {t : Nat} : ∀ {r : List Nat}, Inc r → strike1 beq' t (r.filter fun x => decide (t ≤ x)) = r.filter fun x => decide (t + 1 ≤ x)
  | [], _ => rfl
  | x :: r, h => by
    obtain ⟨h1, h2⟩ := List.pairwise_cons.mp h
    rw [List.filter_cons, List.filter_cons]
    by_cases q : t ≤ x
    · rw [if_pos (by simpa using q), strike_cons]
      by_cases e : x = t
      · subst e
        rw [if_pos rfl, if_neg (by simp), filter_ge_all fun y hy => Nat.le_of_lt (h1 y hy), filter_ge_all fun y hy => h1 y hy]
      · rw [if_neg e, if_pos (by simp; omega), filter_ge_all fun y hy => by have := h1 y hy; omega, filter_ge_all fun y hy => by have := h1 y hy; omega]
    · rw [if_neg (by simpa using q), if_neg (by simp; omega)]
      exact strike_cut h2
theorem cut_strike {t : Nat} {R : List (List Nat)} (h : ∀ r ∈ R, Inc r) : (cutR t R).map (strike1 beq' t) = cutR (t + 1) R := by
  unfold cutR; rw [List.map_map]; exact List.map_congr_left fun r hr => strike_cut (h r hr)
theorem cut_zero (R : List (List Nat)) : cutR 0 R = R := by unfold cutR; conv => rhs; rw [← List.map_id R]
                                                            exact List.map_congr_left fun r _ => by simp
theorem run_prefix {R : List (List Nat)} (h : ∀ r ∈ R, Inc r) : ∀ f, (∀ t, t < f → cand beq' (cutR t R) = some t) → m3 R = (List.range f ++ (m3 (cutR f R)).1, (m3 (cutR f R)).2)
  | 0, _ => by rw [cut_zero]; simp
  | f + 1, hc => by
    rw [run_prefix h f fun t ht => hc t (by omega), m3_some (hc f (by omega)), cut_strike h, List.range_succ]
    simp
theorem cand_at {α : Type} [DecidableEq α] {x : α} {t : List α} : ∀ {S T : List (List α)} {R : List (List α)}, R = S ++ (x :: t) :: T → (∀ r ∈ R, x ∉ r.tail) → (∀ y u, y :: u ∈ S → ∃ r ∈ R, y ∈ r.tail) → cand beq' R = some x := by
  intro S T R e ho hno
  unfold cand
  have hx : okHead beq' R x = true := okHead_iff.mpr ho
  have hS : ∀ y u, y :: u ∈ S → okHead beq' R y = false := fun y u hy => by
    rw [Bool.eq_false_iff]; intro q
    obtain ⟨r, hr, hm⟩ := hno y u hy
    exact okHead_iff.mp q r hr hm
  generalize okHead beq' R = g at hx hS
  subst e
  rw [List.findSome?_append, List.findSome?_eq_none_iff (l := S) |>.mpr ?_]
  · simp [hx]
  · intro r hr
    cases r with
    | nil => rfl
    | cons y u => simp [hS y u hr]
theorem inc_tail {r : List Nat} (h : Inc r) {t : Nat} (hge : ∀ x ∈ r, t ≤ x) : t ∉ r.tail := fun hm => by
  cases r with
  | nil => cases hm
  | cons x u =>
    have h1 := (List.pairwise_cons.mp h).1 t hm
    have h2 := hge x (.head _)
    omega
theorem cut_inc {t : Nat} {R : List (List Nat)} (h : ∀ r ∈ R, Inc r) : ∀ r ∈ cutR t R, Inc r ∧ ∀ x ∈ r, t ≤ x := fun r hr => by
  obtain ⟨q, hq, rfl⟩ := List.mem_map.mp hr
  exact ⟨(h q hq).sublist List.filter_sublist, fun x hx => by simpa using (List.mem_filter.mp hx).2⟩

/-! ### the rows of the law, by places -/
section
variable {d : List Int} {m : Nat}
def rowI (d : List Int) (m : Nat) (r : Nat) : List Nat := (List.range m).filter fun j => d.getD j 0 == (r : Int)
def pairI (d : List Int) (j : Nat) : List Nat := [(later09 d j).getLastD 0, j]
theorem inc_range (m : Nat) : Inc (List.range m) := List.pairwise_lt_range
theorem inc_rowI (d : List Int) (m r : Nat) : Inc (rowI d m r) := (inc_range m).sublist List.filter_sublist
theorem mem_rowI {r j : Nat} : j ∈ rowI d m r ↔ j < m ∧ d.getD j 0 = (r : Int) := by simp [rowI]

theorem own_spec (d : List Int) (j : Nat) : (∀ i, i < j → d.getD i 0 = d.getD j 0 → (i : Int) ≤ own09 d j) ∧ (own09 d j = -1 ∨ ∃ i, i < j ∧ d.getD i 0 = d.getD j 0 ∧ own09 d j = (i : Int)) := by
  obtain ⟨h1, h2⟩ := maxI_spec (xs := [-1] ++ ((List.range j).filter fun (i : Nat) => d.getD i 0 == d.getD j 0).map fun (i : Nat) => (i : Int)) (by simp)
  refine ⟨fun i hi he => h2 i (List.mem_append.mpr (.inr (List.mem_map.mpr ⟨i, List.mem_filter.mpr ⟨List.mem_range.mpr hi, by simpa using he⟩, rfl⟩))), ?_⟩
  rcases List.mem_append.mp h1 with q | q
  · left; simpa [own09] using q
  · right
    obtain ⟨i, hi, e⟩ := List.mem_map.mp q
    obtain ⟨a, b⟩ := List.mem_filter.mp hi
    exact ⟨i, by simpa using a, by simpa using b, e.symm⟩
theorem mem_later {i j : Nat} : i ∈ later09 d j ↔ own09 d j < (i : Int) ∧ i < j ∧ d.getD j 0 < d.getD i 0 := by
  have hown := own09_ge d j
  unfold later09
  rw [List.mem_filter, List.mem_map]
  constructor
  · rintro ⟨⟨k, hk, rfl⟩, h2⟩
    have := List.mem_range.mp hk
    refine ⟨by omega, by omega, by simpa using h2⟩
  · rintro ⟨h1, h2, h3⟩
    refine ⟨⟨i - (own09 d j + 1).toNat, by simp; omega, by omega⟩, by simpa using h3⟩
theorem inc_later (d : List Int) (j : Nat) : Inc (later09 d j) := by
  refine List.Pairwise.sublist (l₂ := (List.range (j - (own09 d j + 1).toNat)).map fun i => (own09 d j + 1).toNat + i) List.filter_sublist ?_
  rw [List.pairwise_map]
  exact List.Pairwise.imp (fun h => by omega) List.pairwise_lt_range
theorem last_spec {l : List Nat} (h : Inc l) (hne : l ≠ []) : l.getLastD 0 ∈ l ∧ ∀ x ∈ l, x ≤ l.getLastD 0 := by
  obtain ⟨a, la, rfl⟩ : ∃ a la, l = la ++ [a] := ⟨l.getLast hne, l.dropLast, (List.dropLast_concat_getLast hne).symm⟩
  have e : (la ++ [a]).getLastD 0 = a := by simp
  rw [e]
  refine ⟨by simp, fun x hx => ?_⟩
  rcases List.mem_append.mp hx with q | q
  · exact Nat.le_of_lt ((List.pairwise_append.mp h).2.2 x q a (by simp))
  · rw [List.mem_singleton.mp q]; exact Nat.le_refl _
theorem head_spec {l : List Nat} (h : Inc l) (hne : l ≠ []) : l.headD 0 ∈ l ∧ ∀ x ∈ l, l.headD 0 ≤ x := by
  cases l with
  | nil => exact absurd rfl hne
  | cons a la =>
    refine ⟨.head _, fun x hx => ?_⟩
    rcases List.mem_cons.mp hx with rfl | hx
    · exact Nat.le_refl _
    · exact Nat.le_of_lt ((List.pairwise_cons.mp h).1 x hx)
theorem inc_pairI {j : Nat} (h : later09 d j ≠ []) : Inc (pairI d j) := by
  have := later_lt (last_spec (inc_later d j) h).1
  refine List.pairwise_cons.mpr ⟨fun x hx => ?_, List.pairwise_singleton ..⟩
  rw [List.mem_singleton.mp hx]; exact this

/-- the rows, and the pairs of the places in J -/
def RI (d : List Int) (m : Nat) (J : List Nat) : List (List Nat) := ((List.range 8).map fun r => rowI d m r) ++ J.map (pairI d)
theorem inc_RI {J : List Nat} (hJ : ∀ j ∈ J, later09 d j ≠ []) : ∀ r ∈ RI d m J, Inc r := fun r hr => by
  rcases List.mem_append.mp hr with h | h
  · obtain ⟨k, _, rfl⟩ := List.mem_map.mp h; exact inc_rowI d m k
  · obtain ⟨j, hj, rfl⟩ := List.mem_map.mp h; exact inc_pairI (hJ j hj)

theorem head_cut {r j : Nat} {u : List Nat} {t : Nat} (h : (rowI d m r).filter (fun x => decide (t ≤ x)) = j :: u) : j < m ∧ d.getD j 0 = (r : Int) ∧ t ≤ j ∧ ∀ i, t ≤ i → i < j → d.getD i 0 ≠ (r : Int) := by
  have hj : j ∈ (rowI d m r).filter (fun x => decide (t ≤ x)) := by rw [h]; exact .head _
  obtain ⟨h1, h2⟩ := List.mem_filter.mp hj
  obtain ⟨h3, h4⟩ := mem_rowI.mp h1
  refine ⟨h3, h4, by simpa using h2, fun i hi hij he => ?_⟩
  have him : i ∈ (rowI d m r).filter (fun x => decide (t ≤ x)) := List.mem_filter.mpr ⟨mem_rowI.mpr ⟨by omega, he⟩, by simpa using hi⟩
  rw [h] at him
  have hinc : Inc (j :: u) := h ▸ (inc_rowI d m r).sublist List.filter_sublist
  rcases List.mem_cons.mp him with e | e
  · omega
  · have := (List.pairwise_cons.mp hinc).1 i e; omega

/-- a row's first place that a pair holds back -/
theorem blocked {J : List Nat} {t r j : Nat} {u : List Nat} (h : (rowI d m r).filter (fun x => decide (t ≤ x)) = j :: u) (ht : (r : Int) < d.getD t 0) (hJ : j ∈ J) : ∃ q ∈ cutR t (RI d m J), j ∈ q.tail := by
  obtain ⟨h1, h2, h3, h4⟩ := head_cut h
  have htj : t ≠ j := fun e => by rw [e, h2] at ht; omega
  have hown : own09 d j < (t : Int) := by
    rcases (own_spec d j).2 with e | ⟨i, hi, he, e⟩
    · omega
    · rw [e]
      apply Classical.byContradiction
      intro q
      exact h4 i (by omega) hi (by rw [he, h2])
  have hmem : t ∈ later09 d j := mem_later.mpr ⟨hown, by omega, by rw [h2]; exact ht⟩
  have hne : later09 d j ≠ [] := fun e => by rw [e] at hmem; cases hmem
  have hl := (last_spec (inc_later d j) hne).2 t hmem
  refine ⟨_, List.mem_map.mpr ⟨pairI d j, List.mem_append.mpr (.inr (List.mem_map.mpr ⟨j, hJ, rfl⟩)), rfl⟩, ?_⟩
  have : (pairI d j).filter (fun x => decide (t ≤ x)) = [(later09 d j).getLastD 0, j] := filter_ge_all fun x hx => by
    simp [pairI] at hx; rcases hx with rfl | rfl
    · rw [← List.getLastD_eq_getLast?]; exact hl
    · exact h3
  rw [this]; simp

theorem range8_split {r : Nat} (h : r < 8) : List.range 8 = List.range r ++ r :: (List.range' (r + 1) (8 - r - 1)) := by
  have : 8 = r + (1 + (8 - r - 1)) := by omega
  conv => lhs; rw [this, List.range_eq_range', ← List.range'_append_1, ← List.range'_append_1]
  rw [List.range_eq_range']; simp [List.range'_one]

variable (hd : ∀ j, j < m → 0 ≤ d.getD j 0 ∧ d.getD j 0 < 8)
include hd

/-- place t is next, if every lesser row's next place has its pair -/
theorem cand_next {J : List Nat} {t : Nat} (ht : t < m) (hJi : ∀ j ∈ J, later09 d j ≠ []) (hJ : ∀ (r j : Nat) (u : List Nat), (r : Int) < d.getD t 0 → (rowI d m r).filter (fun x => decide (t ≤ x)) = j :: u → j ∈ J) : cand beq' (cutR t (RI d m J)) = some t := by
  obtain ⟨h1, h2⟩ := hd t ht
  obtain ⟨r, hr⟩ : ∃ r : Nat, d.getD t 0 = (r : Int) := ⟨(d.getD t 0).toNat, by omega⟩
  have hr8 : r < 8 := by omega
  have hmem : t ∈ (rowI d m r).filter (fun x => decide (t ≤ x)) := List.mem_filter.mpr ⟨mem_rowI.mpr ⟨ht, hr⟩, by simp⟩
  obtain ⟨u, hu⟩ : ∃ u, (rowI d m r).filter (fun x => decide (t ≤ x)) = t :: u := by
    cases q : (rowI d m r).filter (fun x => decide (t ≤ x)) with
    | nil => rw [q] at hmem; cases hmem
    | cons j u =>
      obtain ⟨a1, a2, a3, a4⟩ := head_cut q
      have : j = t := by
        apply Classical.byContradiction
        intro hne
        exact a4 t (Nat.le_refl _) (by omega) hr
      rw [this]; exact ⟨u, rfl⟩
  refine cand_at (S := (List.range r).map fun r => (rowI d m r).filter fun x => decide (t ≤ x)) (x := t) (t := u) (T := ((List.range' (r + 1) (8 - r - 1)).map fun r => (rowI d m r).filter fun x => decide (t ≤ x)) ++ cutR t (J.map (pairI d))) ?_ (fun q hq => ?_) (fun y v hy => ?_)
  · unfold cutR RI
    rw [List.map_append, List.map_map, range8_split hr8, List.map_append, List.map_cons]
    simp only [Function.comp, hu, List.append_assoc, List.cons_append]
    rfl
  · obtain ⟨a, b⟩ := cut_inc (inc_RI hJi) q hq
    exact inc_tail a b
  · obtain ⟨r', hr', e⟩ := List.mem_map.mp hy
    have hlt : (r' : Int) < d.getD t 0 := by have := List.mem_range.mp hr'; omega
    exact blocked e hlt (hJ r' y v hlt e)
end
end Mine

namespace Mine

section
variable {d : List Int} {m : Nat}
def Jall (d : List Int) (m : Nat) : List Nat := (List.range m).filter fun j => !(later09 d j).isEmpty
theorem mem_Jall {j : Nat} : j ∈ Jall d m ↔ j < m ∧ later09 d j ≠ [] := by simp [Jall]

theorem later_of_head {t r j : Nat} {u : List Nat} (h : (rowI d m r).filter (fun x => decide (t ≤ x)) = j :: u) (ht : (r : Int) < d.getD t 0) : t ∈ later09 d j ∧ j < m := by
  obtain ⟨h1, h2, h3, h4⟩ := head_cut h
  have htj : t ≠ j := fun e => by rw [e, h2] at ht; omega
  have hown : own09 d j < (t : Int) := by
    rcases (own_spec d j).2 with e | ⟨i, hi, he, e⟩
    · omega
    · rw [e]
      apply Classical.byContradiction
      intro q
      exact h4 i (by omega) hi (by rw [he, h2])
  exact ⟨mem_later.mpr ⟨hown, by omega, by rw [h2]; exact ht⟩, h1⟩

theorem RI_lt {J : List Nat} (hJ : ∀ j ∈ J, j < m ∧ later09 d j ≠ []) : ∀ r ∈ RI d m J, ∀ x ∈ r, x < m := fun r hr x hx => by
  rcases List.mem_append.mp hr with h | h
  · obtain ⟨k, _, rfl⟩ := List.mem_map.mp h; exact (mem_rowI.mp hx).1
  · obtain ⟨j, hj, rfl⟩ := List.mem_map.mp h
    have h1 := (hJ j hj).1
    have h2 := later_lt (last_spec (inc_later d j) (hJ j hj).2).1
    simp only [pairI, List.mem_cons, List.mem_singleton, List.not_mem_nil, or_false] at hx
    rcases hx with rfl | rfl <;> omega

theorem inc_sublist : ∀ (n a : Nat) (r : List Nat), Inc r → (∀ x ∈ r, a ≤ x ∧ x < a + n) → r.Sublist (List.range' a n)
  | 0, a, r, _, h => by
    cases r with
    | nil => exact List.nil_sublist _
    | cons x u => have := h x (.head _); omega
  | n + 1, a, r, hi, h => by
    rw [List.range'_succ]
    cases r with
    | nil => exact List.nil_sublist _
    | cons x u =>
      obtain ⟨h1, h2⟩ := List.pairwise_cons.mp hi
      have hx := h x (.head _)
      by_cases e : x = a
      · subst e
        exact (inc_sublist n (x + 1) u h2 fun y hy => by have := h1 y hy; have := h y (.tail _ hy); omega).cons_cons _
      · exact (inc_sublist n (a + 1) (x :: u) hi fun y hy => by
          have := h y hy
          rcases List.mem_cons.mp hy with rfl | hy'
          · omega
          · have := h1 y hy'; omega).cons _
theorem m3_inc {R : List (List Nat)} (hi : ∀ r ∈ R, Inc r) (hl : ∀ r ∈ R, ∀ x ∈ r, x < m) : (m3 R).2.2 = true :=
  m3_order (w := List.range m) List.nodup_range _ R (Nat.le_refl _) fun r hr => by
    rw [List.range_eq_range']; exact inc_sublist m 0 r (hi r hr) fun x hx => ⟨Nat.zero_le _, by have := hl r hr x hx; omega⟩
theorem cut_end {R : List (List Nat)} (hl : ∀ r ∈ R, ∀ x ∈ r, x < m) : ∀ r ∈ cutR m R, r = [] := fun r hr => by
  obtain ⟨q, hq, rfl⟩ := List.mem_map.mp hr
  rw [List.filter_eq_nil_iff]
  intro x hx; have := hl q hq x hx; simp; omega

variable (hd : ∀ j, j < m → 0 ≤ d.getD j 0 ∧ d.getD j 0 < 8)
include hd

theorem allI : m3 (RI d m (Jall d m)) = (List.range m, (m3 (RI d m (Jall d m))).2.1, true) := by
  have hJ : ∀ j ∈ Jall d m, j < m ∧ later09 d j ≠ [] := fun j hj => mem_Jall.mp hj
  have := run_prefix (inc_RI fun j hj => (hJ j hj).2) m fun t ht => cand_next hd ht (fun j hj => (hJ j hj).2) fun r j u hr h => by
    obtain ⟨a, b⟩ := later_of_head h hr
    exact mem_Jall.mpr ⟨b, fun e => by rw [e] at a; cases a⟩
  rw [m3_empty (cut_end (RI_lt hJ))] at this
  rw [this]; simp

theorem twoI : m3 ([(List.range m).drop 1] ++ ((List.range 8).map fun r => rowI d m r) ++ [(List.range m).take 2]) = (List.range m, (m3 ([(List.range m).drop 1] ++ ((List.range 8).map fun r => rowI d m r) ++ [(List.range m).take 2])).2.1, true) := by
  generalize hR : [(List.range m).drop 1] ++ ((List.range 8).map fun r => rowI d m r) ++ [(List.range m).take 2] = R
  have hi : ∀ r ∈ R, Inc r := fun r hr => by
    subst hR
    simp only [List.mem_append, List.mem_singleton, List.mem_map] at hr
    rcases hr with (rfl | ⟨k, _, rfl⟩) | rfl
    · exact (inc_range m).sublist (List.drop_sublist ..)
    · exact inc_rowI d m k
    · exact (inc_range m).sublist (List.take_sublist ..)
  have hl : ∀ r ∈ R, ∀ x ∈ r, x < m := fun r hr x hx => by
    subst hR
    simp only [List.mem_append, List.mem_singleton, List.mem_map] at hr
    rcases hr with (rfl | ⟨k, _, rfl⟩) | rfl
    · exact List.mem_range.mp (List.mem_of_mem_drop hx)
    · exact (mem_rowI.mp hx).1
    · exact List.mem_range.mp (List.mem_of_mem_take hx)
  have hfree : ∀ t, ∀ r ∈ cutR t R, t ∉ r.tail := fun t r hr => by
    obtain ⟨a, b⟩ := cut_inc hi r hr
    exact inc_tail a b
  have key : ∀ t, t < m → cand beq' (cutR t R) = some t := by
    intro t ht
    by_cases h0 : t = 0
    · subst h0
      obtain ⟨h1, h2⟩ := hd 0 ht
      obtain ⟨r, hr⟩ : ∃ r : Nat, d.getD 0 0 = (r : Int) := ⟨(d.getD 0 0).toNat, by omega⟩
      have hr8 : r < 8 := by omega
      obtain ⟨u, hu⟩ : ∃ u, rowI d m r = 0 :: u := by
        have hmem : 0 ∈ rowI d m r := mem_rowI.mpr ⟨ht, hr⟩
        have hinc := inc_rowI d m r
        cases q : rowI d m r with
        | nil => rw [q] at hmem; cases hmem
        | cons j u =>
          rw [q] at hmem hinc
          rcases List.mem_cons.mp hmem with e | e
          · rw [← e]; exact ⟨u, rfl⟩
          · have := (List.pairwise_cons.mp hinc).1 0 e; omega
      rw [cut_zero]
      have hm1 : ∀ y, 1 ≤ y → y < m → ∃ q ∈ R, y ∈ q.tail := fun y hy hym => by
        subst hR
        by_cases e : y = 1
        · subst e
          refine ⟨(List.range m).take 2, by simp, ?_⟩
          obtain ⟨k, rfl⟩ : ∃ k, m = k + 2 := ⟨m - 2, by omega⟩
          rw [List.range_succ_eq_map, List.range_succ_eq_map]; simp
        · refine ⟨(List.range m).drop 1, by simp, ?_⟩
          rw [List.tail_drop]
          rw [List.mem_iff_getElem?]
          exact ⟨y - 2, by rw [List.getElem?_drop, show 1 + 1 + (y - 2) = y by omega]; simp [hym]⟩
      refine cand_at (x := 0) (t := u) (S := [(List.range m).drop 1] ++ (List.range r).map fun r => rowI d m r) (T := ((List.range' (r + 1) (8 - r - 1)).map fun r => rowI d m r) ++ [(List.range m).take 2]) ?_ ?_ ?_
      · rw [← hR, range8_split hr8, List.map_append, List.map_cons, hu]; simp
      · have := hfree 0; rw [cut_zero] at this; exact this
      · intro y v hy
        rcases List.mem_append.mp hy with h | h
        · have hy' : y ∈ (List.range m).drop 1 := by rw [← List.mem_singleton.mp h]; exact .head _
          obtain ⟨k, hk⟩ := List.mem_iff_getElem?.mp hy'
          rw [List.getElem?_drop] at hk
          have hk' := List.getElem?_eq_some_iff.mp hk
          obtain ⟨a, b⟩ := hk'
          simp at a b
          exact hm1 y (by omega) (by omega)
        · obtain ⟨r', hr', e⟩ := List.mem_map.mp h
          have hy' : y ∈ rowI d m r' := by rw [e]; exact .head _
          obtain ⟨a, b⟩ := mem_rowI.mp hy'
          have := List.mem_range.mp hr'
          refine hm1 y ?_ a
          rcases Nat.eq_zero_or_pos y with e0 | e0
          · subst e0; rw [hr] at b; omega
          · exact e0
    · obtain ⟨u, hu⟩ : ∃ u, ((List.range m).drop 1).filter (fun x => decide (t ≤ x)) = t :: u := by
        have hmem : t ∈ ((List.range m).drop 1).filter (fun x => decide (t ≤ x)) := by
          refine List.mem_filter.mpr ⟨List.mem_iff_getElem?.mpr ⟨t - 1, ?_⟩, by simp⟩
          rw [List.getElem?_drop, show 1 + (t - 1) = t by omega]; simp [ht]
        have hinc : Inc (((List.range m).drop 1).filter (fun x => decide (t ≤ x))) := ((inc_range m).sublist (List.drop_sublist ..)).sublist List.filter_sublist
        have hge : ∀ x ∈ ((List.range m).drop 1).filter (fun x => decide (t ≤ x)), t ≤ x := fun x hx => by simpa using (List.mem_filter.mp hx).2
        cases q : ((List.range m).drop 1).filter (fun x => decide (t ≤ x)) with
        | nil => rw [q] at hmem; cases hmem
        | cons j u =>
          rw [q] at hmem hinc hge
          rcases List.mem_cons.mp hmem with e | e
          · rw [← e]; exact ⟨u, rfl⟩
          · have := (List.pairwise_cons.mp hinc).1 t e; have := hge j (.head _); omega
      refine cand_at (x := t) (t := u) (S := []) (T := cutR t (((List.range 8).map fun r => rowI d m r) ++ [(List.range m).take 2])) ?_ (hfree t) nofun
      rw [← hR]; unfold cutR
      rw [List.append_assoc, List.map_append, List.map_cons, List.map_nil, hu]; simp
  have := run_prefix hi m key
  rw [m3_empty (cut_end hl)] at this
  rw [this]; simp

theorem lessI {J : List Nat} {jk : Nat} (hk : jk ∈ Jall d m) (hJ : ∀ j, j ∈ J ↔ j ∈ Jall d m ∧ j ≠ jk) :
    (m3 (RI d m J)).2.2 = true ∧ ∃ rest, (m3 (RI d m J)).1 = List.range ((later09 d jk).headD 0) ++ jk :: rest := by
  have hJm : ∀ j ∈ J, j < m ∧ later09 d j ≠ [] := fun j hj => mem_Jall.mp ((hJ j).mp hj).1
  obtain ⟨hkm, hkn⟩ := mem_Jall.mp hk
  obtain ⟨hf1, hf2⟩ := head_spec (inc_later d jk) hkn
  generalize (later09 d jk).headD 0 = f at hf1 hf2 ⊢
  obtain ⟨g1, g2, g3⟩ := mem_later.mp hf1
  have hi := inc_RI (m := m) fun j hj => (hJm j hj).2
  refine ⟨m3_inc hi (RI_lt hJm), ?_⟩
  have hpre := run_prefix hi f fun t ht => cand_next hd (by omega) (fun j hj => (hJm j hj).2) fun r j u hr h => by
    obtain ⟨a, b⟩ := later_of_head h hr
    refine (hJ j).mpr ⟨mem_Jall.mpr ⟨b, fun e => by rw [e] at a; cases a⟩, fun e => ?_⟩
    rw [e] at a
    have := hf2 t a; omega
  have hc : cand beq' (cutR f (RI d m J)) = some jk := by
    obtain ⟨h1, h2⟩ := hd jk hkm
    obtain ⟨r, hr⟩ : ∃ r : Nat, d.getD jk 0 = (r : Int) := ⟨(d.getD jk 0).toNat, by omega⟩
    have hr8 : r < 8 := by omega
    obtain ⟨u, hu⟩ : ∃ u, (rowI d m r).filter (fun x => decide (f ≤ x)) = jk :: u := by
      have hmem : jk ∈ (rowI d m r).filter (fun x => decide (f ≤ x)) := List.mem_filter.mpr ⟨mem_rowI.mpr ⟨hkm, hr⟩, by simp; omega⟩
      cases q : (rowI d m r).filter (fun x => decide (f ≤ x)) with
      | nil => rw [q] at hmem; cases hmem
      | cons j u =>
        obtain ⟨a1, a2, a3, a4⟩ := head_cut q
        have : j = jk := by
          apply Classical.byContradiction
          intro hne
          have hjj : j < jk := by
            rw [q] at hmem
            have hinc : Inc (j :: u) := q ▸ (inc_rowI d m r).sublist List.filter_sublist
            rcases List.mem_cons.mp hmem with e | e
            · exact absurd e.symm hne
            · exact (List.pairwise_cons.mp hinc).1 jk e
          have := (own_spec d jk).1 j hjj (by rw [a2, hr])
          omega
        rw [this]; exact ⟨u, rfl⟩
    refine cand_at (S := (List.range r).map fun r => (rowI d m r).filter fun x => decide (f ≤ x)) (x := jk) (t := u) (T := ((List.range' (r + 1) (8 - r - 1)).map fun r => (rowI d m r).filter fun x => decide (f ≤ x)) ++ cutR f (J.map (pairI d))) ?_ (fun q hq hm => ?_) (fun y v hy => ?_)
    · unfold cutR RI
      rw [List.map_append, List.map_map, range8_split hr8, List.map_append, List.map_cons]
      simp only [Function.comp, hu, List.append_assoc, List.cons_append]
      rfl
    · obtain ⟨q', hq', rfl⟩ := List.mem_map.mp hq
      rcases List.mem_append.mp hq' with h | h
      · obtain ⟨k, _, rfl⟩ := List.mem_map.mp h
        have hk' := mem_rowI.mp (List.mem_filter.mp (List.mem_of_mem_tail hm)).1
        obtain rfl : k = r := by have := hk'.2; rw [hr] at this; omega
        rw [hu] at hm
        have hinc : Inc (jk :: u) := hu ▸ (inc_rowI d m k).sublist List.filter_sublist
        have := (List.pairwise_cons.mp hinc).1 jk hm; omega
      · obtain ⟨j', hj', rfl⟩ := List.mem_map.mp h
        have hne := ((hJ j').mp hj').2
        have hsub : ∀ z ∈ ((pairI d j').filter fun x => decide (f ≤ x)).tail, z = j' := by
          intro z hz
          simp only [pairI, List.filter_cons, List.filter_nil] at hz
          split at hz
          · split at hz
            · simpa using hz
            · cases hz
          · split at hz
            · cases hz
            · cases hz
        exact hne (hsub jk hm).symm
    · obtain ⟨r', hr', e⟩ := List.mem_map.mp hy
      have hlt : (r' : Int) < d.getD f 0 := by have := List.mem_range.mp hr'; omega
      refine blocked e hlt ?_
      obtain ⟨a, b⟩ := later_of_head e hlt
      refine (hJ y).mpr ⟨mem_Jall.mpr ⟨b, fun e => by rw [e] at a; cases a⟩, fun e' => ?_⟩
      have := (head_cut e).2.1
      rw [e', hr] at this
      have := List.mem_range.mp hr'
      omega
  rw [hpre, m3_some hc]
  exact ⟨_, rfl⟩
end
end Mine

namespace Mine

/-- the numbers by their places, and unlike ones beyond -/
def num (o : List Int) (j : Nat) : Int := if j < o.length then o.getD j 0 else maxI (0 :: o) + 1 + j
theorem num_lt {o : List Int} {j : Nat} (h : j < o.length) : num o j = o.getD j 0 := if_pos h
theorem num_inj {o : List Int} (nd : o.Nodup) (x y : Nat) : beq' (num o x) (num o y) = beq' x y := by
  have hmax := (maxI_spec (xs := 0 :: o) (by simp)).2
  have hle : ∀ j, j < o.length → o.getD j 0 ≤ maxI (0 :: o) := fun j hj => hmax _ (.tail _ (getD_mem hj))
  unfold beq'
  rw [decide_eq_decide]
  constructor
  · intro e
    unfold num at e
    split at e <;> split at e
    · rename_i hx hy
      rw [List.getD_eq_getElem?_getD, List.getD_eq_getElem?_getD, List.getElem?_eq_getElem hx, List.getElem?_eq_getElem hy] at e
      apply Classical.byContradiction
      intro hne
      rcases Nat.lt_or_gt_of_ne hne with q | q
      · exact List.pairwise_iff_getElem.mp nd x y hx hy q e
      · exact List.pairwise_iff_getElem.mp nd y x hy hx q e.symm
    · rename_i hx hy; have := hle x hx; omega
    · rename_i hx hy; have := hle y hy; omega
    · omega
  · rintro rfl; rfl
theorem map_num (o : List Int) : (List.range o.length).map (num o) = o := by
  apply List.ext_getElem
  · simp
  · intro i h1 h2
    simp only [List.getElem_map, List.getElem_range]
    rw [num_lt h2, List.getD_eq_getElem?_getD, List.getElem?_eq_getElem h2]; rfl
theorem m3_num {o : List Int} (nd : o.Nodup) (R : List (List Nat)) : m3 (R.map (List.map (num o))) = ((m3 R).1.map (num o), (m3 R).2.1.map (List.map (num o)), (m3 R).2.2) := mg3_map (f := num o) (num_inj nd) R

theorem pairsAt_eq (o d : List Int) : ∀ k, pairsAt o d k = (((List.range k).filter fun j => !(later09 d j).isEmpty).map (fun j => [o.getD ((later09 d j).getLastD 0) 0, o.getD j 0]), ((List.range k).filter fun j => !(later09 d j).isEmpty).map fun j => o.take ((later09 d j).headD 0) ++ [o.getD j 0])
  | 0 => rfl
  | k + 1 => by
    rw [pairsAt_succ, pairsAt_eq o d k, List.range_succ, List.filter_append]
    unfold stepP
    by_cases h : later09 d k = []
    · simp [h]
    · have hb : (!(later09 d k).isEmpty) = true := by simp [h]
      simp only [if_neg h, List.filter_cons, hb, if_true, List.filter_nil, List.map_append, List.map_cons, List.map_nil]

theorem rows_num {o d : List Int} {m : Nat} (hm : o.length = m) : rows09 o d = ((List.range 8).map fun r => rowI d m r).map (List.map (num o)) := by
  unfold rows09
  rw [List.map_map]
  refine List.map_congr_left fun r _ => ?_
  subst hm
  refine List.map_congr_left fun j hj => (num_lt ?_).symm
  exact (mem_rowI.mp hj).1

theorem law09 {o d : List Int} (nd : o.Nodup) (he : d.length = o.length) (hd : ∀ j, j < o.length → 0 ≤ d.getD j 0 ∧ d.getD j 0 < 8) : Law09 o d (pairsAt o d o.length).1 (pairsAt o d o.length).2 := by
  have hP : (pairsAt o d o.length).1 = ((Jall d o.length).map (pairI d)).map (List.map (num o)) := by
    rw [pairsAt_eq, List.map_map]
    refine List.map_congr_left fun j hj => ?_
    obtain ⟨h1, h2⟩ := mem_Jall.mp hj
    have h3 := later_lt (last_spec (inc_later d j) h2).1
    simp only [Function.comp, pairI, List.map_cons, List.map_nil]
    rw [num_lt h1, num_lt (by omega)]
  have hG : (pairsAt o d o.length).2 = (Jall d o.length).map fun j => o.take ((later09 d j).headD 0) ++ [o.getD j 0] := by rw [pairsAt_eq]; rfl
  have hall : rows09 o d ++ (pairsAt o d o.length).1 = (RI d o.length (Jall d o.length)).map (List.map (num o)) := by
    unfold RI; rw [List.map_append, hP, rows_num rfl]
  refine ⟨?_, ?_, fun k hk => ?_⟩
  · rw [hall, m3_num nd, allI hd]
    exact ⟨rfl, map_num o⟩
  · have e : [o.drop 1] ++ rows09 o d ++ [o.take 2] = ([(List.range o.length).drop 1] ++ ((List.range 8).map fun r => rowI d o.length r) ++ [(List.range o.length).take 2]).map (List.map (num o)) := by
      rw [List.map_append, List.map_append, rows_num rfl]
      simp only [List.map_cons, List.map_nil, List.map_drop, List.map_take, map_num]
    rw [e, m3_num nd, twoI hd]
    exact ⟨rfl, map_num o⟩
  · have hkJ : k < (Jall d o.length).length := by rw [hP] at hk; simpa using hk
    have hJnd : (Jall d o.length).Nodup := List.nodup_range.sublist List.filter_sublist
    generalize hjk : (Jall d o.length)[k] = jk
    have hmem : jk ∈ Jall d o.length := hjk ▸ List.getElem_mem hkJ
    have hsplit : Jall d o.length = (Jall d o.length).take k ++ jk :: (Jall d o.length).drop (k + 1) := by
      conv => lhs; rw [← List.take_append_drop k (Jall d o.length), List.drop_eq_getElem_cons hkJ, hjk]
    have hJ' : ∀ j, j ∈ (Jall d o.length).take k ++ (Jall d o.length).drop (k + 1) ↔ j ∈ Jall d o.length ∧ j ≠ jk := by
      intro j
      have nd' := hJnd
      rw [hsplit] at nd'
      obtain ⟨n1, n2, n3⟩ := List.nodup_append.mp nd'
      obtain ⟨n4, n5⟩ := List.nodup_cons.mp n2
      constructor
      · intro h
        rcases List.mem_append.mp h with h | h
        · exact ⟨List.mem_of_mem_take h, fun e => n3 j h jk (.head _) e⟩
        · exact ⟨List.mem_of_mem_drop h, fun e => n4 (e ▸ h)⟩
      · rintro ⟨h, hne⟩
        rw [hsplit] at h
        rcases List.mem_append.mp h with h | h
        · exact List.mem_append.mpr (.inl h)
        · rcases List.mem_cons.mp h with h | h
          · exact absurd h hne
          · exact List.mem_append.mpr (.inr h)
    have e : rows09 o d ++ (pairsAt o d o.length).1.take k ++ (pairsAt o d o.length).1.drop (k + 1) = (RI d o.length ((Jall d o.length).take k ++ (Jall d o.length).drop (k + 1))).map (List.map (num o)) := by
      unfold RI
      rw [hP, rows_num rfl, List.append_assoc, List.map_append, List.map_append, List.map_append, ← List.map_take, ← List.map_take, ← List.map_drop, ← List.map_drop]
    obtain ⟨hok, rest, hrest⟩ := lessI hd hmem hJ'
    obtain ⟨hkm, hkn⟩ := mem_Jall.mp hmem
    have hf := later_lt (head_spec (inc_later d jk) hkn).1
    have hGk : (pairsAt o d o.length).2.getD k [] = o.take ((later09 d jk).headD 0) ++ [o.getD jk 0] := by
      rw [hG, List.getD_eq_getElem?_getD, List.getElem?_map, List.getElem?_eq_getElem hkJ, hjk]; rfl
    rw [e, m3_num nd]
    refine ⟨hok, ?_⟩
    rw [hGk, hrest]
    generalize (later09 d jk).headD 0 = f at hf ⊢
    simp only [List.map_append, List.map_cons]
    have h1 : (List.range f).map (num o) = o.take f := by
      have := congrArg (List.take f) (map_num o)
      rw [← List.map_take, List.take_range, Nat.min_eq_left (by omega)] at this
      exact this
    rw [h1, num_lt hkm]
    have h2 : (o.take f ++ [o.getD jk 0]).length = (o.take f).length + 1 := by simp
    rw [h2, List.take_append, List.take_of_length_le (Nat.le_succ _)]
    simp

theorem deal_ok (l : List Int) (q : List Int × List Int) (h1 : q.1.Nodup) (h2 : ∀ x ∈ q.2, 0 ≤ x ∧ x < 8) : (l.foldl deal q).1.Nodup ∧ ∀ x ∈ (l.foldl deal q).2, 0 ≤ x ∧ x < 8 := by
  induction l generalizing q with
  | nil => exact ⟨h1, h2⟩
  | cons x l ih =>
    rw [List.foldl_cons]
    refine ih _ ?_ ?_
    · unfold deal
      split
      · exact h1
      · rename_i hc
        exact nodup_append h1 (by simp) fun a ha hb => by rw [List.mem_singleton.mp hb] at ha; exact hc (by simpa using ha)
    · unfold deal
      split
      · exact h2
      · intro y hy
        rcases List.mem_append.mp hy with h | h
        · exact h2 y h
        · rw [List.mem_singleton.mp h]; exact ⟨Int.emod_nonneg _ (by decide), Int.emod_lt_of_pos _ (by decide)⟩
theorem law09_xs (xs : List Int) : Law09 (dealAt xs xs.length).1 (dealAt xs xs.length).2 (pairsAt (dealAt xs xs.length).1 (dealAt xs xs.length).2 (dealAt xs xs.length).1.length).1 (pairsAt (dealAt xs xs.length).1 (dealAt xs xs.length).2 (dealAt xs xs.length).1.length).2 := by
  have he : (dealAt xs xs.length).1.length = (dealAt xs xs.length).2.length := deal_len_eq _ _ rfl
  obtain ⟨h1, h2⟩ := deal_ok (xs.take xs.length) ([], []) .nil nofun
  refine law09 h1 he.symm fun j hj => ?_
  have hj' : j < (dealAt xs xs.length).2.length := by omega
  exact h2 _ (getD_mem hj')
end Mine

set_option maxHeartbeats 8000000
namespace Mine
open_top hd for PySem.Challenge.rw_dn0018_09
end Mine
theorem PySem.Challenge.cw_dn0018_09_holds : PySem.Challenge.rw_dn0018_09.Holds := by
  refine Mine.hd ?_
  k_fill
  intro w s₀ s₁ mg mb G Y fa o pm cd doc dV kV ho hd hcd hD hmg hg args vals as hpre hlay hrd hwl hlo
  refine Ground.open G ?_
  intro T B D TE TW
  wrow_args hpre hlay hrd hwl hlo
  rename_i xs _ _ _ _ _ _ _ l vs _ hl _ hw _ hi _ hlen _
  first | refine callC_kw (enter_call ?_) | refine enter_call ?_
  obtain ⟨fa', o', pm', cd', doc', hn', ho', hd', hc'⟩ := T.fn Mine.lawRec (by exact List.mem_cons_of_mem _ (List.mem_cons_self))
  obtain ⟨fb, ob, pmb, cdb, docb, hnb, hob, hdb, hcb⟩ := T.fn Mine.c3Rec (by exact List.mem_cons_self)
  obtain rfl : fa' = fa := by
    have : mg Mine.lawRec.name = some (.ref fa) := hmg
    rw [this] at hn'; cases hn'; rfl
  have hlen' : xs.length ≤ 63 := by omega
  have ok : (⟨PySem.Challenge.rw_dn0018_09.row.prog, w, s₁.heap, mg, mb⟩ : Mine.Cx).Ok s₁.heap := ⟨T.g, T.b, T.nolimit, .refl _⟩
  refine Mine.law_top (K := ⟨_, w, s₁.heap, mg, mb⟩) (d := Mine.lawRec) (n := 5) (xs := xs) (by decide) rfl ⟨T.g, T.b, T.nolimit, .refl _⟩ ⟨hn', ho', hd', hc'⟩ (Mine.TopOk.of (by decide)) (fun v => by rfl) (Mine.rd_script hw hl hi)
    (Mine.law09_body (Mine.BG.of T _ w fun x hx => ?_) ⟨hnb, hob, hdb, hcb⟩ hlen' (Mine.law09_xs xs)) (fun h' tk x => ?_)
  · refine T.free x ?_ ?_ ?_ ?_ ?_ <;> (revert x hx; decide +kernel)
  · exact GoodW.toG ⟨.inl ⟨_, .bool true, [], rfl, fun _ => rfl, .bool true, postW_of (by wrow_shape) (by wtm_val) (by first | rfl | (str_meet; first | done | w_fin)), fun _ => ⟨.nil, nofun⟩⟩, x, rfl, hg⟩
