import PyProof.Rows.All
import Wide.All
import OpenK.AllK
import Wide.FinOn
import PySem.Challenge.RW_dn0018_05
open PySem PySem.W PyProof.Rows
set_option Elab.async false
set_option maxRecDepth 100000
set_option linter.all false

namespace Mine

/-! ### a set's table: its places rise -/
def Up (xs : Array Nat) : Prop := ∀ i k, i < k → k < xs.size → xs.getD i 0 < xs.getD k 0
end Mine

namespace Mine

/-! ### the search for a place reaches every place -/
def Size (m : Nat) : Prop := m = 7 ∨ m = 31 ∨ m = 127
end Mine

namespace Mine

/-! ### a table laid anew -/
end Mine

namespace Mine

/-- what is kept of a set's table while a number is laid in -/
structure Tm (t : SetTable) (led : Bool) (n : Nat) : Prop where
  led : t.led = led
  up : Up t.place
  plain : t.plain = true
  dum : t.dummies = #[]
  size : t.place.size = n
  mask : Size t.mask
  le : n ≤ t.mask
/-- what is kept of a set's table -/
structure Tb (t : SetTable) (led : Bool) (n : Nat) : Prop extends Tm t led n where
  room : n * 5 < t.mask * 3

end Mine

namespace Mine

def byText (w : World) : Bool := w.params.followText "set-order"
/-- a set of numbers whose table is in order -/
def SetX (prog : Program) (w : World) (h : Heap) (a : Addr) (S : Int → Bool) (n : Nat) : Prop :=
  ∃ o es ep t, h.get? a = some o ∧ o.ExactSet ∧ o.data = .set es ep t ∧ ElemsOf (intKind prog w) es.toList ∧ (∀ k, S k = true ↔ ∃ e ∈ es.toList, (intKind prog w).is k e.2 = true) ∧ es.size < scanBound ∧ t.fits es.size = true ∧ es.size = n ∧ Tb t (!byText w) n

section
variable {prog : Program} {w : World} {A : Around} {E : Value → Shared → Prop} {s : Shared}

end
end Mine

namespace Mine

section
variable {prog : Program} {w : World} {A : Around} {E : Value → Shared → Prop} {s : Shared}

end
end Mine

namespace Mine

section
variable {prog : Program} {w : World} {A : Around} {E : Value → Shared → Prop} {s : Shared}

end
end Mine

namespace Mine

def Ext (h h' : Heap) : Prop := ∀ b o, h.get? b = some o → h'.get? b = some o
theorem Ext.refl (h : Heap) : Ext h h := fun _ _ e => e
theorem Ext.trans {h₁ h₂ h₃ : Heap} (a : Ext h₁ h₂) (b : Ext h₂ h₃) : Ext h₁ h₃ := fun x o e => b x o (a x o e)
theorem Ext.push (h : Heap) (o : Obj) : Ext h (h.push o) := fun _ _ e => Heap.get?_push_of_some _ e
theorem Ext.none {h h' : Heap} {a : Addr} (x : Ext h h') (e : h'.get? a = none) : h.get? a = none := by
  cases q : h.get? a with
  | none => rfl
  | some o => rw [x a o q] at e; cases e
theorem push_new (h : Heap) : h.get? h.objs.size = none := by
  cases q : h.get? h.objs.size with
  | none => rfl
  | some o => exact absurd (Heap.lt_size q) (Nat.lt_irrefl _)

mutual
inductive Rd (h : Heap) : Value → PyData → List Addr → Prop
  | none : Rd h .none .none []
  | bool (b) : Rd h (.bool b) (.bool b) []
  | int (i t) : Rd h (.int i t) (.int i) []
  | str (x t) : Rd h (.str x t) (.str x) []
  | list {a : Addr} {vs : List Value} {n : Nat} {ds as} : h.get? a = some { cls := .type "list", data := .seq vs.toArray n } → RdAll h vs ds as → Rd h (.ref a) (.list ds) (a :: as)
  | tuple {a : Addr} {vs : List Value} {n : Nat} {ds as} : h.get? a = some { cls := .type "tuple", data := .seq vs.toArray n } → RdAll h vs ds as → Rd h (.ref a) (.tuple ds) as
inductive RdAll (h : Heap) : List Value → List PyData → List Addr → Prop
  | nil : RdAll h [] [] []
  | cons {v vs d ds as bs} : Rd h v d as → RdAll h vs ds bs → RdAll h (v :: vs) (d :: ds) (as ++ bs)
end

mutual
theorem Rd.reads {h : Heap} : ∀ {v d as}, Rd h v d as → Reads h v d as
  | _, _, _, .none => .none
  | _, _, _, .bool b => .bool b
  | _, _, _, .int i t => .int i t
  | _, _, _, .str x t => .str x t
  | _, _, _, .list e r => .list e rfl rfl (by simpa using r.reads)
  | _, _, _, .tuple e r => .tuple e rfl rfl (by simpa using r.reads)
theorem RdAll.reads {h : Heap} : ∀ {vs ds as}, RdAll h vs ds as → ReadsAll h vs ds as
  | _, _, _, .nil => .nil
  | _, _, _, .cons a b => .cons a.reads b.reads
end

/-- a change of the heap that a value read off `as` does not see -/
def Off (h h' : Heap) (as : List Addr) : Prop :=
  (∀ b ∈ as, ∀ o, h.get? b = some o → h'.get? b = some o) ∧ ∀ b xs n, h.get? b = some { cls := .type "tuple", data := .seq xs n } → h'.get? b = some { cls := .type "tuple", data := .seq xs n }
theorem Ext.off {h h' : Heap} (x : Ext h h') (as : List Addr) : Off h h' as := ⟨fun b _ o e => x b o e, fun b _ _ e => x b _ e⟩
theorem Off.mono {h h' : Heap} {as bs : List Addr} (x : Off h h' as) (s : ∀ b ∈ bs, b ∈ as) : Off h h' bs := ⟨fun b hb => x.1 b (s b hb), x.2⟩

mutual
theorem Rd.off {h h' : Heap} : ∀ {v d as}, Rd h v d as → Off h h' as → Rd h' v d as
  | _, _, _, .none, _ => .none
  | _, _, _, .bool b, _ => .bool b
  | _, _, _, .int i t, _ => .int i t
  | _, _, _, .str x t, _ => .str x t
  | _, _, _, .list e r, k => .list (k.1 _ (.head _) _ e) (r.off (k.mono fun _ hb => .tail _ hb))
  | _, _, _, .tuple e r, k => .tuple (k.2 _ _ _ e) (r.off k)
theorem RdAll.off {h h' : Heap} : ∀ {vs ds as}, RdAll h vs ds as → Off h h' as → RdAll h' vs ds as
  | _, _, _, .nil, _ => .nil
  | _, _, _, .cons a b, k => .cons (a.off (k.mono fun _ hb => List.mem_append_left _ hb)) (b.off (k.mono fun _ hb => List.mem_append_right _ hb))
end
theorem Rd.ext {h h' : Heap} {v d as} (r : Rd h v d as) (x : Ext h h') : Rd h' v d as := r.off (x.off as)
theorem RdAll.ext {h h' : Heap} {v d as} (r : RdAll h v d as) (x : Ext h h') : RdAll h' v d as := r.off (x.off as)

mutual
theorem Rd.dom {h : Heap} : ∀ {v d as}, Rd h v d as → ∀ a ∈ as, ∃ o, h.get? a = some o
  | _, _, _, .none, _, ha => by cases ha
  | _, _, _, .bool b, _, ha => by cases ha
  | _, _, _, .int i t, _, ha => by cases ha
  | _, _, _, .str x t, _, ha => by cases ha
  | _, _, _, .list e r, a, ha => by
    rcases List.mem_cons.mp ha with rfl | ha
    · exact ⟨_, e⟩
    · exact r.dom a ha
  | _, _, _, .tuple e r, a, ha => r.dom a ha
theorem RdAll.dom {h : Heap} : ∀ {vs ds as}, RdAll h vs ds as → ∀ a ∈ as, ∃ o, h.get? a = some o
  | _, _, _, .nil, _, ha => by cases ha
  | _, _, _, .cons x y, a, ha => by
    rcases List.mem_append.mp ha with ha | ha
    · exact x.dom a ha
    · exact y.dom a ha
end

theorem RdAll.length {h : Heap} : ∀ {vs ds as}, RdAll h vs ds as → vs.length = ds.length
  | _, _, _, .nil => rfl
  | _, _, _, .cons _ b => by simp [b.length]

theorem RdAll.append {h : Heap} : ∀ {vs ds as ws es bs}, RdAll h vs ds as → RdAll h ws es bs → RdAll h (vs ++ ws) (ds ++ es) (as ++ bs)
  | _, _, _, _, _, _, .nil, k => k
  | _, _, _, _, _, _, .cons a b, k => by rw [List.append_assoc]; exact .cons a (b.append k)

theorem RdAll.one {h : Heap} {v d as} (r : Rd h v d as) : RdAll h [v] [d] as := by simpa using RdAll.cons r .nil

theorem RdAll.get {h : Heap} : ∀ {vs ds as}, RdAll h vs ds as → ∀ {i : Nat} {v}, vs[i]? = some v → ∃ d bs, ds[i]? = some d ∧ Rd h v d bs ∧ ∀ b ∈ bs, b ∈ as
  | _, _, _, .nil, i, v, e => by simp at e
  | _, _, _, .cons a b, 0, v, e => by simp at e; subst e; exact ⟨_, _, rfl, a, fun b hb => List.mem_append_left _ hb⟩
  | _, _, _, .cons a b, i + 1, v, e => by
    obtain ⟨d, bs, h1, h2, h3⟩ := b.get (i := i) (v := v) (by simpa using e)
    exact ⟨d, bs, by simpa using h1, h2, fun b hb => List.mem_append_right _ (h3 b hb)⟩

theorem RdAll.get' {h : Heap} {vs ds as} (r : RdAll h vs ds as) {i : Nat} {d} (e : ds[i]? = some d) : ∃ v bs, vs[i]? = some v ∧ Rd h v d bs ∧ ∀ b ∈ bs, b ∈ as := by
  have hi : i < vs.length := by rw [r.length]; exact (List.getElem?_eq_some_iff.mp e).1
  obtain ⟨d', bs, h1, h2, h3⟩ := r.get (i := i) (v := vs[i]) (by simp [hi])
  rw [e] at h1; cases h1
  exact ⟨vs[i], bs, by simp [hi], h2, h3⟩

/-- data that holds no list -/
def Flat : PyData → Prop
  | .none | .bool _ | .int _ | .str _ => True
  | _ => False
theorem Rd.flat {h : Heap} {v d as} (r : Rd h v d as) (f : Flat d) : as = [] := by cases r <;> first | rfl | cases f

def iL (xs : List Int) : PyData := .list (xs.map .int)
theorem RdAll.iL_nil {h : Heap} : ∀ {vs : List Value} {xs : List Int} {as}, RdAll h vs (xs.map .int) as → as = []
  | [], [], _, .nil => rfl
  | _ :: _, _ :: _, _, .cons a b => by rw [a.flat trivial, b.iL_nil]; rfl
theorem RdAll.intsAre {h : Heap} : ∀ {vs : List Value} {xs : List Int} {as}, RdAll h vs (xs.map .int) as → IntsAre vs xs
  | [], [], _, .nil => .nil
  | _ :: _, _ :: _, _, .cons a b => by cases a; exact .cons _ _ b.intsAre

/-! ### the frame -/
def VarAt (h : Heap) (env : Env) (x : Str) (v : Value) : Prop :=
  (env.kindOf x = some .local ∧ ∃ m, h.Ns env.locals m ∧ m x = some v) ∨
  ((env.kindOf x = some .cell ∨ env.kindOf x = some .free) ∧ ∃ c, env.cells.lookup x = some c ∧ h.IsCell c (some v))

theorem VarAt.ext {h h' : Heap} {env : Env} {x : Str} {v : Value} (r : VarAt h env x v) (e : Ext h h') : VarAt h' env x v := by
  rcases r with ⟨k, m, hn, hm⟩ | ⟨k, c, hc, hv⟩
  · exact .inl ⟨k, m, hn.keeps e, hm⟩
  · exact .inr ⟨k, c, hc, hv.keeps e⟩

def FrameAddr (env : Env) (a : Addr) : Prop := a = env.locals ∨ ∃ n, env.cells.lookup n = some a

structure EnvOk (env : Env) : Prop where
  kind : env.scope.kind = .function
  globals : env.globals = mainGlobals
  builtins : env.builtins = builtinsNs
  apart : env.cells.Pairwise fun x y => x.2 ≠ y.2
  all : ∀ n, (env.kindOf n = some .cell ∨ env.kindOf n = some .free) → ∃ c, env.cells.lookup n = some c

/-- the frame's own objects: the names' dict and the cells -/
structure FrameOk (h : Heap) (env : Env) : Prop where
  ns : ∃ m, h.Ns env.locals m
  cells : ∀ n c, env.cells.lookup n = some c → ∃ v, h.IsCell c v

theorem FrameOk.ext {h h' : Heap} {env : Env} (F : FrameOk h env) (e : Ext h h') : FrameOk h' env :=
  ⟨let ⟨m, hn⟩ := F.ns; ⟨m, hn.keeps e⟩, fun n c hc => let ⟨v, hv⟩ := F.cells n c hc; ⟨v, hv.keeps e⟩⟩

/-- an object that holds no items -/
def NoSeq (h : Heap) (a : Addr) : Prop := ∃ o, h.get? a = some o ∧ ∀ xs n, o.data ≠ .seq xs n
theorem FrameOk.noSeq {h : Heap} {env : Env} (F : FrameOk h env) {a : Addr} (x : FrameAddr env a) : NoSeq h a := by
  rcases x with rfl | ⟨n, hc⟩
  · obtain ⟨m, o, es, ep, ho, hd, _⟩ := F.ns; exact ⟨o, ho, fun _ _ q => by rw [hd] at q; cases q⟩
  · obtain ⟨v, o, ho, hd⟩ := F.cells n a hc; exact ⟨o, ho, fun _ _ q => by rw [hd] at q; cases q⟩
end Mine

namespace Mine

/-- a statement that is not unfolded by itself -/
structure Hide (p : Prop) : Prop where
  run : p

structure Cx where
  prog : Program
  w : World
  h₀ : Heap
  mg : Str → Option Value
  mb : Str → Option Value

structure Cx.Ok (K : Cx) (h : Heap) : Prop where
  g : K.h₀.Ns mainGlobals K.mg
  b : K.h₀.Ns builtinsNs K.mb
  lim : K.h₀.NoLimit
  ext : Ext K.h₀ h
theorem Cx.Ok.mono {K : Cx} {h h' : Heap} (o : K.Ok h) (e : Ext h h') : K.Ok h' := ⟨o.g, o.b, o.lim, o.ext.trans e⟩

structure Room (A : Around) (n : Nat) : Prop where
  quiet : A.handled = none
  depth : A.depth + n < recursionLimit
  units : A.units + 8 * n + 200 < cLine

inductive D where
  | py (d : PyData)
  | set (xs : List Int)
  | dict (kvs : List (Int × PyData))

def RdD (K : Cx) (h : Heap) (v : Value) : D → List Addr → Prop
  | .py d, as => Rd h v d as
  | .set xs, as => ∃ a, v = .ref a ∧ as = [a] ∧ xs.Nodup ∧ SetX K.prog K.w h a (fun k => decide (k ∈ xs)) xs.length
  | .dict kvs, as => ∃ a vs as', v = .ref a ∧ as = a :: as' ∧ (a == sysModules) = false ∧ vs.length = kvs.length ∧
      h.DictOf (intKind K.prog K.w) a ((kvs.map (·.1)).zip vs) ∧ RdAll h vs (kvs.map (·.2)) as'

theorem RdD.off {K : Cx} {h h' : Heap} {v : Value} {d : D} {as : List Addr} (r : RdD K h v d as) (k : Off h h' as) : RdD K h' v d as := by
  cases d with
  | py d => exact Rd.off r k
  | set xs =>
    obtain ⟨a, rfl, rfl, hn, o, es, ep, t, ho, r⟩ := r
    exact ⟨a, rfl, rfl, hn, o, es, ep, t, k.1 a (.head _) o ho, r⟩
  | dict kvs =>
    obtain ⟨a, vs, as', rfl, rfl, hs, hl, hd, hr⟩ := r
    refine ⟨a, vs, as', rfl, rfl, hs, hl, ?_, hr.off (k.mono fun _ hb => .tail _ hb)⟩
    obtain ⟨o, es, ep, ho, r⟩ := hd
    exact ⟨o, es, ep, k.1 a (.head _) o ho, r⟩
theorem RdD.ext {K : Cx} {h h' : Heap} {v : Value} {d : D} {as : List Addr} (r : RdD K h v d as) (x : Ext h h') : RdD K h' v d as := r.off (x.off as)
theorem RdD.dom {K : Cx} {h : Heap} {v : Value} {d : D} {as : List Addr} (r : RdD K h v d as) : ∀ a ∈ as, ∃ o, h.get? a = some o := by
  cases d with
  | py d => exact Rd.dom r
  | set xs =>
    obtain ⟨a, rfl, rfl, hn, o, es, ep, t, ho, r⟩ := r
    intro b hb; rw [List.mem_singleton.mp hb]; exact ⟨_, ho⟩
  | dict kvs =>
    obtain ⟨a, vs, as', rfl, rfl, hs, hl, ⟨o, es, ep, ho, _⟩, hr⟩ := r
    intro b hb
    rcases List.mem_cons.mp hb with rfl | hb
    · exact ⟨_, ho⟩
    · exact hr.dom b hb

structure In (K : Cx) (n : Nat) (sc : Scope) (X : Addr → Prop) (ρ : List (Str × D)) (A : Around) (env : Env) (h : Heap) : Prop where
  room : Room A n
  ok : K.Ok h
  hsc : env.scope = sc
  henv : EnvOk env
  frame : FrameOk h env
  dom : ∀ a, X a → ∃ o, h.get? a = some o
  vars : ∀ x d, ρ.lookup x = some d → ∃ v as, VarAt h env x v ∧ RdD K h v d as ∧ ∀ a ∈ as, ¬ X a

theorem In.ext {K n sc X ρ A env h h'} (I : In K n sc X ρ A env h) (e : Ext h h') : In K n sc X ρ A env h' :=
  ⟨I.room, I.ok.mono e, I.hsc, I.henv, I.frame.ext e, fun a ha => let ⟨o, ho⟩ := I.dom a ha; ⟨o, e a o ho⟩,
    fun x d hx => let ⟨v, as, h1, h2, h3⟩ := I.vars x d hx; ⟨v, as, h1.ext e, h2.ext e, h3⟩⟩

/-- what is so when a tree has come to a value that reads as `d`: the heap has only grown -/
structure Got (K : Cx) (h : Heap) (X : Addr → Prop) (d : D) (fr : Bool) (v : Value) (h' : Heap) (as : List Addr) : Prop where
  ext : Ext h h'
  rd : RdD K h' v d as
  off : ∀ a ∈ as, ¬ X a
  new : fr = true → as.Nodup ∧ ∀ a ∈ as, h.get? a = none

def Post (K : Cx) (s : Shared) (X : Addr → Prop) (d : D) (fr : Bool) (v : Value) (s' : Shared) : Prop :=
  ∃ h' tk as, s' = { s with heap := h', toks := tk } ∧ Got K s.heap X d fr v h' as

def Ev (K : Cx) (n : Nat) (sc : Scope) (ρ : List (Str × D)) (e : Expr) (d : D) (fr : Bool) : Prop := Hide <|
  ∀ {A : Around} {env : Env} {s : Shared} {X : Addr → Prop} {E : Value → Shared → Prop}, In K n sc X ρ A env s.heap →
    wpAny (model K.prog K.w) A (eval e env) (Post K s X d fr) E s

/-- a test comes out as b -/
def Tr (K : Cx) (n : Nat) (sc : Scope) (ρ : List (Str × D)) (e : Expr) (b : Bool) : Prop := Hide <|
  ∀ {A : Around} {env : Env} {s : Shared} {X : Addr → Prop} {E : Value → Shared → Prop}, In K n sc X ρ A env s.heap →
    wpAny (model K.prog K.w) A (isTrue e env (eval e env)) (fun b' s' => b' = b ∧ ∃ h' tk, s' = { s with heap := h', toks := tk } ∧ Ext s.heap h') E s

theorem Ev.cast {K n sc ρ e d d' fr} (h : Ev K n sc ρ e d fr) (q : d = d') : Ev K n sc ρ e d' fr := q ▸ h
theorem Ev.weak {K n sc ρ e d fr} (h : Ev K n sc ρ e d fr) : Ev K n sc ρ e d false := Hide.mk fun I =>
  wpAny_mono (h.run I) (fun _ _ ⟨h', tk, as, e, g⟩ => ⟨h', tk, as, e, g.ext, g.rd, g.off, nofun⟩) fun _ _ x => x
theorem Tr.cast {K n sc ρ e b b'} (h : Tr K n sc ρ e b) (q : b = b') : Tr K n sc ρ e b' := q ▸ h

/-- a tree that comes to plain data: no heap object is named -/
theorem Got.flat {K : Cx} {h h' : Heap} {X : Addr → Prop} {d : PyData} {fr : Bool} {v : Value} (e : Ext h h') (r : Rd h' v d []) : Got K h X (.py d) fr v h' [] :=
  ⟨e, r, nofun, fun _ => ⟨.nil, nofun⟩⟩

theorem shared_eta (s : Shared) : s = { s with heap := s.heap, toks := s.toks } := by cases s; rfl

theorem Post.flat {K : Cx} {s : Shared} {X : Addr → Prop} {d : PyData} {fr : Bool} {v : Value} {h' : Heap} {tk : Nat} (e : Ext s.heap h') (r : Rd h' v d []) : Post K s X (.py d) fr v { s with heap := h', toks := tk } :=
  ⟨h', tk, [], rfl, .flat e r⟩
theorem Post.flat0 {K : Cx} {s : Shared} {X : Addr → Prop} {d : PyData} {fr : Bool} {v : Value} (r : Rd s.heap v d []) : Post K s X (.py d) fr v s := by
  rw [shared_eta s] at r ⊢; exact .flat (.refl _) r

/-! ### names and constants -/
theorem loadName_at {M : Model} {A : Around} {E : Value → Shared → Prop} {s : Shared} {env : Env} {x : Str} {v : Value} {Q : Value → Shared → Prop}
    (k : EnvOk env) (r : VarAt s.heap env x v) (h : Q v s) (hx : (x == ("__classdict__" : Str)) = false) : wpAny M A (loadName env x) Q E s := by
  rcases r with ⟨hl, m, hn, hm⟩ | ⟨hl | hl, c, hc, hv⟩
  · exact wpAny_loadName_local k.kind hl hn hm h
  · exact wpAny_loadName_cell k.kind hl hc hv h
  · exact wpAny_loadName_free k.kind hl hc hv h hx

theorem Ev.name {K n sc ρ} {x : Str} {pos : Pos} {d : D} (hx : ρ.lookup x = some d) (hd : (x == ("__debug__" : Str)) = false := by decide) (hc : (x == ("__classdict__" : Str)) = false := by decide) :
    Ev K n sc ρ (.Name x pos) d false := Hide.mk fun {A env s X E} I => by
  obtain ⟨v, as, h1, h2, h3⟩ := I.vars x d hx
  refine wpAny_Name (loadName_at I.henv h1 ?_ hc) hd
  exact ⟨s.heap, s.toks, as, shared_eta s, .refl _, h2, h3, nofun⟩
theorem Ev.nameFlat {K n sc ρ} {x : Str} {pos : Pos} {d : PyData} (hx : ρ.lookup x = some (.py d)) (f : Flat d) (hd : (x == ("__debug__" : Str)) = false := by decide) (hc : (x == ("__classdict__" : Str)) = false := by decide) :
    Ev K n sc ρ (.Name x pos) (.py d) true := Hide.mk fun {A env s X E} I => by
  obtain ⟨v, as, h1, h2, h3⟩ := I.vars x _ hx
  refine wpAny_Name (loadName_at I.henv h1 ?_ hc) hd
  obtain rfl := Rd.flat h2 f
  exact .flat0 h2

theorem Ev.cInt {K n sc ρ} {i : Int} {k : Nat} {pos : Pos} : Ev K n sc ρ (.Constant (.int i) k pos) (.py (.int i)) true :=
  Hide.mk fun {A env s X E} _ => wpAny_Constant_int (Post.flat (.refl _) (.int ..))
theorem Ev.cBool {K n sc ρ} {b : Bool} {k : Nat} {pos : Pos} : Ev K n sc ρ (.Constant (.bool b) k pos) (.py (.bool b)) true :=
  Hide.mk fun {A env s X E} _ => wpAny_pure (Post.flat0 (.bool b))
theorem Ev.cNone {K n sc ρ} {k : Nat} {pos : Pos} : Ev K n sc ρ (.Constant .none k pos) (.py .none) true :=
  Hide.mk fun {A env s X E} _ => wpAny_pure (Post.flat0 .none)
/-! ### two trees one behind the other -/
theorem Ev.then {K n sc ρ} {a b : Expr} {da db : D} {fa fb : Bool} {A : Around} {env : Env} {s : Shared} {X : Addr → Prop} {E : Value → Shared → Prop} {Q : Value → Value → Shared → Prop}
    (ha : Ev K n sc ρ a da fa) (hb : Ev K n sc ρ b db fb) (I : In K n sc X ρ A env s.heap)
    (k : ∀ va vb h₁ h₂ tk as bs, Got K s.heap X da fa va h₁ as → Got K h₁ X db fb vb h₂ bs → Q va vb { s with heap := h₂, toks := tk }) :
    wpAny (model K.prog K.w) A (eval a env) (fun va s₁ => wpAny (model K.prog K.w) A (eval b env) (fun vb s₂ => Q va vb s₂) E s₁) E s := by
  refine wpAny_mono (ha.run I) (fun va s₁ p => ?_) fun _ _ x => x
  obtain ⟨h₁, tk₁, as, rfl, ga⟩ := p
  refine wpAny_mono (hb.run (s := { s with heap := h₁, toks := tk₁ }) (X := X) (I.ext ga.ext)) (fun vb s₂ p => ?_) fun _ _ x => x
  obtain ⟨h₂, tk₂, bs, rfl, gb⟩ := p
  exact k va vb h₁ h₂ tk₂ as bs ga gb
end Mine

namespace Mine

def Eff (W : Addr → Prop) (h h' : Heap) : Prop := ∀ b o, ¬ W b → h.get? b = some o → h'.get? b = some o
theorem Eff.refl (W : Addr → Prop) (h : Heap) : Eff W h h := fun _ _ _ e => e
theorem Eff.trans {W : Addr → Prop} {h₁ h₂ h₃ : Heap} (a : Eff W h₁ h₂) (b : Eff W h₂ h₃) : Eff W h₁ h₃ := fun x o hx e => b x o hx (a x o hx e)
theorem Eff.mono {W W' : Addr → Prop} {h h' : Heap} (a : Eff W h h') (s : ∀ b, W b → W' b) : Eff W' h h' := fun x o hx e => a x o (fun w => hx (s x w)) e
theorem Ext.eff {h h' : Heap} (e : Ext h h') (W : Addr → Prop) : Eff W h h' := fun b o _ x => e b o x
theorem Eff.of_sameBut {a : Addr} {h h' : Heap} (x : Heap.SameBut a h h') : Eff (· = a) h h' := fun b o hb e => (x.2 b hb).trans e
theorem Eff.ext {W : Addr → Prop} {b h h' : Heap} (x : Eff W h h') (e : Ext b h) (n : ∀ a, W a → b.get? a = none) : Ext b h' := fun a o ha =>
  x a o (fun w => by rw [n a w] at ha; cases ha) (e a o ha)

def NoTup (h : Heap) (a : Addr) : Prop := ∀ xs n, h.get? a ≠ some { cls := .type "tuple", data := .seq xs n }
theorem Eff.off {W : Addr → Prop} {h h' : Heap} {as : List Addr} (x : Eff W h h') (n : ∀ a ∈ as, ¬ W a) (t : ∀ a, W a → NoTup h a) : Off h h' as :=
  ⟨fun b hb o e => x b o (n b hb) e, fun b xs m e => x b _ (fun w => t b w xs m e) e⟩
theorem NoSeq.noTup {h : Heap} {a : Addr} (x : NoSeq h a) : NoTup h a := fun xs n e => by
  obtain ⟨o, ho, hd⟩ := x; rw [ho] at e; cases e; exact hd _ _ rfl
theorem PlainList.noTup {h : Heap} {a : Addr} {xs} (x : h.PlainList a xs) : NoTup h a := fun ys n e => by
  obtain ⟨m, ho⟩ := x; rw [ho] at e; exact absurd (congrArg Obj.cls (Option.some.inj e)) (show ¬ (Value.type "list" = Value.type "tuple") by decide)
theorem NoTup.of_none {h : Heap} {a : Addr} (x : h.get? a = none) : NoTup h a := fun xs n e => by rw [x] at e; cases e

/-- the address that a store of x changes -/
def StoreAddr (env : Env) (x : Str) (a : Addr) : Prop :=
  (env.kindOf x = some .local ∧ a = env.locals) ∨ (env.kindOf x = some .cell ∧ env.cells.lookup x = some a)
theorem StoreAddr.frame {env : Env} {x : Str} {a : Addr} (s : StoreAddr env x a) : FrameAddr env a := by
  rcases s with ⟨_, rfl⟩ | ⟨_, h⟩
  · exact .inl rfl
  · exact .inr ⟨_, h⟩

theorem ns_ne_cell {h : Heap} {a c : Addr} {m : Str → Option Value} {v : Option Value} (hn : h.Ns a m) (hc : h.IsCell c v) : a ≠ c := by
  rintro rfl
  obtain ⟨o, es, ep, ho, hd, _⟩ := hn
  obtain ⟨o', ho', hd'⟩ := hc
  rw [ho] at ho'; cases ho'; rw [hd] at hd'; cases hd'

structure Stored (env : Env) (x : Str) (v : Value) (h h' : Heap) : Prop where
  frame : FrameOk h' env
  at_ : VarAt h' env x v
  others : ∀ y u, y ≠ x → VarAt h env y u → VarAt h' env y u

theorem store_at {M : Model} {A : Around} {E : Value → Shared → Prop} {s : Shared} {env : Env} {x : Str} {v : Value} {a : Addr} {Q : Unit → Shared → Prop}
    (k : EnvOk env) (F : FrameOk s.heap env) (sa : StoreAddr env x a)
    (h : ∀ h' tk, Heap.SameBut a s.heap h' → Stored env x v s.heap h' → Q () { s with heap := h', toks := tk }) : wpAny M A (storeName env x v) Q E s := by
  obtain ⟨m, hm⟩ := F.ns
  rcases sa with ⟨hl, rfl⟩ | ⟨hl, hc⟩
  · refine wpAny_storeName_local hl hm (fun h' hn hs => h h' _ hs ⟨⟨⟨_, hn⟩, fun n c hc => ?_⟩, .inl ⟨hl, _, hn, by simp⟩, fun y u hy r => ?_⟩) (by rw [k.kind]; rfl)
    · obtain ⟨u, hu⟩ := F.cells n c hc
      exact ⟨u, hu.sameBut hs (ns_ne_cell hm hu).symm⟩
    · rcases r with ⟨hly, m', hn', hm'⟩ | ⟨hly, c, hc, hv⟩
      · refine .inl ⟨hly, _, hn, ?_⟩
        have e : m y = m' y := by
          obtain ⟨o1, es1, ep1, ho1, hd1, _, q1⟩ := hm
          obtain ⟨o2, es2, ep2, ho2, hd2, _, q2⟩ := hn'
          rw [ho1] at ho2; cases ho2
          rw [hd1] at hd2; cases hd2
          rw [← q1 y, ← q2 y]
        show (if y = x then _ else m y) = some u
        rw [if_neg hy, e, hm']
      · exact .inr ⟨hly, c, hc, hv.sameBut hs (ns_ne_cell hm hv).symm⟩
  · obtain ⟨u₀, hu₀⟩ := F.cells x a hc
    refine wpAny_storeName_cell k.kind hl hc hu₀ fun h' hv hs => ?_
    have := h h' s.toks hs ⟨⟨⟨m, hm.sameBut hs (ns_ne_cell hm hu₀)⟩, fun n c hc' => ?_⟩, .inr ⟨.inl hl, a, hc, hv⟩, fun y u hy r => ?_⟩
    · exact this
    · by_cases q : c = a
      · subst q; exact ⟨_, hv⟩
      · obtain ⟨w, hw⟩ := F.cells n c hc'; exact ⟨w, hw.sameBut hs q⟩
    · rcases r with ⟨hly, m', hn', hm'⟩ | ⟨hly, c, hc', hv'⟩
      · exact .inl ⟨hly, m', hn'.sameBut hs (ns_ne_cell hn' hu₀), hm'⟩
      · refine .inr ⟨hly, c, hc', hv'.sameBut hs fun q => hy ?_⟩
        subst q
        exact name_of_addr k.apart (mem_of_lookup hc') (mem_of_lookup hc)

theorem In.stored {K n sc X ρ A env h h' x v d a as} (I : In K n sc X ρ A env h) (F : FrameOk h env) (sa : StoreAddr env x a) (st : Stored env x v h h') (hs : Heap.SameBut a h h')
    (hX : X a) (hK : K.h₀.get? a = none) (rd : RdD K h v d as) (off : ∀ b ∈ as, ¬ X b) : In K n sc X ((x, d) :: ρ) A env h' := by
  have hT : ∀ b, b = a → NoTup h b := fun b q => q ▸ (F.noSeq sa.frame).noTup
  have eff := Eff.of_sameBut hs
  refine ⟨I.room, ⟨I.ok.g, I.ok.b, I.ok.lim, eff.ext I.ok.ext fun b q => q ▸ hK⟩, I.hsc, I.henv, st.frame, fun b hb => ?_, fun y d' hy => ?_⟩
  · by_cases q : b = a
    · subst q; obtain ⟨o, ho, _⟩ := st.frame.noSeq sa.frame; exact ⟨o, ho⟩
    · obtain ⟨o, ho⟩ := I.dom b hb; exact ⟨o, eff b o q ho⟩
  · rw [List.lookup_cons] at hy
    by_cases q : y = x
    · subst q
      simp only [beq_self_eq_true] at hy; cases hy
      exact ⟨v, as, st.at_, rd.off (eff.off (fun b hb q => off b hb (q ▸ hX)) hT), off⟩
    · have : (y == x) = false := by simpa using q
      simp only [this] at hy
      obtain ⟨u, bs, h1, h2, h3⟩ := I.vars y d' hy
      exact ⟨u, bs, st.others y u q h1, h2.off (eff.off (fun b hb q => h3 b hb (q ▸ hX)) hT), h3⟩

/-- forget names -/
theorem In.sub {K n sc X ρ ρ' A env h} (I : In K n sc X ρ A env h) (s : ∀ x d, ρ'.lookup x = some d → ρ.lookup x = some d) : In K n sc X ρ' A env h :=
  ⟨I.room, I.ok, I.hsc, I.henv, I.frame, I.dom, fun x d hx => I.vars x d (s x d hx)⟩
end Mine

namespace Mine

/-! ### things that are gone through one by one -/
def plainIter (h : Heap) (a : Addr) : Prop :=
  ∃ o nm vs, h.get? a = some o ∧ o.cls = .type nm ∧ ["enumerate", "zip", "dict_itemiterator", "dict_reverseitemiterator", "odict_iterator", "itertools.zip_longest", "itertools.pairwise"].contains nm = false ∧ o.data = .fields vs
theorem plainIter.noTup {h : Heap} {a : Addr} (x : plainIter h a) : NoTup h a := fun xs n e => by
  obtain ⟨o, nm, vs, ho, _, _, hd⟩ := x; rw [ho] at e; cases e; cases hd
theorem plainIter.some {h : Heap} {a : Addr} (x : plainIter h a) : ∃ o, h.get? a = some o := let ⟨o, _, _, ho, _⟩ := x; ⟨o, ho⟩
theorem plainIter.not_frame {h : Heap} {a : Addr} {env : Env} (x : plainIter h a) (F : FrameOk h env) : ¬ FrameAddr env a := by
  obtain ⟨o, nm, vs, ho, _, _, hd⟩ := x
  rintro (rfl | ⟨n, hc⟩)
  · obtain ⟨m, o', es, ep, ho', hd', _⟩ := F.ns; rw [ho] at ho'; cases ho'; rw [hd] at hd'; cases hd'
  · obtain ⟨v, o', ho', hd'⟩ := F.cells n a hc; rw [ho] at ho'; cases ho'; rw [hd] at hd'; cases hd'
theorem plainIter.not_list {h : Heap} {a : Addr} {xs} (x : plainIter h a) : ¬ h.PlainList a xs := by
  obtain ⟨o, nm, vs, ho, _, _, hd⟩ := x
  rintro ⟨n, e⟩; rw [ho] at e; cases e; cases hd

structure It (K : Cx) (A : Around) where
  I : Addr
  fp : List Addr
  n : Nat
  P : Nat → Value → Prop
  St : Nat → Heap → Prop
  W : Walks K.prog K.w A I fp [I] n P St
  plain : ∀ i h, St i h → plainIter h I

structure ItAt {K : Cx} {A : Around} (t : It K A) (i : Nat) (b h : Heap) (X : Addr → Prop) (ds : List PyData) : Prop where
  st : t.St i h
  len : t.n = ds.length
  off : ∀ a ∈ t.fp, ¬ X a
  new : b.get? t.I = none
  dom : ∀ a ∈ t.fp, ∃ o, h.get? a = some o
  items : ∀ j v, t.P j v → ∃ d as, ds[j]? = some d ∧ Rd h v d as ∧ ∀ a ∈ as, ¬ X a ∧ a ≠ t.I

/-- the heap changes where neither the thing gone through nor its items lie -/
theorem ItAt.eff {K : Cx} {A : Around} {t : It K A} {i : Nat} {b h h' : Heap} {X W : Addr → Prop} {ds : List PyData} (x : ItAt t i b h X ds) (e : Eff W h h') (sub : ∀ a, W a → X a) (nt : ∀ a, W a → NoTup h a) :
    ItAt t i b h' X ds where
  st := t.W.frame i h h' x.st fun a ha o ho => e a o (fun w => x.off a ha (sub a w)) ho
  len := x.len
  off := x.off
  new := x.new
  dom := fun a ha => let ⟨o, ho⟩ := x.dom a ha; ⟨o, e a o (fun w => x.off a ha (sub a w)) ho⟩
  items := fun j v hv => let ⟨d, as, h1, h2, h3⟩ := x.items j v hv
    ⟨d, as, h1, h2.off (e.off (fun a ha w => (h3 a ha).1 (sub a w)) nt), h3⟩

/-- what a thing's items are -/
def EvIt (K : Cx) (n : Nat) (sc : Scope) (ρ : List (Str × D)) (e : Expr) (ds : List PyData) : Prop := Hide <|
  ∀ {A : Around} {env : Env} {s : Shared} {X : Addr → Prop} {E : Value → Shared → Prop} {Q : Value → Shared → Prop}, In K n sc X ρ A env s.heap →
    (∀ (t : It K A) h' tk, Ext s.heap h' → ItAt t 0 s.heap h' X ds → Q (.ref t.I) { s with heap := h', toks := tk }) →
    wpAny (model K.prog K.w) A (eval e env) (fun x s₁ => wpAny (model K.prog K.w) A (pyIter x) Q E s₁) E s

def listIt (K : Cx) {A : Around} (hh : A.handled = none) (I ax : Addr) (hne : ax ≠ I) (items : Array Value) : It K A where
  I := I
  fp := [I, ax]
  n := items.size
  P := fun i v => items[i]? = some v
  St := fun i h => h.IsListIter I ax i ∧ h.IsList ax items
  W := Walks.list hh I ax hne items
  plain := fun i h st => by
    obtain ⟨⟨o, ho, hc, hd⟩, _⟩ := st
    exact ⟨o, "list_iterator", _, ho, hc, by decide, hd⟩

/-- one item more is taken -/
theorem ItAt.next {K : Cx} {A : Around} {t : It K A} {i : Nat} {b h h' : Heap} {X : Addr → Prop} {ds : List PyData} (x : ItAt t i b h X ds) (st : t.St (i + 1) h') (e : Eff (· = t.I) h h') : ItAt t (i + 1) b h' X ds where
  st := st
  len := x.len
  off := x.off
  new := x.new
  dom := fun a ha => by
    by_cases q : a = t.I
    · subst q; exact (t.plain _ _ st).some
    · let ⟨o, ho⟩ := x.dom a ha; exact ⟨o, e a o q ho⟩
  items := fun j v hv => let ⟨d, as, h1, h2, h3⟩ := x.items j v hv
    ⟨d, as, h1, h2.off (e.off (fun a ha q => (h3 a ha).2 q) fun a ha => ha ▸ (t.plain _ _ x.st).noTup), h3⟩

theorem Ev.iter {K n sc ρ e ds fr} (h : Ev K n sc ρ e (.py (.list ds)) fr) : EvIt K n sc ρ e ds := Hide.mk fun {A env s X E Q} I k => by
  refine wpAny_mono (h.run I) (fun v s₁ p => ?_) fun _ _ x => x
  obtain ⟨h₁, tk, as, rfl, g⟩ := p
  have rd : Rd h₁ v (.list ds) as := g.rd
  cases rd with
  | @list a vs m ds as e r =>
    have hne : a ≠ h₁.objs.size := Nat.ne_of_lt (Heap.lt_size e)
    refine wpAny_pyIter_list (items := vs.toArray) ⟨_, e, rfl, _, rfl⟩ ?_
    refine k (listIt K I.room.quiet h₁.objs.size a hne vs.toArray) _ _ (g.ext.trans (Ext.push _ _)) ⟨?_, ?_, ?_, ?_, ?_, ?_⟩
    · exact ⟨⟨_, Heap.get?_push_size _ rfl, rfl, rfl⟩, ⟨_, Heap.get?_push_of_some _ e, rfl, _, rfl⟩⟩
    · show vs.toArray.size = _; simp [r.length]
    · intro b hb
      rcases List.mem_cons.mp hb with rfl | hb
      · intro hx; obtain ⟨o, ho⟩ := I.dom _ hx; have := g.ext _ _ ho; rw [push_new] at this; cases this
      · rw [List.mem_singleton.mp hb]; exact g.off a (.head _)
    · exact g.ext.none (push_new _)
    · intro b hb
      rcases List.mem_cons.mp hb with rfl | hb
      · exact ⟨_, Heap.get?_push_size _ rfl⟩
      · rw [List.mem_singleton.mp hb]; exact ⟨_, Heap.get?_push_of_some _ e⟩
    · intro j v hv
      have hv' : vs[j]? = some v := by
        have : vs.toArray[j]? = some v := hv
        simpa using this
      obtain ⟨d, bs, h1, h2, h3⟩ := r.get hv'
      refine ⟨d, bs, h1, h2.ext (Ext.push _ _), fun b hb => ⟨g.off b (.tail _ (h3 b hb)), ?_⟩⟩
      intro hm'
      obtain ⟨o, ho⟩ := h2.dom b hb
      have hm' : b = h₁.objs.size := hm'
      rw [hm', push_new] at ho; cases ho
end Mine

namespace Mine

def testsT (ifs : List Expr) (env : Env) : Sem Bool :=
  forIn ifs true fun c r => if r = true then do let ok ← isTrue c env (eval c env); pure (ForInStep.yield ok) else pure (ForInStep.yield r)

/-- what follows behind the clauses ahead of the k-th: a clause more, or the element -/
def BodyWp (M : Model) (A : Around) (elt : Expr) (gens : List Comprehension) (scope : Scope) (pos : Pos) (k : Nat) (acc : Value) (env : Env) (Q : Shared → Prop) (E : Value → Shared → Prop) (s : Shared) : Prop :=
  match gens[k]? with
  | some g => wpAny M A (eval g.iter env) (fun x s₁ => wpAny M A (pyIter x) (fun it s₂ =>
      wpAny M A (runOwn (.compStart (.ListComp elt gens scope pos) k it acc env) env) (fun _ s₃ => Q s₃) E s₂) E s₁) E s
  | none => wpAny M A (eval elt env) (fun x s₁ => wpAny M A (call (.builtin "list.append") [acc, x]) (fun _ s₂ => Q s₂) E s₁) E s

def GensOk (gens : List Comprehension) : Prop := ∀ g ∈ gens, g.is_async = 0 ∧ ∀ env x, foldedSetIterable g.iter env x = pure x

theorem wpAny_compTurn {M : Model} {A : Around} {E : Value → Shared → Prop} {s : Shared} {elt : Expr} {gens : List Comprehension} {scope : Scope} {pos : Pos} {k : Nat} {it acc : Value} {env : Env} {tgt iter : Expr} {ifs : List Expr} {Q : Fin → Shared → Prop}
    (hk : gens[k]? = some ⟨tgt, iter, ifs, 0⟩) (hn : GensOk gens)
    (h : wpAny M A (pyNext it) (fun r s₁ => match r with
      | none => Q (.done .next) s₁
      | some v => wpAny M A (letOwnedTupleGo tgt it v) (fun _ s₁' => wpAny M A (assign tgt env v) (fun _ s₂ => wpAny M A (testsT ifs env) (fun ok s₃ =>
          if ok = true then BodyWp M A elt gens scope pos (k + 1) acc env (fun s₄ => Q (.again (.compLoop (.ListComp elt gens scope pos) k it acc env)) s₄) E s₃
          else Q (.again (.compLoop (.ListComp elt gens scope pos) k it acc env)) s₃) E s₂) E s₁') E s₁) E s) :
    wpAny M A (compTurn (.ListComp elt gens scope pos) k it acc env) Q E s := by
  unfold compTurn
  simp only [hk]
  refine wpAny_bind (wpAny_standAt (wpAny_bind (wpAny_mono h (fun r s₁ h₁ => ?_) fun _ _ x => x)))
  cases r with
  | none => exact wpAny_pure h₁
  | some v =>
    refine wpAny_bind (wpAny_mono h₁ (fun _ s₁' h₁' => wpAny_bind (wpAny_mono h₁' (fun _ s₂ h₂ => wpAny_bind (wpAny_mono h₂ (fun ok s₃ h₃ => ?_) fun _ _ x => x)) fun _ _ x => x)) fun _ _ x => x)
    cases ok with
    | false => exact wpAny_pure h₃
    | true =>
      simp only [if_true] at h₃ ⊢
      unfold BodyWp at h₃
      cases hg : gens[k + 1]? with
      | none =>
        simp only [hg] at h₃ ⊢
        exact wpAny_bind (wpAny_bind (wpAny_mono h₃ (fun x s₄ h₄ => wpAny_bind (wpAny_mono h₄ (fun _ s₅ h₅ => wpAny_pure (wpAny_pure h₅)) fun _ _ x => x)) fun _ _ x => x))
      | some g =>
        simp only [hg] at h₃ ⊢
        obtain ⟨h0, hs⟩ := hn g (List.mem_of_getElem? hg)
        simp only [h0] at h₃ ⊢
        refine wpAny_bind (wpAny_mono h₃ (fun x s₄ h₄ => wpAny_bind (wpAny_standAt ?_)) fun _ _ x => x)
        show wpAny M A (foldedSetIterable g.iter env x >>= fun x => holding [x] (pyIter x) >>= fun it' => runOwn (Code.compStart (elt.ListComp gens scope pos) (k + 1) it' acc env) env >>= fun _ => again (Code.compLoop (elt.ListComp gens scope pos) k it acc env)) Q E s₄
        exact wpAny_bind (wpAny_of_eq (hs env x) (wpAny_bind (wpAny_holding (wpAny_mono h₄ (fun it' s₅ h₅ => wpAny_bind (wpAny_mono h₅ (fun _ s₆ h₆ => wpAny_pure h₆) fun _ _ x => x)) fun _ _ x => x))))

theorem codeAny_compStart {prog : Program} {w : World} {A : Around} {R : Result → Shared → Prop} {s : Shared} {elt : Expr} {gens : List Comprehension} {scope : Scope} {pos : Pos} {k : Nat} {it acc : Value} {env : Env} {g : Comprehension}
    (hk : gens[k]? = some g) (hn : g.is_async = 0)
    (h0 : codeAny (model prog w) A (.compLoop (.ListComp elt gens scope pos) k it acc env) R s)
    (hit : ∀ Q E, Q it s → wpAny (model prog w) A (pyIter it) Q E s) :
    codeAny (model prog w) A (.compStart (.ListComp elt gens scope pos) k it acc env) R s := by
  refine codeAny_of_tree ?_
  show wpAny _ A ((compStart (.ListComp elt gens scope pos) k it acc env).onRaise (fun x => do noteFrame x env; standAt theWindowsPlace)) _ _ s
  refine wpAny_notedAt ?_
  unfold compStart
  simp only [clausesOf, hk, Option.elim_some, hn]
  refine wpAny_bind (wpAny_askSetting (wpAny_ite ?_))
  split
  · first
      | exact wpAny_bind (wpAny_pure (wpAny_pure (And.intro rfl h0)))
      | exact wpAny_pure (And.intro rfl h0)
  · first
      | exact wpAny_bind (wpAny_rule (wpAny_bind (wpAny_standAt (wpAny_bind (hit _ _ (wpAny_pure (And.intro rfl h0)))))))
      | (refine wpAny_bind (wpAny_rule ?_); exact wpAny_bind (wpAny_standAt (wpAny_bind (hit _ _ (wpAny_pure (And.intro rfl h0))))))
end Mine

namespace Mine

theorem FrameOk.at1 {h h' : Heap} {env : Env} {c : Addr} (F : FrameOk h env) (e : Eff (· = c) h h') (nf : ¬ FrameAddr env c) : FrameOk h' env :=
  ⟨let ⟨m, hn⟩ := F.ns; ⟨m, hn.at' fun o ho => e _ o (fun q => nf (q ▸ .inl rfl)) ho⟩,
   fun n c' hc => let ⟨v, o, ho, hd⟩ := F.cells n c' hc; ⟨v, o, e c' o (fun q => nf (q ▸ .inr ⟨n, hc⟩)) ho, hd⟩⟩
/-- the heap changes at one address that no name sees -/
theorem In.at1 {K n sc X ρ A env h h'} {c : Addr} (I : In K n sc X ρ A env h) (e : Eff (· = c) h h') (hc : ∃ o, h'.get? c = some o) (hX : X c) (hK : K.h₀.get? c = none) (nt : NoTup h c) (nf : ¬ FrameAddr env c) : In K n sc X ρ A env h' := by
  have nt' : ∀ a, a = c → NoTup h a := fun a ha => ha ▸ nt
  refine ⟨I.room, ⟨I.ok.g, I.ok.b, I.ok.lim, e.ext I.ok.ext fun a ha => ha ▸ hK⟩, I.hsc, I.henv, I.frame.at1 e nf, fun a ha => ?_, fun x d hx => ?_⟩
  · by_cases q : a = c
    · exact q ▸ hc
    · obtain ⟨o, ho⟩ := I.dom a ha; exact ⟨o, e a o q ho⟩
  · obtain ⟨u, bs, h1, h2, h3⟩ := I.vars x d hx
    refine ⟨u, bs, ?_, h2.off (e.off (fun a ha q => h3 a ha (q ▸ hX)) nt'), h3⟩
    rcases h1 with ⟨hl, m, hn, hm⟩ | ⟨hl, c', hc', hv⟩
    · exact .inl ⟨hl, m, hn.at' fun o ho => e _ o (fun q => nf (q ▸ .inl rfl)) ho, hm⟩
    · obtain ⟨o, ho, hd⟩ := hv
      exact .inr ⟨hl, c', hc', o, e c' o (fun q => nf (q ▸ .inr ⟨_, hc'⟩)) ho, hd⟩
theorem In.drop1 {K n sc X ρ A env h h'} {c : Addr} (I : In K n sc (fun a => X a ∨ a = c) ρ A env h) (e : Eff (· = c) h h') (hX : ¬ X c) (hK : K.h₀.get? c = none) (nt : NoTup h c) (nf : ¬ FrameAddr env c) : In K n sc X ρ A env h' := by
  have nt' : ∀ a, a = c → NoTup h a := fun a ha => ha ▸ nt
  refine ⟨I.room, ⟨I.ok.g, I.ok.b, I.ok.lim, e.ext I.ok.ext fun a ha => ha ▸ hK⟩, I.hsc, I.henv, I.frame.at1 e nf, fun a ha => ?_, fun x d hx => ?_⟩
  · obtain ⟨o, ho⟩ := I.dom a (.inl ha); exact ⟨o, e a o (fun q => hX (q ▸ ha)) ho⟩
  · obtain ⟨u, bs, h1, h2, h3⟩ := I.vars x d hx
    refine ⟨u, bs, ?_, h2.off (e.off (fun a ha q => h3 a ha (.inr q)) nt'), fun a ha q => h3 a ha (.inl q)⟩
    rcases h1 with ⟨hl, m, hn, hm⟩ | ⟨hl, c', hc', hv⟩
    · exact .inl ⟨hl, m, hn.at' fun o ho => e _ o (fun q => nf (q ▸ .inl rfl)) ho, hm⟩
    · obtain ⟨o, ho, hd⟩ := hv
      exact .inr ⟨hl, c', hc', o, e c' o (fun q => nf (q ▸ .inr ⟨_, hc'⟩)) ho, hd⟩
theorem PlainList.not_frame {h : Heap} {a : Addr} {env : Env} {xs} (x : h.PlainList a xs) (F : FrameOk h env) : ¬ FrameAddr env a := by
  obtain ⟨n, ho⟩ := x
  rintro (rfl | ⟨n, hc⟩)
  · obtain ⟨m, o', es, ep, ho', hd', _⟩ := F.ns; rw [ho] at ho'; cases ho'; cases hd'
  · obtain ⟨v, o', ho', hd'⟩ := F.cells n a hc; rw [ho] at ho'; cases ho'; cases hd'
structure FrameIn (K : Cx) (b : Heap) (X : Addr → Prop) (own : List Str) (env : Env) (h : Heap) : Prop where
  frame : FrameOk h env
  base : Ext K.h₀ b
  ownX : ∀ a, b.get? a = none → FrameAddr env a → X a
  has : ∀ x ∈ own, ∃ a, StoreAddr env x a ∧ b.get? a = none
theorem FrameIn.at {K b X own env h h'} (F : FrameIn K b X own env h) (f : FrameOk h' env) : FrameIn K b X own env h' := ⟨f, F.base, F.ownX, F.has⟩
def Wf (b : Heap) (env : Env) (a : Addr) : Prop := b.get? a = none ∧ FrameAddr env a
theorem FrameIn.noTup {K b X own env h} (F : FrameIn K b X own env h) : ∀ a, Wf b env a → NoTup h a := fun a ha => (F.frame.noSeq ha.2).noTup
/-- a target takes a value that reads as d: the map ρ becomes ρ' -/
def Asg (K : Cx) (n : Nat) (sc : Scope) (own : List Str) (tgt : Expr) (d : PyData) (ρ ρ' : List (Str × D)) : Prop := Hide <|
  ∀ {A : Around} {env : Env} {s : Shared} {X : Addr → Prop} {b : Heap} {v : Value} {as : List Addr} {Q : Unit → Shared → Prop} {E : Value → Shared → Prop},
    In K n sc X ρ A env s.heap → FrameIn K b X own env s.heap → Rd s.heap v d as → (∀ a ∈ as, ¬ X a) →
    (∀ h' tk, Eff (Wf b env) s.heap h' → FrameOk h' env → In K n sc X ρ' A env h' → Q () { s with heap := h', toks := tk }) →
    wpAny (model K.prog K.w) A (assign tgt env v) Q E s

theorem Asg.name {K n sc own ρ d} {x : Str} {pos : Pos} (hx : x ∈ own) : Asg K n sc own (.Name x pos) d ρ ((x, .py d) :: ρ) := Hide.mk fun {A env s X b v as Q E} I F rd off k => by
  obtain ⟨a, sa, ha⟩ := F.has x hx
  refine wpAny_assign_Name (store_at I.henv F.frame sa fun h' tk hs st => k h' tk ?_ st.frame ?_)
  · exact (Eff.of_sameBut hs).mono fun c hc => hc ▸ ⟨ha, sa.frame⟩
  · exact I.stored F.frame sa st hs (F.ownX a ha sa.frame) (F.base.none ha) rd off

def TrAll (K : Cx) (n : Nat) (sc : Scope) (ρ : List (Str × D)) (ifs : List Expr) (c : Bool) : Prop := Hide <|
  ∀ {A : Around} {env : Env} {s : Shared} {X : Addr → Prop} {E : Value → Shared → Prop}, In K n sc X ρ A env s.heap →
    wpAny (model K.prog K.w) A (testsT ifs env) (fun b' s' => b' = c ∧ ∃ h' tk, s' = { s with heap := h', toks := tk } ∧ Ext s.heap h') E s
theorem TrAll.nil {K n sc ρ} : TrAll K n sc ρ [] true := Hide.mk fun {A env s X E} _ => wpAny_pure ⟨rfl, s.heap, s.toks, shared_eta s, .refl _⟩
theorem TrAll.one {K n sc ρ e c} (h : Tr K n sc ρ e c) : TrAll K n sc ρ [e] c := Hide.mk fun I => wpAny_tests_one (h.run I)

structure CompIn (K : Cx) (b : Heap) (X : Addr → Prop) (own : List Str) (env : Env) (D : Addr) (h : Heap) : Prop extends FrameIn K b X own env h where
  newD : b.get? D = none
  XD : X D
  ext : Ext b h

def Wc (b : Heap) (env : Env) (D a : Addr) : Prop := b.get? a = none ∧ (a = D ∨ FrameAddr env a)
theorem CompIn.noTup {K b X own env D h ys} (C : CompIn K b X own env D h) (p : h.PlainList D ys) : ∀ a, Wc b env D a → NoTup h a := fun a ha => ha.2.elim (fun q => q ▸ PlainList.noTup p) fun q => (C.frame.noSeq q).noTup
theorem CompIn.at {K b X own env D h h'} (C : CompIn K b X own env D h) (f : FrameOk h' env) (e : Eff (Wc b env D) h h') : CompIn K b X own env D h' :=
  { toFrameIn := C.toFrameIn.at f, newD := C.newD, XD := C.XD, ext := e.ext C.ext fun a ha => ha.1 }
def BodyOk (K : Cx) (n : Nat) (sc : Scope) (own : List Str) (elt : Expr) (gens : List Comprehension) (scope : Scope) (pos : Pos) (k : Nat) (ρ : List (Str × D)) (out : List PyData) (fr : Bool) : Prop := Hide <|
  ∀ {A : Around} {env : Env} {s : Shared} {X : Addr → Prop} {b : Heap} {D : Addr} {ys : List Value} {Q : Shared → Prop} {E : Value → Shared → Prop},
    In K n sc X ρ A env s.heap → CompIn K b X own env D s.heap → s.heap.PlainList D ys.toArray → ys.length + out.length ≤ sizeLine →
    (∀ h' tk zs as, Eff (Wc b env D) s.heap h' → CompIn K b X own env D h' → In K n sc X ρ A env h' → h'.PlainList D (ys ++ zs).toArray → RdAll h' zs out as → (∀ a ∈ as, ¬ X a) →
      (fr = true → as.Nodup ∧ ∀ a ∈ as, s.heap.get? a = none) → Q { s with heap := h', toks := tk }) →
    BodyWp (model K.prog K.w) A elt gens scope pos k (.ref D) env Q E s

/-- in.eff: the map is kept where the heap changes at the comprehension's own addresses and its names are as they were -/
theorem BodyOk.elt {K n sc own elt gens scope pos k ρ d fr} (hk : gens[k]? = none) (h : Ev K n sc ρ elt (.py d) fr) : BodyOk K n sc own elt gens scope pos k ρ [d] fr :=
  Hide.mk fun {A env s X b D ys Q E} I C P hsz q => by
  unfold BodyWp
  rw [hk]
  refine wpAny_mono (h.run I) (fun v s₁ p => ?_) fun _ _ x => x
  obtain ⟨h₁, tk, as, rfl, g⟩ := p
  have P₁ : h₁.PlainList D ys.toArray := P.at fun o e => g.ext _ _ e
  refine wpAny_list_append_plain (hsz := by simp at hsz ⊢; omega) P₁ fun h₂ P₂ hs => ?_
  have rd : Rd h₁ v d as := g.rd
  have nf := PlainList.not_frame P₁ (C.frame.ext g.ext)
  have F₂ : FrameOk h₂ env := (C.frame.ext g.ext).at1 (Eff.of_sameBut hs) nf
  have e₂ : Eff (Wc b env D) s.heap h₂ := (g.ext.eff _).trans ((Eff.of_sameBut hs).mono fun a ha => by cases ha; exact ⟨C.newD, .inl rfl⟩)
  have C₂ := C.at F₂ e₂
  have nt : ∀ a, a = D → NoTup h₁ a := fun a ha => ha ▸ PlainList.noTup P₁
  have eD := Eff.of_sameBut hs
  refine q h₂ tk [v] as e₂ C₂ ?_ (by simpa using P₂) (.one (rd.off (eD.off (fun a ha e => g.off a ha (e ▸ C.XD)) nt))) g.off g.new
  exact (I.ext g.ext).at1 eD (let ⟨_, ho⟩ := P₂; ⟨_, ho⟩) C.XD (C.base.none C.newD) (PlainList.noTup P₁) nf
end Mine

namespace Mine

theorem letOwned_ok {M : Model} {A : Around} {E : Value → Shared → Prop} {s : Shared} {tgt : Expr} {I : Addr} {v : Value} {Q : Unit → Shared → Prop} (p : plainIter s.heap I) (h : Q () s) :
    wpAny M A (letOwnedTupleGo tgt (.ref I) v) Q E s := by
  obtain ⟨o, nm, vs, ho, hc, hn, hd⟩ := p
  have key : wpAny M A (do
      let (.ref r, .ref a) := ((Value.ref I, v) : Value × Value) | return
      let o ← load r
      match o.cls, o.data with
      | .type n, .fields vs =>
        if ["enumerate", "zip", "dict_itemiterator", "dict_reverseitemiterator", "odict_iterator", "itertools.zip_longest", "itertools.pairwise"].contains n && vs[0]? == some (rawInt a) then
          rule "for.unpacks-the-owned-tuple"
          updateField r 0 .none
      | _, _ => pure ()) Q E s := by
    cases v <;> first | exact wpAny_pure h | skip
    refine wpAny_bind (wpAny_load ho ?_)
    rw [hc, hd]
    dsimp only
    rw [hn]
    exact wpAny_pure h
  cases tgt <;> first | exact wpAny_pure h | exact key

def TurnOk (K : Cx) (n : Nat) (sc : Scope) (own : List Str) (elt : Expr) (gens : List Comprehension) (scope : Scope) (pos : Pos) (k : Nat) (tgt : Expr) (ifs : List Expr) (ρ : List (Str × D)) (d : PyData) (out : List PyData) (fr : Bool) : Prop :=
  ∃ ρ' c, Asg K n sc own tgt d ρ ρ' ∧ (∀ x e, ρ.lookup x = some e → ρ'.lookup x = some e) ∧ TrAll K n sc ρ' ifs c ∧
    (c = true → BodyOk K n sc own elt gens scope pos (k + 1) ρ' out fr) ∧ (c = false → out = [])

theorem nodup_append {α : Type} {as bs : List α} (h1 : as.Nodup) (h2 : bs.Nodup) (h3 : ∀ a ∈ as, a ∉ bs) : (as ++ bs).Nodup :=
  List.nodup_append.mpr ⟨h1, h2, fun a ha b hb q => h3 a ha (q ▸ hb)⟩

section
variable {K : Cx} {n : Nat} {sc : Scope} {own : List Str} {elt : Expr} {gens : List Comprehension} {scope : Scope} {pos : Pos} {k : Nat} {tgt iter : Expr} {ifs : List Expr} {ρ : List (Str × D)} {fr : Bool}
  {A : Around} {env : Env} {X₀ : Addr → Prop} {b b₀ : Heap} {D : Addr} {F : List (PyData × List PyData)} {s : Shared} {ys : List Value} {R : Result → Shared → Prop}
set_option maxHeartbeats 1000000 in
theorem loop_ok (hk : gens[k]? = some ⟨tgt, iter, ifs, 0⟩) (hG : GensOk gens) (turns : ∀ p ∈ F, TurnOk K n sc own elt gens scope pos k tgt ifs ρ p.1 p.2 fr)
    (t : It K A) (I : In K n sc (fun a => X₀ a ∨ a = t.I) ρ A env s.heap) (C : CompIn K b (fun a => X₀ a ∨ a = t.I) own env D s.heap) (P : s.heap.PlainList D ys.toArray)
    (T : ItAt t 0 b₀ s.heap X₀ (F.map (·.1))) (hW : ∀ a, Wc b env D a → X₀ a) (hI : b.get? t.I = none) (hsz : ys.length + (F.flatMap (·.2)).length ≤ sizeLine)
    (q : ∀ h' tk zs as, Eff (fun a => Wc b env D a ∨ a = t.I) s.heap h' → CompIn K b X₀ own env D h' → In K n sc X₀ ρ A env h' →
      h'.PlainList D (ys ++ zs).toArray → RdAll h' zs (F.flatMap (·.2)) as → (∀ a ∈ as, ¬ X₀ a ∧ a ≠ t.I) → (fr = true → as.Nodup ∧ ∀ a ∈ as, s.heap.get? a = none) →
      R (.ok .next) { s with heap := h', toks := tk }) :
    codeAny (model K.prog K.w) A (.compLoop (.ListComp elt gens scope pos) k (.ref t.I) (.ref D) env) R s := by
  refine codeAny_loop rfl (fun m s' => ∃ pre post h tk zs as, F = pre ++ post ∧ m = post.length + 1 ∧ s' = { s with heap := h, toks := tk } ∧ Eff (fun a => Wc b env D a ∨ a = t.I) s.heap h ∧
    CompIn K b (fun a => X₀ a ∨ a = t.I) own env D h ∧ In K n sc (fun a => X₀ a ∨ a = t.I) ρ A env h ∧ h.PlainList D (ys ++ zs).toArray ∧ RdAll h zs (pre.flatMap (·.2)) as ∧ (∀ a ∈ as, ¬ X₀ a ∧ a ≠ t.I) ∧
    (fr = true → as.Nodup ∧ ∀ a ∈ as, s.heap.get? a = none) ∧ ItAt t pre.length b₀ h X₀ (F.map (·.1))) (fun m s' hI' => ?_) (F.length + 1)
    ⟨[], F, s.heap, s.toks, [], [], rfl, rfl, shared_eta s, .refl _ _, C, I, by simpa using P, .nil, nofun, fun _ => ⟨.nil, nofun⟩, T⟩
  obtain ⟨pre, post, h, tk, zs, as, hF, rfl, rfl, e₀, C₀, I₀, P₀, rd₀, off₀, new₀, T₀⟩ := hI'
  show wpAny _ A ((compTurn (.ListComp elt gens scope pos) k (.ref t.I) (.ref D) env).onRaise (fun x => do noteFrame x env; theTreesLotGoes x)) _ _ _
  refine wpAny_noted (wpAny_compTurn hk hG ?_)
  have pI := t.plain _ _ T₀.st
  have hKI : K.h₀.get? t.I = none := C.base.none hI
  cases post with
  | nil =>
    rw [List.append_nil] at hF; subst hF
    refine t.W.done _ _ _ (by rw [T₀.len, List.length_map]; exact T₀.st) fun h₁ tk₁ hk₁ => ?_
    have e₁ : Eff (· = t.I) h h₁ := fun a o ha ho => hk₁ a o (by simpa using ha) ho
    have nf := pI.not_frame C₀.frame
    have nX : ¬ X₀ t.I := fun hx => T₀.off t.I (t.W.sub _ (.head _)) hx
    have nD : D ≠ t.I := fun q => pI.not_list (q ▸ P₀)
    have eA : Eff (fun a => Wc b env D a ∨ a = t.I) s.heap h₁ := e₀.trans (e₁.mono fun a ha => .inr ha)
    refine q h₁ tk₁ zs as eA ?_ (I₀.drop1 e₁ nX hKI pI.noTup nf) (P₀.at fun o ho => e₁ _ o nD ho) (rd₀.off (e₁.off (fun a ha q => (off₀ a ha).2 q) fun a ha => ha ▸ pI.noTup)) off₀ new₀
    exact { frame := C₀.frame.at1 e₁ nf, base := C₀.base, ownX := fun a h1 h2 => hW a ⟨h1, .inr h2⟩, has := C₀.has, newD := C₀.newD, XD := hW D ⟨C₀.newD, .inl rfl⟩, ext := eA.ext (C.ext) fun a ha => ha.elim (fun w => w.1) fun w => w ▸ hI }
  | cons p post =>
    have hlt : pre.length < t.n := by rw [T₀.len, hF]; simp
    obtain ⟨ρ', c, asg, back, tests, body, stop⟩ := turns p (by rw [hF]; simp)
    refine t.W.item pre.length _ _ _ hlt T₀.st fun v h₁ tk₁ hv st₁ hk₁ => ?_
    have e₁ : Eff (· = t.I) h h₁ := fun a o ha ho => hk₁ a o (by simpa using ha) ho
    have nf := pI.not_frame C₀.frame
    have nX : ¬ X₀ t.I := fun hx => T₀.off t.I (t.W.sub _ (.head _)) hx
    have nD : D ≠ t.I := fun q => pI.not_list (q ▸ P₀)
    have T₁ := T₀.next st₁ e₁
    have pI₁ := t.plain _ _ st₁
    have I₁ := I₀.at1 e₁ pI₁.some (.inr rfl) hKI pI.noTup nf
    have P₁ : h₁.PlainList D (ys ++ zs).toArray := P₀.at fun o ho => e₁ _ o nD ho
    have rd₁ := rd₀.off (e₁.off (fun a ha q => (off₀ a ha).2 q) fun a ha => ha ▸ pI.noTup)
    have eA : Eff (fun a => Wc b env D a ∨ a = t.I) s.heap h₁ := e₀.trans (e₁.mono fun a ha => .inr ha)
    have C₁ : CompIn K b (fun a => X₀ a ∨ a = t.I) own env D h₁ :=
      { frame := C₀.frame.at1 e₁ nf, base := C₀.base, ownX := C₀.ownX, has := C₀.has, newD := C₀.newD, XD := C₀.XD, ext := eA.ext (C.ext) fun a ha => ha.elim (fun w => w.1) fun w => w ▸ hI }
    obtain ⟨d, bs, hd, rdv, offv⟩ := T₁.items _ v hv
    have hd' : d = p.1 := by
      rw [hF] at hd; simp at hd; exact hd.symm
    subst hd'
    refine letOwned_ok pI₁ ?_
    refine asg.run (s := { s with heap := h₁, toks := tk₁ }) I₁ C₁.toFrameIn rdv (fun a ha hx => hx.elim (offv a ha).1 (offv a ha).2) fun h₂ tk₂ e₂ F₂ I₂ => ?_
    have e₂' : Eff (Wc b env D) h₁ h₂ := Eff.mono e₂ fun a ha => ⟨ha.1, .inr ha.2⟩
    have C₂ := C₁.at F₂ e₂'
    have nDf : ¬ Wf b env D := fun w => PlainList.not_frame P₁ C₁.frame w.2
    have P₂ : h₂.PlainList D (ys ++ zs).toArray := P₁.at fun o ho => e₂ _ o nDf ho
    have nt₁ : ∀ a, Wf b env a → NoTup h₁ a := C₁.toFrameIn.noTup
    have subX : ∀ a, Wf b env a → X₀ a := fun a ha => hW a ⟨ha.1, .inr ha.2⟩
    have rd₂ := rd₁.off (Eff.off e₂ (fun a ha w => (off₀ a ha).1 (subX a w)) nt₁)
    have T₂ := T₁.eff e₂ subX nt₁
    refine wpAny_mono (tests.run (s := { s with heap := h₂, toks := tk₂ }) I₂) (fun ok s₃ hok => ?_) fun _ _ x => x
    obtain ⟨rfl, h₃, tk₃, rfl, x₃⟩ := hok
    have hF' : F = (pre ++ [p]) ++ post := by rw [hF]; simp
    have hlen : (pre ++ [p]).length = pre.length + 1 := by simp
    have hfm : (pre ++ [p]).flatMap (·.2) = pre.flatMap (·.2) ++ p.2 := by simp
    have I₃ := I₂.ext x₃
    have C₃ := C₂.at (F₂.ext x₃) (x₃.eff _)
    have P₃ : h₃.PlainList D (ys ++ zs).toArray := P₂.at fun o ho => x₃ _ o ho
    have rd₃ := rd₂.ext x₃
    have T₃ := T₂.eff (x₃.eff fun _ => False) (fun _ => False.elim) (fun _ => False.elim)
    have e₃ : Eff (fun a => Wc b env D a ∨ a = t.I) s.heap h₃ := (eA.trans (e₂'.mono fun a ha => .inl ha)).trans (x₃.eff _)
    cases ok with
    | false =>
      rw [if_neg Bool.false_ne_true]
      have hp2 := stop rfl
      refine ⟨rfl, post.length + 1, by simp, pre ++ [p], post, h₃, tk₃, zs, as, hF', rfl, rfl, e₃, C₃, I₃.sub back, P₃, ?_, off₀, new₀, ?_⟩
      · rw [hfm, hp2, List.append_nil]; exact rd₃
      · rw [hlen]; exact T₃
    | true =>
      rw [if_pos rfl]
      have hsz' : (ys ++ zs).length + p.2.length ≤ sizeLine := by
        have e1 := rd₀.length
        have e2 : (F.flatMap (·.2)).length = (pre.flatMap (·.2)).length + (p.2.length + (post.flatMap (·.2)).length) := by rw [hF]; simp
        rw [List.length_append]
        omega
      refine (body rfl).run (s := { s with heap := h₃, toks := tk₃ }) I₃ C₃ P₃ hsz' fun h₄ tk₄ zs' bs' e₄ C₄ I₄ P₄ rd₄ off₄ new₄ => ?_
      have nt₃ := C₃.noTup P₃
      have rd₄' := rd₃.off (Eff.off e₄ (fun a ha w => (off₀ a ha).1 (hW a w)) nt₃)
      have T₄ := T₃.eff e₄ hW nt₃
      refine ⟨rfl, post.length + 1, by simp, pre ++ [p], post, h₄, tk₄, zs ++ zs', as ++ bs', hF', rfl, rfl, e₃.trans (Eff.mono e₄ fun a ha => .inl ha), C₄, I₄.sub back, ?_, ?_, ?_, ?_, ?_⟩
      · rw [← List.append_assoc]; exact P₄
      · rw [hfm]; exact rd₄'.append rd₄
      · intro a ha
        rcases List.mem_append.mp ha with ha | ha
        · exact off₀ a ha
        · exact ⟨fun hx => off₄ a ha (.inl hx), fun hx => off₄ a ha (.inr hx)⟩
      · intro hfr
        obtain ⟨n1, m1⟩ := new₀ hfr
        obtain ⟨n2, m2⟩ := new₄ hfr
        refine ⟨nodup_append n1 n2 fun a ha hb => ?_, fun a ha => ?_⟩
        · obtain ⟨o, ho⟩ := rd₃.dom a ha; rw [m2 a hb] at ho; cases ho
        · rcases List.mem_append.mp ha with ha | ha
          · exact m1 a ha
          · cases hq : s.heap.get? a with
            | none => rfl
            | some o =>
              have hm2 := m2 a ha
              have hx : ¬ (Wc b env D a ∨ a = t.I) := fun w => w.elim (fun w => off₄ a ha (.inl (hW a w))) fun w => off₄ a ha (.inr w)
              have := e₃ a o hx hq
              rw [this] at hm2; cases hm2
      · rw [hlen]; exact T₄
end
end Mine

namespace Mine

/-! ### the comprehension's own frame -/
def relabelS (scope sc : Scope) : Scope :=
  { scope with names := scope.names.map fun (n, k) => if (k == .free && sc.kind == .function && sc.names.lookup n == some .cell) then (n, .cell) else (n, k) }
def closureL (env : Env) : List (Str × NameKind) → List (Str × Addr) → List (Str × Addr)
  | [], acc => acc
  | (n, k) :: r, acc => closureL env r (if k == .free then (n, (env.cells.lookup n).getD 0) :: acc else acc)

theorem closureFor_eq {scope : Scope} {env : Env} (h : ∀ n, (n, NameKind.free) ∈ scope.names → ∃ c, env.cells.lookup n = some c) : closureFor scope env = pure (closureL env scope.names []) := by
  unfold closureFor
  have key : ∀ (names : List (Str × NameKind)) (acc : List (Str × Addr)), (∀ n, (n, NameKind.free) ∈ names → ∃ c, env.cells.lookup n = some c) →
      (forIn names acc (fun (x : Str × NameKind) (cs : List (Str × Addr)) => (match x with | (name, kind) => (if (kind == NameKind.free) = true then (do let a ← cellOf env name; pure (ForInStep.yield ((name, a) :: cs))) else pure (ForInStep.yield cs) : Sem (ForInStep (List (Str × Addr))))))) = (pure (closureL env names acc) : Sem (List (Str × Addr))) := by
    intro names
    induction names with
    | nil => intro acc _; rfl
    | cons x r ih =>
      intro acc hn
      obtain ⟨n, k⟩ := x
      rw [List.forIn_cons]
      have hr : ∀ m, (m, NameKind.free) ∈ r → ∃ c, env.cells.lookup m = some c := fun m hm => hn m (.tail _ hm)
      by_cases hk : k = .free
      · subst hk
        obtain ⟨c, hc⟩ := hn n (.head _)
        simp only [beq_self_eq_true, if_true, cellOf, hc, pure_bind, closureL, Option.getD_some]
        exact ih _ hr
      · have hb : (k == NameKind.free) = false := by simpa using hk
        simp only [hb, Bool.false_eq_true, if_false, pure_bind, closureL]
        exact ih _ hr
  exact (congrArg (fun m : Sem (List (Str × Addr)) => m >>= fun cs => pure cs) (key scope.names [] h)).trans rfl
end Mine

namespace Mine

theorem cellsFrom_append : ∀ (names : List (Str × NameKind)) (n : Nat) (acc : List (Str × Addr)), cellsFrom n names acc = cellsFrom n names [] ++ acc
  | [], _, _ => rfl
  | (name, kind) :: r, n, acc => by
    unfold cellsFrom
    split
    · rw [cellsFrom_append r (n + 1) ((name, n) :: acc), cellsFrom_append r (n + 1) [(name, n)]]; simp
    · exact cellsFrom_append r n acc

theorem cellsFrom_mem : ∀ (names : List (Str × NameKind)) (n : Nat) {x : Str} {c : Addr}, (x, c) ∈ cellsFrom n names [] → (x, NameKind.cell) ∈ names
  | [], _, _, _, h => by cases h
  | (name, kind) :: r, n, x, c, h => by
    unfold cellsFrom at h
    split at h
    · rename_i hk
      rw [cellsFrom_append] at h
      rcases List.mem_append.mp h with h | h
      · exact .tail _ (cellsFrom_mem r _ h)
      · have := List.mem_singleton.mp h
        cases this
        have : kind = .cell := by simpa using hk
        subst this; exact .head _
    · exact .tail _ (cellsFrom_mem r _ h)

theorem lookup_isSome_of_mem {α : Type} : ∀ {l : List (Str × α)} {x : Str} {c : α}, (x, c) ∈ l → ∃ c', l.lookup x = some c'
  | (k, v) :: r, x, c, h => by
    rw [List.lookup_cons]
    cases hb : x == k with
    | true => exact ⟨_, rfl⟩
    | false =>
      rcases List.mem_cons.mp h with e | h
      · cases e; simp at hb
      · exact lookup_isSome_of_mem h

theorem cellsFrom_has : ∀ (names : List (Str × NameKind)) (n : Nat) {x : Str}, (x, NameKind.cell) ∈ names → ∃ c, (x, c) ∈ cellsFrom n names []
  | (name, kind) :: r, n, x, h => by
    unfold cellsFrom
    rcases List.mem_cons.mp h with e | h
    · cases e
      simp only [beq_self_eq_true, if_true]
      rw [cellsFrom_append]
      exact ⟨n, List.mem_append_right _ (.head _)⟩
    · split
      · rw [cellsFrom_append]
        obtain ⟨c, hc⟩ := cellsFrom_has r (n + 1) h
        exact ⟨c, List.mem_append_left _ hc⟩
      · exact cellsFrom_has r n h

theorem lookup_append {α : Type} : ∀ (l l' : List (Str × α)) (x : Str), (l ++ l').lookup x = (l.lookup x).or (l'.lookup x)
  | [], l', x => by simp
  | (k, v) :: r, l', x => by
    rw [List.cons_append, List.lookup_cons, List.lookup_cons]
    cases x == k with
    | true => simp
    | false => exact lookup_append r l' x

theorem lookup_none_of_not_mem {α : Type} : ∀ {l : List (Str × α)} {x : Str}, (∀ c, (x, c) ∉ l) → l.lookup x = none
  | [], x, _ => rfl
  | (k, v) :: r, x, h => by
    rw [List.lookup_cons]
    cases hb : x == k with
    | true => have : x = k := by simpa using hb
              subst this; exact absurd (.head _) (h v)
    | false => exact lookup_none_of_not_mem fun c hc => h c (.tail _ hc)

theorem lookup_map_kind {g : Str → NameKind → NameKind} : ∀ (l : List (Str × NameKind)) (x : Str), (l.map fun p => (p.1, g p.1 p.2)).lookup x = (l.lookup x).map (g x)
  | [], x => rfl
  | (k, v) :: r, x => by
    rw [List.map_cons, List.lookup_cons, List.lookup_cons]
    cases hb : x == k with
    | true => have : x = k := by simpa using hb
              subst this; rfl
    | false => exact lookup_map_kind r x

theorem relabelS_lookup (scope sc : Scope) (x : Str) : (relabelS scope sc).names.lookup x =
    (scope.names.lookup x).map fun k => if (k == .free && sc.kind == .function && sc.names.lookup x == some .cell) then .cell else k := by
  have : (relabelS scope sc).names = scope.names.map fun p => (p.1, (fun (n : Str) (k : NameKind) => if (k == .free && sc.kind == .function && sc.names.lookup n == some .cell) then NameKind.cell else k) p.1 p.2) := by
    show scope.names.map _ = _
    refine List.map_congr_left fun p _ => ?_
    obtain ⟨n, k⟩ := p
    dsimp only
    split <;> rfl
  rw [this]
  exact lookup_map_kind (g := fun (n : Str) (k : NameKind) => if (k == .free && sc.kind == .function && sc.names.lookup n == some .cell) then NameKind.cell else k) _ _

theorem closureL_append (env : Env) : ∀ (names : List (Str × NameKind)) (acc : List (Str × Addr)), closureL env names acc = closureL env names [] ++ acc
  | [], _ => rfl
  | (n, k) :: r, acc => by
    unfold closureL
    split
    · rw [closureL_append env r (_ :: acc), closureL_append env r [_]]; simp
    · exact closureL_append env r acc
theorem closureL_mem (env : Env) : ∀ (names : List (Str × NameKind)) {x : Str} {c : Addr}, (x, c) ∈ closureL env names [] → (x, NameKind.free) ∈ names ∧ c = (env.cells.lookup x).getD 0
  | [], _, _, h => by cases h
  | (n, k) :: r, x, c, h => by
    unfold closureL at h
    split at h
    · rename_i hk
      rw [closureL_append] at h
      rcases List.mem_append.mp h with h | h
      · exact ⟨.tail _ (closureL_mem env r h).1, (closureL_mem env r h).2⟩
      · have := List.mem_singleton.mp h
        cases this
        have : k = .free := by simpa using hk
        subst this; exact ⟨.head _, rfl⟩
    · exact ⟨.tail _ (closureL_mem env r h).1, (closureL_mem env r h).2⟩
theorem closureL_has (env : Env) : ∀ (names : List (Str × NameKind)) {x : Str}, (x, NameKind.free) ∈ names → (x, (env.cells.lookup x).getD 0) ∈ closureL env names []
  | (n, k) :: r, x, h => by
    unfold closureL
    rcases List.mem_cons.mp h with e | h
    · cases e
      simp only [beq_self_eq_true, if_true]
      rw [closureL_append]
      exact List.mem_append_right _ (.head _)
    · split
      · rw [closureL_append]; exact List.mem_append_left _ (closureL_has env r h)
      · exact closureL_has env r h
theorem closureL_lookup (env : Env) {names : List (Str × NameKind)} {x : Str} (h : (x, NameKind.free) ∈ names) : (closureL env names []).lookup x = some ((env.cells.lookup x).getD 0) := by
  obtain ⟨c, hc⟩ := lookup_isSome_of_mem (closureL_has env names h)
  rw [hc, (closureL_mem env names (mem_of_lookup hc)).2]

theorem closureL_apart {env : Env} (ok : EnvOk env) : ∀ {names : List (Str × NameKind)}, (names.map (·.1)).Nodup → (∀ n, (n, NameKind.free) ∈ names → ∃ c, env.cells.lookup n = some c) →
    (closureL env names []).Pairwise fun x y => x.2 ≠ y.2
  | [], _, _ => List.Pairwise.nil
  | (n, k) :: r, hnd, hf => by
    rw [List.map_cons, List.nodup_cons] at hnd
    have ih := closureL_apart ok hnd.2 fun m hm => hf m (.tail _ hm)
    unfold closureL
    split
    · rename_i hk
      have hk : k = .free := by simpa using hk
      subst hk
      rw [closureL_append]
      refine List.pairwise_append.mpr ⟨ih, List.pairwise_singleton _ _, fun a ha b hb => ?_⟩
      have := List.mem_singleton.mp hb
      subst this
      obtain ⟨m, c⟩ := a
      obtain ⟨hm, rfl⟩ := closureL_mem env r ha
      obtain ⟨c1, h1⟩ := hf m (.tail _ hm)
      obtain ⟨c2, h2⟩ := hf n (.head _)
      show (env.cells.lookup m).getD 0 ≠ (env.cells.lookup n).getD 0
      rw [h1, h2]
      intro q
      have q : c1 = c2 := q
      subst q
      have : m = n := name_of_addr ok.apart (mem_of_lookup h1) (mem_of_lookup h2)
      subst this
      exact hnd.1 (List.mem_map.mpr ⟨_, hm, rfl⟩)
    · exact ih

/-- the frame of a comprehension -/
def compEnvM (scope : Scope) (C : Addr) (env : Env) : Env :=
  { scope := relabel scope env, locals := C, globals := env.globals, cells := cellsFrom (C + 1) scope.names (closureL env scope.names []), qual := env.qual, func := none, code := env.code, frame := env.frame, builtins := env.builtins }

theorem wpAny_newCompEnv {M : Model} {A : Around} {E : Value → Shared → Prop} {s : Shared} {scope : Scope} {cl : List (Str × Addr)} {env : Env} {Q : Env → Shared → Prop}
    (h : Q (newEnv scope s.heap.objs.size env.globals (cellsFrom (s.heap.objs.size + 1) scope.names cl) env.qual none .none (some env) builtinsNs)
      { s with heap := pushCells (s.heap.push { cls := .type "dict", data := .dict #[] }) scope.names }) :
    wpAny M A (newFunctionEnv scope env.globals cl [] env.qual none .none (some env)) Q E s := by
  simp only [newFunctionEnv, Option.isSome_some, if_true]
  refine wpAny_bind (wpAny_alloc ?_)
  refine wpAny_bind (wpAny_layCells _ (fun name kind cells => by cases hkc : kind == NameKind.cell <;> simp [hkc]) _ _ _ _ ?_)
  rw [show ({ s with heap := s.heap.push { cls := .type "dict", data := .dict #[] } } : Shared).heap.objs.size = s.heap.objs.size + 1 from Heap.size_push ..]
  exact wpAny_bind (wpAny_pure (wpAny_pure h))
end Mine

namespace Mine

structure ScopeOk (scope sc : Scope) (own : List Str) : Prop where
  kind : scope.kind = .function
  nodup : (scope.names.map (·.1)).Nodup
  free : ∀ n, (n, NameKind.free) ∈ scope.names → sc.names.lookup n = some .cell ∨ sc.names.lookup n = some .free
  own : ∀ x ∈ own, scope.names.lookup x = some .local ∨ scope.names.lookup x = some .cell

def scopeOk (scope sc : Scope) (own : List Str) : Bool :=
  decide (scope.kind = .function) && decide ((scope.names.map (·.1)).Nodup) &&
    (scope.names.all fun p => p.2 != .free || (sc.names.lookup p.1 == some .cell || sc.names.lookup p.1 == some .free)) &&
    own.all fun x => scope.names.lookup x == some .local || scope.names.lookup x == some .cell

theorem ScopeOk.of {scope sc : Scope} {own : List Str} (h : scopeOk scope sc own = true) : ScopeOk scope sc own := by
  simp only [scopeOk, Bool.and_eq_true, decide_eq_true_eq, List.all_eq_true, Bool.or_eq_true, beq_iff_eq, bne_iff_ne, ne_eq] at h
  obtain ⟨⟨⟨h1, h2⟩, h3⟩, h4⟩ := h
  refine ⟨h1, h2, fun n hn => ?_, h4⟩
  rcases h3 _ hn with h | h
  · exact absurd rfl h
  · exact h

theorem lookup_of_mem_nodup' {α : Type} : ∀ {l : List (Str × α)} {x : Str} {c : α}, (l.map (·.1)).Nodup → (x, c) ∈ l → l.lookup x = some c
  | (k, v) :: r, x, c, hnd, hm => by
    rw [List.map_cons, List.nodup_cons] at hnd
    rw [List.lookup_cons]
    rcases List.mem_cons.mp hm with e | hm
    · cases e; simp
    · have hne : x ≠ k := fun e => hnd.1 (e ▸ List.mem_map.mpr ⟨_, hm, rfl⟩)
      have : (x == k) = false := by simpa using hne
      rw [this]
      exact lookup_of_mem_nodup' hnd.2 hm

structure CompFrame (scope : Scope) (env : Env) (own : List Str) (h h₃ h₄ : Heap) (cenv : Env) : Prop where
  cok : EnvOk cenv
  frame : FrameOk h₄ cenv
  ext : Ext h₃ h₄
  new : ∀ a, h.get? a = none → FrameAddr cenv a → h₃.get? a = none
  has : ∀ x ∈ own, ∃ a, StoreAddr cenv x a ∧ h₃.get? a = none
  vars : ∀ x v, scope.names.lookup x = some .free → VarAt h env x v → VarAt h₄ cenv x v
  locals : h₃.get? cenv.locals = none

theorem get_none_of_ge {h : Heap} {a : Addr} (x : h.objs.size ≤ a) : h.get? a = none := by
  cases q : h.get? a with
  | none => rfl
  | some o => exact absurd (Heap.lt_size q) (Nat.not_lt.mpr x)

theorem compFrame {K n sc X ρ A env h scope own} (I : In K n sc X ρ A env h) (S : ScopeOk scope sc own) {h₃ : Heap} (x₃ : Ext h h₃) :
    CompFrame scope env own h h₃ (pushCells (h₃.push { cls := .type "dict", data := .dict #[] }) scope.names) (compEnvM scope h₃.objs.size env) := by
  have hsc := I.hsc
  have hfree : ∀ n, (n, NameKind.free) ∈ scope.names → ∃ c, env.cells.lookup n = some c := fun m hm => by
    refine I.henv.all m ?_
    show env.scope.names.lookup m = _ ∨ env.scope.names.lookup m = _
    rw [hsc]; exact S.free m hm
  have hcell : ∀ n, (n, NameKind.free) ∈ scope.names → ∀ c, env.cells.lookup n = some c → ∃ v, h.IsCell c v := fun m hm c hc => I.frame.cells m c hc
  generalize hH : h₃.push { cls := .type "dict", data := .dict #[] } = H
  have hHs : H.objs.size = h₃.objs.size + 1 := by rw [← hH, Heap.size_push]
  have xH : Ext h₃ H := hH ▸ Ext.push _ _
  have x4 : Ext H (pushCells H scope.names) := fun b o e => pushCells_keeps scope.names H b o e
  have ok := cellsFrom_ok scope.names H (h₃.objs.size + 1) [] ⟨fun _ _ hm => (nomatch hm), List.Pairwise.nil⟩ (by rw [hHs]; exact Nat.le_refl _)
  rw [hHs] at ok
  have hcells : (compEnvM scope h₃.objs.size env).cells = cellsFrom (h₃.objs.size + 1) scope.names [] ++ closureL env scope.names [] := cellsFrom_append ..
  have hclo : ∀ m c, (m, c) ∈ closureL env scope.names [] → (m, NameKind.free) ∈ scope.names ∧ env.cells.lookup m = some c := fun m c hm => by
    obtain ⟨h1, h2⟩ := closureL_mem env scope.names hm
    obtain ⟨c', hc'⟩ := hfree m h1
    rw [hc'] at h2
    have : c = c' := h2
    subst this
    exact ⟨h1, hc'⟩
  have hlt : ∀ m c, (m, c) ∈ closureL env scope.names [] → c < h₃.objs.size ∧ ∃ o, h.get? c = some o := fun m c hm => by
    obtain ⟨v, o, ho, _⟩ := hcell m (hclo m c hm).1 c (hclo m c hm).2
    exact ⟨Heap.lt_size (x₃ c o ho), o, ho⟩
  have hkind : ∀ x, (compEnvM scope h₃.objs.size env).kindOf x = (scope.names.lookup x).map fun k => if (k == .free && sc.kind == .function && sc.names.lookup x == some .cell) then .cell else k := fun x => by
    show (relabelS scope env.scope).names.lookup x = _
    rw [hsc]; exact relabelS_lookup scope sc x
  have ownCell : ∀ x, scope.names.lookup x = some .cell → ∃ c, (cellsFrom (h₃.objs.size + 1) scope.names []).lookup x = some c := fun x hx => by
    obtain ⟨c, hc⟩ := cellsFrom_has scope.names (h₃.objs.size + 1) (mem_of_lookup hx)
    exact lookup_isSome_of_mem hc
  have ownNone : ∀ x, scope.names.lookup x = some .free → (cellsFrom (h₃.objs.size + 1) scope.names []).lookup x = none := fun x hx => by
    refine lookup_none_of_not_mem fun c hc => ?_
    have := lookup_of_mem_nodup' S.nodup (cellsFrom_mem scope.names _ hc)
    rw [hx] at this; cases this
  refine ⟨⟨?_, I.henv.globals, I.henv.builtins, ?_, fun x hx => ?_⟩, ⟨?_, fun x c hc => ?_⟩, xH.trans x4, fun a ha hf => ?_, fun x hx => ?_, fun x v hx hv => ?_, push_new _⟩
  · exact S.kind
  · rw [hcells]
    refine List.pairwise_append.mpr ⟨ok.apart, closureL_apart I.henv S.nodup hfree, fun a ha b hb q => ?_⟩
    have h1 := (ok.empty a.1 a.2 ha).2
    have h2 := (hlt b.1 b.2 hb).1
    rw [q] at h1
    exact absurd (Nat.lt_of_lt_of_le h2 (Nat.le_of_succ_le h1)) (Nat.lt_irrefl _)
  · rw [hcells, lookup_append]
    rw [hkind] at hx
    cases hl : scope.names.lookup x with
    | none => rw [hl] at hx; rcases hx with hx | hx <;> cases hx
    | some k =>
      rw [hl] at hx
      have hk : k = .cell ∨ k = .free := by
        simp only [Option.map_some, Option.some.injEq] at hx
        cases k <;> simp_all
      rcases hk with rfl | rfl
      · obtain ⟨c, hc⟩ := ownCell x hl
        exact ⟨c, by rw [hc]; rfl⟩
      · rw [ownNone x hl, closureL_lookup env (mem_of_lookup hl)]
        exact ⟨_, rfl⟩
  · exact ⟨_, Heap.Ns.keeps (hH ▸ Heap.Ns.new h₃ (.type "dict")) x4⟩
  · rw [hcells, lookup_append] at hc
    cases hl : (cellsFrom (h₃.objs.size + 1) scope.names []).lookup x with
    | some c' =>
      rw [hl] at hc
      have : c' = c := by simpa using hc
      subst this
      exact ⟨_, (ok.empty x c' (mem_of_lookup hl)).1⟩
    | none =>
      rw [hl] at hc
      have hm := mem_of_lookup (show (closureL env scope.names []).lookup x = some c by simpa using hc)
      obtain ⟨v, hv⟩ := hcell x (hclo x c hm).1 c (hclo x c hm).2
      exact ⟨v, hv.keeps (x₃.trans (xH.trans x4))⟩
  · rcases hf with rfl | ⟨m, hc⟩
    · exact push_new _
    · rw [hcells, lookup_append] at hc
      cases hl : (cellsFrom (h₃.objs.size + 1) scope.names []).lookup m with
      | some c' =>
        rw [hl] at hc
        have : c' = a := by simpa using hc
        subst this
        exact get_none_of_ge (Nat.le_of_succ_le (ok.empty m c' (mem_of_lookup hl)).2)
      | none =>
        rw [hl] at hc
        have hm := mem_of_lookup (show (closureL env scope.names []).lookup m = some a by simpa using hc)
        obtain ⟨o, ho⟩ := (hlt m a hm).2
        rw [ha] at ho; cases ho
  · rcases S.own x hx with hl | hl
    · refine ⟨h₃.objs.size, .inl ⟨?_, rfl⟩, push_new _⟩
      rw [hkind, hl]; rfl
    · obtain ⟨c, hc⟩ := ownCell x hl
      refine ⟨c, .inr ⟨?_, ?_⟩, get_none_of_ge (Nat.le_of_succ_le (ok.empty x c (mem_of_lookup hc)).2)⟩
      · rw [hkind, hl]; rfl
      · rw [hcells, lookup_append, hc]; rfl
  · have hm := mem_of_lookup hx
    rcases hv with ⟨hl, _⟩ | ⟨_, c, hc, hv⟩
    · have := S.free x hm
      have hl' : sc.names.lookup x = some .local := by rw [← hsc]; exact hl
      rw [hl'] at this; rcases this with h | h <;> cases h
    · refine .inr ⟨?_, c, ?_, hv.keeps (x₃.trans (xH.trans x4))⟩
      · rw [hkind, hx]
        simp only [Option.map_some]
        split
        · exact .inl rfl
        · exact .inr rfl
      · rw [hcells, lookup_append, ownNone x hx, closureL_lookup env hm, hc]; rfl
end Mine

namespace Mine



section
variable {K : Cx} {n : Nat} {sc : Scope} {own : List Str} {elt : Expr} {gens rest : List Comprehension} {scope : Scope} {pos pos' : Pos} {tgt iter : Expr} {ifs : List Expr} {ρ ρ' : List (Str × D)} {fr : Bool}
  {A : Around} {env : Env} {X : Addr → Prop} {F : List (PyData × List PyData)} {s : Shared} {E : Value → Shared → Prop} {Q : Value → Shared → Prop} {use : Option (Value → Sem Unit)}
set_option maxHeartbeats 1000000 in
theorem comp_core (hg : gens = ⟨tgt, iter, ifs, 0⟩ :: rest) (hG : GensOk gens) (S : ScopeOk scope sc own)
    (hm : ∀ x d, ρ'.lookup x = some d → scope.names.lookup x = some .free ∧ ρ.lookup x = some d)
    (hit : EvIt K n sc ρ iter (F.map (·.1))) (turns : ∀ p ∈ F, TurnOk K n (relabelS scope sc) own elt gens scope pos 0 tgt ifs ρ' p.1 p.2 fr) (hsz : (F.flatMap (·.2)).length ≤ sizeLine)
    (I : In K n sc X ρ A env s.heap)
    (q : ∀ h' tk D C as m, Ext s.heap h' → Rd h' (.ref D) (.list (F.flatMap (·.2))) (D :: as) → (∀ a ∈ D :: as, ¬ X a ∧ a ≠ C) → s.heap.get? D = none →
      (fr = true → (D :: as).Nodup ∧ ∀ a ∈ D :: as, s.heap.get? a = none) → h'.Ns C m → s.heap.get? C = none →
      compPost (model K.prog K.w) A E use Q (.ref D) C (.ok .next) { s with heap := h', toks := tk }) :
    wpAny (model K.prog K.w) A (comprehension (.ListComp elt gens scope pos) scope env pos' (newList []) false (eval iter env) use) Q E s := by
  have hfree : ∀ n, (n, NameKind.free) ∈ scope.names → ∃ c, env.cells.lookup n = some c := fun m hm => by
    refine I.henv.all m ?_
    show env.scope.names.lookup m = _ ∨ env.scope.names.lookup m = _
    rw [I.hsc]; exact S.free m hm
  have h0 : gens[0]? = some ⟨tgt, iter, ifs, 0⟩ := by rw [hg]; rfl
  refine wpAny_comprehension_free (use := use) (show clausesOf (.ListComp elt gens scope pos) = ⟨tgt, iter, ifs, 0⟩ :: rest from hg) (fun x => (hG _ (by rw [hg]; exact .head _)).2 env x) (closureFor_eq hfree) S.kind
    (fun x hx hl => lookup_of_mem_nodup' S.nodup (by rw [← hl]; exact hx)) ?_
  refine hit.run I fun t h₂ tk x₂ T => ?_
  refine wpAny_newObj_type ?_
  generalize hh3 : h₂.push { cls := .type "list", dict := none, data := .seq ([] : List Value).toArray } = h₃
  have x₃ : Ext h₂ h₃ := hh3 ▸ Ext.push _ _
  have hD2 : h₂.get? h₂.objs.size = none := push_new _
  have hD3 : h₃.PlainList h₂.objs.size ([] : List Value).toArray := ⟨0, hh3 ▸ Heap.get?_push_size _ rfl⟩
  generalize h₂.objs.size = D at hD2 hD3 ⊢
  refine wpAny_newCompEnv ?_
  have CF := compFrame I S (x₂.trans x₃)
  show codeAny _ A (.compStart (.ListComp elt gens scope pos) 0 (.ref t.I) (.ref D) (compEnvM scope h₃.objs.size env)) _ _
  show codeAny _ A _ (compPost _ A E use Q (.ref D) (compEnvM scope h₃.objs.size env).locals) { s with heap := pushCells (h₃.push { cls := .type "dict", data := .dict #[] }) scope.names, toks := tk }
  generalize hcenv : compEnvM scope h₃.objs.size env = cenv at CF ⊢
  have hscC : cenv.scope = relabelS scope sc := by rw [← hcenv, ← I.hsc]; rfl
  generalize pushCells (h₃.push { cls := .type "dict", data := .dict #[] }) scope.names = h₄ at CF ⊢
  have x₄ := CF.ext
  have P₄ : h₄.PlainList D ([] : List Value).toArray := hD3.at fun o ho => x₄ _ o ho
  have bD : s.heap.get? D = none := x₂.none hD2
  -- what is the comprehension's own
  let X₀ : Addr → Prop := fun a => X a ∨ Wc s.heap cenv D a
  have new3 : ∀ a, Wc s.heap cenv D a → h₂.get? a = none := fun a ha => ha.2.elim (fun q => q ▸ hD2) fun q => x₃.none (CF.new a ha.1 q)
  have dom4 : ∀ a, Wc s.heap cenv D a → ∃ o, h₄.get? a = some o := fun a ha => ha.2.elim (fun q => by obtain ⟨_, ho⟩ := P₄; exact ⟨_, q ▸ ho⟩) fun q => by
    obtain ⟨o, ho, _⟩ := CF.frame.noSeq q; exact ⟨o, ho⟩
  have xx := x₂.trans (x₃.trans x₄)
  have pI := t.plain _ _ T.st
  have T₄ : ItAt t 0 s.heap h₄ X₀ (F.map (·.1)) := by
    have T' := T.eff ((x₃.trans x₄).eff fun _ => False) (fun _ => False.elim) (fun _ => False.elim)
    refine ⟨T'.st, T'.len, fun a ha hx => hx.elim (T.off a ha) fun w => ?_, T'.new, T'.dom, fun j v hv => ?_⟩
    · obtain ⟨o, ho⟩ := T.dom a ha; rw [new3 a w] at ho; cases ho
    · obtain ⟨d, as, h1, h2, h3⟩ := T.items j v hv
      refine ⟨d, as, h1, h2.ext (x₃.trans x₄), fun a ha => ⟨fun hx => hx.elim (h3 a ha).1 fun w => ?_, (h3 a ha).2⟩⟩
      obtain ⟨o, ho⟩ := h2.dom a ha; rw [new3 a w] at ho; cases ho
  have nXI : ¬ X₀ t.I := T₄.off t.I (t.W.sub _ (.head _))
  have I₄ : In K n (relabelS scope sc) (fun a => X₀ a ∨ a = t.I) ρ' A cenv h₄ := by
    refine ⟨I.room, I.ok.mono xx, hscC, CF.cok, CF.frame, fun a ha => ?_, fun x d hx => ?_⟩
    · rcases ha with (ha | ha) | ha
      · obtain ⟨o, ho⟩ := I.dom a ha; exact ⟨o, xx a o ho⟩
      · exact dom4 a ha
      · rw [ha]; obtain ⟨o, ho⟩ := pI.some; exact ⟨o, x₄ _ _ (x₃ _ _ ho)⟩
    · obtain ⟨h1, h2⟩ := hm x d hx
      obtain ⟨v, as, hv, hr, ho⟩ := I.vars x d h2
      refine ⟨v, as, CF.vars x v h1 hv, hr.ext xx, fun a ha hx => ?_⟩
      obtain ⟨o, hd⟩ := hr.dom a ha
      rcases hx with (hx | hx) | hx
      · exact ho a ha hx
      · rw [hx.1] at hd; cases hd
      · rw [hx, T.new] at hd; cases hd
  have C₄ : CompIn K s.heap (fun a => X₀ a ∨ a = t.I) own cenv D h₄ :=
    { frame := CF.frame, base := I.ok.ext, ownX := fun a h1 h2 => .inl (.inr ⟨h1, .inr h2⟩), has := fun x hx => let ⟨a, h1, h2⟩ := CF.has x hx; ⟨a, h1, x₂.none (x₃.none h2)⟩,
      newD := bD, XD := .inl (.inr ⟨bD, .inl rfl⟩), ext := xx }
  refine codeAny_compStart h0 rfl ?_ fun Q' E' hq => t.W.self 0 _ _ _ T₄.st hq
  refine loop_ok (s := { s with heap := h₄, toks := tk }) (X₀ := X₀) (b := s.heap) (b₀ := s.heap) h0 hG turns t I₄ C₄ P₄ T₄ (fun a ha => .inr ha) T.new (by simpa using hsz) fun h' tk' zs as e' C' I' P' rd off new => ?_
  obtain ⟨m, hmC⟩ := C'.frame.ns
  have hCl : s.heap.get? cenv.locals = none := x₂.none (x₃.none CF.locals)
  have hDC : D ≠ cenv.locals := fun q => PlainList.not_frame P' C'.frame (q ▸ .inl rfl)
  have xe : Ext s.heap h' := fun a o ho => e' a o (fun w => w.elim (fun w => by rw [w.1] at ho; cases ho) fun w => by rw [w, T.new] at ho; cases ho) (xx a o ho)
  refine q h' tk' D cenv.locals as m xe ?_ (fun a ha => ?_) bD (fun hfr => ?_) hmC hCl
  · obtain ⟨n', ho⟩ := P'
    exact .list (by simpa using ho) rd
  · rcases List.mem_cons.mp ha with rfl | ha
    · refine ⟨fun hx => ?_, hDC⟩
      obtain ⟨o, ho⟩ := I.dom _ hx; rw [bD] at ho; cases ho
    · exact ⟨fun hx => (off a ha).1 (.inl hx), fun e => (off a ha).1 (.inr ⟨e ▸ hCl, .inr (.inl e)⟩)⟩
  · obtain ⟨n1, n2⟩ := new hfr
    refine ⟨List.nodup_cons.mpr ⟨fun hm => (off D hm).1 (.inr ⟨bD, .inl rfl⟩), n1⟩, fun a ha => ?_⟩
    rcases List.mem_cons.mp ha with rfl | ha
    · exact bD
    · exact xx.none (n2 a ha)
end

theorem Ev.comp {K n sc own elt gens rest scope pos tgt iter ifs ρ ρ' fr} {F : List (PyData × List PyData)} (hg : gens = ⟨tgt, iter, ifs, 0⟩ :: rest) (hG : GensOk gens) (S : ScopeOk scope sc own)
    (hm : ∀ x d, ρ'.lookup x = some d → scope.names.lookup x = some .free ∧ ρ.lookup x = some d)
    (hit : EvIt K n sc ρ iter (F.map (·.1))) (turns : ∀ p ∈ F, TurnOk K n (relabelS scope sc) own elt gens scope pos 0 tgt ifs ρ' p.1 p.2 fr) (hsz : (F.flatMap (·.2)).length ≤ sizeLine) :
    Ev K n sc ρ (.ListComp elt gens scope pos) (.py (.list (F.flatMap (·.2)))) fr := Hide.mk fun {A env s X E} I => by
  rw [eval_ListComp]
  have e1 : firstAsync gens = false := by rw [hg]; rfl
  have e2 : firstIter gens env = eval iter env := by rw [hg]; rfl
  rw [e1, e2]
  refine comp_core (use := none) hg hG S hm hit turns hsz I fun h' tk D C as m xe rd off bD new hn hC => ?_
  refine ⟨m, hn, fun h'' hs => ?_⟩
  have eC := Eff.of_sameBut hs
  have nt : ∀ a, a = C → NoTup h' a := fun a ha xs k e => by
    subst ha; obtain ⟨o, es, ep, ho, hd, _⟩ := hn; rw [ho] at e; cases e; cases hd
  refine ⟨h'', tk, D :: as, rfl, eC.ext xe fun a ha => ha ▸ hC, Rd.off rd (eC.off (fun a ha e => (off a ha).2 e) nt), fun a ha => (off a ha).1, new⟩
end Mine

namespace Mine

section
variable {K : Cx} {n : Nat} {sc : Scope} {ρ : List (Str × D)} {a b : Expr} {pos : Pos} {fa fb : Bool} {x y : Int}

theorem Ev.op2 {op : Operator} {da db : PyData} {d : PyData} (ha : Ev K n sc ρ a (.py da) fa) (hb : Ev K n sc ρ b (.py db) fb)
    (h : ∀ {A : Around} {s : Shared} {X : Addr → Prop} {E} {va vb as bs}, Room A n → K.Ok s.heap → Rd s.heap va da as → Rd s.heap vb db bs →
      (∀ a, X a → ∃ o, s.heap.get? a = some o) → (∀ a ∈ as, ¬ X a) → (∀ a ∈ bs, ¬ X a) →
      wpAny (model K.prog K.w) A (binaryOp op va vb) (Post K s X (.py d) true) E s) :
    Ev K n sc ρ (.BinOp a op b pos) (.py d) true := Hide.mk fun {A env s X E} I => by
  refine wpAny_BinOp (Ev.then ha hb I fun va vb h₁ h₂ tk as bs ga gb => ?_)
  have x₂ := ga.ext.trans gb.ext
  refine wpAny_mono (h (s := { s with heap := h₂, toks := tk }) (X := X) I.room (I.ok.mono x₂) (Rd.ext ga.rd gb.ext) gb.rd (fun a ha => let ⟨o, ho⟩ := I.dom a ha; ⟨o, x₂ a o ho⟩) ga.off gb.off) (fun v s' p => ?_) fun _ _ x => x
  obtain ⟨h', tk', cs, rfl, g⟩ := p
  exact ⟨h', tk', cs, rfl, x₂.trans g.ext, g.rd, g.off, fun hf => ⟨(g.new hf).1, fun c hc => x₂.none ((g.new hf).2 c hc)⟩⟩

theorem Ev.addI (ha : Ev K n sc ρ a (.py (.int x)) fa) (hb : Ev K n sc ρ b (.py (.int y)) fb) : Ev K n sc ρ (.BinOp a .Add b pos) (.py (.int (x + y))) true :=
  Ev.op2 ha hb fun {A s X E va vb as bs} _ _ ra rb _ _ _ => by cases ra; cases rb; exact add_int (Post.flat (.refl _) (.int ..))
theorem Ev.subI (ha : Ev K n sc ρ a (.py (.int x)) fa) (hb : Ev K n sc ρ b (.py (.int y)) fb) : Ev K n sc ρ (.BinOp a .Sub b pos) (.py (.int (x - y))) true :=
  Ev.op2 ha hb fun {A s X E va vb as bs} _ _ ra rb _ _ _ => by cases ra; cases rb; exact sub_int (Post.flat (.refl _) (.int ..))
theorem Ev.divI (ha : Ev K n sc ρ a (.py (.int x)) fa) (hb : Ev K n sc ρ b (.py (.int y)) fb) (hy : 0 < y) (hs : y < 1073741824) : Ev K n sc ρ (.BinOp a .FloorDiv b pos) (.py (.int (x / y))) true :=
  Ev.op2 ha hb fun {A s X E va vb as bs} _ _ ra rb _ _ _ => by
    cases ra; cases rb
    refine floordiv_int (by omega) ?_ (.inl (PyProof.noPylong_small (by omega)))
    rw [Int.fdiv_eq_ediv_of_nonneg _ (by omega)]
    exact Post.flat (.refl _) (.int ..)
theorem Ev.modI (ha : Ev K n sc ρ a (.py (.int x)) fa) (hb : Ev K n sc ρ b (.py (.int y)) fb) (hy : 0 < y) : Ev K n sc ρ (.BinOp a .Mod b pos) (.py (.int (x % y))) true :=
  Ev.op2 ha hb fun {A s X E va vb as bs} _ _ ra rb _ _ _ => by
    cases ra; cases rb
    refine mod_int' (by omega) ?_
    rw [Int.fmod_eq_emod_of_nonneg _ (by omega)]
    exact Post.flat (.refl _) (.int ..)

/-- lists put together -/
theorem Ev.addL {xs ys : List PyData} (ha : Ev K n sc ρ a (.py (.list xs)) fa) (hb : Ev K n sc ρ b (.py (.list ys)) fb) (hsz : xs.length + ys.length ≤ sizeLine) :
    Ev K n sc ρ (.BinOp a .Add b pos) (.py (.list (xs ++ ys))) (fa && fb) := Hide.mk fun {A env s X E} I => by
  refine wpAny_BinOp (Ev.then ha hb I fun va vb h₁ h₂ tk as bs ga gb => ?_)
  have x₂ := ga.ext.trans gb.ext
  have ra : Rd h₂ va (.list xs) as := Rd.ext ga.rd gb.ext
  have rb : Rd h₂ vb (.list ys) bs := gb.rd
  have na := ga.new; have nb := gb.new; have oa := ga.off; have ob := gb.off
  have da : ∀ c ∈ as, ∃ o, h₁.get? c = some o := ga.rd.dom
  cases ra with
  | @list l vs k _ as ea ra =>
  cases rb with
  | @list r ws k' _ bs eb rb =>
    refine P.add_list (n := k) (n2 := k') ea eb ?_ (by simp [ra.length, rb.length]; exact hsz)
    refine ⟨_, tk, h₂.objs.size :: (as ++ bs), rfl, x₂.trans (Ext.push _ _), ?_, fun c hc => ?_, fun hf => ?_⟩
    · refine Rd.list (vs := vs ++ ws) (n := 0) ?_ ((ra.ext (Ext.push _ _)).append (rb.ext (Ext.push _ _)))
      have := Heap.get?_push_size h₂ (o := { cls := .type "list", data := .seq (vs.toArray ++ ws.toArray) }) rfl
      simpa using this
    · rcases List.mem_cons.mp hc with rfl | hc
      · intro hx; obtain ⟨o, ho⟩ := I.dom _ hx; have := x₂ _ _ ho; rw [push_new] at this; cases this
      · rcases List.mem_append.mp hc with hc | hc
        · exact oa c (.tail _ hc)
        · exact ob c (.tail _ hc)
    · rw [Bool.and_eq_true] at hf
      obtain ⟨n1, m1⟩ := na hf.1
      obtain ⟨n2, m2⟩ := nb hf.2
      refine ⟨List.nodup_cons.mpr ⟨fun hm => ?_, nodup_append (List.nodup_cons.mp n1).2 (List.nodup_cons.mp n2).2 fun c hc hd => ?_⟩, fun c hc => ?_⟩
      · rcases List.mem_append.mp hm with hm | hm
        · obtain ⟨o, ho⟩ := ra.dom _ hm; rw [push_new] at ho; cases ho
        · obtain ⟨o, ho⟩ := rb.dom _ hm; rw [push_new] at ho; cases ho
      · obtain ⟨o, ho⟩ := da c (.tail _ hc); rw [m2 c (.tail _ hd)] at ho; cases ho
      · rcases List.mem_cons.mp hc with rfl | hc
        · exact x₂.none (push_new _)
        · rcases List.mem_append.mp hc with hc | hc
          · exact m1 c (.tail _ hc)
          · exact ga.ext.none (m2 c (.tail _ hc))
/-- lists of ints put together: the new one is its own -/
theorem Ev.addLI {xs ys : List Int} (ha : Ev K n sc ρ a (.py (iL xs)) fa) (hb : Ev K n sc ρ b (.py (iL ys)) fb) (hsz : xs.length + ys.length ≤ sizeLine) :
    Ev K n sc ρ (.BinOp a .Add b pos) (.py (iL (xs ++ ys))) true :=
  Ev.op2 ha hb fun {A s X E va vb as bs} _ _ ra rb hX _ _ => by
    cases ra with
    | @list l vs k _ as ea ra =>
    cases rb with
    | @list r ws k' _ bs eb rb =>
      obtain rfl := ra.iL_nil
      obtain rfl := rb.iL_nil
      have e1 := ra.length; have e2 := rb.length
      simp only [List.length_map] at e1 e2
      refine P.add_list (n := k) (n2 := k') ea eb ?_ (by simp [e1, e2]; exact hsz)
      refine ⟨_, s.toks, [s.heap.objs.size], rfl, Ext.push _ _, ?_, fun c hc hx => ?_, fun _ => ⟨by simp, fun c hc => ?_⟩⟩
      · show Rd _ _ (.list ((xs ++ ys).map .int)) _
        rw [List.map_append]
        refine Rd.list (vs := vs ++ ws) (n := 0) ?_ (by simpa using (ra.ext (Ext.push _ _)).append (rb.ext (Ext.push _ _)))
        have := Heap.get?_push_size s.heap (o := { cls := .type "list", data := .seq (vs.toArray ++ ws.toArray) }) rfl
        simpa using this
      · rw [List.mem_singleton.mp hc] at hx; obtain ⟨o, ho⟩ := hX _ hx; rw [push_new] at ho; cases ho
      · rw [List.mem_singleton.mp hc]; exact push_new _

theorem Ev.negI (ha : Ev K n sc ρ a (.py (.int x)) fa) : Ev K n sc ρ (.UnaryOp .USub a pos) (.py (.int (-x))) true := Hide.mk fun {A env s X E} I => by
  refine UnaryOp_ (wpAny_mono (ha.run I) (fun v s₁ p => ?_) fun _ _ x => x)
  obtain ⟨h₁, tk, as, rfl, g⟩ := p
  have ra : Rd h₁ v (.int x) as := g.rd
  cases ra
  exact neg_int (Post.flat g.ext (.int ..))
end
end Mine

namespace Mine

/-! ### comparisons -/
def CmpOk (K : Cx) (n : Nat) (op : CmpOp) (da db : D) (r : Bool) : Prop := Hide <|
  ∀ {A : Around} {s : Shared} {E : Value → Shared → Prop} {Q : Value → Shared → Prop} {va vb : Value} {as bs : List Addr}, Room A n → K.Ok s.heap → RdD K s.heap va da as → RdD K s.heap vb db bs →
    (∀ tk, Q (.bool r) { s with toks := tk }) → wpAny (model K.prog K.w) A (compareOp op va vb) Q E s

section
variable {K : Cx} {n : Nat} {sc : Scope} {ρ : List (Str × D)} {a b : Expr} {pos : Pos} {fa fb : Bool} {x y : Int} {op : CmpOp} {da db : D} {r : Bool}

theorem Ev.cmp (ha : Ev K n sc ρ a da fa) (hb : Ev K n sc ρ b db fb) (h : CmpOk K n op da db r) (hm : behindInMarks op b = false := by rfl) : Ev K n sc ρ (.Compare a [op] [b] pos) (.py (.bool r)) true :=
  Hide.mk fun {A env s X E} I => by
  refine wpAny_Compare1 (Ev.then ha hb I fun va vb h₁ h₂ tk as bs ga gb => ?_) hm
  have x₂ := ga.ext.trans gb.ext
  exact h.run (s := { s with heap := h₂, toks := tk }) I.room (I.ok.mono x₂) (ga.rd.ext gb.ext) gb.rd fun tk' => Post.flat x₂ (.bool r)
theorem Tr.cmp (ha : Ev K n sc ρ a da fa) (hb : Ev K n sc ρ b db fb) (h : CmpOk K n op da db r) (hm : behindInMarks op b = false := by rfl) : Tr K n sc ρ (.Compare a [op] [b] pos) r :=
  Hide.mk fun {A env s X E} I => by
  refine wpAny_isTrue_Compare1 (Ev.then ha hb I fun va vb h₁ h₂ tk as bs ga gb => ?_) hm
  have x₂ := ga.ext.trans gb.ext
  exact h.run (s := { s with heap := h₂, toks := tk }) I.room (I.ok.mono x₂) (ga.rd.ext gb.ext) gb.rd fun tk' => wpAny_truthy_bool ⟨rfl, h₂, tk', rfl, x₂⟩

theorem CmpOk.cast {r' : Bool} (h : CmpOk K n op da db r) (q : r = r') : CmpOk K n op da db r' := q ▸ h
theorem CmpOk.eqI : CmpOk K n .Eq (.py (.int x)) (.py (.int y)) (x == y) := Hide.mk fun {A s E Q va vb as bs} _ _ ra rb h => by
  cases ra; cases rb; exact eq_int (h s.toks)
theorem CmpOk.neI : CmpOk K n .NotEq (.py (.int x)) (.py (.int y)) (x != y) := Hide.mk fun {A s E Q va vb as bs} _ _ ra rb h => by
  cases ra; cases rb; exact ne_int (h s.toks)
def Shp (d : PyData) : Prop := SeqAt.shaped d = true
theorem CmpOk.eqD {p q : PyData} (hp : Shp p) (hq : Shp q) : CmpOk K n .Eq (.py p) (.py q) (PyData.eqv p q) := Hide.mk fun {A s E Q va vb as bs} ro _ ra rb h =>
  SeqAt.compareEq_shaped (Rd.reads ra) (Rd.reads rb) hp hq (by have := ro.units; omega) (h s.toks)
theorem CmpOk.neD {p q : PyData} (hp : Shp p) (hq : Shp q) : CmpOk K n .NotEq (.py p) (.py q) (!PyData.eqv p q) := Hide.mk fun {A s E Q va vb as bs} ro _ ra rb h =>
  SeqAt.compareNe_shaped (Rd.reads ra) (Rd.reads rb) hp hq (by have := ro.units; omega) (h s.toks)
theorem CmpOk.inL {p : PyData} {ds : List PyData} (hp : Shp p) (hq : Shp (.list ds)) : CmpOk K n .In (.py p) (.py (.list ds)) (ds.any fun y => PyData.eqv y p) := Hide.mk fun {A s E Q va vb as bs} ro _ ra rb h => by
  refine SeqAt.in_list_reads (Rd.reads rb) (Rd.reads ra) (by have := SeqAt.canLay_of_shaped hq; simpa [PyData.canLay0] using this) (SeqAt.canLay_of_shaped hp) ?_ (h s.toks)
  have h1 := SeqAt.depth_of_shaped hp
  have h2 := ro.units
  have := Nat.min_le_right (PyData.depthAll ds) p.depth
  omega
def isNoneD : PyData → Bool | .none => true | _ => false
theorem CmpOk.isNone {p : PyData} : CmpOk K n .Is (.py p) (.py .none) (isNoneD p) := Hide.mk fun {A s E Q va vb as bs} ro _ ra rb h => by
  cases rb
  refine is_none_gen ?_
  have e : (va == Value.none) = isNoneD p := by cases ra <;> rfl
  rw [e]; exact h s.toks

/-! ### tests -/
def TruthOk (K : Cx) (n : Nat) (d : D) (r : Bool) : Prop := Hide <|
  ∀ {A : Around} {s : Shared} {E : Value → Shared → Prop} {Q : Bool → Shared → Prop} {v : Value} {as : List Addr}, Room A n → K.Ok s.heap → RdD K s.heap v d as →
    (∀ tk, Q r { s with toks := tk }) → wpAny (model K.prog K.w) A (truthy v) Q E s
theorem TruthOk.bool {b : Bool} : TruthOk K n (.py (.bool b)) b := Hide.mk fun {A s E Q v as} _ _ r h => by cases r; exact wpAny_truthy_bool (h s.toks)
theorem Tr.val {d : D} {r : Bool} (h : Ev K n sc ρ a d fa) (t : TruthOk K n d r)
    (he : ∀ env whole, isTrue a env whole = (do let v ← whole; standAt a.pos; holding [v] (truthy v)) := by intro _ _; rfl) : Tr K n sc ρ a r := Hide.mk fun {A env s X E} I => by
  refine isTrue_plain (wpAny_mono (h.run I) (fun v s₁ p => ?_) fun _ _ x => x) (he _ _)
  obtain ⟨h₁, tk, as, rfl, g⟩ := p
  exact t.run (s := { s with heap := h₁, toks := tk }) I.room (I.ok.mono g.ext) g.rd fun tk' => ⟨rfl, h₁, tk', rfl, g.ext⟩

theorem Tr.orNil : Tr K n sc ρ (.BoolOp .Or [] pos) false := Hide.mk fun {A env s X E} I => isTrue_or_nil ⟨rfl, s.heap, s.toks, shared_eta s, .refl _⟩
theorem Tr.orCons {b c : Bool} {rest : List Expr} (h : Tr K n sc ρ a b) (h' : b = false → Tr K n sc ρ (.BoolOp .Or rest pos) c) : Tr K n sc ρ (.BoolOp .Or (a :: rest) pos) (b || c) := Hide.mk fun {A env s X E} I => by
  refine isTrue_or (wpAny_mono (h.run I) (fun b' s' p => ?_) fun _ _ x => x)
  obtain ⟨rfl, h₁, tk, rfl, x₁⟩ := p
  cases b' with
  | true => exact ⟨rfl, h₁, tk, rfl, x₁⟩
  | false =>
    rw [if_neg Bool.false_ne_true]
    refine wpAny_mono ((h' rfl).run (s := { s with heap := h₁, toks := tk }) (I.ext x₁)) (fun c' s' p => ?_) fun _ _ x => x
    obtain ⟨rfl, h₂, tk', rfl, x₂⟩ := p
    exact ⟨by simp, h₂, tk', rfl, x₁.trans x₂⟩
end
end Mine

namespace Mine

section
variable {K : Cx} {n : Nat} {sc : Scope} {ρ : List (Str × D)} {a b c : Expr} {pos : Pos} {fa fb fr : Bool} {x y : Int}

/-! ### and, or, not, if as values -/
theorem Ev.and {p q : Bool} (ha : Ev K n sc ρ a (.py (.bool p)) fa) (hb : p = true → Ev K n sc ρ b (.py (.bool q)) fb) : Ev K n sc ρ (.BoolOp .And [a, b] pos) (.py (.bool (p && q))) true := Hide.mk fun {A env s X E} I => by
  refine BoolOp_and (wpAny_mono (ha.run I) (fun v s₁ t => ?_) fun _ _ x => x)
  obtain ⟨h₁, tk, as, rfl, g⟩ := t
  have ra : Rd h₁ v (.bool p) as := g.rd
  cases ra
  refine wpAny_truthy_bool ?_
  cases p with
  | false => exact Post.flat g.ext (.bool _)
  | true =>
    rw [if_pos rfl]
    refine BoolOp_one (wpAny_mono ((hb rfl).run (s := { s with heap := h₁, toks := tk }) (I.ext g.ext)) (fun v s₂ t => ?_) fun _ _ x => x)
    obtain ⟨h₂, tk', bs, rfl, g'⟩ := t
    have rb : Rd h₂ v (.bool q) bs := g'.rd
    cases rb
    exact Post.flat (g.ext.trans g'.ext) (.bool _)
theorem Post.after {s : Shared} {X : Addr → Prop} {d : D} {v : Value} {s' : Shared} {h₁ : Heap} {tk : Nat} (x : Ext s.heap h₁) (p : Post K { s with heap := h₁, toks := tk } X d fr v s') : Post K s X d fr v s' := by
  obtain ⟨h₂, tk', as, rfl, g⟩ := p
  exact ⟨h₂, tk', as, rfl, x.trans g.ext, g.rd, g.off, fun hf => ⟨(g.new hf).1, fun c hc => x.none ((g.new hf).2 c hc)⟩⟩

/-! ### rows of expressions: displays, arguments -/
def EvAll (K : Cx) (n : Nat) (sc : Scope) (ρ : List (Str × D)) (es : List Expr) (ds : List PyData) (fr : Bool) : Prop := Hide <|
  ∀ {A : Around} {env : Env} {s : Shared} {X : Addr → Prop} {E : Value → Shared → Prop} {Q : List Value → Shared → Prop} {pos : Pos}, In K n sc X ρ A env s.heap →
    (∀ vs h' tk as, Ext s.heap h' → RdAll h' vs ds as → (∀ a ∈ as, ¬ X a) → (fr = true → as.Nodup ∧ ∀ a ∈ as, s.heap.get? a = none) → Q vs { s with heap := h', toks := tk }) →
    wpAny (model K.prog K.w) A (spliced (backTo pos (starEach es env))) Q E s
theorem EvAll.nil : EvAll K n sc ρ [] [] true := Hide.mk fun {A env s X E Q pos} I k => by
  refine args_nil ?_
  have := k [] s.heap s.toks [] (.refl _) .nil nofun fun _ => ⟨.nil, nofun⟩
  exact this
theorem EvAll.cons {e : Expr} {es : List Expr} {d : PyData} {ds : List PyData} {f g : Bool} (h : Ev K n sc ρ e (.py d) f) (hs : EvAll K n sc ρ es ds g)
    (he : ∀ env, starEach (e :: es) env = (false, eval e env) :: starEach es env := by intro _; rfl) : EvAll K n sc ρ (e :: es) (d :: ds) (f && g) := Hide.mk fun {A env s X E Q pos} I k => by
  refine args_cons (wpAny_mono (h.run I) (fun v s₁ p => ?_) fun _ _ x => x) (he env)
  obtain ⟨h₁, tk, as, rfl, ga⟩ := p
  refine hs.run (s := { s with heap := h₁, toks := tk }) (I.ext ga.ext) fun vs h₂ tk' bs x₂ rd off new => ?_
  refine k (v :: vs) h₂ tk' (as ++ bs) (ga.ext.trans x₂) (.cons (Rd.ext ga.rd x₂) rd) (fun c hc => ?_) fun hf => ?_
  · rcases List.mem_append.mp hc with hc | hc
    · exact ga.off c hc
    · exact off c hc
  · rw [Bool.and_eq_true] at hf
    obtain ⟨n1, m1⟩ := ga.new hf.1
    obtain ⟨n2, m2⟩ := new hf.2
    refine ⟨nodup_append n1 n2 fun c hc hd => ?_, fun c hc => ?_⟩
    · obtain ⟨o, ho⟩ := Rd.dom ga.rd c hc; rw [m2 c hd] at ho; cases ho
    · rcases List.mem_append.mp hc with hc | hc
      · exact m1 c hc
      · exact ga.ext.none (m2 c hc)

theorem Ev.list {es : List Expr} {ds : List PyData} (h : EvAll K n sc ρ es ds fr) (hsz : ds.length ≤ sizeLine := by first | decide | simp [sizeLine]) : Ev K n sc ρ (.List es pos) (.py (.list ds)) fr := Hide.mk fun {A env s X E} I => by
  refine List_ (h.run I fun vs h' tk as x rd off new => ?_)
  refine wpAny_newObj_type ?_ (by show vs.toArray.size ≤ sizeLine; rw [List.size_toArray, rd.length]; exact hsz)
  refine ⟨_, tk, h'.objs.size :: as, rfl, x.trans (Ext.push _ _), ?_, fun c hc => ?_, fun hf => ?_⟩
  · exact Rd.list (vs := vs) (n := 0) (Heap.get?_push_size _ rfl) (rd.ext (Ext.push _ _))
  · rcases List.mem_cons.mp hc with rfl | hc
    · intro hx; obtain ⟨o, ho⟩ := I.dom _ hx; have := x _ _ ho; rw [push_new] at this; cases this
    · exact off c hc
  · obtain ⟨n1, m1⟩ := new hf
    refine ⟨List.nodup_cons.mpr ⟨fun hm => ?_, n1⟩, fun c hc => ?_⟩
    · obtain ⟨o, ho⟩ := rd.dom _ hm; rw [push_new] at ho; cases ho
    · rcases List.mem_cons.mp hc with rfl | hc
      · exact x.none (push_new _)
      · exact m1 c hc
/-! ### items -/
theorem Ev.item {ds : List PyData} {i : Int} {d : PyData} (ha : Ev K n sc ρ a (.py (.list ds)) fa) (hb : Ev K n sc ρ b (.py (.int i)) fb) (h0 : 0 ≤ i) (hi : ds[i.toNat]? = some d) (hsz : ds.length ≤ sizeLine)
    (hs : ∀ o j, subscripted b false o j = operate [o, j] (getItem o j) := by intro _ _; rfl) : Ev K n sc ρ (.Subscript a b pos) (.py d) false := Hide.mk fun {A env s X E} I => by
  refine Subscript_ (Ev.then ha hb I fun va vb h₁ h₂ tk as bs ga gb => ?_)
  have x₂ := ga.ext.trans gb.ext
  have ra : Rd h₂ va (.list ds) as := Rd.ext ga.rd gb.ext
  have rb : Rd h₂ vb (.int i) bs := gb.rd
  have oa := ga.off
  cases rb
  cases ra with
  | @list l vs k _ as ea ra =>
    obtain ⟨v, cs, h1, h2, h3⟩ := ra.get' hi
    have hl : ({ s with heap := h₂, toks := tk } : Shared).heap.IsList l vs.toArray := ⟨_, ea, rfl, _, rfl⟩
    have hlt : i.toNat < ds.length := (List.getElem?_eq_some_iff.mp hi).1
    refine tail_any hl.typeIs slot_list_getitem.lookup (wpAny_getItem_list hl h0 (by rw [sizeLine_eq] at hsz; omega) (by simpa using h1) ?_) (hs _ _)
    exact ⟨h₂, tk, cs, rfl, x₂, h2, fun c hc => oa c (.tail _ (h3 c hc)), nofun⟩
end
end Mine

namespace Mine

theorem RdAll.flat_nil {h : Heap} : ∀ {vs : List Value} {ds : List PyData} {as}, RdAll h vs ds as → (∀ d ∈ ds, Flat d) → as = []
  | [], [], _, .nil, _ => rfl
  | _ :: _, _ :: _, _, .cons a b, f => by rw [a.flat (f _ (.head _)), b.flat_nil fun d hd => f d (.tail _ hd)]; rfl

/-- some of the items, picked by place -/
theorem RdAll.drop {h : Heap} : ∀ {vs : List Value} {ds : List PyData} {as} (k : Nat), RdAll h vs ds as → ∃ bs, RdAll h (vs.drop k) (ds.drop k) bs ∧ ∀ b ∈ bs, b ∈ as
  | vs, ds, as, 0, r => ⟨as, r, fun _ h => h⟩
  | _, _, _, k + 1, .nil => ⟨[], .nil, fun _ h => h⟩
  | _, _, _, k + 1, .cons a b => let ⟨bs, r, s⟩ := b.drop k; ⟨bs, r, fun c hc => List.mem_append_right _ (s c hc)⟩
theorem RdAll.take {h : Heap} : ∀ {vs : List Value} {ds : List PyData} {as} (k : Nat), RdAll h vs ds as → ∃ bs, RdAll h (vs.take k) (ds.take k) bs ∧ ∀ b ∈ bs, b ∈ as
  | _, _, _, 0, _ => ⟨[], .nil, nofun⟩
  | _, _, _, k + 1, .nil => ⟨[], .nil, fun _ h => h⟩
  | _, _, _, k + 1, .cons a b => let ⟨bs, r, s⟩ := b.take k
    ⟨_, .cons a r, fun c hc => (List.mem_append.mp hc).elim (fun h => List.mem_append_left _ h) fun h => List.mem_append_right _ (s c h)⟩
theorem RdAll.reverse {h : Heap} : ∀ {vs : List Value} {ds : List PyData} {as}, RdAll h vs ds as → ∃ bs, RdAll h vs.reverse ds.reverse bs ∧ ∀ b ∈ bs, b ∈ as
  | _, _, _, .nil => ⟨[], .nil, fun _ h => h⟩
  | _, _, _, .cons a b => let ⟨bs, r, s⟩ := b.reverse
    ⟨bs ++ _, by simpa using r.append (.one a), fun c hc => (List.mem_append.mp hc).elim (fun h => List.mem_append_right _ (s c h)) fun h => List.mem_append_left _ h⟩

section
variable {K : Cx} {n : Nat} {sc : Scope} {ρ : List (Str × D)} {a b c : Expr} {pos p : Pos} {fa fb fc fr : Bool} {i j : Int} {ds : List PyData}

def EvPart (K : Cx) (n : Nat) (sc : Scope) (ρ : List (Str × D)) (o : Option Expr) (k : Option Int) : Prop := Hide <|
  ∀ {A : Around} {env : Env} {s : Shared} {X : Addr → Prop} {E : Value → Shared → Prop} {Q : Value → Shared → Prop}, In K n sc X ρ A env s.heap →
    (∀ v h' tk, Ext s.heap h' → IsPart v k → Q v { s with heap := h', toks := tk }) → wpAny (model K.prog K.w) A (evalPart o env) Q E s
theorem EvPart.none : EvPart K n sc ρ none none := Hide.mk fun {A env s X E Q} I k => by
  rw [evalPart_none]
  have := k .none s.heap s.toks (.refl _) .none
  exact wpAny_pure this
theorem EvPart.some (h : Ev K n sc ρ a (.py (.int i)) fa) : EvPart K n sc ρ (some a) (some i) := Hide.mk fun {A env s X E Q} I k => by
  rw [evalPart_some]
  refine wpAny_mono (h.run I) (fun v s₁ p => ?_) fun _ _ x => x
  obtain ⟨h₁, tk, as, rfl, g⟩ := p
  have r : Rd h₁ v (.int i) as := g.rd
  cases r
  exact k _ h₁ tk g.ext (.int i _)

theorem Ev.slice {es : List PyData} {lo hi st : Option Expr} {l u t : Option Int} (ha : Ev K n sc ρ a (.py (.list ds)) fa) (hl : EvPart K n sc ρ lo l) (hu : EvPart K n sc ρ hi u) (ht : EvPart K n sc ρ st t) (h0 : t ≠ some 0)
    (hsz : ds.length ≤ sizeLine)
    (pick : ∀ {h : Heap} {vs : List Value} {as}, RdAll h vs ds as → ∃ bs, RdAll h (slicePick vs.toArray l u t).toList es bs ∧ ∀ b ∈ bs, b ∈ as)
    (hf : fr = true → ∀ d ∈ es, Flat d) : Ev K n sc ρ (.Subscript a (.Slice lo hi st p) pos) (.py (.list es)) fr := Hide.mk fun {A env s X E} I => by
  refine Subscript_ (wpAny_mono (ha.run I) (fun va s₁ q => ?_) fun _ _ x => x)
  obtain ⟨h₁, tk, as, rfl, ga⟩ := q
  have I₁ := I.ext ga.ext
  refine wpAny_Slice (hl.run (s := { s with heap := h₁, toks := tk }) I₁ fun vl h₂ tk₂ x₂ pl => hu.run (s := { s with heap := h₂, toks := tk₂ }) (I₁.ext x₂) fun vu h₃ tk₃ x₃ pu => ht.run (s := { s with heap := h₃, toks := tk₃ }) ((I₁.ext x₂).ext x₃) fun vt h₄ tk₄ x₄ pt => ?_)
  have ra : Rd h₁ va (.list ds) as := ga.rd
  have oa := ga.off
  cases ra with
  | @list r vs k _ as ea ra =>
    have xx := x₂.trans (x₃.trans x₄)
    generalize hh5 : h₄.push { cls := .type "slice", data := .fields #[vl, vu, vt] } = h₅
    have x₅ : Ext h₄ h₅ := hh5 ▸ Ext.push _ _
    have hS : h₅.IsSliceOf h₄.objs.size vl vu vt := hh5 ▸ Heap.IsSliceOf.new ..
    have x15 := xx.trans x₅
    have hL : ({ s with heap := h₅, toks := tk₄ } : Shared).heap.IsList r vs.toArray := ⟨_, x15 _ _ ea, rfl, _, rfl⟩
    have ops : ∃ ops, subscripted (.Slice lo hi st p) false (.ref r) (.ref h₄.objs.size) = operate ops (getItem (.ref r) (.ref h₄.objs.size)) := by
      cases st with
      | none => exact ⟨_, rfl⟩
      | some e => exact ⟨_, rfl⟩
    obtain ⟨ops, hops⟩ := ops
    refine tail_any hL.typeIs slot_list_getitem.lookup (wpAny_getItem_list_slice hL hS pl pu pt h0 ?_ (by simp [ra.length]; exact hsz)) hops
    obtain ⟨bs, rb, sb⟩ := pick (ra.ext x15)
    have xs5 : Ext s.heap h₅ := ga.ext.trans x15
    refine ⟨_, tk₄, h₅.objs.size :: bs, rfl, xs5.trans (Ext.push _ _), ?_, fun c hc => ?_, fun hfr => ?_⟩
    · refine Rd.list (vs := (slicePick vs.toArray l u t).toList) (n := 0) ?_ (rb.ext (Ext.push _ _))
      simpa using Heap.get?_push_size h₅ (o := { cls := .type "list", data := .seq (slicePick vs.toArray l u t) }) rfl
    · rcases List.mem_cons.mp hc with rfl | hc
      · intro hx; obtain ⟨o, ho⟩ := I.dom _ hx; have := xs5 _ _ ho; rw [push_new] at this; cases this
      · exact oa c (.tail _ (sb c hc))
    · obtain rfl := rb.flat_nil (hf hfr)
      exact ⟨by simp, fun c hc => by rw [List.mem_singleton.mp hc]; exact xs5.none (push_new _)⟩

theorem Ev.sliceFrom (ha : Ev K n sc ρ a (.py (.list ds)) fa) (hb : Ev K n sc ρ b (.py (.int i)) fb) (h0 : 0 ≤ i) (hsz : ds.length ≤ sizeLine) (hf : fr = true → ∀ d ∈ ds, Flat d) :
    Ev K n sc ρ (.Subscript a (.Slice (some b) none none p) pos) (.py (.list (ds.drop i.toNat))) fr :=
  Ev.slice ha (EvPart.some hb) EvPart.none EvPart.none nofun hsz (fun r => by
    obtain ⟨k, rfl⟩ := Int.eq_ofNat_of_zero_le h0
    show ∃ bs, RdAll _ (slicePick _ (some (k : Int)) none none).toList _ bs ∧ _
    rw [slicePick_from']; exact r.drop k) fun h d hd => hf h d (List.mem_of_mem_drop hd)
theorem Ev.sliceRev (ha : Ev K n sc ρ a (.py (.list ds)) fa) (hb : Ev K n sc ρ b (.py (.int (-1))) fb) (hsz : ds.length ≤ sizeLine) (hf : fr = true → ∀ d ∈ ds, Flat d) :
    Ev K n sc ρ (.Subscript a (.Slice none none (some b) p) pos) (.py (.list ds.reverse)) fr :=
  Ev.slice ha EvPart.none EvPart.none (EvPart.some hb) (by decide) hsz (fun r => by
    rw [krv_pick]; exact r.reverse) fun h d hd => hf h d (List.mem_reverse.mp hd)
end
end Mine

namespace Mine

def GV (K : Cx) (x : Str) (v : Value) : Prop := K.mg x = some v ∨ (K.mg x = none ∧ K.mb x = some v)

theorem name_global {K n sc X ρ A env} {s : Shared} {E : Value → Shared → Prop} {Q : Value → Shared → Prop} {x : Str} {pos : Pos} {v : Value} (I : In K n sc X ρ A env s.heap) (g : GV K x v) (hx : sc.names.lookup x = some .globalImplicit)
    (h : Q v s) (hd : (x == ("__debug__" : Str)) = false := by decide) : wpAny (model K.prog K.w) A (eval (.Name x pos) env) Q E s := by
  refine Calls.Name_function_global I.henv.kind (by show env.scope.names.lookup x = _; rw [I.hsc]; exact hx) ?_ hd
  have hg : s.heap.Ns env.globals K.mg := by rw [I.henv.globals]; exact I.ok.g.keeps I.ok.ext
  have hb : s.heap.Ns env.builtins K.mb := by rw [I.henv.builtins]; exact I.ok.b.keeps I.ok.ext
  rcases g with g | ⟨g1, g2⟩
  · exact Calls.loadGlobal_global hg g h
  · exact Calls.loadGlobal_builtin hg g1 hb g2 h

inductive RdDs (K : Cx) (h : Heap) : List Value → List D → List Addr → Prop
  | nil : RdDs K h [] [] []
  | cons {v vs d ds as bs} : RdD K h v d as → RdDs K h vs ds bs → RdDs K h (v :: vs) (d :: ds) (as ++ bs)
section
variable {K : Cx} {n : Nat} {sc : Scope} {ρ : List (Str × D)} {a b c : Expr} {pos p : Pos} {fa fb fc fr : Bool} {i j : Int} {ds : List PyData}

def EvArgs (K : Cx) (n : Nat) (sc : Scope) (ρ : List (Str × D)) (es : List Expr) (ds : List D) : Prop := Hide <|
  ∀ {A : Around} {env : Env} {s : Shared} {X : Addr → Prop} {E : Value → Shared → Prop} {Q : List Value → Shared → Prop} {pos : Pos}, In K n sc X ρ A env s.heap →
    (∀ vs h' tk as, Ext s.heap h' → RdDs K h' vs ds as → (∀ a ∈ as, ¬ X a) → Q vs { s with heap := h', toks := tk }) →
    wpAny (model K.prog K.w) A (spliced (backTo pos (starEach es env))) Q E s
theorem EvArgs.nil : EvArgs K n sc ρ [] [] := Hide.mk fun {A env s X E Q pos} I k => args_nil (k [] s.heap s.toks [] (.refl _) .nil nofun)
theorem EvArgs.cons {e : Expr} {es : List Expr} {d : D} {ds : List D} {f : Bool} (h : Ev K n sc ρ e d f) (hs : EvArgs K n sc ρ es ds)
    (he : ∀ env, starEach (e :: es) env = (false, eval e env) :: starEach es env := by intro _; rfl) : EvArgs K n sc ρ (e :: es) (d :: ds) := Hide.mk fun {A env s X E Q pos} I k => by
  refine args_cons (wpAny_mono (h.run I) (fun v s₁ p => ?_) fun _ _ x => x) (he env)
  obtain ⟨h₁, tk, as, rfl, ga⟩ := p
  refine hs.run (s := { s with heap := h₁, toks := tk }) (I.ext ga.ext) fun vs h₂ tk' bs x₂ rd off => ?_
  refine k (v :: vs) h₂ tk' (as ++ bs) (ga.ext.trans x₂) (.cons (ga.rd.ext x₂) rd) fun c hc => ?_
  rcases List.mem_append.mp hc with hc | hc
  · exact ga.off c hc
  · exact off c hc

def CallOk (K : Cx) (n : Nat) (f : Value) (ds : List D) (d : D) (fr : Bool) : Prop := Hide <|
  ∀ {A : Around} {s : Shared} {X : Addr → Prop} {E : Value → Shared → Prop} {vs : List Value} {as : List Addr}, Room A n → K.Ok s.heap → RdDs K s.heap vs ds as → (∀ a, X a → ∃ o, s.heap.get? a = some o) → (∀ a ∈ as, ¬ X a) →
    wpAny (model K.prog K.w) A (call f vs) (Post K s X d fr) E s

/-- a call of a built-in function by its name -/
theorem Ev.callB {fn : Str} {id : String} {e : Expr} {es : List Expr} {ds : List D} {d : D} (g : GV K fn (.builtin id)) (args : EvArgs K n sc ρ (e :: es) ds) (h : CallOk K n (.builtin id) ds d fr)
    (hx : sc.names.lookup fn = some .globalImplicit := by rfl) (hd : (fn == ("__debug__" : Str)) = false := by decide)
    (he : ∀ env, starEach (e :: es) env = (false, eval e env) :: starEach es env := by intro _; rfl) (hpl : ∀ env, (backTo pos (starEach es env)).any (·.1) = false := by intro _; rfl)
    (hc : ∀ env, eval (.Call (.Name fn p) (e :: es) [] pos) env = (do callWith pos (← eval (.Name fn p) env) [] (backTo pos (starEach (e :: es) env)) (backToKw pos (keywordEach [] env))) := by intro _; rfl) :
    Ev K n sc ρ (.Call (.Name fn p) (e :: es) [] pos) d fr := Hide.mk fun {A env s X E} I => by
  refine Call_ (name_global I g hx ?_ hd) (hc env)
  refine callWith_builtin1 (args.run I fun vs h' tk as x rd off => ?_) (he env) (hpl env)
  exact wpAny_mono (h.run (s := { s with heap := h', toks := tk }) (X := X) I.room (I.ok.mono x) rd (fun a ha => let ⟨o, ho⟩ := I.dom a ha; ⟨o, x a o ho⟩) off) (fun v s' p => Post.after x p) fun _ _ x => x
/-- a call of a type by its name -/
theorem Ev.callT {fn : Str} {T : String} {e : Expr} {es : List Expr} {ds : List D} {d : D} (g : GV K fn (.type T)) (args : EvArgs K n sc ρ (e :: es) ds) (h : CallOk K n (.type T) ds d fr)
    (hx : sc.names.lookup fn = some .globalImplicit := by rfl) (hd : (fn == ("__debug__" : Str)) = false := by decide)
    (he : ∀ env, starEach (e :: es) env = (false, eval e env) :: starEach es env := by intro _; rfl) (hpl : ∀ env, (backTo pos (starEach es env)).any (·.1) = false := by intro _; rfl)
    (hc : ∀ env, eval (.Call (.Name fn p) (e :: es) [] pos) env = (do callWith pos (← eval (.Name fn p) env) [] (backTo pos (starEach (e :: es) env)) (backToKw pos (keywordEach [] env))) := by intro _; rfl) :
    Ev K n sc ρ (.Call (.Name fn p) (e :: es) [] pos) d fr := Hide.mk fun {A env s X E} I => by
  refine Call_ (name_global I g hx ?_ hd) (hc env)
  have hpl' : (backTo pos (starEach (e :: es) env)).any (·.1) = false := by rw [he env]; show (false || _) = false; rw [Bool.false_or]; exact hpl env
  refine PySem.callWith_type hpl' ?_
  have key := args.run (pos := pos) (E := E) I (Q := fun vs s₁ => wpAny (model K.prog K.w) A (call (.type T) vs) (Post K s X d fr) E s₁) fun vs h' tk as x rd off =>
    wpAny_mono (h.run (s := { s with heap := h', toks := tk }) (X := X) I.room (I.ok.mono x) rd (fun a ha => let ⟨o, ho⟩ := I.dom a ha; ⟨o, x a o ho⟩) off) (fun v s' p => Post.after x p) fun _ _ x => x
  rw [he env] at key ⊢
  exact Calls.evalArgs_plain (wpAny_mono key (fun vs s₁ h₁ => h₁) fun _ _ x => x)

/-! ### built-ins -/
theorem CallOk.lenL (hsz : ds.length ≤ sizeLine) : CallOk K n (.builtin "len") [.py (.list ds)] (.py (.int ds.length)) true := Hide.mk fun {A s X E vs as} ro ok rd _ _ => by
  cases rd with
  | cons r rs =>
    cases rs
    have q : Rd s.heap _ (.list ds) _ := r
    clear r
    cases q with
    | @list l ws k _ bs e r =>
      have hl := r.length
      refine len_list (items := ws.toArray) ⟨_, e, rfl, _, rfl⟩ (by rw [sizeLine_eq] at hsz; simp only [List.size_toArray]; omega) ?_
      simp only [List.size_toArray, hl]
      exact Post.flat (.refl _) (.int ..)
theorem CallOk.list (hsz : ds.length ≤ sizeLine) (hf : fr = true → ∀ d ∈ ds, Flat d) : CallOk K n (.type "list") [.py (.list ds)] (.py (.list ds)) fr := Hide.mk fun {A s X E vs as} ro ok rd hX ha => by
  cases rd with
  | cons r rs =>
    cases rs
    have q : Rd s.heap _ (.list ds) _ := r
    clear r
    cases q with
    | @list l ws k _ bs e r =>
      refine call_list_seq (T := "list") l (.inl rfl) e rfl rfl (fun h' c' hk hn => ?_) (by simp [r.length]; exact hsz)
      refine ⟨h', s.toks, s.heap.objs.size :: bs, rfl, hk, ?_, fun c hc hx => ?_, fun hfr => ?_⟩
      · exact Rd.list hn (r.ext hk)
      · rcases List.mem_cons.mp hc with rfl | hc
        · obtain ⟨o, ho⟩ := hX _ hx; rw [push_new] at ho; cases ho
        · exact ha c (by simp [hc]) hx
      · obtain rfl := r.flat_nil (hf hfr)
        exact ⟨by simp, fun c hc => by rw [List.mem_singleton.mp hc]; exact push_new _⟩

end
end Mine

namespace Mine

/-! ### statements: a map of names that are read (sh) and of names that are owned alone (ow) -/
structure Own (K : Cx) (g : Addr → Option Obj) (X : Addr → Prop) (env : Env) (sh ow : List (Str × D)) (fp : Str → List Addr) (h : Heap) : Prop where
  own : ∀ x d, ow.lookup x = some d → ∃ v, VarAt h env x v ∧ RdD K h v d (fp x) ∧ (fp x).Nodup ∧ ∀ a ∈ fp x, g a = none ∧ ¬ FrameAddr env a ∧ ¬ X a
  apart : ∀ x y, x ≠ y → (ow.lookup x).isSome = true → (ow.lookup y).isSome = true → ∀ a ∈ fp x, a ∉ fp y
  shared : ∀ x d, sh.lookup x = some d → ∃ v as, VarAt h env x v ∧ RdD K h v d as ∧ ∀ a ∈ as, ¬ FrameAddr env a ∧ ¬ X a ∧ ∀ y, (ow.lookup y).isSome = true → a ∉ fp y

structure St (K : Cx) (lv : Bool) (n : Nat) (sc : Scope) (X : Addr → Prop) (g : Addr → Option Obj) (sh ow : List (Str × D)) (A : Around) (env : Env) (h : Heap) : Prop where
  room : Room A n
  ok : K.Ok h
  hsc : env.scope = sc
  henv : EnvOk env
  frame : FrameOk h env
  base : ∀ a o, g a = some o → h.get? a = some o
  bK : ∀ a o, K.h₀.get? a = some o → g a = some o
  new : ∀ a, FrameAddr env a → g a = none
  dom : ∀ a, X a → ∃ o, h.get? a = some o
  top : lv = true → A.frames = some [env] ∧ env.frame = some env.locals
  vars : ∃ fp, Own K g X env sh ow fp h

def ownX (X : Addr → Prop) (env : Env) (ow : List (Str × D)) (fp : Str → List Addr) (a : Addr) : Prop := X a ∨ FrameAddr env a ∨ ∃ y, (ow.lookup y).isSome = true ∧ a ∈ fp y

theorem FrameOk.some {h : Heap} {env : Env} (F : FrameOk h env) {a : Addr} (x : FrameAddr env a) : ∃ o, h.get? a = some o := let ⟨o, ho, _⟩ := F.noSeq x; ⟨o, ho⟩

section
variable {K : Cx} {lv : Bool} {n : Nat} {sc : Scope} {X : Addr → Prop} {g : Addr → Option Obj} {sh ow : List (Str × D)} {A : Around} {env : Env} {h h' : Heap} {fp : Str → List Addr}

/-- reading alone: every name -/
theorem St.inAll (S : St K lv n sc X g sh ow A env h) : In K n sc (fun a => X a ∨ FrameAddr env a) (ow ++ sh) A env h := by
  obtain ⟨fp, O⟩ := S.vars
  refine ⟨S.room, S.ok, S.hsc, S.henv, S.frame, fun a ha => ha.elim (S.dom a) fun q => S.frame.some q, fun x d hx => ?_⟩
  rw [lookup_append] at hx
  cases ho : ow.lookup x with
  | some d' =>
    rw [ho] at hx
    have : d' = d := by simpa using hx
    subst this
    obtain ⟨v, h1, h2, _, h4⟩ := O.own x d' ho
    exact ⟨v, fp x, h1, h2, fun a ha q => q.elim (h4 a ha).2.2 (h4 a ha).2.1⟩
  | none =>
    rw [ho] at hx
    obtain ⟨v, as, h1, h2, h3⟩ := O.shared x d (by simpa using hx)
    exact ⟨v, as, h1, h2, fun a ha q => q.elim (h3 a ha).2.1 (h3 a ha).1⟩

/-- the names that may be handed on -/
theorem St.inSh (S : St K lv n sc X g sh ow A env h) (O : Own K g X env sh ow fp h) : In K n sc (ownX X env ow fp) sh A env h := by
  refine ⟨S.room, S.ok, S.hsc, S.henv, S.frame, fun a ha => ?_, fun x d hx => ?_⟩
  · rcases ha with ha | ha | ⟨y, hy, ha⟩
    · exact S.dom a ha
    · exact S.frame.some ha
    · obtain ⟨d, hd⟩ := Option.isSome_iff_exists.mp hy
      obtain ⟨v, _, h2, _⟩ := O.own y d hd
      exact h2.dom a ha
  · obtain ⟨v, as, h1, h2, h3⟩ := O.shared x d hx
    exact ⟨v, as, h1, h2, fun a ha q => q.elim (h3 a ha).2.1 fun q => q.elim (h3 a ha).1 fun ⟨y, hy, hm⟩ => (h3 a ha).2.2 y hy hm⟩

theorem Own.ext (O : Own K g X env sh ow fp h) (e : Ext h h') : Own K g X env sh ow fp h' :=
  ⟨fun x d hx => let ⟨v, h1, h2, h3⟩ := O.own x d hx; ⟨v, h1.ext e, h2.ext e, h3⟩, O.apart, fun x d hx => let ⟨v, as, h1, h2, h3⟩ := O.shared x d hx; ⟨v, as, h1.ext e, h2.ext e, h3⟩⟩
theorem St.withOwn (S : St K lv n sc X g sh ow A env h) {sh' ow' : List (Str × D)} (e : Ext h h') (O : Own K g X env sh' ow' fp h') : St K lv n sc X g sh' ow' A env h' :=
  ⟨S.room, S.ok.mono e, S.hsc, S.henv, S.frame.ext e, fun a o ha => e a o (S.base a o ha), S.bK, S.new, fun a ha => let ⟨o, ho⟩ := S.dom a ha; ⟨o, e a o ho⟩, S.top, fp, O⟩
theorem St.ext (S : St K lv n sc X g sh ow A env h) (e : Ext h h') : St K lv n sc X g sh ow A env h' := let ⟨fp, O⟩ := S.vars; S.withOwn e (O.ext e)

/-- forget names -/
theorem St.sub (S : St K lv n sc X g sh ow A env h) {sh' ow' : List (Str × D)} (h1 : ∀ x d, sh'.lookup x = some d → sh.lookup x = some d) (h2 : ∀ x d, ow'.lookup x = some d → ow.lookup x = some d) : St K lv n sc X g sh' ow' A env h := by
  obtain ⟨fp, O⟩ := S.vars
  have h2' : ∀ y, (ow'.lookup y).isSome = true → (ow.lookup y).isSome = true := fun y hy => by
    obtain ⟨d, hd⟩ := Option.isSome_iff_exists.mp hy; rw [h2 y d hd]; rfl
  exact S.withOwn (.refl _) ⟨fun x d hx => O.own x d (h2 x d hx), fun x y hxy hx hy => O.apart x y hxy (h2' x hx) (h2' y hy), fun x d hx => let ⟨v, as, a1, a2, a3⟩ := O.shared x d (h1 x d hx); ⟨v, as, a1, a2, fun a ha => ⟨(a3 a ha).1, (a3 a ha).2.1, fun y hy => (a3 a ha).2.2 y (h2' y hy)⟩⟩⟩

end

inductive Out where
  | next (sh ow : List (Str × D))
  | brk (sh ow : List (Str × D))
  | cont (sh ow : List (Str × D))
  | ret (d : D) (fr : Bool)

def OutOk (K : Cx) (lv : Bool) (n : Nat) (sc : Scope) (X : Addr → Prop) (g : Addr → Option Obj) (A : Around) (env : Env) (s : Shared) (o : Out) (f : Flow) (s' : Shared) : Prop :=
  ∃ h tk, s' = { s with heap := h, toks := tk } ∧ match o, f with
    | .next sh ow, .next => St K lv n sc X g sh ow A env h
    | .brk sh ow, .brk => St K lv n sc X g sh ow A env h
    | .cont sh ow, .cont => St K lv n sc X g sh ow A env h
    | .ret d fr, .ret v => ∃ as, (∀ a o, g a = some o → h.get? a = some o) ∧ RdD K h v d as ∧ (∀ a ∈ as, ¬ X a) ∧ (fr = true → as.Nodup ∧ ∀ a ∈ as, g a = none)
    | _, _ => False

def Ex (K : Cx) (lv : Bool) (n : Nat) (sc : Scope) (sh ow : List (Str × D)) (ss : List Stmt) (Q : Out → Prop) : Prop := Hide <|
  ∀ {A : Around} {env : Env} {s : Shared} {X : Addr → Prop} {g : Addr → Option Obj} {E : Value → Shared → Prop}, St K lv n sc X g sh ow A env s.heap →
    wpAny (model K.prog K.w) A (execs ss env) (fun f s' => ∃ o, Q o ∧ OutOk K lv n sc X g A env s o f s') E s
def Ex1 (K : Cx) (lv : Bool) (n : Nat) (sc : Scope) (sh ow : List (Str × D)) (st : Stmt) (Q : Out → Prop) : Prop := Hide <|
  ∀ {A : Around} {env : Env} {s : Shared} {X : Addr → Prop} {g : Addr → Option Obj} {E : Value → Shared → Prop}, St K lv n sc X g sh ow A env s.heap →
    wpAny (model K.prog K.w) A (exec st env) (fun f s' => ∃ o, Q o ∧ OutOk K lv n sc X g A env s o f s') E s

theorem OutOk.after {K lv n sc X g A env} {s : Shared} {o : Out} {f : Flow} {s' : Shared} {h : Heap} {tk : Nat} (x : OutOk K lv n sc X g A env { s with heap := h, toks := tk } o f s') : OutOk K lv n sc X g A env s o f s' := by
  obtain ⟨h', tk', rfl, r⟩ := x
  exact ⟨h', tk', rfl, r⟩

section
variable {K : Cx} {lv : Bool} {n : Nat} {sc : Scope} {sh ow : List (Str × D)} {Q : Out → Prop}

theorem Ex.nil (h : Q (.next sh ow)) : Ex K lv n sc sh ow [] Q := Hide.mk fun {A env s X g E} S => wpAny_execs_nil ⟨_, h, s.heap, s.toks, shared_eta s, S⟩
theorem Ex.sub {ss : List Stmt} {sh' ow' : List (Str × D)} (h : Ex K lv n sc sh' ow' ss Q) (h1 : ∀ x d, sh'.lookup x = some d → sh.lookup x = some d) (h2 : ∀ x d, ow'.lookup x = some d → ow.lookup x = some d) : Ex K lv n sc sh ow ss Q :=
  Hide.mk fun S => h.run (S.sub h1 h2)
theorem Ex.cons {st : Stmt} {ss : List Stmt} (h : Ex1 K lv n sc sh ow st fun o => match o with | .next sh' ow' => Ex K lv n sc sh' ow' ss Q | o => Q o) : Ex K lv n sc sh ow (st :: ss) Q := Hide.mk fun {A env s X g E} S => by
  refine wpAny_execs_cons (wpAny_mono (h.run S) (fun f s' p => ?_) fun _ _ x => x)
  obtain ⟨o, hq, h', tk, rfl, r⟩ := p
  cases o with
  | next sh' ow' =>
    cases f with
    | next => exact wpAny_mono (hq.run (s := { s with heap := h', toks := tk }) r) (fun f s' ⟨o, h1, h2⟩ => ⟨o, h1, h2.after⟩) fun _ _ x => x
    | _ => exact r.elim
  | brk sh' ow' =>
    cases f with
    | brk => exact ⟨_, hq, h', tk, rfl, r⟩
    | _ => exact r.elim
  | cont sh' ow' =>
    cases f with
    | cont => exact ⟨_, hq, h', tk, rfl, r⟩
    | _ => exact r.elim
  | ret d fr =>
    cases f with
    | ret v => exact ⟨_, hq, h', tk, rfl, r⟩
    | _ => exact r.elim

theorem Ex1.if {test : Expr} {body orelse : List Stmt} {pos : Pos} {b : Bool} (ht : Tr K n sc (ow ++ sh) test b) (h1 : b = true → Ex K lv n sc sh ow body Q) (h2 : b = false → Ex K lv n sc sh ow orelse Q) :
    Ex1 K lv n sc sh ow (.If test body orelse pos) Q := Hide.mk fun {A env s X g E} S => by
  refine wpAny_If (wpAny_mono (ht.run S.inAll) (fun b' s' p => ?_) fun _ _ x => x)
  obtain ⟨rfl, h', tk, rfl, x⟩ := p
  cases b' with
  | true => exact wpAny_mono ((h1 rfl).run (s := { s with heap := h', toks := tk }) (S.ext x)) (fun f s' ⟨o, h1, h2⟩ => ⟨o, h1, h2.after⟩) fun _ _ x => x
  | false => exact wpAny_mono ((h2 rfl).run (s := { s with heap := h', toks := tk }) (S.ext x)) (fun f s' ⟨o, h1, h2⟩ => ⟨o, h1, h2.after⟩) fun _ _ x => x

theorem Ex1.ret {e : Expr} {pos : Pos} {d : D} {fr : Bool} (h : Ev K n sc (ow ++ sh) e d fr) (hq : Q (.ret d fr)) : Ex1 K lv n sc sh ow (.Return (some e) pos) Q := Hide.mk fun {A env s X g E} S => by
  refine wpAny_Return_some (wpAny_mono (h.run S.inAll) (fun v s' p => ?_) fun _ _ x => x)
  obtain ⟨h', tk, as, rfl, gt⟩ := p
  refine ⟨_, hq, h', tk, rfl, as, fun a o ha => gt.ext a o (S.base a o ha), gt.rd, fun a ha q => gt.off a ha (.inl q), fun hf => ⟨(gt.new hf).1, fun a ha => ?_⟩⟩
  cases hg : g a with
  | none => rfl
  | some o => have := (gt.new hf).2 a ha; rw [S.base a o hg] at this; cases this
end
end Mine

namespace Mine

def del (x : Str) (l : List (Str × D)) : List (Str × D) := l.filter fun p => !(p.1 == x)
theorem lookup_del (x y : Str) (l : List (Str × D)) : (del x l).lookup y = if y = x then none else l.lookup y := by
  unfold del
  induction l with
  | nil => simp
  | cons p r ih =>
    obtain ⟨k, v⟩ := p
    by_cases hk : k = x
    · subst hk
      simp only [List.filter_cons, beq_self_eq_true, Bool.not_true, Bool.false_eq_true, if_false, ih, List.lookup_cons]
      by_cases hy : y = k
      · simp [hy]
      · have : (y == k) = false := by simpa using hy
        simp [hy, this]
    · have hk' : (k == x) = false := by simpa using hk
      simp only [List.filter_cons, hk', Bool.not_false, if_true, List.lookup_cons, ih]
      by_cases hy : y = k
      · subst hy; simp [hk]
      · have : (y == k) = false := by simpa using hy
        simp [this]
theorem lookup_del_some {x y : Str} {l : List (Str × D)} {d : D} (h : (del x l).lookup y = some d) : y ≠ x ∧ l.lookup y = some d := by
  rw [lookup_del] at h
  by_cases q : y = x
  · simp [q] at h
  · rw [if_neg q] at h; exact ⟨q, h⟩
theorem lookup_del_isSome {x y : Str} {l : List (Str × D)} (h : ((del x l).lookup y).isSome = true) : y ≠ x ∧ (l.lookup y).isSome = true := by
  obtain ⟨d, hd⟩ := Option.isSome_iff_exists.mp h
  exact ⟨(lookup_del_some hd).1, by rw [(lookup_del_some hd).2]; rfl⟩

section
variable {K : Cx} {lv : Bool} {n : Nat} {sc : Scope} {X : Addr → Prop} {g : Addr → Option Obj} {sh ow : List (Str × D)} {A : Around} {env : Env} {h h' : Heap} {fp : Str → List Addr} {x : Str} {v : Value} {a : Addr} {d : D} {as : List Addr}

theorem Own.stored (O : Own K g X env sh ow fp h) (F : FrameOk h env) (sa : StoreAddr env x a) (hs : Heap.SameBut a h h') (st : Stored env x v h h') : Own K g X env (del x sh) (del x ow) fp h' := by
  have eff := Eff.of_sameBut hs
  have nt : ∀ b, b = a → NoTup h b := fun b q => q ▸ (F.noSeq sa.frame).noTup
  refine ⟨fun y d' hy => ?_, fun y z hyz hy hz => O.apart y z hyz (lookup_del_isSome hy).2 (lookup_del_isSome hz).2, fun y d' hy => ?_⟩
  · obtain ⟨hne, hy⟩ := lookup_del_some hy
    obtain ⟨u, h1, h2, h3, h4⟩ := O.own y d' hy
    exact ⟨u, st.others y u hne h1, h2.off (eff.off (fun b hb q => (h4 b hb).2.1 (q ▸ sa.frame)) nt), h3, h4⟩
  · obtain ⟨hne, hy⟩ := lookup_del_some hy
    obtain ⟨u, bs, h1, h2, h3⟩ := O.shared y d' hy
    exact ⟨u, bs, st.others y u hne h1, h2.off (eff.off (fun b hb q => (h3 b hb).1 (q ▸ sa.frame)) nt), fun b hb => ⟨(h3 b hb).1, (h3 b hb).2.1, fun z hz => (h3 b hb).2.2 z (lookup_del_isSome hz).2⟩⟩

theorem Own.addSh (O : Own K g X env sh ow fp h) (va : VarAt h env x v) (rd : RdD K h v d as) (off : ∀ b ∈ as, ¬ ownX X env ow fp b) : Own K g X env ((x, d) :: sh) ow fp h := by
  refine ⟨O.own, O.apart, fun y d' hy => ?_⟩
  rw [List.lookup_cons] at hy
  by_cases q : y = x
  · subst q
    simp only [beq_self_eq_true] at hy; cases hy
    exact ⟨v, as, va, rd, fun b hb => ⟨fun q => off b hb (.inr (.inl q)), fun q => off b hb (.inl q), fun z hz hm => off b hb (.inr (.inr ⟨z, hz, hm⟩))⟩⟩
  · have hb : (y == x) = false := by simpa using q
    simp only [hb] at hy
    exact O.shared y d' hy

theorem Own.addOw (O : Own K g X env sh ow fp h) (hx : ow.lookup x = none) (va : VarAt h env x v) (rd : RdD K h v d as) (nd : as.Nodup) (off : ∀ b ∈ as, ¬ ownX X env ow fp b ∧ g b = none)
    (offs : ∀ y d', sh.lookup y = some d' → ∃ u bs, VarAt h env y u ∧ RdD K h u d' bs ∧ ∀ b ∈ bs, ¬ FrameAddr env b ∧ ¬ X b ∧ (∀ z, (ow.lookup z).isSome = true → b ∉ fp z) ∧ b ∉ as) :
    Own K g X env sh ((x, d) :: ow) (fun y => if y = x then as else fp y) h := by
  have look : ∀ y, ((x, d) :: ow).lookup y = if y = x then some d else ow.lookup y := fun y => by
    rw [List.lookup_cons]
    by_cases q : y = x
    · simp [q]
    · have hb : (y == x) = false := by simpa using q
      simp [q, hb]
  refine ⟨fun y d' hy => ?_, fun y z hyz hy hz b hb => ?_, fun y d' hy => ?_⟩
  · rw [look] at hy
    by_cases q : y = x
    · subst q
      simp only [if_true] at hy ⊢; cases hy
      exact ⟨v, va, rd, nd, fun b hb => ⟨(off b hb).2, fun q => (off b hb).1 (.inr (.inl q)), fun q => (off b hb).1 (.inl q)⟩⟩
    · rw [if_neg q] at hy ⊢
      exact O.own y d' hy
  · rw [look] at hy hz
    have hb : b ∈ (if y = x then as else fp y) := hb
    show b ∉ (if z = x then as else fp z)
    by_cases q : y = x
    · rw [if_pos q] at hb
      have qz : z ≠ x := fun e => hyz (q.trans e.symm)
      rw [if_neg qz] at hz ⊢
      exact fun hm => (off b hb).1 (.inr (.inr ⟨z, hz, hm⟩))
    · rw [if_neg q] at hb hy
      by_cases qz : z = x
      · rw [if_pos qz]
        exact fun hm => (off b hm).1 (.inr (.inr ⟨y, hy, hb⟩))
      · rw [if_neg qz] at hz ⊢
        exact O.apart y z hyz hy hz b hb
  · obtain ⟨u, bs, h1, h2, h3⟩ := offs y d' hy
    refine ⟨u, bs, h1, h2, fun b hb => ⟨(h3 b hb).1, (h3 b hb).2.1, fun z hz => ?_⟩⟩
    rw [look] at hz
    by_cases qz : z = x
    · simp only [qz, if_true]; exact (h3 b hb).2.2.2
    · rw [if_neg qz] at hz
      simp only [qz, if_false]
      exact (h3 b hb).2.2.1 z hz

/-- the frame's own store -/
theorem St.stored (S : St K lv n sc X g sh ow A env h) {sh' ow' : List (Str × D)} {fp' : Str → List Addr} (sa : StoreAddr env x a) (hs : Heap.SameBut a h h') (st : Stored env x v h h') (O : Own K g X env sh' ow' fp' h') :
    St K lv n sc X g sh' ow' A env h' := by
  have eff := Eff.of_sameBut hs
  have hg : g a = none := S.new a sa.frame
  have hK : K.h₀.get? a = none := by
    cases q : K.h₀.get? a with
    | none => rfl
    | some o => rw [S.bK a o q] at hg; cases hg
  refine ⟨S.room, ⟨S.ok.g, S.ok.b, S.ok.lim, eff.ext S.ok.ext fun b q => q ▸ hK⟩, S.hsc, S.henv, st.frame, fun b o hb => eff b o (fun q => by rw [q, hg] at hb; cases hb) (S.base b o hb), S.bK, S.new, fun b hb => ?_, S.top, fp', O⟩
  by_cases q : b = a
  · subst q; exact st.frame.some sa.frame
  · obtain ⟨o, ho⟩ := S.dom b hb; exact ⟨o, eff b o q ho⟩

theorem St.storeAddr (S : St K lv n sc X g sh ow A env h) (hx : sc.names.lookup x = some .local ∨ sc.names.lookup x = some .cell) : ∃ a, StoreAddr env x a := by
  rcases hx with hx | hx
  · exact ⟨_, .inl ⟨by show env.scope.names.lookup x = _; rw [S.hsc]; exact hx, rfl⟩⟩
  · have hk : env.kindOf x = some .cell := by show env.scope.names.lookup x = _; rw [S.hsc]; exact hx
    obtain ⟨c, hc⟩ := S.henv.all x (.inl hk)
    exact ⟨c, .inr ⟨hk, hc⟩⟩
end

section
variable {K : Cx} {lv : Bool} {n : Nat} {sc : Scope} {sh ow : List (Str × D)} {Q : Out → Prop} {x : Str} {p pos : Pos} {e : Expr} {d : D} {fr : Bool}

/-- x takes a value that may be shared with others that are read -/
theorem store_sh {A : Around} {env : Env} {s : Shared} {X : Addr → Prop} {g : Addr → Option Obj} {fp : Str → List Addr} {v : Value} {as : List Addr} {E : Value → Shared → Prop} {R : Unit → Shared → Prop}
    (S : St K lv n sc X g sh ow A env s.heap) (O : Own K g X env sh ow fp s.heap) (hx : sc.names.lookup x = some .local ∨ sc.names.lookup x = some .cell) (rd : RdD K s.heap v d as) (off : ∀ b ∈ as, ¬ ownX X env ow fp b)
    (k : ∀ h' tk a, FrameAddr env a → Heap.SameBut a s.heap h' → St K lv n sc X g ((x, d) :: del x sh) (del x ow) A env h' → R () { s with heap := h', toks := tk }) : wpAny (model K.prog K.w) A (storeName env x v) R E s := by
  obtain ⟨a, sa⟩ := S.storeAddr hx
  refine store_at S.henv S.frame sa fun h' tk hs st => k h' tk a sa.frame hs ?_
  have eff := Eff.of_sameBut hs
  have nt : ∀ b, b = a → NoTup s.heap b := fun b q => q ▸ (S.frame.noSeq sa.frame).noTup
  refine S.stored sa hs st ((O.stored S.frame sa hs st).addSh st.at_ (rd.off (eff.off (fun b hb q => off b hb (.inr (.inl (q ▸ sa.frame)))) nt)) fun b hb q => off b hb ?_)
  rcases q with q | q | ⟨y, hy, hm⟩
  · exact .inl q
  · exact .inr (.inl q)
  · exact .inr (.inr ⟨y, (lookup_del_isSome hy).2, hm⟩)

/-- x takes a value that nobody else has -/
theorem store_ow {A : Around} {env : Env} {s : Shared} {h₀ : Heap} {X : Addr → Prop} {g : Addr → Option Obj} {fp : Str → List Addr} {v : Value} {as : List Addr} {E : Value → Shared → Prop} {R : Unit → Shared → Prop}
    (S₀ : St K lv n sc X g sh ow A env h₀) (O : Own K g X env sh ow fp h₀) (xe : Ext h₀ s.heap) (hx : sc.names.lookup x = some .local ∨ sc.names.lookup x = some .cell) (rd : RdD K s.heap v d as) (nd : as.Nodup) (new : ∀ b ∈ as, h₀.get? b = none)
    (k : ∀ h' tk a, FrameAddr env a → Heap.SameBut a s.heap h' → St K lv n sc X g (del x sh) ((x, d) :: del x ow) A env h' → R () { s with heap := h', toks := tk }) : wpAny (model K.prog K.w) A (storeName env x v) R E s := by
  have S := S₀.ext xe
  obtain ⟨a, sa⟩ := S.storeAddr hx
  refine store_at S.henv S.frame sa fun h' tk hs st => k h' tk a sa.frame hs ?_
  have eff := Eff.of_sameBut hs
  have nt : ∀ b, b = a → NoTup s.heap b := fun b q => q ▸ (S.frame.noSeq sa.frame).noTup
  have nF : ∀ b ∈ as, ¬ FrameAddr env b := fun b hb q => by obtain ⟨o, ho⟩ := S₀.frame.some q; rw [new b hb] at ho; cases ho
  have O' := (O.ext xe).stored S.frame sa hs st
  refine S.stored sa hs st (O'.addOw (by rw [lookup_del]; simp) st.at_ (rd.off (eff.off (fun b hb q => nF b hb (q ▸ sa.frame)) nt)) nd (fun b hb => ⟨?_, ?_⟩) fun y d' hy => ?_)
  · rintro (q | q | ⟨y, hy, hm⟩)
    · obtain ⟨o, ho⟩ := S₀.dom b q; rw [new b hb] at ho; cases ho
    · exact nF b hb q
    · obtain ⟨d', hd'⟩ := Option.isSome_iff_exists.mp (lookup_del_isSome hy).2
      obtain ⟨_, _, h2, _⟩ := O.own y d' hd'
      obtain ⟨o, ho⟩ := h2.dom b hm; rw [new b hb] at ho; cases ho
  · cases q : g b with
    | none => rfl
    | some o => have := S₀.base b o q; rw [new b hb] at this; cases this
  · obtain ⟨hne, hy⟩ := lookup_del_some hy
    obtain ⟨u, bs, h1, h2, h3⟩ := O.shared y d' hy
    refine ⟨u, bs, st.others y u hne (h1.ext xe), (h2.ext xe).off (eff.off (fun b hb q => (h3 b hb).1 (q ▸ sa.frame)) nt), fun b hb => ⟨(h3 b hb).1, (h3 b hb).2.1, fun z hz => (h3 b hb).2.2 z (lookup_del_isSome hz).2, fun hm => ?_⟩⟩
    obtain ⟨o, ho⟩ := h2.dom b hb; rw [new b hm] at ho; cases ho

theorem Ex1.assign (h : Ev K n sc sh e d fr) (hq : Q (.next ((x, d) :: del x sh) (del x ow))) (hx : sc.names.lookup x = some .local ∨ sc.names.lookup x = some .cell := by first | exact Or.inl rfl | exact Or.inr rfl)
    (hsw : ∀ env, env.scope = sc → swapsWith e (some (.Name x p)) pos.line env = pure false := by intro _ _; rfl) : Ex1 K lv n sc sh ow (.Assign [.Name x p] e pos) Q := Hide.mk fun {A env s X g E} S => by
  obtain ⟨fp, O⟩ := S.vars
  refine wpAny_Assign_Name (wpAny_mono (h.run (S.inSh O)) (fun v s₁ t => ?_) fun _ _ x => x) (hsw env S.hsc)
  obtain ⟨h₁, tk, as, rfl, gt⟩ := t
  exact store_sh (s := { s with heap := h₁, toks := tk }) (S.ext gt.ext) (O.ext gt.ext) hx gt.rd gt.off fun h' tk' _ _ _ S' => ⟨_, hq, h', tk', rfl, S'⟩
/-- a value of its own, in whose making all names may be read -/
theorem Ex1.assignOwn (h : Ev K n sc (ow ++ sh) e d true) (hq : Q (.next (del x sh) ((x, d) :: del x ow))) (hx : sc.names.lookup x = some .local ∨ sc.names.lookup x = some .cell := by first | exact Or.inl rfl | exact Or.inr rfl)
    (hsw : ∀ env, env.scope = sc → swapsWith e (some (.Name x p)) pos.line env = pure false := by intro _ _; rfl) : Ex1 K lv n sc sh ow (.Assign [.Name x p] e pos) Q := Hide.mk fun {A env s X g E} S => by
  obtain ⟨fp, O⟩ := S.vars
  refine wpAny_Assign_Name (wpAny_mono (h.run S.inAll) (fun v s₁ t => ?_) fun _ _ x => x) (hsw env S.hsc)
  obtain ⟨h₁, tk, as, rfl, gt⟩ := t
  obtain ⟨nd, new⟩ := gt.new rfl
  exact store_ow (s := { s with heap := h₁, toks := tk }) S O gt.ext hx gt.rd nd new fun h' tk' _ _ _ S' => ⟨_, hq, h', tk', rfl, S'⟩
end
end Mine

namespace Mine

section
variable {K : Cx} {lv : Bool} {n : Nat} {sc : Scope} {X : Addr → Prop} {g : Addr → Option Obj} {sh ow : List (Str × D)} {A : Around} {env : Env} {h h' : Heap} {fp : Str → List Addr} {c : Addr}

theorem Own.moreX1 (O : Own K g X env sh ow fp h) (hc : h.get? c = none) : Own K g (fun a => X a ∨ a = c) env sh ow fp h := by
  refine ⟨fun x d hx => ?_, O.apart, fun x d hx => ?_⟩
  · obtain ⟨v, h1, h2, h3, h4⟩ := O.own x d hx
    exact ⟨v, h1, h2, h3, fun a ha => ⟨(h4 a ha).1, (h4 a ha).2.1, fun q => q.elim (h4 a ha).2.2 fun q => by obtain ⟨o, ho⟩ := h2.dom a ha; rw [q, hc] at ho; cases ho⟩⟩
  · obtain ⟨v, as, h1, h2, h3⟩ := O.shared x d hx
    exact ⟨v, as, h1, h2, fun a ha => ⟨(h3 a ha).1, (fun q => q.elim (h3 a ha).2.1 fun q => by obtain ⟨o, ho⟩ := h2.dom a ha; rw [q, hc] at ho; cases ho), (h3 a ha).2.2⟩⟩
theorem St.moreX1 (S : St K lv n sc X g sh ow A env h) (e : Ext h h') (hc : h.get? c = none) (hc' : ∃ o, h'.get? c = some o) : St K lv n sc (fun a => X a ∨ a = c) g sh ow A env h' := by
  obtain ⟨fp, O⟩ := S.vars
  have S' := S.ext e
  exact ⟨S'.room, S'.ok, S'.hsc, S'.henv, S'.frame, S'.base, S'.bK, S'.new, fun a ha => ha.elim (S'.dom a) fun q => q ▸ hc', S'.top, fp, (O.moreX1 hc).ext e⟩
theorem St.at1 (S : St K lv n sc X g sh ow A env h) (e : Eff (· = c) h h') (hX : X c) (hc' : ∃ o, h'.get? c = some o) (nt : NoTup h c) (nf : ¬ FrameAddr env c) (hg : g c = none) : St K lv n sc X g sh ow A env h' := by
  obtain ⟨fp, O⟩ := S.vars
  have nt' : ∀ a, a = c → NoTup h a := fun a ha => ha ▸ nt
  have hK : K.h₀.get? c = none := by
    cases q : K.h₀.get? c with
    | none => rfl
    | some o => rw [S.bK c o q] at hg; cases hg
  have va : ∀ {y u}, VarAt h env y u → VarAt h' env y u := fun {y u} r => by
    rcases r with ⟨hl, m, hn, hm⟩ | ⟨hl, c', hc', hv⟩
    · exact .inl ⟨hl, m, hn.at' fun o ho => e _ o (fun q => nf (q ▸ .inl rfl)) ho, hm⟩
    · obtain ⟨o, ho, hd⟩ := hv
      exact .inr ⟨hl, c', hc', o, e c' o (fun q => nf (q ▸ .inr ⟨_, hc'⟩)) ho, hd⟩
  refine ⟨S.room, ⟨S.ok.g, S.ok.b, S.ok.lim, e.ext S.ok.ext fun a ha => ha ▸ hK⟩, S.hsc, S.henv, S.frame.at1 e nf, fun a o ha => e a o (fun q => by rw [q, hg] at ha; cases ha) (S.base a o ha), S.bK, S.new, fun a ha => ?_, S.top, fp, ⟨fun x d hx => ?_, O.apart, fun x d hx => ?_⟩⟩
  · by_cases q : a = c
    · exact q ▸ hc'
    · obtain ⟨o, ho⟩ := S.dom a ha; exact ⟨o, e a o q ho⟩
  · obtain ⟨v, h1, h2, h3, h4⟩ := O.own x d hx
    exact ⟨v, va h1, h2.off (e.off (fun a ha q => (h4 a ha).2.2 (q ▸ hX)) nt'), h3, h4⟩
  · obtain ⟨v, as, h1, h2, h3⟩ := O.shared x d hx
    exact ⟨v, as, va h1, h2.off (e.off (fun a ha q => (h3 a ha).2.1 (q ▸ hX)) nt'), h3⟩
theorem St.lessX {X' : Addr → Prop} (S : St K lv n sc X g sh ow A env h) (s : ∀ a, X' a → X a) : St K lv n sc X' g sh ow A env h := by
  obtain ⟨fp, O⟩ := S.vars
  exact ⟨S.room, S.ok, S.hsc, S.henv, S.frame, S.base, S.bK, S.new, fun a ha => S.dom a (s a ha), S.top, fp, ⟨fun x d hx => let ⟨v, h1, h2, h3, h4⟩ := O.own x d hx; ⟨v, h1, h2, h3, fun a ha => ⟨(h4 a ha).1, (h4 a ha).2.1, fun q => (h4 a ha).2.2 (s a q)⟩⟩, O.apart,
    fun x d hx => let ⟨v, as, h1, h2, h3⟩ := O.shared x d hx; ⟨v, as, h1, h2, fun a ha => ⟨(h3 a ha).1, fun q => (h3 a ha).2.1 (s a q), (h3 a ha).2.2⟩⟩⟩⟩
theorem St.drop1 (S : St K lv n sc (fun a => X a ∨ a = c) g sh ow A env h) (e : Eff (· = c) h h') (hX : ¬ X c) (nt : NoTup h c) (nf : ¬ FrameAddr env c) (hg : g c = none) : St K lv n sc X g sh ow A env h' := by
  obtain ⟨fp, O⟩ := S.vars
  have nt' : ∀ a, a = c → NoTup h a := fun a ha => ha ▸ nt
  have hK : K.h₀.get? c = none := by
    cases q : K.h₀.get? c with
    | none => rfl
    | some o => rw [S.bK c o q] at hg; cases hg
  have va : ∀ {y u}, VarAt h env y u → VarAt h' env y u := fun {y u} r => by
    rcases r with ⟨hl, m, hn, hm⟩ | ⟨hl, c', hc', hv⟩
    · exact .inl ⟨hl, m, hn.at' fun o ho => e _ o (fun q => nf (q ▸ .inl rfl)) ho, hm⟩
    · obtain ⟨o, ho, hd⟩ := hv
      exact .inr ⟨hl, c', hc', o, e c' o (fun q => nf (q ▸ .inr ⟨_, hc'⟩)) ho, hd⟩
  refine ⟨S.room, ⟨S.ok.g, S.ok.b, S.ok.lim, e.ext S.ok.ext fun a ha => ha ▸ hK⟩, S.hsc, S.henv, S.frame.at1 e nf, fun a o ha => e a o (fun q => by rw [q, hg] at ha; cases ha) (S.base a o ha), S.bK, S.new, fun a ha => ?_, S.top, fp, ⟨fun x d hx => ?_, O.apart, fun x d hx => ?_⟩⟩
  · obtain ⟨o, ho⟩ := S.dom a (.inl ha); exact ⟨o, e a o (fun q => hX (q ▸ ha)) ho⟩
  · obtain ⟨v, h1, h2, h3, h4⟩ := O.own x d hx
    exact ⟨v, va h1, h2.off (e.off (fun a ha q => (h4 a ha).2.2 (.inr q)) nt'), h3, fun a ha => ⟨(h4 a ha).1, (h4 a ha).2.1, fun q => (h4 a ha).2.2 (.inl q)⟩⟩
  · obtain ⟨v, as, h1, h2, h3⟩ := O.shared x d hx
    exact ⟨v, as, va h1, h2.off (e.off (fun a ha q => (h3 a ha).2.1 (.inr q)) nt'), fun a ha => ⟨(h3 a ha).1, fun q => (h3 a ha).2.1 (.inl q), (h3 a ha).2.2⟩⟩
end

theorem ns_noTup {h : Heap} {a : Addr} {m} (hn : h.Ns a m) : NoTup h a := fun xs k e => by
  obtain ⟨o, es, ep, ho, hd, _⟩ := hn; rw [ho] at e; cases e; cases hd

section
variable {K : Cx} {lv : Bool} {n : Nat} {sc : Scope} {sh ow : List (Str × D)} {Q : Out → Prop} {x : Str} {p pos cpos : Pos} {own : List Str} {elt tgt iter : Expr} {ifs : List Expr} {gens rest : List Comprehension} {scope : Scope} {ρ' : List (Str × D)} {fr : Bool} {F : List (PyData × List PyData)}

end
end Mine

namespace Mine

theorem codeAny_for {prog : Program} {w : World} {A : Around} {s : Shared} {R : Result → Shared → Prop} {target : Expr} {it : Value} {body orelse : List Stmt} {env : Env} (I : Nat → Shared → Prop)
    (turn : ∀ n s, I n s → wpAny (model prog w) A (pyNext it) (fun r s₁ => match r with
      | none => wpAny (model prog w) A (execs orelse env) (fun f s₃ => R (.ok f) s₃) (fun _ _ => False) s₁
      | some v => wpAny (model prog w) A (letOwnedTupleGo target it v) (fun _ s₁' => wpAny (model prog w) A (assign target env v) (fun _ s₂ => wpAny (model prog w) A (execs body env) (fun f s₃ => match f with
          | .next | .cont => ∃ m, m < n ∧ I m s₃
          | .brk => R (.ok .next) s₃
          | .ret v => R (.ok (.ret v)) s₃) (fun _ _ => False) s₂) (fun _ _ => False) s₁') (fun _ _ => False) s₁) (fun _ _ => False) s)
    (n : Nat) (h : I n s) : codeAny (model prog w) A (.forLoop target it body orelse env) R s := by
  refine codeAny_loop' rfl I (fun n s hI => ?_) n h
  show wpAny _ A ((forTurn target it body orelse env).onRaise (fun x => do noteFrame x env; theTreesLotGoes x)) _ _ s
  refine wpAny_noted ?_
  simp only [forTurn]
  refine wpAny_bind (wpAny_standAt (wpAny_bind (wpAny_onRaise (wpAny_mono (turn n s hI) (fun r s₁ h₁ => ?_) fun _ _ h' => h'.elim))))
  cases r with
  | none => exact wpAny_pure (.inr ⟨rfl, codeAny_block (wpAny_mono h₁ (fun _ _ q => q) fun _ _ h' => h'.elim)⟩)
  | some v =>
    refine wpAny_bind (wpAny_mono h₁ (fun _ s₁' h₁' => wpAny_bind (wpAny_mono h₁' (fun _ s₂ h₂ => wpAny_bind (wpAny_mono h₂ (fun f s₃ h₃ => ?_) fun _ _ h' => h'.elim)) fun _ _ h' => h'.elim)) fun _ _ h' => h'.elim)
    cases f with
    | next => exact wpAny_pure (.inl ⟨rfl, h₃⟩)
    | cont => exact wpAny_pure (.inl ⟨rfl, h₃⟩)
    | brk => exact wpAny_pure h₃
    | ret v => exact wpAny_pure h₃

theorem RdD.noTup {K : Cx} {h : Heap} {v : Value} {d : D} {as : List Addr} (r : RdD K h v d as) : ∀ a ∈ as, NoTup h a := by
  have key : ∀ {vs : List Value} {ds : List PyData} {as}, RdAll h vs ds as → ∀ a ∈ as, NoTup h a := by
    intro vs ds as r
    refine RdAll.rec (motive_1 := fun v d as _ => ∀ a ∈ as, NoTup h a) (motive_2 := fun vs ds as _ => ∀ a ∈ as, NoTup h a) ?_ ?_ ?_ ?_ ?_ ?_ ?_ ?_ r
    · intro a ha; cases ha
    · intro b a ha; cases ha
    · intro i t a ha; cases ha
    · intro x t a ha; cases ha
    · intro l vs m ds as e _ ih a ha
      rcases List.mem_cons.mp ha with rfl | ha
      · exact PlainList.noTup ⟨_, e⟩
      · exact ih a ha
    · intro l vs m ds as e _ ih a ha; exact ih a ha
    · intro a ha; cases ha
    · intro v vs d ds as bs _ _ ih1 ih2 a ha
      rcases List.mem_append.mp ha with ha | ha
      · exact ih1 a ha
      · exact ih2 a ha
  cases d with
  | py d =>
    have r : Rd h v d as := r
    intro a ha
    have := key (.one r) a ha
    exact this
  | set xs =>
    obtain ⟨a, rfl, rfl, hn, o, es, ep, t, ho, hex, hd, _⟩ := r
    intro b hb xs m e
    rw [List.mem_singleton.mp hb, ho] at e; cases e; cases hd
  | dict kvs =>
    obtain ⟨a, vs, as', rfl, rfl, hs, hl, ⟨o, es, ep, ho, hx⟩, hr⟩ := r
    intro b hb
    rcases List.mem_cons.mp hb with rfl | hb
    · intro xs m e
      rw [ho] at e; cases e
      obtain ⟨h1, h2, h3, h4, h5⟩ := hx
      simp_all
    · exact key hr b hb

section
variable {K : Cx} {lv : Bool} {n : Nat} {sc : Scope} {X : Addr → Prop} {g g' : Addr → Option Obj} {sh ow : List (Str × D)} {A : Around} {env : Env} {h h' : Heap} {fp : Str → List Addr} {c : Addr}

/-- less is kept than before -/
theorem St.lessG (S : St K lv n sc X g' sh ow A env h) (s : ∀ a o, g a = some o → g' a = some o) (hK : ∀ a o, K.h₀.get? a = some o → g a = some o) : St K lv n sc X g sh ow A env h := by
  have nn : ∀ a, g' a = none → g a = none := fun a ha => by
    cases q : g a with
    | none => rfl
    | some o => rw [s a o q] at ha; cases ha
  obtain ⟨fp, O⟩ := S.vars
  exact ⟨S.room, S.ok, S.hsc, S.henv, S.frame, fun a o ha => S.base a o (s a o ha), hK, fun a ha => nn a (S.new a ha), S.dom, S.top, fp, ⟨fun x d hx => let ⟨v, h1, h2, h3, h4⟩ := O.own x d hx; ⟨v, h1, h2, h3, fun a ha => ⟨nn a (h4 a ha).1, (h4 a ha).2⟩⟩, O.apart, O.shared⟩⟩

open Classical in
/-- all that stands is kept, but what is owned and the frame -/
noncomputable def snap (h : Heap) (env : Env) (ow : List (Str × D)) (fp : Str → List Addr) (c a : Addr) : Option Obj :=
  if FrameAddr env a ∨ (∃ y, (ow.lookup y).isSome = true ∧ a ∈ fp y) ∨ a = c then none else h.get? a
theorem snap_of {h : Heap} {env : Env} {ow : List (Str × D)} {fp : Str → List Addr} {c a : Addr} (h1 : ¬ FrameAddr env a) (h2 : ∀ y, (ow.lookup y).isSome = true → a ∉ fp y) (h3 : a ≠ c) : snap h env ow fp c a = h.get? a := by
  unfold snap
  rw [if_neg]
  rintro (q | ⟨y, hy, q⟩ | q)
  · exact h1 q
  · exact h2 y hy q
  · exact h3 q
theorem snap_none {h : Heap} {env : Env} {ow : List (Str × D)} {fp : Str → List Addr} {c a : Addr} (q : FrameAddr env a ∨ (∃ y, (ow.lookup y).isSome = true ∧ a ∈ fp y) ∨ a = c) : snap h env ow fp c a = none := by
  unfold snap; rw [if_pos q]
theorem snap_some {h : Heap} {env : Env} {ow : List (Str × D)} {fp : Str → List Addr} {c a : Addr} {o : Obj} (q : snap h env ow fp c a = some o) : h.get? a = some o ∧ ¬ FrameAddr env a ∧ (∀ y, (ow.lookup y).isSome = true → a ∉ fp y) ∧ a ≠ c := by
  unfold snap at q
  split at q
  · cases q
  · rename_i hn
    exact ⟨q, fun x => hn (.inl x), fun y hy x => hn (.inr (.inl ⟨y, hy, x⟩)), fun x => hn (.inr (.inr x))⟩

theorem St.snapped (S : St K lv n sc X g sh ow A env h) (O : Own K g X env sh ow fp h) (hc : g c = none) : St K lv n sc X (snap h env ow fp c) sh ow A env h ∧ ∀ a o, g a = some o → snap h env ow fp c a = some o := by
  have sub : ∀ a o, g a = some o → snap h env ow fp c a = some o := fun a o ha => by
    rw [snap_of]
    · exact S.base a o ha
    · intro q; rw [S.new a q] at ha; cases ha
    · intro y hy hm
      obtain ⟨d, hd⟩ := Option.isSome_iff_exists.mp hy
      obtain ⟨_, _, _, _, h4⟩ := O.own y d hd
      rw [(h4 a hm).1] at ha; cases ha
    · intro q; rw [q, hc] at ha; cases ha
  refine ⟨⟨S.room, S.ok, S.hsc, S.henv, S.frame, fun a o ha => (snap_some ha).1, fun a o ha => sub a o (S.bK a o ha), fun a ha => snap_none (.inl ha), S.dom, S.top, fp, ⟨fun x d hx => ?_, O.apart, O.shared⟩⟩, sub⟩
  obtain ⟨v, h1, h2, h3, h4⟩ := O.own x d hx
  exact ⟨v, h1, h2, h3, fun a ha => ⟨snap_none (.inr (.inl ⟨x, by rw [hx]; rfl, ha⟩)), (h4 a ha).2⟩⟩

/-- one address more is kept -/
theorem St.pin (S : St K lv n sc X g sh ow A env h) (hX : X c) (nf : ¬ FrameAddr env c) : St K lv n sc X (fun a => if a = c then h.get? c else g a) sh ow A env h := by
  obtain ⟨fp, O⟩ := S.vars
  refine ⟨S.room, S.ok, S.hsc, S.henv, S.frame, fun a o ha => ?_, fun a o ha => ?_, fun a ha => ?_, S.dom, S.top, fp, ⟨fun x d hx => ?_, O.apart, O.shared⟩⟩
  · by_cases q : a = c
    · subst q; simpa using ha
    · simp only [q, if_false] at ha; exact S.base a o ha
  · by_cases q : a = c
    · subst q; simp only [if_true]; exact S.ok.ext a o ha
    · simp only [q, if_false]; exact S.bK a o ha
  · by_cases q : a = c
    · exact absurd (q ▸ ha) nf
    · simp only [q, if_false]; exact S.new a ha
  · obtain ⟨v, h1, h2, h3, h4⟩ := O.own x d hx
    refine ⟨v, h1, h2, h3, fun a ha => ⟨?_, (h4 a ha).2⟩⟩
    by_cases q : a = c
    · exact absurd (q ▸ hX) (h4 a ha).2.2
    · simp only [q, if_false]; exact (h4 a ha).1
end

/-- a loop's target takes an item -/
def AsgS (K : Cx) (lv : Bool) (n : Nat) (sc : Scope) (tgt : Expr) (d : PyData) (sh ow sh' ow' : List (Str × D)) : Prop := Hide <|
  ∀ {A : Around} {env : Env} {s : Shared} {X : Addr → Prop} {g : Addr → Option Obj} {fp : Str → List Addr} {v : Value} {as : List Addr} {E : Value → Shared → Prop} {R : Unit → Shared → Prop},
    St K lv n sc X g sh ow A env s.heap → Own K g X env sh ow fp s.heap → Rd s.heap v d as → (∀ b ∈ as, ¬ ownX X env ow fp b) →
    (∀ h' tk, Eff (FrameAddr env) s.heap h' → St K lv n sc X g sh' ow' A env h' → R () { s with heap := h', toks := tk }) → wpAny (model K.prog K.w) A (assign tgt env v) R E s
theorem AsgS.name {K lv n sc sh ow d} {x : Str} {p : Pos} (hx : sc.names.lookup x = some .local ∨ sc.names.lookup x = some .cell := by first | exact Or.inl rfl | exact Or.inr rfl) : AsgS K lv n sc (.Name x p) d sh ow ((x, .py d) :: del x sh) (del x ow) :=
  Hide.mk fun {A env s X g fp v as E R} S O rd off k => wpAny_assign_Name (store_sh S O hx (d := .py d) rd off fun h' tk a ha hs S' => k h' tk ((Eff.of_sameBut hs).mono fun b q => q ▸ ha) S')

section
variable {K : Cx} {lv : Bool} {n : Nat} {sc : Scope} {sh ow : List (Str × D)} {Q : Out → Prop} {tgt iter : Expr} {body orelse : List Stmt} {pos : Pos} {its : List PyData}
set_option maxHeartbeats 1000000 in
theorem Ex1.for (hit : EvIt K n sc sh iter its) (Inv : Nat → List (Str × D) → List (Str × D) → Prop) (h0 : Inv 0 sh ow)
    (turn : ∀ i d sh ow, its[i]? = some d → Inv i sh ow → ∃ sh₁ ow₁, AsgS K lv n sc tgt d sh ow sh₁ ow₁ ∧ Ex K lv n sc sh₁ ow₁ body fun o => match o with
      | .next sh' ow' => Inv (i + 1) sh' ow' | .cont sh' ow' => Inv (i + 1) sh' ow' | .brk sh' ow' => Q (.next sh' ow') | .ret d fr => Q (.ret d fr))
    (done : ∀ sh ow, Inv its.length sh ow → Ex K lv n sc sh ow orelse Q) (hs : ∀ env x, foldedSetIterable iter env x = pure x := by intro _ _; rfl) :
    Ex1 K lv n sc sh ow (.For tgt iter body orelse pos) Q := Hide.mk fun {A env s X g E} S => by
  obtain ⟨fp, O⟩ := S.vars
  refine wpAny_For (hit.run (S.inSh O) fun t h₁ tk x₁ T => ?_) (hs env)
  have pI := t.plain _ _ T.st
  have hIn : s.heap.get? t.I = none := T.new
  have hgI : g t.I = none := by
    cases q : g t.I with
    | none => rfl
    | some o => have := S.base _ o q; rw [hIn] at this; cases this
  have S₁ := S.moreX1 (c := t.I) x₁ hIn pI.some
  have O₁ := (O.moreX1 (c := t.I) hIn).ext x₁
  obtain ⟨S₂, sub⟩ := S₁.snapped (c := t.I) O₁ hgI
  generalize hg2 : snap h₁ env ow fp t.I = g₂ at S₂ sub
  -- what the items and the thing are, is kept
  have kept : ∀ a, ¬ ownX X env ow fp a → a ≠ t.I → g₂ a = h₁.get? a := fun a h1 h2 => by
    rw [← hg2]; exact snap_of (fun q => h1 (.inr (.inl q))) (fun y hy q => h1 (.inr (.inr ⟨y, hy, q⟩))) h2
  have keptTup : ∀ a xs m, h₁.get? a = some { cls := .type "tuple", data := .seq xs m } → g₂ a = some { cls := .type "tuple", data := .seq xs m } := fun a xs m ha => by
    rw [← hg2, snap_of]
    · exact ha
    · intro q; obtain ⟨o, ho, hn⟩ := S₁.frame.noSeq q; rw [ho] at ha; cases ha; exact hn _ _ rfl
    · intro y hy q
      obtain ⟨d, hd⟩ := Option.isSome_iff_exists.mp hy
      obtain ⟨_, _, h2, _⟩ := O₁.own y d hd
      exact h2.noTup a q xs m ha
    · intro q; exact pI.noTup xs m (q ▸ ha)
  have gnI : g₂ t.I = none := by rw [← hg2]; exact snap_none (.inr (.inr rfl))
  have nXI : ¬ X t.I := fun q => by obtain ⟨o, ho⟩ := S.dom _ q; rw [hIn] at ho; cases ho
  refine codeAny_for (fun m s' => ∃ i sh' ow' h tk', i ≤ its.length ∧ m = its.length - i + 1 ∧ s' = { s with heap := h, toks := tk' } ∧ Inv i sh' ow' ∧ t.St i h ∧ St K lv n sc (fun a => X a ∨ a = t.I) g₂ sh' ow' A env h)
    (fun m s' hI => ?_) (its.length - 0 + 1) ⟨0, sh, ow, h₁, tk, Nat.zero_le _, rfl, rfl, h0, T.st, S₂⟩
  obtain ⟨i, sh', ow', h, tk', hi, rfl, rfl, hInv, st, S'⟩ := hI
  have pI' := t.plain _ _ st
  have nf' := pI'.not_frame S'.frame
  by_cases hlt : i < its.length
  · refine t.W.item i _ _ _ (by rw [T.len]; exact hlt) st fun v h₂ tk₂ hv st₂ hk₂ => ?_
    have e₂ : Eff (· = t.I) h h₂ := fun a o ha ho => hk₂ a o (by simpa using ha) ho
    have pI₂ := t.plain _ _ st₂
    have S₃ := S'.at1 e₂ (.inr rfl) pI₂.some pI'.noTup nf' gnI
    obtain ⟨fp₃, O₃⟩ := S₃.vars
    refine letOwned_ok pI₂ ?_
    obtain ⟨d, as, hd, rd, off⟩ := T.items i v hv
    obtain ⟨sh₁, ow₁, asg, bodyOk⟩ := turn i d sh' ow' hd hInv
    have rd₂ : Rd h₂ v d as := rd.off ⟨fun b hb o ho => S₃.base b o (by rw [kept b (off b hb).1 (off b hb).2]; exact ho), fun b xs m e => S₃.base b _ (keptTup b xs m e)⟩
    refine asg.run (s := { s with heap := h₂, toks := tk₂ }) S₃ O₃ rd₂ (fun b hb q => ?_) fun h₃ tk₃ e₃ S₄ => ?_
    · rcases q with (q | q) | q | ⟨y, hy, q⟩
      · exact (off b hb).1 (.inl q)
      · exact (off b hb).2 q
      · exact (off b hb).1 (.inr (.inl q))
      · obtain ⟨d', hd'⟩ := Option.isSome_iff_exists.mp hy
        obtain ⟨_, _, _, _, h4⟩ := O₃.own y d' hd'
        obtain ⟨o, ho⟩ := rd.dom b hb
        have := (h4 b q).1
        rw [kept b (off b hb).1 (off b hb).2, ho] at this; cases this
    · have nfI : ¬ FrameAddr env t.I := pI₂.not_frame S₃.frame
      have st₃ : t.St (i + 1) h₃ := t.W.frame _ _ _ st₂ fun b hb o ho => e₃ b o (fun q => T.off b hb (.inr (.inl q))) ho
      have S₅ := S₄.pin (c := t.I) (.inr rfl) nfI
      refine wpAny_mono (bodyOk.run (s := { s with heap := h₃, toks := tk₃ }) S₅) (fun f s₄ p => ?_) fun _ _ x => x
      obtain ⟨o, hq, h₄, tk₄, rfl, r⟩ := p
      have lessG : ∀ {sh ow}, St K lv n sc (fun a => X a ∨ a = t.I) (fun a => if a = t.I then h₃.get? t.I else g₂ a) sh ow A env h₄ → St K lv n sc (fun a => X a ∨ a = t.I) g₂ sh ow A env h₄ := fun S => S.lessG (fun a o ha => by
        by_cases q : a = t.I
        · rw [q, gnI] at ha; cases ha
        · simp only [q, if_false]; exact ha) S₂.bK
      have stNext : ∀ {sh ow}, St K lv n sc (fun a => X a ∨ a = t.I) (fun a => if a = t.I then h₃.get? t.I else g₂ a) sh ow A env h₄ → t.St (i + 1) h₄ := fun S => t.W.frame _ _ _ st₃ fun b hb o ho => by
        refine S.base b o ?_
        by_cases q : b = t.I
        · subst q; simpa using ho
        · simp only [q, if_false]
          rw [kept b (T.off b hb) q]
          obtain ⟨o', ho'⟩ := T.dom b hb
          have h3 := S₄.base b o' (by rw [kept b (T.off b hb) q]; exact ho')
          rw [ho] at h3; cases h3; exact ho'
      have back : ∀ {sh ow}, St K lv n sc (fun a => X a ∨ a = t.I) (fun a => if a = t.I then h₃.get? t.I else g₂ a) sh ow A env h₄ → St K lv n sc X g sh ow A env h₄ := fun Z => ((lessG Z).lessX fun a ha => .inl ha).lessG sub S.bK
      cases o with
      | next sh' ow' =>
        cases f with
        | next => exact ⟨its.length - (i + 1) + 1, by omega, i + 1, sh', ow', h₄, tk₄, hlt, rfl, rfl, hq, stNext r, lessG r⟩
        | _ => exact r.elim
      | cont sh' ow' =>
        cases f with
        | cont => exact ⟨its.length - (i + 1) + 1, by omega, i + 1, sh', ow', h₄, tk₄, hlt, rfl, rfl, hq, stNext r, lessG r⟩
        | _ => exact r.elim
      | brk sh' ow' =>
        cases f with
        | brk => exact ⟨_, hq, h₄, tk₄, rfl, back r⟩
        | _ => exact r.elim
      | ret d fr =>
        cases f with
        | ret v =>
          obtain ⟨as, r1, r2, r3, r4⟩ := r
          have gi : ∀ a o, g a = some o → (if a = t.I then h₃.get? t.I else g₂ a) = some o := fun a o ha => by
            by_cases q : a = t.I
            · rw [q, hgI] at ha; cases ha
            · simp only [q, if_false]; exact sub a o ha
          refine ⟨_, hq, h₄, tk₄, rfl, as, fun a o ha => r1 a o (gi a o ha), r2, fun a ha q => r3 a ha (.inl q), fun hf => ⟨(r4 hf).1, fun a ha => ?_⟩⟩
          cases q : g a with
          | none => rfl
          | some o =>
            have h1 : (if a = t.I then h₃.get? t.I else g₂ a) = none := (r4 hf).2 a ha
            rw [gi a o q] at h1; cases h1
        | _ => exact r.elim
  · have hie : i = its.length := by omega
    subst hie
    refine t.W.done _ _ _ (by rw [T.len]; exact st) fun h₂ tk₂ hk₂ => ?_
    have e₂ : Eff (· = t.I) h h₂ := fun a o ha ho => hk₂ a o (by simpa using ha) ho
    have S₃ := (S'.drop1 e₂ nXI pI'.noTup nf' gnI).lessG sub S.bK
    refine wpAny_mono ((done sh' ow' hInv).run (s := { s with heap := h₂, toks := tk₂ }) S₃) (fun f s' p => ?_) fun _ _ x => x
    obtain ⟨o, hq, r⟩ := p
    exact ⟨o, hq, r.after⟩
end
end Mine

namespace Mine

/-! ### the merge, plainly -/
section
variable {α : Type} (eq : α → α → Bool)
def strike1 (c : α) : List α → List α
  | [] => []
  | x :: t => if eq x c then t else x :: t
def okHead (R : List (List α)) (x : α) : Bool := R.all fun s => !(s.tail.any fun y => eq y x)
def cand (R : List (List α)) : Option α := R.findSome? fun r => match r with
  | [] => none
  | x :: _ => if okHead eq R x then some x else none
def c3 : Nat → List (List α) → List α × List (List α) × Bool
  | 0, R => ([], R, R.all (·.isEmpty))
  | n + 1, R => if R.all (·.isEmpty) then ([], R, true) else match cand eq R with
    | none => ([], R, false)
    | some c => (c :: (c3 n (R.map (strike1 eq c))).1, (c3 n (R.map (strike1 eq c))).2)
end

def sS : Str := "sequences"
def sR : Str := "result"
def sC : Str := "candidate"
def s1' : Str := "s1"
def s2' : Str := "s2"
def sQ : Str := "seq"
def c3Rec : DefRec := ((recsOf PySem.Challenge.pw_dn0018_05).head?).getD ⟨"", ⟨[], [], none, [], [], none, []⟩, [], { kind := .function, names := [], isGenerator := false, isCoroutine := false, more := [] }, ⟨0, 0, 0, 0⟩⟩
def c3Body : List Stmt := c3Rec.body
def c3Scope : Scope := c3Rec.scope

structure C3I (K : Cx) (env : Env) (h₀ : Heap) (As : List Addr) (h : Heap) (m : Str → Option Value) (l r : Addr) (P : List Addr) (f : Addr → List PyData) (out : List PyData) : Prop where
  ok : K.Ok h
  base : Ext K.h₀ h₀
  ns : h.Ns env.locals m
  Lnew : h₀.get? env.locals = none
  keep : Eff (· ∈ As) h₀ h
  inner : ∀ a ∈ As, ∃ (vs : List Value) (n : Nat), h.get? a = some { cls := .type "list", data := .seq vs.toArray n } ∧ RdAll h vs (f a) []
  seqV : m sS = some (.ref l)
  seqL : h.IsList l (P.map Value.ref).toArray
  resV : m sR = some (.ref r)
  resL : ∃ ws : List Value, h.PlainList r ws.toArray ∧ RdAll h ws out []
  rnew : h₀.get? r = none
  rA : r ∉ As
  lA : l ∉ As
  lr : l ≠ r
  PA : ∀ a ∈ P, a ∈ As
  AK : ∀ a ∈ As, K.h₀.get? a = none

section
variable {K : Cx} {env : Env} {h₀ h h' : Heap} {As : List Addr} {m m' : Str → Option Value} {l r : Addr} {P : List Addr} {f : Addr → List PyData} {out : List PyData}

theorem C3I.upd (C : C3I K env h₀ As h m l r P f out) {W : Addr → Prop} (e : Eff W h h') (ns' : h'.Ns env.locals m') (v1 : m' sS = m sS) (v2 : m' sR = m sR)
    (w : ∀ c, W c → c ≠ l ∧ c ≠ r ∧ c ∉ As ∧ h₀.get? c = none ∧ NoTup h c) : C3I K env h₀ As h' m' l r P f out where
  ok := ⟨C.ok.g, C.ok.b, C.ok.lim, e.ext C.ok.ext fun c hc => C.base.none (w c hc).2.2.2.1⟩
  base := C.base
  ns := ns'
  Lnew := C.Lnew
  keep := fun b o hb ho => e b o (fun hw => by rw [(w b hw).2.2.2.1] at ho; cases ho) (C.keep b o hb ho)
  inner := fun a ha => let ⟨vs, n, h1, h2⟩ := C.inner a ha; ⟨vs, n, e a _ (fun hw => (w a hw).2.2.1 ha) h1, h2.off (e.off nofun fun c hc => (w c hc).2.2.2.2)⟩
  seqV := v1.trans C.seqV
  seqL := let ⟨o, ho, hr⟩ := C.seqL; ⟨o, e l o (fun hw => (w l hw).1 rfl) ho, hr⟩
  resV := v2.trans C.resV
  resL := let ⟨ws, h1, h2⟩ := C.resL; ⟨ws, h1.at fun o ho => e r o (fun hw => (w r hw).2.1 rfl) ho, h2.off (e.off nofun fun c hc => (w c hc).2.2.2.2)⟩
  rnew := C.rnew
  rA := C.rA
  lA := C.lA
  lr := C.lr
  PA := C.PA
  AK := C.AK
theorem C3I.ext (C : C3I K env h₀ As h m l r P f out) (e : Ext h h') : C3I K env h₀ As h' m l r P f out :=
  C.upd (W := fun _ => False) (e.eff _) (C.ns.keeps e) rfl rfl nofun
theorem C3I.stored (C : C3I K env h₀ As h m l r P f out) {x : Str} {v : Value} (hs : Heap.SameBut env.locals h h') (hn : h'.Ns env.locals fun y => if y = x then some v else m y) (hx : x ≠ sS) (hx' : x ≠ sR) :
    C3I K env h₀ As h' (fun y => if y = x then some v else m y) l r P f out := by
  refine C.upd (W := (· = env.locals)) (Eff.of_sameBut hs) hn (by simp [Ne.symm hx]) (by simp [Ne.symm hx']) fun c hc => ?_
  subst hc
  refine ⟨fun q => ?_, fun q => ?_, fun q => ?_, C.Lnew, ns_noTup C.ns⟩
  · obtain ⟨o, ho, _, k, hd⟩ := C.seqL; obtain ⟨o', es, ep, ho', hd', _⟩ := C.ns; rw [q, ho] at ho'; cases ho'; rw [hd] at hd'; cases hd'
  · obtain ⟨ws, ⟨k, ho⟩, _⟩ := C.resL; obtain ⟨o', es, ep, ho', hd', _⟩ := C.ns; rw [q, ho] at ho'; cases ho'; cases hd'
  · obtain ⟨vs, k, ho, _⟩ := C.inner _ q; obtain ⟨o', es, ep, ho', hd', _⟩ := C.ns; rw [ho] at ho'; cases ho'; cases hd'

/-- the environment of the merge's frame -/
structure C3E (K : Cx) (A : Around) (n : Nat) (env : Env) : Prop where
  room : Room A n
  henv : EnvOk env
  hsc : env.scope = c3Scope
  cells : env.cells = []

theorem C3I.frameOk {A : Around} {n : Nat} (C : C3I K env h₀ As h m l r P f out) (V : C3E K A n env) : FrameOk h env := ⟨⟨m, C.ns⟩, fun x c hc => by rw [V.cells] at hc; cases hc⟩

theorem C3I.in {A : Around} {n : Nat} {ρ : List (Str × D)} (C : C3I K env h₀ As h m l r P f out) (V : C3E K A n env)
    (hv : ∀ x d, ρ.lookup x = some d → ∃ v as, m x = some v ∧ c3Scope.names.lookup x = some .local ∧ RdD K h v d as) : In K n c3Scope (fun _ => False) ρ A env h := by
  refine ⟨V.room, C.ok, V.hsc, V.henv, C.frameOk V, nofun, fun x d hx => ?_⟩
  obtain ⟨v, as, h1, h2, h3⟩ := hv x d hx
  exact ⟨v, as, .inl ⟨by show env.scope.names.lookup x = _; rw [V.hsc]; exact h2, m, C.ns, h1⟩, h3, fun _ _ q => q⟩
end
end Mine

namespace Mine

section
variable {K : Cx} {A : Around} {n : Nat} {env : Env} {s : Shared} {l : Addr} {P : List Addr} {x : Str} {px pi pos : Pos} {body orelse : List Stmt} {Q : Flow → Shared → Prop} {E : Value → Shared → Prop} {m : Str → Option Value}

theorem c3_for (V : C3E K A n env) (hx : c3Scope.names.lookup x = some .local) (J : Nat → Heap → (Str → Option Value) → Prop) (QB : Heap → (Str → Option Value) → Prop)
    (facts : ∀ i h m, J i h m → h.Ns env.locals m ∧ h.IsList l (P.map Value.ref).toArray) (hm : m sS = some (.ref l)) (h0 : J 0 s.heap m)
    (stab : ∀ i h h' m, J i h m → Eff (· = s.heap.objs.size) h h' → NoTup h s.heap.objs.size → J i h' m)
    (turn : ∀ i a h m h' tk oI, P[i]? = some a → J i h m → Heap.SameBut env.locals h h' → h'.Ns env.locals (fun y => if y = x then some (.ref a) else m y) → h'.get? s.heap.objs.size = some oI → NoTup h' s.heap.objs.size →
      wpAny (model K.prog K.w) A (execs body env) (fun f s' => ∃ h₂ tk₂ m₂, s' = { s with heap := h₂, toks := tk₂ } ∧ h₂.get? s.heap.objs.size = some oI ∧ match f with
        | .next => J (i + 1) h₂ m₂ | .cont => J (i + 1) h₂ m₂ | .brk => QB h₂ m₂ | .ret _ => False) (fun _ _ => False) { s with heap := h', toks := tk })
    (brk : ∀ h m tk, QB h m → Q .next { s with heap := h, toks := tk })
    (done : ∀ h m tk, J P.length h m → wpAny (model K.prog K.w) A (execs orelse env) Q (fun _ _ => False) { s with heap := h, toks := tk }) :
    wpAny (model K.prog K.w) A (exec (.For (.Name x px) (.Name sS pi) body orelse pos) env) Q E s := by
  have hk : ∀ y, c3Scope.names.lookup y = some .local → env.kindOf y = some .local := fun y hy => by show env.scope.names.lookup y = _; rw [V.hsc]; exact hy
  have hp : (env.scope.kind == .class || (env.scope.kind == .module && env.locals != env.globals)) = false := by rw [V.henv.kind]; rfl
  obtain ⟨hn, hl⟩ := facts 0 _ _ h0
  refine wpAny_For ?_
  refine wpAny_Name (wpAny_loadName_local V.henv.kind (hk _ rfl) hn hm ?_) (by decide)
  refine wpAny_pyIter_list hl ?_
  have hne : l ≠ s.heap.objs.size := Nat.ne_of_lt (by obtain ⟨o, ho, _⟩ := hl; exact Heap.lt_size ho)
  have hLne : env.locals ≠ s.heap.objs.size := Nat.ne_of_lt hn.lt
  have W := Walks.list (prog := K.prog) (w := K.w) V.room.quiet s.heap.objs.size l hne (P.map Value.ref).toArray
  have hsize : (P.map Value.ref).toArray.size = P.length := by simp
  have nt : ∀ {i h}, h.IsListIter s.heap.objs.size l i → NoTup h s.heap.objs.size := fun {i h} hit xs k e => by
    obtain ⟨o, ho, _, hd⟩ := hit; rw [ho] at e; cases e; cases hd
  refine codeAny_for (fun k s' => ∃ i h tk m', i ≤ P.length ∧ k = P.length - i + 1 ∧ s' = { s with heap := h, toks := tk } ∧ J i h m' ∧ h.IsListIter s.heap.objs.size l i) (fun k s' hI => ?_) (P.length - 0 + 1)
    ⟨0, _, s.toks, m, Nat.zero_le _, rfl, rfl, stab 0 _ _ m h0 (fun b o hb ho => Heap.get?_push_of_some _ ho) (NoTup.of_none (push_new _)), ⟨_, Heap.get?_push_size _ rfl, rfl, rfl⟩⟩
  obtain ⟨i, h, tk, m', hi, rfl, rfl, hJ, hit⟩ := hI
  obtain ⟨hn', hl'⟩ := facts i h m' hJ
  by_cases hlt : i < P.length
  · refine W.item i _ _ _ (by rw [hsize]; exact hlt) ⟨hit, hl'⟩ fun v h₁ tk₁ hv st₁ hk₁ => ?_
    have e₁ : Eff (· = s.heap.objs.size) h h₁ := fun b o hb ho => hk₁ b o (by simpa using hb) ho
    have hJ₁ := stab i h h₁ m' hJ e₁ (nt hit)
    have hPi : ∃ a, P[i]? = some a ∧ v = .ref a := by
      have : (P.map Value.ref).toArray[i]? = some v := hv
      simp only [List.getElem?_toArray, List.getElem?_map] at this
      cases hq : P[i]? with
      | none => rw [hq] at this; cases this
      | some a => rw [hq] at this; exact ⟨a, rfl, by simpa using this.symm⟩
    obtain ⟨a, ha, rfl⟩ := hPi
    refine wpAny_pure (wpAny_assign_Name ?_)
    refine wpAny_storeName_local (hk x hx) (facts i h₁ m' hJ₁).1 (fun h₂ hn₂ hs₂ => ?_) hp
    obtain ⟨oI, hoI, hcI, hdI⟩ := st₁.1
    have hoI₂ : h₂.get? s.heap.objs.size = some oI := (hs₂.2 _ (Ne.symm hLne)).trans hoI
    refine wpAny_mono (turn i a h₁ m' h₂ _ oI ha hJ₁ hs₂ hn₂ hoI₂ (nt ⟨oI, hoI₂, hcI, hdI⟩)) (fun f' s' p => ?_) fun _ _ q => q
    obtain ⟨h₃, tk₃, m₃, rfl, hoI₃, hr⟩ := p
    cases f' with
    | next => exact ⟨P.length - (i + 1) + 1, by omega, i + 1, h₃, tk₃, m₃, hlt, rfl, rfl, hr, oI, hoI₃, hcI, hdI⟩
    | cont => exact ⟨P.length - (i + 1) + 1, by omega, i + 1, h₃, tk₃, m₃, hlt, rfl, rfl, hr, oI, hoI₃, hcI, hdI⟩
    | brk => exact brk h₃ m₃ tk₃ hr
    | ret v => exact hr.elim
  · have hie : i = P.length := by omega
    subst hie
    refine W.done _ _ _ (by rw [hsize]; exact ⟨hit, hl'⟩) fun h₁ tk₁ hk₁ => ?_
    have e₁ : Eff (· = s.heap.objs.size) h h₁ := fun b o hb ho => hk₁ b o (by simpa using hb) ho
    exact done h₁ m' tk₁ (stab _ h h₁ m' hJ e₁ (nt hit))
end
end Mine

namespace Mine

/-- data without a list in it, not too deep -/
structure Atom (d : PyData) : Prop where
  fp : ∀ {h v as}, Rd h v d as → as = []
  lay : d.canLay0 = true
  depth : d.depth ≤ 60
  refl : PyData.eqv d d = true
  some : isNoneD d = false
theorem Atom.int (i : Int) : Atom (.int i) := ⟨fun r => r.flat trivial, by simp [PyData.canLay0], by simp [PyData.depth], by simp [PyData.eqv], rfl⟩
theorem canLayAll_of {ds : List PyData} (h : ∀ d ∈ ds, d.canLay0 = true) : PyData.canLayAll0 ds = true := by
  induction ds with
  | nil => simp [PyData.canLayAll0]
  | cons d ds ih => simp [PyData.canLayAll0, h d (.head _), ih fun e he => h e (.tail _ he)]
theorem depthAll_le {ds : List PyData} {k : Nat} (h : ∀ d ∈ ds, d.depth ≤ k) : PyData.depthAll ds ≤ k := by
  induction ds with
  | nil => simp [PyData.depthAll]
  | cons d ds ih =>
    have := h d (.head _)
    have := ih fun e he => h e (.tail _ he)
    simp only [PyData.depthAll]; omega
theorem Atom.shp {d : PyData} (h : Atom d) : Shp d := by
  have := h.depth
  simp [Shp, SeqAt.shaped, h.lay]; omega
theorem Shp.list {ds : List PyData} (h : ∀ d ∈ ds, Atom d) : Shp (.list ds) := by
  have := depthAll_le (k := 60) fun d hd => (h d hd).depth
  simp [Shp, SeqAt.shaped, PyData.canLay0, canLayAll_of fun d hd => (h d hd).lay, PyData.depth]; omega
theorem RdAll.atoms {h : Heap} : ∀ {vs ds as}, RdAll h vs ds as → (∀ d ∈ ds, Atom d) → as = []
  | _, _, _, .nil, _ => rfl
  | _, _, _, .cons a b, f => by rw [(f _ (.head _)).fp a, b.atoms fun d hd => f d (.tail _ hd)]; rfl

theorem Tr.use {K n sc ρ e b X A env} {s : Shared} {Q : Bool → Shared → Prop} {E : Value → Shared → Prop} (I : In K n sc X ρ A env s.heap) (ht : Tr K n sc ρ e b) (k : ∀ h' tk, Ext s.heap h' → Q b { s with heap := h', toks := tk }) :
    wpAny (model K.prog K.w) A (isTrue e env (eval e env)) Q E s := wpAny_mono (ht.run I) (fun b' s' p => by obtain ⟨rfl, h', tk, rfl, x⟩ := p; exact k h' tk x) fun _ _ x => x
theorem Ev.use {K n sc ρ e d fr X A env} {s : Shared} {Q : Value → Shared → Prop} {E : Value → Shared → Prop} (I : In K n sc X ρ A env s.heap) (ht : Ev K n sc ρ e d fr) (k : ∀ v h' tk as, Got K s.heap X d fr v h' as → Q v { s with heap := h', toks := tk }) :
    wpAny (model K.prog K.w) A (eval e env) Q E s := wpAny_mono (ht.run I) (fun v s' p => by obtain ⟨h', tk, as, rfl, g⟩ := p; exact k v h' tk as g) fun _ _ x => x

section
variable {K : Cx} {A : Around} {n : Nat} {env : Env} {s : Shared} {Q : Value → Shared → Prop} {E : Value → Shared → Prop} {m : Str → Option Value}

theorem c3_kind (V : C3E K A n env) {y : Str} (hy : c3Scope.names.lookup y = some .local) : env.kindOf y = some .local := by show env.scope.names.lookup y = _; rw [V.hsc]; exact hy
theorem c3_name (V : C3E K A n env) {y : Str} {p : Pos} {v : Value} (hy : c3Scope.names.lookup y = some .local) (hn : s.heap.Ns env.locals m) (hm : m y = some v) (h : Q v s) (hd : (y == ("__debug__" : Str)) = false := by decide) :
    wpAny (model K.prog K.w) A (eval (.Name y p) env) Q E s := wpAny_Name (wpAny_loadName_local V.henv.kind (c3_kind V hy) hn hm h) hd
theorem c3_store (V : C3E K A n env) {y : Str} {v : Value} {R : Unit → Shared → Prop} (hy : c3Scope.names.lookup y = some .local) (hn : s.heap.Ns env.locals m)
    (h : ∀ h', h'.Ns env.locals (fun z => if z = y then some v else m z) → Heap.SameBut env.locals s.heap h' → R () { s with heap := h', toks := s.toks + 1 }) : wpAny (model K.prog K.w) A (storeName env y v) R E s :=
  wpAny_storeName_local (c3_kind V hy) hn h (by rw [V.henv.kind]; rfl)

/-- the first item of a list that a name holds -/
theorem c3_first (V : C3E K A n env) {y : Str} {p p' pos : Pos} {k : Nat} {a : Addr} {vs : List Value} {c : Nat} {v : Value} (hy : c3Scope.names.lookup y = some .local) (hn : s.heap.Ns env.locals m) (hm : m y = some (.ref a))
    (ha : s.heap.get? a = some { cls := .type "list", data := .seq (v :: vs).toArray c }) (h : Q v { s with toks := s.toks + 1 }) (hd : (y == ("__debug__" : Str)) = false := by decide) :
    wpAny (model K.prog K.w) A (eval (.Subscript (.Name y p) (.Constant (.int 0) k p') pos) env) Q E s := by
  refine Subscript_ (c3_name V hy hn hm (wpAny_Constant_int ?_) hd)
  have hl : ({ s with toks := s.toks + 1 } : Shared).heap.IsList a (v :: vs).toArray := ⟨_, ha, rfl, _, rfl⟩
  exact tail_any hl.typeIs slot_list_getitem.lookup (wpAny_getItem_list hl (by omega) (by omega) (by rfl) h) rfl
end
end Mine

namespace Mine

def whileBody : List Stmt := match c3Body with | [_, .While _ b _ _] => b | _ => []
def stSearch : Stmt := whileBody.getD 2 (.Pass ⟨0, 0, 0, 0⟩)
def stStrike : Stmt := whileBody.getD 5 (.Pass ⟨0, 0, 0, 0⟩)

theorem RdAll.uncons {h : Heap} {vs d ds as} (r : RdAll h vs (d :: ds) as) : ∃ v vs' a b, vs = v :: vs' ∧ as = a ++ b ∧ Rd h v d a ∧ RdAll h vs' ds b := by
  cases r with
  | cons x y => exact ⟨_, _, _, _, rfl, rfl, x, y⟩

theorem push_ne {h : Heap} {a : Addr} (x : ∃ o, h.get? a = some o) : a ≠ h.objs.size := let ⟨_, ho⟩ := x; Nat.ne_of_lt (Heap.lt_size ho)

section
variable {K : Cx} {A : Around} {n : Nat} {env : Env} {s : Shared} {h₀ : Heap} {As : List Addr} {l r : Addr} {P : List Addr} {f : Addr → List PyData} {out : List PyData} {Q : Flow → Shared → Prop} {E : Value → Shared → Prop} {m : Str → Option Value}

/-- a new address is none of the merge's own -/
theorem C3I.fresh (C : C3I K env h₀ As s.heap m l r P f out) : s.heap.objs.size ≠ l ∧ s.heap.objs.size ≠ r ∧ s.heap.objs.size ∉ As ∧ s.heap.objs.size ≠ env.locals := by
  refine ⟨fun q => ?_, fun q => ?_, fun q => ?_, fun q => ?_⟩
  · obtain ⟨o, ho, _⟩ := C.seqL; exact push_ne ⟨o, ho⟩ q.symm
  · obtain ⟨ws, ⟨k, ho⟩, _⟩ := C.resL; exact push_ne ⟨_, ho⟩ q.symm
  · obtain ⟨vs, k, ho, _⟩ := C.inner _ q; exact push_ne ⟨_, ho⟩ rfl
  · obtain ⟨o, _, _, ho, _⟩ := C.ns; exact push_ne ⟨o, ho⟩ q.symm

theorem C3I.new (C : C3I K env h₀ As s.heap m l r P f out) : h₀.get? s.heap.objs.size = none := by
  cases hg : h₀.get? s.heap.objs.size with
  | none => rfl
  | some o => exact absurd (C.keep _ o C.fresh.2.2.1 hg) (by rw [push_new]; exact nofun)

def stInner : Stmt := match stSearch with | .For _ _ (_ :: b :: _) _ _ => b | s => s

theorem sameBut_iter {h h' : Heap} {c : Addr} {o : Obj} (hs : Heap.SameBut env.locals h h') (hc : c ≠ env.locals) (ho : h.get? c = some o) : h'.get? c = some o := (hs.2 c hc).trans ho

/-- is the candidate behind the first of any row? -/
theorem c3_inner (V : C3E K A n env) (C : C3I K env h₀ As s.heap m l r P f out) (hat : ∀ a ∈ As, ∀ d ∈ f a, Atom d) (hsz : ∀ a ∈ As, (f a).length ≤ sizeLine)
    {x : PyData} {v : Value} (hx : Atom x) (hc : m sC = some v) (rv : Rd s.heap v x [])
    (k1 : okHead PyData.eqv (P.map f) x = true → ∀ h' tk m', C3I K env h₀ As h' m' l r P f out → m' sC = some v → Rd h' v x [] → (∀ b o, b ≠ env.locals → s.heap.get? b = some o → h'.get? b = some o) → Q .brk { s with heap := h', toks := tk })
    (k2 : okHead PyData.eqv (P.map f) x = false → ∀ h' tk m', C3I K env h₀ As h' m' l r P f out → m' sC = some .none → (∀ b o, b ≠ env.locals → s.heap.get? b = some o → h'.get? b = some o) → Q .next { s with heap := h', toks := tk }) :
    wpAny (model K.prog K.w) A (exec stInner env) Q E s := by
  have fr := C.fresh
  have hnew := C.new
  have stab : ∀ {h h' m}, C3I K env h₀ As h m l r P f out → Eff (· = s.heap.objs.size) h h' → NoTup h s.heap.objs.size → C3I K env h₀ As h' m l r P f out := fun {h h' m} C' e nt =>
    C'.upd e (C'.ns.at' fun o ho => e _ o (Ne.symm fr.2.2.2) ho) rfl rfl fun c hc => by cases hc; exact ⟨fr.1, fr.2.1, fr.2.2.1, hnew, nt⟩
  have kp : ∀ {h h' : Heap}, (∀ b o, b ≠ env.locals → s.heap.get? b = some o → h.get? b = some o) → Eff (· = s.heap.objs.size) h h' → ∀ b o, b ≠ env.locals → s.heap.get? b = some o → h'.get? b = some o := fun {h h'} h1 h2 b o hb ho =>
    h2 b o (push_ne ⟨o, ho⟩) (h1 b o hb ho)
  refine c3_for (P := P) (l := l) (x := s2') V (by rfl)
    (fun i h m' => C3I K env h₀ As h m' l r P f out ∧ m' sC = some v ∧ Rd h v x [] ∧ (∀ b o, b ≠ env.locals → s.heap.get? b = some o → h.get? b = some o) ∧ ∀ (j : Nat) a, j < i → P[j]? = some a → ((f a).tail.any fun y => PyData.eqv y x) = false)
    (fun h m' => C3I K env h₀ As h m' l r P f out ∧ m' sC = some .none ∧ (∀ b o, b ≠ env.locals → s.heap.get? b = some o → h.get? b = some o) ∧ okHead PyData.eqv (P.map f) x = false)
    (fun i h m' J => ⟨J.1.ns, J.1.seqL⟩) C.seqV ⟨C, hc, rv, fun _ _ _ e => e, fun j a hj => absurd hj (Nat.not_lt_zero _)⟩
    (fun i h h' m' J e nt => ⟨stab J.1 e nt, J.2.1, J.2.2.1.off (e.off nofun fun b hb => hb ▸ nt), kp J.2.2.2.1 e, J.2.2.2.2⟩) ?_ ?_ ?_
  · rintro i a h m₁ h₁ tk oI hPi ⟨C₁, hc₁, rv₁, kp₁, hno⟩ hs₁ hn₁ hoI ntI
    have haP : a ∈ P := List.mem_of_getElem? hPi
    have haA := C₁.PA a haP
    have C₂ := C₁.stored hs₁ hn₁ (by decide) (by decide)
    have rv₂ : Rd h₁ v x [] := rv₁.off ((Eff.of_sameBut hs₁).off nofun fun b hb => hb ▸ ns_noTup C₁.ns)
    obtain ⟨vs, c, hva, rva⟩ := C₂.inner a haA
    have I : In K n c3Scope (fun _ => False) [(sC, .py x), (s2', .py (.list (f a)))] A env h₁ := C₂.in V fun y d hy => by
      rw [List.lookup_cons] at hy
      by_cases q : y = sC
      · subst q; simp at hy; subst hy
        exact ⟨v, [], by simp [show sC ≠ s2' from by decide]; exact hc₁, by rfl, rv₂⟩
      · have hb : (y == sC) = false := by simpa using q
        simp only [hb, List.lookup_cons] at hy
        by_cases q2 : y = s2'
        · subst q2; simp at hy; subst hy
          exact ⟨.ref a, [a], by simp, by rfl, Rd.list hva rva⟩
        · have hb2 : (y == s2') = false := by simpa using q2
          simp [hb2] at hy
    refine wpAny_execs_cons (wpAny_If (Tr.use (b := (f a).tail.any fun y => PyData.eqv y x) (s := { s with heap := h₁, toks := tk }) I
      (Tr.cmp (Ev.name (by rfl)) (Ev.sliceFrom (fr := false) (Ev.name (by rfl)) Ev.cInt (by decide) (hsz a haA) nofun) (CmpOk.cast (CmpOk.inL hx.shp (Shp.list fun d hd => hat a haA d (List.mem_of_mem_drop hd))) (by
        cases f a <;> simp))) fun h₂ tk₂ x₂ => ?_))
    have C₃ := C₂.ext x₂
    have kp₃ : ∀ b o, b ≠ env.locals → s.heap.get? b = some o → h₂.get? b = some o := fun b o hb ho => x₂ b o ((hs₁.2 b hb).trans (kp₁ b o hb ho))
    cases hb : (f a).tail.any fun y => PyData.eqv y x with
    | true =>
      rw [if_pos rfl]
      refine wpAny_execs_cons (wpAny_Assign_Name (Constant_none ?_))
      refine c3_store V (y := sC) (by rfl) C₃.ns fun h₃ hn₃ hs₃ => ?_
      have C₄ := C₃.stored hs₃ hn₃ (by decide) (by decide)
      refine wpAny_execs_cons ?_
      refine fun _ _ _ => ⟨h₃, _, _, rfl, sameBut_iter hs₃ fr.2.2.2 (x₂ _ _ hoI), C₄, by simp, fun b o hb ho => (hs₃.2 b hb).trans (kp₃ b o hb ho), ?_⟩
      unfold okHead
      rw [List.all_eq_false]
      exact ⟨f a, List.mem_map.mpr ⟨a, haP, rfl⟩, by simp [hb]⟩
    | false =>
      rw [if_neg Bool.false_ne_true]
      refine wpAny_execs_nil (wpAny_execs_nil ⟨h₂, tk₂, _, rfl, x₂ _ _ hoI, C₃, by simp [show sC ≠ s2' from by decide]; exact hc₁, rv₂.ext x₂, kp₃, fun j b hj hb' => ?_⟩)
      by_cases q : j = i
      · subst q; rw [hPi] at hb'; cases hb'; exact hb
      · exact hno j b (by omega) hb'
  · rintro h m₁ tk ⟨C₁, hc₁, kp₁, hno⟩
    exact k2 hno h tk m₁ C₁ hc₁ kp₁
  · rintro h m₁ tk ⟨C₁, hc₁, rv₁, kp₁, hno⟩
    refine wpAny_execs_cons ?_
    refine fun _ _ _ => k1 ?_ h tk m₁ C₁ hc₁ rv₁ kp₁
    unfold okHead
    rw [List.all_eq_true]
    intro t ht
    obtain ⟨a, ha, rfl⟩ := List.mem_map.mp ht
    obtain ⟨j, hj, e⟩ := List.getElem_of_mem ha
    have := hno j a hj (by rw [List.getElem?_eq_getElem hj, e])
    simp [this]

theorem cand_none {R : List (List PyData)} (h : ∀ y t, y :: t ∈ R → okHead PyData.eqv R y = false) : cand PyData.eqv R = none := by
  unfold cand
  rw [List.findSome?_eq_none_iff]
  intro r hr
  cases r with
  | nil => rfl
  | cons y t => simp [h y t hr]
theorem cand_some {R : List (List PyData)} {i : Nat} {x : PyData} {t : List PyData} (hi : R[i]? = some (x :: t)) (hx : okHead PyData.eqv R x = true) (hno : ∀ (j : Nat) y t, j < i → R[j]? = some (y :: t) → okHead PyData.eqv R y = false) : cand PyData.eqv R = some x := by
  have hl : i < R.length := (List.getElem?_eq_some_iff.mp hi).1
  have hsp : R = R.take i ++ (x :: t) :: R.drop (i + 1) := by
    have := List.take_append_drop i R
    rw [List.drop_eq_getElem_cons hl, (List.getElem?_eq_some_iff.mp hi).2] at this
    exact this.symm
  unfold cand
  generalize hg : okHead PyData.eqv R = g at *
  rw [hsp, List.findSome?_append]
  rw [List.findSome?_eq_none_iff (l := R.take i) |>.mpr ?_]
  · simp [hx]
  ·
    intro r hr
    obtain ⟨j, hj, e⟩ := List.getElem_of_mem hr
    cases r with
    | nil => rfl
    | cons y t' =>
      have hj' : j < i := by simp at hj; omega
      have := hno j y t' hj' (by rw [List.getElem_take] at e; rw [← e]; exact List.getElem?_eq_getElem _)
      simp [this]

/-- the search for the next one -/
theorem c3_search (V : C3E K A n env) (C : C3I K env h₀ As s.heap m l r P f out) (hat : ∀ a ∈ As, ∀ d ∈ f a, Atom d) (hsz : ∀ a ∈ As, (f a).length ≤ sizeLine)
    (hne : ∀ a ∈ P, f a ≠ []) (hP : P ≠ [])
    (k1 : ∀ x, cand PyData.eqv (P.map f) = some x → ∀ h' tk m' v, C3I K env h₀ As h' m' l r P f out → m' sC = some v → Rd h' v x [] → Q .next { s with heap := h', toks := tk })
    (k2 : cand PyData.eqv (P.map f) = none → ∀ h' tk m', C3I K env h₀ As h' m' l r P f out → m' sC = some .none → Q .next { s with heap := h', toks := tk }) :
    wpAny (model K.prog K.w) A (exec stSearch env) Q E s := by
  have fr := C.fresh
  have hnew := C.new
  have stab : ∀ {h h' m}, C3I K env h₀ As h m l r P f out → Eff (· = s.heap.objs.size) h h' → NoTup h s.heap.objs.size → C3I K env h₀ As h' m l r P f out := fun {h h' m} C' e nt =>
    C'.upd e (C'.ns.at' fun o ho => e _ o (Ne.symm fr.2.2.2) ho) rfl rfl fun c hc => by cases hc; exact ⟨fr.1, fr.2.1, fr.2.2.1, hnew, nt⟩
  refine c3_for (P := P) (l := l) (x := s1') V (by rfl)
    (fun i h m' => C3I K env h₀ As h m' l r P f out ∧ (0 < i → m' sC = some .none) ∧ ∀ (j : Nat) y t, j < i → (P.map f)[j]? = some (y :: t) → okHead PyData.eqv (P.map f) y = false)
    (fun h m' => C3I K env h₀ As h m' l r P f out ∧ ∃ x v, cand PyData.eqv (P.map f) = some x ∧ m' sC = some v ∧ Rd h v x [])
    (fun i h m' J => ⟨J.1.ns, J.1.seqL⟩) C.seqV ⟨C, fun q => absurd q (Nat.lt_irrefl 0), fun j y t hj => absurd hj (Nat.not_lt_zero _)⟩
    (fun i h h' m' J e nt => ⟨stab J.1 e nt, J.2.1, J.2.2⟩) ?_ ?_ ?_
  · rintro i a h m₁ h₁ tk oI hPi ⟨C₁, hc₁, hno⟩ hs₁ hn₁ hoI ntI
    have haP : a ∈ P := List.mem_of_getElem? hPi
    have haA := C₁.PA a haP
    have C₂ := C₁.stored hs₁ hn₁ (by decide) (by decide)
    obtain ⟨vs, c, hva, rva⟩ := C₂.inner a haA
    obtain ⟨x, t, hfa⟩ : ∃ x t, f a = x :: t := by
      cases hq : f a with
      | nil => exact absurd hq (hne a haP)
      | cons x t => exact ⟨x, t, rfl⟩
    have hRi : (P.map f)[i]? = some (x :: t) := by rw [List.getElem?_map, hPi]; simp [hfa]
    have hx : Atom x := hat a haA x (by rw [hfa]; exact .head _)
    rw [hfa] at rva
    obtain ⟨v, vs', rfl, rv⟩ : ∃ v vs', vs = v :: vs' ∧ Rd h₁ v x [] := by
      obtain ⟨v, vs', a1, b1, e1, e2, r1, r2⟩ := rva.uncons
      exact ⟨v, vs', e1, by rw [← hx.fp r1]; exact r1⟩
    refine wpAny_execs_cons (wpAny_Assign_Name ?_)
    refine c3_first V (y := s1') (by rfl) C₂.ns (by simp) hva ?_
    refine c3_store V (y := sC) (by rfl) C₂.ns fun h₂ hn₂ hs₂ => ?_
    have C₃ := C₂.stored hs₂ hn₂ (by decide) (by decide)
    have rv₂ : Rd h₂ v x [] := rv.off ((Eff.of_sameBut hs₂).off nofun fun b hb => hb ▸ ns_noTup C₂.ns)
    have hoI₂ : h₂.get? s.heap.objs.size = some oI := (hs₂.2 _ fr.2.2.2).trans hoI
    refine wpAny_execs_cons ?_
    refine c3_inner (h₀ := h₀) V C₃ hat hsz hx (by simp) rv₂ (fun ok h₃ tk₃ m₃ C₄ hm₃ rv₃ kp₃ => ?_) (fun ok h₃ tk₃ m₃ C₄ hm₃ kp₃ => ?_)
    · exact ⟨h₃, tk₃, m₃, rfl, kp₃ _ _ fr.2.2.2 hoI₂, C₄, x, v, cand_some hRi ok hno, hm₃, rv₃⟩
    · refine wpAny_execs_nil ⟨h₃, tk₃, m₃, rfl, kp₃ _ _ fr.2.2.2 hoI₂, C₄, fun _ => hm₃, fun j y t' hj hq => ?_⟩
      by_cases q : j = i
      · subst q; rw [hRi] at hq; cases hq; exact ok
      · exact hno j y t' (by omega) hq
  · rintro h m₁ tk ⟨C₁, x, v, hx, hm, rv⟩
    exact k1 x hx h tk m₁ v C₁ hm rv
  · rintro h m₁ tk ⟨C₁, hc₁, hno⟩
    refine wpAny_execs_nil (k2 (cand_none fun y t hyt => ?_) h tk m₁ C₁ (hc₁ (List.length_pos_iff.mpr hP)))
    obtain ⟨j, hj, e⟩ := List.getElem_of_mem hyt
    exact hno j y t (by simpa using hj) (by rw [List.getElem?_eq_getElem hj, e])
end
end Mine

namespace Mine

theorem noTup_list {h : Heap} {a : Addr} {vs : Array Value} {n : Nat} (ho : h.get? a = some { cls := .type "list", data := .seq vs n }) : NoTup h a := fun xs k e => by
  rw [ho] at e; injection e with e; injection e with e1; exact absurd e1 (by decide)

section
variable {K : Cx} {A : Around} {n : Nat} {env : Env} {s : Shared} {h₀ h h' : Heap} {As : List Addr} {l r : Addr} {P : List Addr} {f : Addr → List PyData} {out : List PyData} {Q : Flow → Shared → Prop} {E : Value → Shared → Prop} {m : Str → Option Value}

theorem C3I.ne_locals (C : C3I K env h₀ As h m l r P f out) : l ≠ env.locals ∧ r ≠ env.locals ∧ env.locals ∉ As := by
  refine ⟨fun q => ?_, fun q => ?_, fun q => ?_⟩
  · obtain ⟨o, ho, _, k, hd⟩ := C.seqL; obtain ⟨o', es, ep, ho', hd', _⟩ := C.ns; rw [q, ho'] at ho; cases ho; rw [hd] at hd'; cases hd'
  · obtain ⟨ws, ⟨k, ho⟩, _⟩ := C.resL; obtain ⟨o', es, ep, ho', hd', _⟩ := C.ns; rw [q, ho'] at ho; cases ho; cases hd'
  · obtain ⟨vs, k, ho, _⟩ := C.inner _ q; obtain ⟨o', es, ep, ho', hd', _⟩ := C.ns; rw [ho] at ho'; cases ho'; cases hd'

theorem C3I.setInner (C : C3I K env h₀ As h m l r P f out) {a : Addr} (ha : a ∈ As) {ws : List Value} {c : Nat} {ds : List PyData} (ho : h'.get? a = some { cls := .type "list", data := .seq ws.toArray c }) (rd : RdAll h ws ds []) (hs : Heap.SameBut a h h') :
    C3I K env h₀ As h' m l r P (fun b => if b = a then ds else f b) out := by
  have e := Eff.of_sameBut hs
  have nt : NoTup h a := let ⟨_, _, h1, _⟩ := C.inner a ha; noTup_list h1
  have off : ∀ {vs ds}, RdAll h vs ds [] → RdAll h' vs ds [] := fun {vs ds} q => q.off (e.off nofun fun c hc => hc ▸ nt)
  have na : env.locals ≠ a := fun q => C.ne_locals.2.2 (q ▸ ha)
  exact {
    ok := ⟨C.ok.g, C.ok.b, C.ok.lim, e.ext C.ok.ext fun c hc => hc ▸ C.AK a ha⟩
    base := C.base
    ns := C.ns.at' fun o ho => (hs.2 _ na).trans ho
    Lnew := C.Lnew
    keep := fun b o hb hb' => (hs.2 b fun q => hb (q ▸ ha)).trans (C.keep b o hb hb')
    inner := fun b hb => by
      by_cases q : b = a
      · subst q; exact ⟨ws, c, ho, by simp; exact off rd⟩
      · obtain ⟨vs, k, h1, h2⟩ := C.inner b hb
        exact ⟨vs, k, (hs.2 b q).trans h1, by simp [q]; exact off h2⟩
    seqV := C.seqV
    seqL := let ⟨o, ho, hr⟩ := C.seqL; ⟨o, (hs.2 l fun q => C.lA (q ▸ ha)).trans ho, hr⟩
    resV := C.resV
    resL := let ⟨ws, h1, h2⟩ := C.resL; ⟨ws, h1.at fun o ho => (hs.2 r fun q => C.rA (q ▸ ha)).trans ho, off h2⟩
    rnew := C.rnew
    rA := C.rA
    lA := C.lA
    lr := C.lr
    PA := C.PA
    AK := C.AK }

theorem C3I.setRes (C : C3I K env h₀ As h m l r P f out) {ws : List Value} {ds : List PyData} (ho : h'.PlainList r ws.toArray) (rd : RdAll h ws ds []) (hs : Heap.SameBut r h h') :
    C3I K env h₀ As h' m l r P f ds := by
  have e := Eff.of_sameBut hs
  have nt : NoTup h r := let ⟨_, ⟨_, h1⟩, _⟩ := C.resL; noTup_list h1
  have off : ∀ {vs ds}, RdAll h vs ds [] → RdAll h' vs ds [] := fun {vs ds} q => q.off (e.off nofun fun c hc => hc ▸ nt)
  exact {
    ok := ⟨C.ok.g, C.ok.b, C.ok.lim, e.ext C.ok.ext fun c hc => hc ▸ C.base.none C.rnew⟩
    base := C.base
    ns := C.ns.at' fun o ho => (hs.2 _ C.ne_locals.2.1.symm).trans ho
    Lnew := C.Lnew
    keep := fun b o hb hb' => (hs.2 b fun q => by rw [q, C.rnew] at hb'; cases hb').trans (C.keep b o hb hb')
    inner := fun b hb => let ⟨vs, k, h1, h2⟩ := C.inner b hb; ⟨vs, k, (hs.2 b fun q => C.rA (q ▸ hb)).trans h1, off h2⟩
    seqV := C.seqV
    seqL := let ⟨o, ho, hr⟩ := C.seqL; ⟨o, (hs.2 l C.lr).trans ho, hr⟩
    resV := C.resV
    resL := ⟨ws, ho, off rd⟩
    rnew := C.rnew
    rA := C.rA
    lA := C.lA
    lr := C.lr
    PA := C.PA
    AK := C.AK }

theorem C3I.congr {g : Addr → List PyData} (C : C3I K env h₀ As h m l r P f out) (e : ∀ a ∈ As, g a = f a) : C3I K env h₀ As h m l r P g out :=
  { C with inner := fun a ha => by rw [e a ha]; exact C.inner a ha }

def stDel : Stmt := match stStrike with | .For _ _ [.If _ [b] _ _] _ _ => b | s => s

/-- `del seq[0]` -/
theorem c3_del (V : C3E K A n env) (C : C3I K env h₀ As s.heap m l r P f out) {a : Addr} (ha : a ∈ As) (hm : m sQ = some (.ref a)) {x : PyData} {t : List PyData} (hfa : f a = x :: t) (hx : Atom x) (hsz : (f a).length ≤ sizeLine)
    (k : ∀ h' tk, C3I K env h₀ As h' m l r P (fun b => if b = a then t else f b) out → Heap.SameBut a s.heap h' → Q .next { s with heap := h', toks := tk }) :
    wpAny (model K.prog K.w) A (exec stDel env) Q E s := by
  obtain ⟨vs, c, hva, rva⟩ := C.inner a ha
  rw [hfa] at rva
  obtain ⟨v, vs', a1, b1, rfl, e2, r1, r2⟩ := rva.uncons
  have hlen : (v :: vs').length = (f a).length := by rw [hfa]; exact rva.length
  obtain rfl : b1 = [] := (List.append_eq_nil_iff.mp e2.symm).2
  refine wpAny_Delete (wpAny_deleteEach_cons (wpAny_delete_Subscript ?_))
  refine c3_name V (y := sQ) (by rfl) C.ns hm (wpAny_Constant_int ?_)
  refine wpAny_delItem_plain (k := 0) ⟨c, hva⟩ (by rfl) (by simp [seqIndex?]) (fun h' hl' hs' => ?_) (by simpa [hlen] using hsz)
  obtain ⟨c', hl'⟩ := hl'
  refine wpAny_deleteEach_nil (k h' _ (C.setInner (ws := vs') (c := c') ha (by rw [hl']; simp) r2 hs') hs')

/-- the candidate goes from the front of each row -/
theorem c3_strike (V : C3E K A n env) (C : C3I K env h₀ As s.heap m l r P f out) (hat : ∀ a ∈ As, ∀ d ∈ f a, Atom d) (hsz : ∀ a ∈ As, (f a).length ≤ sizeLine)
    (hne : ∀ a ∈ P, f a ≠ []) (hnd : P.Nodup) {x : PyData} {v : Value} (hx : Atom x) (hc : m sC = some v) (rv : Rd s.heap v x [])
    (k : ∀ h' tk m', C3I K env h₀ As h' m' l r P (fun a => if a ∈ P then strike1 PyData.eqv x (f a) else f a) out → Q .next { s with heap := h', toks := tk }) :
    wpAny (model K.prog K.w) A (exec stStrike env) Q E s := by
  have fr := C.fresh
  have hnew := C.new
  have stab : ∀ {h h' m f}, C3I K env h₀ As h m l r P f out → Eff (· = s.heap.objs.size) h h' → NoTup h s.heap.objs.size → C3I K env h₀ As h' m l r P f out := fun {h h' m f} C' e nt =>
    C'.upd e (C'.ns.at' fun o ho => e _ o (Ne.symm fr.2.2.2) ho) rfl rfl fun c hc => by cases hc; exact ⟨fr.1, fr.2.1, fr.2.2.1, hnew, nt⟩
  refine c3_for (P := P) (l := l) (x := sQ) V (by rfl)
    (fun i h m' => C3I K env h₀ As h m' l r P (fun a => if a ∈ P.take i then strike1 PyData.eqv x (f a) else f a) out ∧ m' sC = some v ∧ Rd h v x [])
    (fun h m' => False)
    (fun i h m' J => ⟨J.1.ns, J.1.seqL⟩) C.seqV ⟨C.congr fun a _ => by simp, hc, rv⟩
    (fun i h h' m' J e nt => ⟨stab J.1 e nt, J.2.1, J.2.2.off (e.off nofun fun b hb => hb ▸ nt)⟩) ?_ (fun _ _ _ q => q.elim) ?_
  · rintro i a h m₁ h₁ tk oI hPi ⟨C₁, hc₁, rv₁⟩ hs₁ hn₁ hoI ntI
    have haP : a ∈ P := List.mem_of_getElem? hPi
    have haA := C₁.PA a haP
    have hi : i < P.length := (List.getElem?_eq_some_iff.mp hPi).1
    have hai : P[i] = a := (List.getElem?_eq_some_iff.mp hPi).2
    have hnot : a ∉ P.take i := fun q => by
      obtain ⟨j, hj, e⟩ := List.getElem_of_mem q
      rw [List.getElem_take] at e
      have hj' : j < i := by simp at hj; omega
      exact List.pairwise_iff_getElem.mp hnd j i (by omega) hi hj' (e.trans hai.symm)
    have htk : P.take (i + 1) = P.take i ++ [a] := by rw [List.take_succ_eq_append_getElem hi, hai]
    have C₂ := C₁.stored hs₁ hn₁ (by decide) (by decide)
    have rv₂ : Rd h₁ v x [] := rv₁.off ((Eff.of_sameBut hs₁).off nofun fun b hb => hb ▸ ns_noTup C₁.ns)
    obtain ⟨vs, c, hva, rva⟩ := C₂.inner a haA
    rw [if_neg hnot] at rva
    obtain ⟨y, t, hfa⟩ : ∃ x t, f a = x :: t := by
      cases hq : f a with
      | nil => exact absurd hq (hne a haP)
      | cons x t => exact ⟨x, t, rfl⟩
    have hy : Atom y := hat a haA y (by rw [hfa]; exact .head _)
    have I : In K n c3Scope (fun _ => False) [(sC, .py x), (sQ, .py (.list (f a)))] A env h₁ := C₂.in V fun z d hz => by
      rw [List.lookup_cons] at hz
      by_cases q : z = sC
      · subst q; simp at hz; subst hz
        exact ⟨v, [], by simp [show sC ≠ sQ from by decide]; exact hc₁, by rfl, rv₂⟩
      · have hb : (z == sC) = false := by simpa using q
        simp only [hb, List.lookup_cons] at hz
        by_cases q2 : z = sQ
        · subst q2; simp at hz; subst hz
          exact ⟨.ref a, [a], by simp, by rfl, Rd.list hva rva⟩
        · have hb2 : (z == sQ) = false := by simpa using q2
          simp [hb2] at hz
    refine wpAny_execs_cons (wpAny_If (Tr.use (b := PyData.eqv y x) (s := { s with heap := h₁, toks := tk }) I
      (Tr.cmp (Ev.item (Ev.name (by rfl)) Ev.cInt (by decide) (by rw [hfa]; rfl) (hsz a haA)) (Ev.name (by rfl)) (CmpOk.eqD hy.shp hx.shp)) fun h₂ tk₂ x₂ => ?_))
    have C₃ := C₂.ext x₂
    cases hb : PyData.eqv y x with
    | true =>
      rw [if_pos rfl]
      refine wpAny_execs_cons (c3_del V C₃ haA (by simp) (by rw [if_neg hnot]; exact hfa) hy (by rw [if_neg hnot]; exact hsz a haA) fun h₃ tk₃ C₄ hs₃ => wpAny_execs_nil (wpAny_execs_nil
        ⟨h₃, tk₃, _, rfl, ?_, C₄.congr fun b hbA => ?_, by simp [show sC ≠ sQ from by decide]; exact hc₁, ?_⟩))
      · exact (hs₃.2 s.heap.objs.size fun q => fr.2.2.1 (q ▸ haA)).trans (x₂ _ _ hoI)
      · rw [htk]
        by_cases q : b = a
        · subst q; simp [hfa, strike1, hb]
        · simp [q]
      · exact (rv₂.ext x₂).off ((Eff.of_sameBut hs₃).off nofun fun b hb => hb ▸ (let ⟨_, _, h1, _⟩ := C₃.inner a haA; noTup_list h1))
    | false =>
      rw [if_neg Bool.false_ne_true]
      refine wpAny_execs_nil (wpAny_execs_nil ⟨h₂, tk₂, _, rfl, x₂ _ _ hoI, C₃.congr fun b hbA => ?_, by simp [show sC ≠ sQ from by decide]; exact hc₁, rv₂.ext x₂⟩)
      rw [htk]
      by_cases q : b = a
      · subst q; simp [hfa, strike1, hb]
      · simp [q]
  · rintro h m₁ tk ⟨C₁, hc₁, rv₁⟩
    exact wpAny_execs_nil (k h tk m₁ (C₁.congr fun a _ => by simp))
end
end Mine

namespace Mine

def stPurge : Stmt := whileBody.getD 0 (.Pass ⟨0, 0, 0, 0⟩)
def stEmpty : Stmt := whileBody.getD 1 (.Pass ⟨0, 0, 0, 0⟩)
def stNone : Stmt := whileBody.getD 3 (.Pass ⟨0, 0, 0, 0⟩)
def stAppend : Stmt := whileBody.getD 4 (.Pass ⟨0, 0, 0, 0⟩)

theorem paired_eq {α : Type} : ∀ {l₁ l₂ : List α}, Paired (fun a b => a = b) l₁ l₂ → l₁ = l₂
  | _, _, .nil => rfl
  | _, _, .cons a b => by rw [a, paired_eq b]

theorem RdAll.eq_iff_len {h : Heap} {vs ds as} (r : RdAll h vs ds as) : vs.toArray.isEmpty = ds.isEmpty := by
  have := r.length
  cases vs <;> cases ds <;> simp_all

section
variable {K : Cx} {A : Around} {n : Nat} {env : Env} {s : Shared} {h₀ h h' : Heap} {As : List Addr} {l r : Addr} {P : List Addr} {f : Addr → List PyData} {out : List PyData} {Q : Flow → Shared → Prop} {E : Value → Shared → Prop} {m : Str → Option Value}

theorem C3I.purged (C : C3I K env h₀ As h m l r P f out) {D : Addr} {P' : List Addr} (hD : h.get? D = none) (hl : h'.IsList D (P'.map Value.ref).toArray) (hP : ∀ a ∈ P', a ∈ P) (hn : h'.Ns env.locals fun z => if z = sS then some (.ref D) else m z)
    (e : Eff (· = env.locals) h h') : C3I K env h₀ As h' (fun z => if z = sS then some (.ref D) else m z) D r P' f out := by
  have nt : NoTup h env.locals := ns_noTup C.ns
  have off : ∀ {vs ds}, RdAll h vs ds [] → RdAll h' vs ds [] := fun {vs ds} q => q.off (e.off nofun fun c hc => hc ▸ nt)
  have nl := C.ne_locals
  exact {
    ok := ⟨C.ok.g, C.ok.b, C.ok.lim, e.ext C.ok.ext fun c hc => hc ▸ C.base.none C.Lnew⟩
    base := C.base
    ns := hn
    Lnew := C.Lnew
    keep := fun b o hb hb' => e b o (fun q => by rw [q, C.Lnew] at hb'; cases hb') (C.keep b o hb hb')
    inner := fun b hb => let ⟨vs, k, h1, h2⟩ := C.inner b hb; ⟨vs, k, e b _ (fun q => nl.2.2 (q ▸ hb)) h1, off h2⟩
    seqV := by simp
    seqL := hl
    resV := by simp [show sR ≠ sS from by decide]; exact C.resV
    resL := let ⟨ws, h1, h2⟩ := C.resL; ⟨ws, h1.at fun o ho => e r o nl.2.1 ho, off h2⟩
    rnew := C.rnew
    rA := C.rA
    lA := fun q => by obtain ⟨vs, k, ho, _⟩ := C.inner _ q; rw [hD] at ho; cases ho
    lr := fun q => by obtain ⟨ws, ⟨k, ho⟩, _⟩ := C.resL; rw [← q, hD] at ho; cases ho
    PA := fun a ha => C.PA a (hP a ha)
    AK := C.AK }

def ne' (f : Addr → List PyData) (a : Addr) : Bool := !(f a).isEmpty

/-- `sequences = [s for s in sequences if s]` -/
theorem c3_purge (V : C3E K A n env) (C : C3I K env h₀ As s.heap m l r P f out) (hsz : ∀ a ∈ As, (f a).length ≤ sizeLine) (hP : P.length ≤ sizeLine)
    (k : ∀ h' tk m' l', C3I K env h₀ As h' m' l' r (P.filter (ne' f)) f out → Q .next { s with heap := h', toks := tk }) :
    wpAny (model K.prog K.w) A (exec stPurge env) Q E s := by
  have hkS : env.kindOf sS = some .local := c3_kind V (by rfl)
  refine wpAny_Assign_ListComp_map (fun v => match v with | .ref a => ne' f a | _ => false) (fun v y => v = y) ?_ V.room.quiet (by decide) (by decide) rfl (by decide) (by decide) (y := sS) hkS (by rw [V.henv.kind]; rfl) ?_
  · show pure _ = pure true
    congr 1
    have h1 : env.blockKind = .function := by unfold Env.blockKind; rw [V.henv.kind]; rfl
    rw [h1, hkS]
    decide
  · refine c3_name V (y := sS) (by rfl) C.ns C.seqV ⟨l, _, m, rfl, C.seqL, by simpa using hP, C.ns, ?_, ?_, ?_⟩
    · intro Cm v s₂ m₂ E' hv hn hm hk
      obtain ⟨a, ha, rfl⟩ : ∃ a ∈ P, Value.ref a = v := by simpa using hv
      obtain ⟨vs, c, hva, rva⟩ := C.inner a (C.PA a ha)
      have hva₂ := hk _ _ hva
      refine wpAny_tests_one (isTrue_plain (wpAny_Name (wpAny_loadName_local rfl (by rfl) hn hm ?_) (by decide)))
      refine wpAny_truthy_list (items := vs.toArray) ⟨_, hva₂, rfl, _, rfl⟩ ?_ ?_
      · have := hsz a (C.PA a ha)
        rw [List.size_toArray, rva.length]
        exact Int.lt_of_le_of_lt (Int.ofNat_le.mpr this) (by decide)
      · exact ⟨by show _ = !(f a).isEmpty; rw [rva.eq_iff_len], s₂.heap, _, rfl, fun _ _ q => q⟩
    · intro Cm v s₂ m₂ E' hv hp hn hm hk
      exact wpAny_Name (wpAny_loadName_local rfl (by rfl) hn hm ⟨rfl, s₂.heap, _, rfl, fun _ _ q => q⟩) (by decide)
    · intro D h' tk ys hD hl hF hn hk
      have hys : ys = ((P.filter (ne' f)).map Value.ref).toArray := by
        have := paired_eq hF
        rw [List.filter_map] at this
        rw [← Array.toArray_toList (xs := ys), ← this]
        rfl
      exact k h' tk _ D (C.purged hD (hys ▸ hl) (fun a ha => (List.mem_filter.mp ha).1) hn fun b o hb ho => hk b o hb ho)

/-- `result.append(candidate)` -/
theorem c3_append (V : C3E K A n env) (C : C3I K env h₀ As s.heap m l r P f out) {x : PyData} {v : Value} (hc : m sC = some v) (rv : Rd s.heap v x []) (hsz : out.length ≤ sizeLine)
    (k : ∀ h' tk, C3I K env h₀ As h' m l r P f (out ++ [x]) → Rd h' v x [] → Q .next { s with heap := h', toks := tk }) :
    wpAny (model K.prog K.w) A (exec stAppend env) Q E s := by
  have hint : interactive env = false := by unfold interactive; rw [V.henv.kind]; rfl
  refine wpAny_Expr_any (wpAny_Call_method1_late (by rfl) (by rfl) (by rfl) (c3_name V (y := sR) (by rfl) C.ns C.resV ?_)) hint (by rfl)
  obtain ⟨ws, ⟨c, hr⟩, rd⟩ := C.resL
  have nt : NoTup s.heap r := noTup_list hr
  refine ⟨"list", "list.append", F.plainAttrs_list, F.slot_list_append, F.type_list_append, ⟨_, hr, rfl⟩, fun a ha => by cases ha; exact ⟨_, hr, rfl⟩, PySem.P.append_list (c3_name V (y := sC) (by rfl) C.ns hc
    ⟨ws.toArray, c, by rw [List.size_toArray, rd.length]; exact hsz, hr, ?_⟩)⟩
  have hs : Heap.SameBut r s.heap (s.heap.update r (Obj.mapSeq fun xs => xs.push v)) := Heap.SameBut.update ..
  refine k _ _ (C.setRes (ws := ws ++ [v]) ⟨_, by simpa using IsL.update (n := c) hr (fun xs => xs.push v)⟩ ?_ hs) (rv.off ((Eff.of_sameBut hs).off nofun fun b hb => hb ▸ nt))
  exact rd.append (RdAll.one rv)
end
end Mine

namespace Mine

def words : Str := "Inconsistent hierarchy"

def Kept (S : List Addr) (h h' : Heap) : Prop := ∀ b o, h.get? b = some o → ∃ sl, h'.get? b = some { o with slots := sl } ∧ (b ∉ S → sl = o.slots)
theorem Kept.get {S : List Addr} {h h' : Heap} (x : Kept S h h') {b : Addr} {o : Obj} (hb : b ∉ S) (ho : h.get? b = some o) : h'.get? b = some o := by
  obtain ⟨sl, e, k⟩ := x b o ho
  rw [k hb] at e; exact e
theorem Ext.kept {h h' : Heap} (S : List Addr) (x : Ext h h') : Kept S h h' := fun b o e => ⟨o.slots, x b o e, fun _ => rfl⟩

section
variable {M : Model} {A : Around} {E : Value → Shared → Prop} {s : Shared} {B : Heap}

theorem newEntry_ok {env : Env} {outer : List Env} {L e : Addr} {oe : Obj} {vs : Array Value} {head : Value} {hadNext : Bool} {Q : Unit → Shared → Prop}
    (hfr : A.frames = some (env :: outer)) (hl : s.heap.FunFrames B (env :: outer)) (hf : env.frame = some L)
    (he : s.heap.get? e = some oe) (hd : oe.data = .fields vs) (hsz : 1 < vs.size)
    (k : ∀ h' T oT ts, s.heap.get? T = none → T ≠ e → h'.get? T = some oT → oT.data = .fields ts → ts[3]? = some (rawInt L) → h'.get? e = some (oe.mapFields (·.setIfInBounds 1 (.ref T))) →
      (∀ b o, b ≠ e → s.heap.get? b = some o → ∃ sl, h'.get? b = some { o with slots := sl } ∧ (b ∉ (env :: outer).filterMap (·.frame) → sl = o.slots)) → Q () { s with heap := h' }) :
    wpAny M A (do let a ← frameOf env; let pl ← entryPlaceOf L hadNext; let b ← EntryCells.newEntry head a .none (rawInt L) .none pl; setField (.ref e) 1 b) Q E s := by
  have hene : e ∉ (env :: outer).filterMap (·.frame) := fun hm => by
    obtain ⟨_, o, ho, hnf⟩ := hl.mem hm
    rw [he] at ho; injection ho with ho; subst ho; exact hnf vs hd
  refine wpAny_bind (wpAny_frameOf_fun hfr hl hf fun h₁ hs₁ => ?_)
  refine wpAny_bind (wpAny_entryPlaceOf fun pl hpl => ?_)
  unfold EntryCells.newEntry newFields
  refine wpAny_bind (wpAny_newObj_type ?_ (hpl.sizeOk5 _ _ _ _ _))
  have he₁ : h₁.get? e = some oe := (hs₁.2.1 e hene).trans he
  have he₂ := Heap.get?_push_of_some (h := h₁) { cls := .type "traceback", dict := none, data := .fields ([head, .ref L, .none, rawInt L, .none] ++ (if pl.isEmpty then List.replicate 6 Value.none else pl)).toArray } he₁
  refine wpAny_setField he₂ hd hsz ?_
  have hTe : h₁.objs.size ≠ e := Nat.ne_of_gt (Heap.lt_size he₁)
  have hd₃ := Obj.data_mapFields hd (·.setIfInBounds 1 (Value.ref h₁.objs.size))
  have he₃ := Heap.get?_update_self (Obj.mapFields (·.setIfInBounds 1 (Value.ref h₁.objs.size))) he₂ (Obj.isFreed_of_fields hd₃)
  have hT₃ := (Heap.get?_update_other (h₁.push { cls := .type "traceback", dict := none, data := .fields ([head, .ref L, .none, rawInt L, .none] ++ (if pl.isEmpty then List.replicate 6 Value.none else pl)).toArray })
    (Obj.mapFields (·.setIfInBounds 1 (Value.ref h₁.objs.size))) (Ne.symm hTe)).trans (Heap.get?_push_size h₁ rfl)
  refine k _ h₁.objs.size _ _ (Heap.get?_none_of_le (by rw [hs₁.1]; exact Nat.le_refl _)) hTe hT₃ rfl (by simp) he₃ fun b o hbe hb => ?_
  obtain ⟨sl, hsl⟩ := hs₁.2.2 b o hb
  refine ⟨sl, ?_, fun hbS => ?_⟩
  · rw [Heap.get?_update_other _ _ (Ne.symm hbe)]
    exact Heap.get?_push_of_some _ hsl
  · have := (hs₁.2.1 b hbS).trans hb
    rw [hsl] at this
    have := congrArg Obj.slots (Option.some.inj this)
    exact this
end

/-- the refusal on its way: where it has been noted last -/
structure Fly (hb h : Heap) (e : Addr) (st : Option (Option Addr)) : Prop where
  there : ∃ o vs t ot u k, h.get? e = some o ∧ o.cls = .type "RuntimeError" ∧ o.data = .fields vs ∧ 3 < vs.size ∧ vs[0]? = some (.ref t) ∧ h.get? t = some ot ∧ ot.cls = .type "tuple" ∧ ot.data = .seq #[.str words u] k ∧
    match st with
    | none => vs[1]? = some .none
    | some f => ∃ T oT ts, vs[1]? = some (.ref T) ∧ T ≠ e ∧ hb.get? T = none ∧ h.get? T = some oT ∧ oT.data = .fields ts ∧ ts[3]? = some (f.elim .none fun a => rawInt a)
  new : hb.get? e = none

section
variable {M : Model} {A : Around} {E : Value → Shared → Prop} {s : Shared} {B hb : Heap}

theorem note_new {env : Env} {outer : List Env} {L e : Addr} {Q : Unit → Shared → Prop} (hfr : A.frames = some (env :: outer)) (hl : s.heap.FunFrames B (env :: outer)) (hf : env.frame = some L) (F : Fly hb s.heap e none)
    (kb : Kept ((env :: outer).filterMap (·.frame)) hb s.heap)
    (k : ∀ h', Fly hb h' e (some (some L)) → Kept ((env :: outer).filterMap (·.frame)) hb h' → h'.FunFrames B (env :: outer) → Q () { s with heap := h' }) :
    wpAny M A (noteFrame (.ref e) env) Q E s := by
  obtain ⟨o, vs, t, ot, u, kk, h1, h2, h3, h4, h5, h6, h7, h8, h9⟩ := F.there
  unfold noteFrame
  simp only [hf]
  refine wpAny_bind (wpAny_field h1 h3 h9 ?_)
  rw [if_neg (by decide)]
  refine newEntry_ok hfr hl hf h1 h3 (by omega) fun h' T oT ts hT hTe hT' hdT h3T he' keep => ?_
  have hbk : ∀ b o', hb.get? b = some o' → b ≠ e := fun b o' hb' q => by rw [q, F.new] at hb'; cases hb'
  have hte : t ≠ e := fun q => by rw [q, h1] at h6; cases h6; rw [h8] at h3; cases h3
  obtain ⟨slt, ht', _⟩ := keep t ot hte h6
  have hsz' : 3 < (vs.setIfInBounds 1 (.ref T)).size := by rw [Array.size_setIfInBounds]; exact h4
  have hv0 : (vs.setIfInBounds 1 (.ref T))[0]? = some (.ref t) := by rw [Array.getElem?_setIfInBounds_ne (by decide)]; exact h5
  have hv1 : (vs.setIfInBounds 1 (.ref T))[1]? = some (.ref T) := by rw [Array.getElem?_setIfInBounds_self]; simp; omega
  refine k h' ⟨⟨_, vs.setIfInBounds 1 (.ref T), t, _, u, kk, he', (Obj.cls_mapFields _ _).trans h2, Obj.data_mapFields h3 _, hsz', hv0, ht', h7, h8, T, oT, ts, hv1, hTe, ?_, hT', hdT, h3T⟩, F.new⟩ (fun b o' hb' => ?_) (hl.of_keeps fun b o' hb' hnf => ?_)
  · cases q : hb.get? T with
    | none => rfl
    | some o' => obtain ⟨sl, hsl, _⟩ := kb T o' q; rw [hT] at hsl; cases hsl
  · obtain ⟨sl, e1, k1⟩ := kb b o' hb'
    obtain ⟨sl', e2, k2⟩ := keep b _ (hbk b o' hb') e1
    exact ⟨sl', e2, fun hbS => (k2 hbS).trans (k1 hbS)⟩
  · have : b ≠ e := fun q => by rw [q, h1] at hb'; cases hb'; exact hnf vs h3
    obtain ⟨sl, e1, _⟩ := keep b o' this hb'
    exact ⟨_, e1, rfl⟩

theorem note_again {env : Env} {L e : Addr} {Q : Unit → Shared → Prop} (hf : env.frame = some L) (F : Fly hb s.heap e (some (some L))) (k : Q () s) : wpAny M A (noteFrame (.ref e) env) Q E s := by
  obtain ⟨o, vs, t, ot, u, kk, h1, h2, h3, h4, h5, h6, h7, h8, T, oT, ts, a1, a2, a3, a4, a5, a6⟩ := F.there
  exact wpAny_noteFrame_inFlight hf h1 h3 a1 a4 a5 a6 k

/-- its last entry is marked -/
theorem flight_set {e : Addr} {f f' : Option Addr} {Q : Unit → Shared → Prop} {S : List Addr} (F : Fly hb s.heap e (some f)) (kb : Kept S hb s.heap) {l : List Env} (hl : s.heap.FunFrames B l)
    (k : ∀ h', Fly hb h' e (some f') → Kept S hb h' → h'.FunFrames B l → Q () { s with heap := h' }) : wpAny M A (setFlight (.ref e) f') Q E s := by
  obtain ⟨o, vs, t, ot, u, kk, h1, h2, h3, h4, h5, h6, h7, h8, T, oT, ts, a1, a2, a3, a4, a5, a6⟩ := F.there
  have hs3 : 3 < ts.size := (Array.getElem?_eq_some_iff.mp a6).1
  unfold setFlight
  refine wpAny_bind (wpAny_field h1 h3 a1 ?_)
  rw [if_pos (show (Value.ref T != Value.none) = true from by simp)]
  refine wpAny_setField a4 a5 hs3 ?_
  have other : ∀ b, b ≠ T → (s.heap.update T (Obj.mapFields (·.setIfInBounds 3 (f'.elim .none fun a => rawInt a)))).get? b = s.heap.get? b := fun b hb => Heap.get?_update_other _ _ (Ne.symm hb)
  have hd' := Obj.data_mapFields a5 (·.setIfInBounds 3 (f'.elim .none fun a => rawInt a))
  have htT : t ≠ T := fun q => by rw [q, a4] at h6; cases h6; rw [h8] at a5; cases a5
  refine k _ ⟨⟨o, vs, t, ot, u, kk, (other e (Ne.symm a2)).trans h1, h2, h3, h4, h5, (other t htT).trans h6, h7, h8, T, _, _, a1, a2, a3, Heap.get?_update_self _ a4 (Obj.isFreed_of_fields hd'), hd', by simp [hs3]⟩, F.new⟩ (fun b o' hb' => ?_) (hl.of_keeps fun b o' hb' hnf => ?_)
  · obtain ⟨sl, e1, k1⟩ := kb b o' hb'
    exact ⟨sl, (other b fun q => by rw [q, a3] at hb'; cases hb').trans e1, k1⟩
  · exact ⟨o', (other b fun q => by rw [q, a4] at hb'; cases hb'; exact hnf ts a5).trans hb', rfl⟩

theorem cameBack_ok {env : Env} {e : Addr} {f : Option Addr} {S : List Addr} {l : List Env} (F : Fly hb s.heap e (some f)) (kb : Kept S hb s.heap) (hl : s.heap.FunFrames B l)
    (k : ∀ h', Fly hb h' e (some env.frame) → Kept S hb h' → h'.FunFrames B l → E (.ref e) { s with heap := h' }) : cameBackBy M A env E (.ref e) s := by
  obtain ⟨o, vs, t, ot, u, kk, h1, h2, h3, h4, h5, h6, h7, h8, T, oT, ts, a1, a2, a3, a4, a5, a6⟩ := F.there
  unfold cameBackBy
  refine wpAny_bind (wpAny_field h1 h3 a1 ?_)
  rw [if_neg (show ¬ ((Value.ref T == Value.none) = true) from by simp)]
  exact flight_set F kb hl k
end
end Mine

namespace Mine

/-! ### the merge, plainly: how much to do is left -/
section
variable {α : Type} {eq : α → α → Bool} {R : List (List α)} {c : α}

def tot (R : List (List α)) : Nat := (R.map List.length).sum
def mg3 (eq : α → α → Bool) (R : List (List α)) : List α × List (List α) × Bool := c3 eq (tot R) R
def Rfl (eq : α → α → Bool) (R : List (List α)) : Prop := ∀ r ∈ R, ∀ x ∈ r, eq x x = true

theorem tot_cons {r : List α} : tot (r :: R) = r.length + tot R := by simp [tot]
theorem tot_zero (h : tot R = 0) : R.all (·.isEmpty) = true := by
  induction R with
  | nil => rfl
  | cons r R ih =>
    rw [tot_cons] at h
    simp only [List.all_cons, ih (by omega), Bool.and_true, List.isEmpty_iff]
    exact List.eq_nil_of_length_eq_zero (by omega)
theorem strike1_length_le (r : List α) : (strike1 eq c r).length ≤ r.length := by
  cases r with
  | nil => simp [strike1]
  | cons x t => simp only [strike1]; split <;> simp
theorem strike1_mem {r : List α} {x : α} (h : x ∈ strike1 eq c r) : x ∈ r := by
  cases r with
  | nil => exact h
  | cons y t =>
    simp only [strike1] at h
    split at h
    · exact .tail _ h
    · exact h
theorem tot_strike_le (R : List (List α)) : tot (R.map (strike1 eq c)) ≤ tot R := by
  induction R with
  | nil => simp [tot]
  | cons r R ih => rw [List.map_cons, tot_cons, tot_cons]; have := strike1_length_le (eq := eq) (c := c) r; omega
theorem cand_spec (h : cand eq R = some c) : (∃ t, c :: t ∈ R) ∧ okHead eq R c = true := by
  unfold cand at h
  obtain ⟨r, hr, e⟩ := List.exists_of_findSome?_eq_some h
  cases r with
  | nil => cases e
  | cons x t =>
    simp only at e
    split at e
    · rename_i ho; cases e; exact ⟨⟨t, hr⟩, ho⟩
    · cases e
theorem tot_strike_lt {t : List α} (h : c :: t ∈ R) (hr : eq c c = true) : tot (R.map (strike1 eq c)) < tot R := by
  induction R with
  | nil => cases h
  | cons r R ih =>
    rw [List.map_cons, tot_cons, tot_cons]
    have h1 := strike1_length_le (eq := eq) (c := c) r
    have h2 := tot_strike_le (eq := eq) (c := c) R
    rcases List.mem_cons.mp h with e | h
    · subst e; simp [strike1, hr] at *; omega
    · have := ih h; omega
theorem Rfl.strike (h : Rfl eq R) : Rfl eq (R.map (strike1 eq c)) := by
  intro r hr x hx
  obtain ⟨q, hq, rfl⟩ := List.mem_map.mp hr
  exact h q hq x (strike1_mem hx)
theorem cand_refl (hr : Rfl eq R) (h : cand eq R = some c) : eq c c = true := let ⟨⟨t, ht⟩, _⟩ := cand_spec h; hr _ ht c (.head _)
theorem cand_empty (h : R.all (·.isEmpty) = true) : cand eq R = none := by
  cases hc : cand eq R with
  | none => rfl
  | some c =>
    obtain ⟨⟨t, ht⟩, _⟩ := cand_spec hc
    have := List.all_eq_true.mp h _ ht
    simp at this

theorem c3_succ : ∀ {n : Nat} {R : List (List α)}, Rfl eq R → tot R ≤ n → c3 eq (n + 1) R = c3 eq n R
  | 0, R, _, h => by
    have := tot_zero (R := R) (by omega)
    simp only [c3, this, if_true]
  | n + 1, R, hr, h => by
    rw [c3]
    conv => rhs; rw [c3]
    split
    · rfl
    · cases hc : cand eq R with
      | none => rfl
      | some c =>
        obtain ⟨⟨t, ht⟩, _⟩ := cand_spec hc
        have := tot_strike_lt ht (cand_refl hr hc)
        simp only
        rw [c3_succ hr.strike (by omega)]
theorem c3_fuel {n : Nat} (hr : Rfl eq R) (h : tot R ≤ n) : c3 eq n R = mg3 eq R := by
  obtain ⟨k, rfl⟩ := Nat.le.dest h
  clear h
  induction k with
  | zero => rfl
  | succ k ih => rw [← Nat.add_assoc, c3_succ hr (by omega)]; exact ih
theorem mg3_empty (h : R.all (·.isEmpty) = true) : mg3 eq R = ([], R, true) := by
  unfold mg3
  cases tot R <;> simp only [c3, h, if_true]
theorem mg3_none (h : R.all (·.isEmpty) = false) (hc : cand eq R = none) : mg3 eq R = ([], R, false) := by
  unfold mg3
  cases ht : tot R with
  | zero => rw [tot_zero ht] at h; cases h
  | succ n => simp only [c3, h, hc]; rfl
theorem mg3_some (hr : Rfl eq R) (hc : cand eq R = some c) : mg3 eq R = (c :: (mg3 eq (R.map (strike1 eq c))).1, (mg3 eq (R.map (strike1 eq c))).2) := by
  obtain ⟨⟨t, ht⟩, _⟩ := cand_spec hc
  have hlt := tot_strike_lt ht (cand_refl hr hc)
  have hne : R.all (·.isEmpty) = false := by
    cases q : R.all (·.isEmpty) with
    | false => rfl
    | true => rw [cand_empty q] at hc; cases hc
  rw [mg3]
  cases hn : tot R with
  | zero => omega
  | succ n => simp only [c3, hne, hc]; rw [c3_fuel hr.strike (by omega)]; rfl

theorem okHead_filter (x : α) : okHead eq (R.filter fun r => !r.isEmpty) x = okHead eq R x := by
  unfold okHead
  rw [Bool.eq_iff_iff, List.all_eq_true, List.all_eq_true]
  constructor
  · intro h r hr
    cases r with
    | nil => simp
    | cons y t => exact h _ (List.mem_filter.mpr ⟨hr, by simp⟩)
  · intro h r hr
    exact h r (List.mem_filter.mp hr).1
theorem cand_filter : cand eq (R.filter fun r => !r.isEmpty) = cand eq R := by
  unfold cand
  have : okHead eq (R.filter fun r => !r.isEmpty) = okHead eq R := funext okHead_filter
  rw [this]
  clear this
  generalize okHead eq R = g
  induction R with
  | nil => rfl
  | cons r R ih =>
    cases r with
    | nil => simpa using ih
    | cons x t =>
      simp only [List.filter_cons, List.isEmpty_cons, Bool.not_false, if_true, List.findSome?_cons, ih]
end

section
variable {K : Cx} {A : Around} {n : Nat} {env : Env} {s : Shared} {h₀ h h' : Heap} {As : List Addr} {l r : Addr} {P : List Addr} {f : Addr → List PyData} {out : List PyData} {Q : Flow → Shared → Prop} {E : Value → Shared → Prop} {m : Str → Option Value} {outer : List Env}

/-- `if not sequences: return result` -/
theorem c3_empty (V : C3E K A n env) (C : C3I K env h₀ As s.heap m l r P f out) (hP : P.length ≤ sizeLine)
    (k1 : P = [] → ∀ tk, Q (.ret (.ref r)) { s with toks := tk }) (k2 : P ≠ [] → ∀ tk, Q .next { s with toks := tk }) : wpAny (model K.prog K.w) A (exec stEmpty env) Q E s := by
  refine wpAny_If (isTrue_not (isTrue_plain (c3_name V (y := sS) (by rfl) C.ns C.seqV (wpAny_truthy_list C.seqL ?_ ?_))))
  · simp only [List.size_toArray, List.length_map]; rw [sizeLine_eq] at hP; omega
  · cases P with
    | nil => exact wpAny_execs_cons (wpAny_Return_some (c3_name V (y := sR) (by rfl) C.ns C.resV (k1 rfl _)))
    | cons a P => exact wpAny_execs_nil (k2 (by simp) _)

def stRaise : Stmt := match stNone with | .If _ [b] _ _ => b | s => s

theorem c3_raise (V : C3E K A n env) (C : C3I K env h₀ As s.heap m l r P f out) (hg : GV K "RuntimeError" (.type "RuntimeError"))
    (k : ∀ h' e tk, Fly s.heap h' e none → Ext s.heap h' → E (.ref e) { s with heap := h', toks := tk }) : wpAny (model K.prog K.w) A (exec stRaise env) Q E s := by
  have I : In K n c3Scope (fun _ => False) [] A env s.heap := C.in V fun y d hy => by cases hy
  refine wpAny_Raise_call PySem.F.excCall_RuntimeError PySem.F.excRaise_RuntimeError V.room.quiet (by rfl) (name_global I hg (by rfl) ⟨rfl, ?_⟩)
  refine Calls.evalArgs_plain (args_cons (wpAny_Constant_str ?_) (by rfl))
  refine args_nil ⟨rfl, by show 1 ≤ sizeLine; decide, fun h' e X => k h' e _ ?_ X.keeps⟩
  obtain ⟨t, h1, h2, h3⟩ := X.there
  exact ⟨⟨_, _, t, _, _, _, h1, rfl, rfl, by simp, rfl, h3, rfl, rfl, rfl⟩, X.new⟩

theorem c3_none1 (V : C3E K A n env) (C : C3I K env h₀ As s.heap m l r P f out) (hg : GV K "RuntimeError" (.type "RuntimeError")) (hc : m sC = some .none)
    (k : ∀ hb h' e tk, Ext s.heap hb → Fly hb h' e none → Ext hb h' → E (.ref e) { s with heap := h', toks := tk }) : wpAny (model K.prog K.w) A (exec stNone env) Q E s := by
  have I : In K n c3Scope (fun _ => False) [(sC, .py .none)] A env s.heap := C.in V fun y d hy => by
    rw [List.lookup_cons] at hy
    by_cases q : y = sC
    · subst q; simp at hy; subst hy; exact ⟨.none, [], hc, by rfl, .none⟩
    · have hb : (y == sC) = false := by simpa using q
      simp [hb] at hy
  refine wpAny_If (Tr.use (s := s) (b := true) I (Tr.cmp (da := .py .none) (Ev.name (x := sC) (by rfl)) Ev.cNone CmpOk.isNone) fun h₁ tk x => ?_)
  rw [if_pos rfl]
  exact wpAny_execs_cons (c3_raise (s := { s with heap := h₁, toks := tk }) V (C.ext x) hg fun h' e tk' F x' => k h₁ h' e tk' x F x')
theorem c3_none0 (V : C3E K A n env) (C : C3I K env h₀ As s.heap m l r P f out) {x : PyData} {v : Value} (hx : Atom x) (hc : m sC = some v) (rv : Rd s.heap v x [])
    (k : ∀ h' tk, Ext s.heap h' → Q .next { s with heap := h', toks := tk }) : wpAny (model K.prog K.w) A (exec stNone env) Q E s := by
  have I : In K n c3Scope (fun _ => False) [(sC, .py x)] A env s.heap := C.in V fun y d hy => by
    rw [List.lookup_cons] at hy
    by_cases q : y = sC
    · subst q; simp at hy; subst hy; exact ⟨v, [], hc, by rfl, rv⟩
    · have hb : (y == sC) = false := by simpa using q
      simp [hb] at hy
  refine wpAny_If (Tr.use (s := s) (b := false) I (Tr.cmp (da := .py x) (Ev.name (x := sC) (by rfl)) Ev.cNone (CmpOk.cast CmpOk.isNone hx.some)) fun h₁ tk x => ?_)
  rw [if_neg Bool.false_ne_true]
  exact wpAny_execs_nil (k h₁ tk x)
end
end Mine

namespace Mine

structure C3L (As P : List Addr) (f : Addr → List PyData) (out : List PyData) (R₀ : List (List PyData)) : Prop where
  nd : P.Nodup
  PF : P.filter (ne' f) = As.filter (ne' f)
  Psz : P.length ≤ sizeLine
  atoms : ∀ a ∈ As, ∀ d ∈ f a, Atom d
  sz : ∀ a ∈ As, (f a).length ≤ sizeLine
  room : out.length + tot (As.map f) ≤ sizeLine
  run : mg3 PyData.eqv R₀ = (out ++ (mg3 PyData.eqv (As.map f)).1, (mg3 PyData.eqv (As.map f)).2)

def stWhile : Stmt := c3Body.getD 1 (.Pass ⟨0, 0, 0, 0⟩)

theorem filter_map_ne (As : List Addr) (f : Addr → List PyData) : (As.filter (ne' f)).map f = (As.map f).filter fun r => !r.isEmpty := by
  rw [List.filter_map]; rfl

section
variable {K : Cx} {A : Around} {n : Nat} {env : Env} {s : Shared} {h₀ h h' : Heap} {As : List Addr} {l r : Addr} {P : List Addr} {f : Addr → List PyData} {out : List PyData} {Q : Flow → Shared → Prop} {E : Value → Shared → Prop} {m : Str → Option Value} {outer : List Env} {R₀ : List (List PyData)}

theorem C3L.rfl' (L : C3L As P f out R₀) : Rfl PyData.eqv (As.map f) := fun r hr x hx => by
  obtain ⟨a, ha, rfl⟩ := List.mem_map.mp hr
  exact (L.atoms a ha x hx).refl

theorem c3_while (V : C3E K A n env) (hf : env.frame = some env.locals) (C : C3I K env h₀ As s.heap m l r P f out) (L : C3L As P f out R₀)
    (hg : GV K "RuntimeError" (.type "RuntimeError")) (hout : (mg3 PyData.eqv R₀).2.2 = true ∨ (A.frames = some (env :: outer) ∧ ∀ h, Eff (· ∈ As) h₀ h → h.FunFrames K.h₀ outer))
    (k1 : ∀ h' tk m' l' P' f' out', C3I K env h₀ As h' m' l' r P' f' out' → mg3 PyData.eqv R₀ = (out', As.map f', true) → Q (.ret (.ref r)) { s with heap := h', toks := tk })
    (k2 : ∀ hb h' e tk m' l' P' f' out', C3I K env h₀ As hb m' l' r P' f' out' → mg3 PyData.eqv R₀ = (out', As.map f', false) → Fly hb h' e (some (some env.locals)) → Kept ((env :: outer).filterMap (·.frame)) hb h' →
      h'.FunFrames K.h₀ (env :: outer) → E (.ref e) { s with heap := h', toks := tk }) :
    wpAny (model K.prog K.w) A (exec stWhile env) Q E s := by
  refine wpAny_While (codeAny_whileLoop (fun k s' => ∃ h tk m l P f out, s' = { s with heap := h, toks := tk } ∧ C3I K env h₀ As h m l r P f out ∧ C3L As P f out R₀ ∧ tot (As.map f) = k) (fun k s' hI => ?_) _ ⟨s.heap, s.toks, m, l, P, f, out, rfl, C, L, rfl⟩)
  obtain ⟨h, tk, m, l, P, f, out, rfl, C, L, rfl⟩ := hI
  refine Tr.use (s := { s with heap := h, toks := tk }) (b := true) (C.in (ρ := []) V fun y d hy => by cases hy) (Tr.val Ev.cBool TruthOk.bool) fun h₁ tk₁ x₁ => ?_
  rw [if_pos rfl]
  have C₁ := C.ext x₁
  show wpAny _ A (execs [stPurge, stEmpty, stSearch, stNone, stAppend, stStrike] env) _ _ _
  refine wpAny_execs_cons (c3_purge (s := { s with heap := h₁, toks := tk₁ }) V C₁ L.sz L.Psz fun h₂ tk₂ m₂ l₂ C₂ => ?_)
  have hP₂ : P.filter (ne' f) = As.filter (ne' f) := L.PF
  have hsz₂ : (P.filter (ne' f)).length ≤ sizeLine := Nat.le_trans (List.length_filter_le ..) L.Psz
  have hnd₂ : (P.filter (ne' f)).Nodup := L.nd.sublist List.filter_sublist
  have hne₂ : ∀ a ∈ P.filter (ne' f), f a ≠ [] := fun a ha q => by have := (List.mem_filter.mp ha).2; simp [ne', q] at this
  have hmap : (P.filter (ne' f)).map f = (As.map f).filter fun r => !r.isEmpty := by rw [hP₂, filter_map_ne]
  have hcand : cand PyData.eqv ((P.filter (ne' f)).map f) = cand PyData.eqv (As.map f) := by rw [hmap, cand_filter]
  refine wpAny_execs_cons (c3_empty (s := { s with heap := h₂, toks := tk₂ }) V C₂ hsz₂ (fun hP tk₃ => ?_) fun hP tk₃ => ?_)
  · have hall : (As.map f).all (·.isEmpty) = true := by
      rw [hP] at hmap
      have hmap : (As.map f).filter (fun r => !r.isEmpty) = [] := by simpa using hmap.symm
      rw [List.filter_eq_nil_iff] at hmap
      rw [List.all_eq_true]
      intro r hr
      simpa using hmap r hr
    refine k1 h₂ tk₃ m₂ l₂ _ f out C₂ ?_
    rw [L.run, mg3_empty hall]; simp
  · refine wpAny_execs_cons (c3_search (s := { s with heap := h₂, toks := tk₃ }) V C₂ L.atoms L.sz hne₂ hP (fun x hx h₃ tk₄ m₃ v C₃ hm₃ rv => ?_) fun hx h₃ tk₄ m₃ C₃ hm₃ => ?_)
    · rw [hcand] at hx
      obtain ⟨⟨t, ht⟩, _⟩ := cand_spec hx
      have hxa : Atom x := by
        obtain ⟨a, ha, e⟩ := List.mem_map.mp ht
        exact L.atoms a ha x (by rw [e]; exact .head _)
      have hlt := tot_strike_lt ht hxa.refl
      refine wpAny_execs_cons (c3_none0 (s := { s with heap := h₃, toks := tk₄ }) V C₃ hxa hm₃ rv fun h₄ tk₅ x₄ => ?_)
      have C₄ := C₃.ext x₄
      refine wpAny_execs_cons (c3_append (s := { s with heap := h₄, toks := tk₅ }) V C₄ hm₃ (rv.ext x₄) (by have := L.room; omega) fun h₅ tk₆ C₅ rv₅ => ?_)
      refine wpAny_execs_cons (c3_strike (s := { s with heap := h₅, toks := tk₆ }) V C₅ L.atoms L.sz hne₂ hnd₂ hxa hm₃ rv₅ fun h₆ tk₇ m₆ C₆ => wpAny_execs_nil ?_)
      have hstr : As.map (fun a => if a ∈ P.filter (ne' f) then strike1 PyData.eqv x (f a) else f a) = (As.map f).map (strike1 PyData.eqv x) := by
        rw [List.map_map]
        refine List.map_congr_left fun a ha => ?_
        by_cases q : a ∈ P.filter (ne' f)
        · simp only [if_pos q, Function.comp]
        · rw [if_neg q]
          rw [hP₂, List.mem_filter] at q
          have : f a = [] := by
            cases hfa : f a with
            | nil => rfl
            | cons y t => exact absurd ⟨ha, by simp [ne', hfa]⟩ q
          simp [this, strike1]
      refine ⟨_, ?_, h₆, tk₇, m₆, l₂, _, _, _, rfl, C₆, ⟨hnd₂, ?_, hsz₂, ?_, ?_, ?_, ?_⟩, rfl⟩
      · rw [hstr]; exact hlt
      · rw [hP₂, List.filter_filter]
        refine List.filter_congr fun a ha => ?_
        by_cases q : ne' f a = true
        · simp [q]
        · have q' : ne' f a = false := by simpa using q
          have : f a = [] := by
            cases hfa : f a with
            | nil => rfl
            | cons y t => simp [ne', hfa] at q'
          simp [q', ne', this, strike1]
      · intro a ha d hd
        split at hd
        · exact L.atoms a ha d (strike1_mem hd)
        · exact L.atoms a ha d hd
      · intro a ha
        split
        · exact Nat.le_trans (strike1_length_le _) (L.sz a ha)
        · exact L.sz a ha
      · rw [hstr]; have := L.room; simp only [List.length_append, List.length_singleton]; omega
      · rw [hstr, L.run, mg3_some L.rfl' hx]; simp
    · rw [hcand] at hx
      have hall : (As.map f).all (·.isEmpty) = false := by
        cases q : (As.map f).all (·.isEmpty) with
        | false => rfl
        | true =>
          exfalso; apply hP
          have : (P.filter (ne' f)).map f = [] := by
            rw [hmap, List.filter_eq_nil_iff]
            intro r hr
            simpa using List.all_eq_true.mp q r hr
          simpa using this
      refine wpAny_execs_cons (c3_none1 (s := { s with heap := h₃, toks := tk₄ }) V C₃ hg hm₃ fun hb h₄ e tk₅ xb F x₄ => ?_)
      have Cb := C₃.ext xb
      have run : mg3 PyData.eqv R₀ = (out, As.map f, false) := by rw [L.run, mg3_none hall hx]; simp
      obtain ⟨hfr, hout⟩ := hout.resolve_left (by rw [run]; exact Bool.false_ne_true)
      have hk : env.scope.kind ≠ .module := by rw [V.henv.kind]; decide
      have hfm : h₄.FunFrames K.h₀ (env :: outer) := Heap.FunFrames.cons hk hf (Cb.ns.keeps x₄) (Cb.base.none Cb.Lnew) (hout h₄ fun b o hb' ho => x₄ b o (Cb.keep b o hb' ho))
      refine note_new (s := { s with heap := h₄, toks := tk₅ }) hfr hfm hf F (x₄.kept _) fun h₅ F₅ kb₅ fm₅ => ?_
      refine cameBack_ok (s := { s with heap := h₅, toks := tk₅ }) F₅ kb₅ fm₅ fun h₆ F₆ kb₆ fm₆ => ?_
      rw [hf] at F₆
      exact k2 hb h₆ e tk₅ m₃ l₂ _ f out Cb run F₆ kb₆ fm₆
end
end Mine

namespace Mine

/-- a function of the text stands where its name says -/
structure Fn (K : Cx) (d : DefRec) (fa : Addr) (o : Obj) (pm cd doc : Value) : Prop where
  name : K.mg d.name = some (.ref fa)
  get : K.h₀.get? fa = some o
  data : o.data = .func (Calls.docDef d.name d.params d.body d.scope pm cd doc)
  code : K.h₀.CodeRec cd d.name

theorem Fly.rebase {hb hb' h : Heap} {e : Addr} {st} (F : Fly hb h e st) (x : ∀ b o, hb'.get? b = some o → ∃ o', hb.get? b = some o') : Fly hb' h e st := by
  have nn : ∀ b, hb.get? b = none → hb'.get? b = none := fun b hn => by
    cases q : hb'.get? b with
    | none => rfl
    | some o => obtain ⟨o', ho'⟩ := x b o q; rw [hn] at ho'; cases ho'
  obtain ⟨o, vs, t, ot, u, kk, h1, h2, h3, h4, h5, h6, h7, h8, h9⟩ := F.there
  refine ⟨⟨o, vs, t, ot, u, kk, h1, h2, h3, h4, h5, h6, h7, h8, ?_⟩, nn _ F.new⟩
  cases st with
  | none => exact h9
  | some f => obtain ⟨T, oT, ts, a1, a2, a3, a4⟩ := h9; exact ⟨T, oT, ts, a1, a2, nn _ a3, a4⟩

theorem Room.deeper {A : Around} {n : Nat} {env : Env} (r : Room A (n + 1)) : Room (A.deeper env) n := by
  obtain ⟨h1, h2, h3⟩ := r
  refine ⟨h1, ?_, ?_⟩
  · show A.depth + 1 + n < _; omega
  · show A.units + 3 + 8 * n + 200 < _; omega

/-- the rows as the heap has them -/
def Rows (h : Heap) (As : List Addr) (f : Addr → List PyData) : Prop :=
  ∀ a ∈ As, ∃ (vs : List Value) (c : Nat), h.get? a = some { cls := .type "list", data := .seq vs.toArray c } ∧ RdAll h vs (f a) []

def c3Env (L fa : Addr) (cd : Value) : Env := envOfC c3Rec.name c3Scope L fa cd
theorem c3Env_ok (L fa : Addr) (cd : Value) : EnvOk (c3Env L fa cd) := ⟨rfl, rfl, rfl, .nil, fun n h => by
  have hno : ∀ y ∈ c3Scope.names, y.2 ≠ .cell ∧ y.2 ≠ .free := by decide
  have : ∀ k, c3Scope.names.lookup n = some k → (n, k) ∈ c3Scope.names := fun k hk => mem_of_lookup hk
  rcases h with h | h
  · exact absurd rfl (hno _ (this _ h)).1
  · exact absurd rfl (hno _ (this _ h)).2⟩

section
variable {K : Cx} {A : Around} {n : Nat} {s : Shared} {As : List Addr} {l fa : Addr} {o : Obj} {pm cd doc : Value} {f : Addr → List PyData} {Q : Value → Shared → Prop} {E : Value → Shared → Prop} {outer : List Env}

theorem c3_call (Fc : Fn K c3Rec fa o pm cd doc) (hg : GV K "RuntimeError" (.type "RuntimeError")) (ro : Room A (n + 1)) (ok : K.Ok s.heap)
    (hout : (mg3 PyData.eqv (As.map f)).2.2 = true ∨ (A.frames = some outer ∧ (∀ h, Eff (· ∈ As) s.heap h → h.FunFrames K.h₀ outer) ∧ ∀ b ∈ outer.filterMap (·.frame), NoSeq s.heap b)) (hl : s.heap.IsList l (As.map Value.ref).toArray) (hin : Rows s.heap As f) (hnd : As.Nodup) (hlA : l ∉ As) (hAK : ∀ a ∈ As, K.h₀.get? a = none)
    (hat : ∀ a ∈ As, ∀ d ∈ f a, Atom d) (hsz : ∀ a ∈ As, (f a).length ≤ sizeLine) (htot : tot (As.map f) ≤ sizeLine) (hAs : As.length ≤ sizeLine)
    (k1 : ∀ out f', mg3 PyData.eqv (As.map f) = (out, As.map f', true) → ∀ h' tk r ws, Eff (· ∈ As) s.heap h' → Rows h' As f' → s.heap.get? r = none → h'.PlainList r ws.toArray → RdAll h' ws out [] → K.Ok h' → Q (.ref r) { s with heap := h', toks := tk })
    (k2 : ∀ out f', mg3 PyData.eqv (As.map f) = (out, As.map f', false) → ∀ hb h' e tk, Eff (· ∈ As) s.heap hb → Rows hb As f' → Fly hb h' e (some none) → Kept (outer.filterMap (·.frame)) hb h' → (∀ b o, s.heap.get? b = some o → b ∉ As → ∃ sl, h'.get? b = some { o with slots := sl } ∧ (b ∉ outer.filterMap (·.frame) → sl = o.slots)) →
      Rows h' As f' → h'.FunFrames K.h₀ outer → K.Ok hb → E (.ref e) { s with heap := h', toks := tk }) :
    wpAny (model K.prog K.w) A (call (.ref fa) [.ref l]) Q E s := by
  refine wpAny_call ?_
  refine call_cells (binds := [(sS, .ref l)]) (by have := ro.depth; omega) (ok.ext _ _ Fc.get) Fc.data (ok.lim.keeps ok.ext) (Fc.code.keeps ok.ext) (by rfl) (fun x hx => by
    obtain rfl : x = (sS, .ref l) := by simpa using hx
    exact .inl (by rfl)) fun h₁ tk₁ F C => ?_
  generalize hL : s.heap.objs.size = L at F C ⊢
  have hLn : s.heap.get? L = none := hL ▸ push_new _
  show wpAny _ (A.deeper (c3Env L fa cd)) (execs [_, stWhile] (c3Env L fa cd)) _ _ _
  have V : C3E K (A.deeper (c3Env L fa cd)) n (c3Env L fa cd) := ⟨ro.deeper, c3Env_ok L fa cd, rfl, by rfl⟩
  have hm : (bindL (envOfC c3Rec.name c3Rec.scope L fa cd).kindOf [(sS, .ref l)] fun _ => none) = fun y => if y = sS then some (.ref l) else none := by rfl
  rw [hm] at F
  have I : In K n c3Scope (fun _ => False) [] (A.deeper (c3Env L fa cd)) (c3Env L fa cd) h₁ := ⟨V.room, ok.mono F.keep, rfl, V.henv, ⟨⟨_, F.ns⟩, fun x c hc => by cases hc⟩, nofun, nofun⟩
  refine wpAny_execs_cons (wpAny_Assign_Name (Ev.use (s := { s with heap := h₁, toks := tk₁ }) I (Ev.list EvAll.nil) fun v h₂ tk₂ as g => ?_))
  have x₂ := g.ext
  have hfn := c3Env_ok L fa cd
  refine c3_store (s := { s with heap := h₂, toks := tk₂ }) V (y := sR) (by rfl) (F.ns.keeps x₂) fun h₃ hn₃ hs₃ => ?_
  have g' : Rd h₂ v (.list []) as := g.rd
  obtain ⟨nd₂, new₂⟩ := g.new rfl
  cases g' with
  | @list r ws c _ as' hr rs =>
  obtain rfl : ws = [] := by cases rs; rfl
  have hr1 : h₁.get? r = none := new₂ r (.head _)
  have hr0 : s.heap.get? r = none := by
    cases q : s.heap.get? r with
    | none => rfl
    | some o => rw [F.keep r o q] at hr1; cases hr1
  have hrL : r ≠ L := fun q => by obtain ⟨o, _, _, ho, _⟩ := F.ns; rw [q, ho] at hr1; cases hr1
  have x₃ : Ext s.heap h₃ := fun b o hb => (hs₃.2 b fun q => by rw [q] at hb; exact absurd (hLn.symm.trans hb) nofun).trans (x₂ b o (F.keep b o hb))
  have C₃ : C3I K (c3Env L fa cd) s.heap As h₃ (fun z => if z = sR then some (.ref r) else if z = sS then some (.ref l) else none) l r As f [] := {
    ok := ok.mono x₃
    base := ok.ext
    ns := hn₃
    Lnew := hLn
    keep := x₃.eff _
    inner := fun a ha => let ⟨vs, c, h1, h2⟩ := hin a ha; ⟨vs, c, x₃ _ _ h1, h2.ext x₃⟩
    seqV := by rfl
    seqL := let ⟨o, ho, hr⟩ := hl; ⟨o, x₃ _ _ ho, hr⟩
    resV := by rfl
    resL := ⟨[], ⟨c, (hs₃.2 r hrL).trans hr⟩, .nil⟩
    rnew := hr0
    rA := fun q => by obtain ⟨vs, c, h1, _⟩ := hin r q; rw [hr0] at h1; cases h1
    lA := hlA
    lr := fun q => by obtain ⟨o, ho, _⟩ := hl; rw [q, hr0] at ho; cases ho
    PA := fun _ h => h
    AK := hAK }
  refine wpAny_execs_cons (c3_while (s := { s with heap := h₃, toks := tk₂ + 1 }) (R₀ := As.map f) V rfl C₃ ⟨hnd, rfl, hAs, hat, hsz, by simpa using htot, by simp⟩ hg (hout.imp id fun q => ⟨Around.frames_deeper q.1, q.2.1⟩) (fun h₄ tk₄ m₄ l₄ P₄ f₄ out₄ C₄ run => ?_) fun hb h₄ e tk₄ m₄ l₄ P₄ f₄ out₄ C₄ run fl kb fm => ?_)
  · obtain ⟨ws, h1, h2⟩ := C₄.resL
    exact k1 out₄ f₄ run h₄ tk₄ r ws C₄.keep C₄.inner hr0 h1 h2 C₄.ok
  · obtain ⟨_, _, hfms⟩ := hout.resolve_left (by rw [run]; exact Bool.false_ne_true)
    have hfm : h₄.FunFrames K.h₀ outer := fm.2.2
    refine wpAny_bind (note_again (s := { s with heap := h₄, toks := tk₄ }) rfl fl ?_)
    refine flight_set (s := { s with heap := h₄, toks := tk₄ }) (f' := none) fl kb fm fun h₅ fl₅ kb₅ fm₅ => ?_
    have kb' : ∀ b o, s.heap.get? b = some o → b ∉ As → ∃ sl, h₅.get? b = some { o with slots := sl } ∧ (b ∉ outer.filterMap (·.frame) → sl = o.slots) := fun b o hb' hA => by
      obtain ⟨sl, e1, e2⟩ := kb₅ b o (C₄.keep b o hA hb')
      refine ⟨sl, e1, fun hn => e2 fun hm => ?_⟩
      rw [List.filterMap_cons] at hm
      rcases List.mem_cons.mp hm with q | q
      · rw [q] at hb'; exact absurd (hLn.symm.trans hb') nofun
      · exact hn q
    have hfr' : ∀ b o, hb.get? b = some o → (∃ xs k, o.data = .seq xs k) → b ∉ (c3Env L fa cd :: outer).filterMap (·.frame) := fun b o ho ⟨xs, k, hd⟩ hm => by
      rw [List.filterMap_cons] at hm
      rcases List.mem_cons.mp hm with q | q
      · obtain ⟨o', es, ep, ho', hd', _⟩ := C₄.ns
        have : hb.get? L = some o' := ho'
        rw [q, this] at ho; cases ho; rw [hd] at hd'; cases hd'
      · obtain ⟨o', ho', hd'⟩ := hfms b q
        have hbA : b ∉ As := fun hA => by obtain ⟨vs, c, h1, _⟩ := hin b hA; rw [h1] at ho'; cases ho'; exact hd' _ _ rfl
        have := C₄.keep b o' hbA ho'
        rw [this] at ho; cases ho; exact hd' _ _ hd
    -- the base, with the merge's own frame as it is now
    obtain ⟨oL, es, ep, hoL, hdL, _⟩ := C₄.ns
    have hoL : hb.get? L = some oL := hoL
    obtain ⟨slL, hL5, _⟩ := kb₅ L oL hoL
    have hBL : (hb.update L fun _ => { oL with slots := slL }).get? L = some { oL with slots := slL } := Heap.get?_update_self _ hoL (by simp [Obj.isFreed, hdL])
    have hBo : ∀ b, b ≠ L → (hb.update L fun _ => { oL with slots := slL }).get? b = hb.get? b := fun b hb' => Heap.get?_update_other _ _ (Ne.symm hb')
    have nL : ∀ b o, s.heap.get? b = some o → b ≠ L := fun b o hb' q => by rw [q] at hb'; exact absurd (hLn.symm.trans hb') nofun
    have nLs : ∀ b xs k c', hb.get? b = some { cls := c', data := .seq xs k } → b ≠ L := fun b xs k c' hb' q => by
      obtain ⟨o', es', ep', ho', hd', _⟩ := C₄.ns
      have : hb.get? L = some o' := ho'
      rw [q, this] at hb'; cases hb'; cases hd'
    have kB : Kept (outer.filterMap (·.frame)) (hb.update L fun _ => { oL with slots := slL }) h₅ := fun b o hb' => by
      by_cases q : b = L
      · subst q
        rw [hBL] at hb'; cases hb'
        exact ⟨_, hL5, fun _ => rfl⟩
      · rw [hBo b q] at hb'
        obtain ⟨sl, e1, e2⟩ := kb₅ b o hb'
        refine ⟨sl, e1, fun hn => e2 fun hm => ?_⟩
        rw [List.filterMap_cons] at hm
        rcases List.mem_cons.mp hm with q' | q'
        · exact q q'
        · exact hn q'
    have eB : Eff (· ∈ As) s.heap (hb.update L fun _ => { oL with slots := slL }) := fun b o hA hb' => (hBo b (nL b o hb')).trans (C₄.keep b o hA hb')
    have okB : K.Ok (hb.update L fun _ => { oL with slots := slL }) := ⟨ok.g, ok.b, ok.lim, eB.ext ok.ext hAK⟩
    refine k2 out₄ f₄ run (hb.update L fun _ => { oL with slots := slL }) h₅ e tk₄ eB (fun a ha => ?_) (fl₅.rebase fun b o hb' => ?_) kB kb' (fun a ha => ?_) fm₅.2.2 okB
    · obtain ⟨vs, c, h1, h2⟩ := C₄.inner a ha
      exact ⟨vs, c, (hBo a (nLs a _ _ _ h1)).trans h1, h2.off ⟨nofun, fun b xs k hb' => (hBo b (nLs b _ _ _ hb')).trans hb'⟩⟩
    · by_cases q : b = L
      · subst q; exact ⟨_, hoL⟩
      · rw [hBo b q] at hb'; exact ⟨_, hb'⟩
    obtain ⟨vs, c, h1, h2⟩ := C₄.inner a ha
    refine ⟨vs, c, kb₅.get (hfr' _ _ h1 ⟨_, _, rfl⟩) h1, h2.off ⟨nofun, fun b xs k hb' => kb₅.get (hfr' _ _ hb' ⟨_, _, rfl⟩) hb'⟩⟩
end
end Mine

namespace Mine

theorem RdAll.rowsFn {h : Heap} : ∀ {rows : List (List PyData)} {vs as}, RdAll h vs (rows.map .list) as → as.Nodup → (∀ r ∈ rows, ∀ d ∈ r, Atom d) → ∃ f, as.map f = rows ∧ vs = as.map Value.ref ∧ Rows h as f
  | [], _, _, r, _, _ => by cases r; exact ⟨fun _ => [], rfl, rfl, nofun⟩
  | t :: rows, vs, as, r, nd, at' => by
    obtain ⟨v, vs', a, b, rfl, rfl, r1, r2⟩ := r.uncons
    cases r1 with
    | @list x ws c _ as' hx rx =>
      obtain rfl := rx.atoms (at' t (.head _))
      obtain ⟨f, h1, h2, h3⟩ := r2.rowsFn (List.nodup_append.mp nd).2.1 fun r hr => at' r (.tail _ hr)
      have hxb : x ∉ b := fun q => by simp at nd; exact nd.1 q
      refine ⟨fun y => if y = x then t else f y, ?_, by simp [h2], fun y hy => ?_⟩
      · have : b.map (fun y => if y = x then t else f y) = b.map f := List.map_congr_left fun y hy => if_neg fun (q : y = x) => hxb (q ▸ hy)
        simp [this, h1]
      · simp at hy
        rcases hy with rfl | hy
        · exact ⟨ws, c, hx, by simpa using rx⟩
        · obtain ⟨ws', c', h4, h5⟩ := h3 y hy
          exact ⟨ws', c', h4, by show RdAll h ws' (if y = x then t else f y) []; rw [if_neg fun (q : y = x) => hxb (q ▸ hy)]; exact h5⟩

theorem length_le_tot {α : Type} {R : List (List α)} {r : List α} (h : r ∈ R) : r.length ≤ tot R := by
  induction R with
  | nil => cases h
  | cons q R ih =>
    rw [tot_cons]
    rcases List.mem_cons.mp h with rfl | h
    · omega
    · have := ih h; omega

def c3N : Str := c3Rec.name

section
variable {K : Cx} {n : Nat} {sc : Scope} {ρ : List (Str × D)} {a : Expr} {p pos : Pos} {fa : Addr} {o : Obj} {pm cd doc : Value} {rows : List (List PyData)} {out : List PyData} {rest : List (List PyData)}

end
end Mine

namespace Mine

section
variable {M : Model} {A : Around} {E : Value → Shared → Prop} {s : Shared} {B hb : Heap}

theorem note_left {env : Env} {outer : List Env} {L e : Addr} {Q : Unit → Shared → Prop} (hfr : A.frames = some (env :: outer)) (hl : s.heap.FunFrames B (env :: outer)) (hf : env.frame = some L) (F : Fly hb s.heap e (some none))
    (kb : Kept ((env :: outer).filterMap (·.frame)) hb s.heap)
    (k : ∀ h', Fly hb h' e (some (some L)) → Kept ((env :: outer).filterMap (·.frame)) hb h' → h'.FunFrames B (env :: outer) → Q () { s with heap := h' }) :
    wpAny M A (noteFrame (.ref e) env) Q E s := by
  obtain ⟨o, vs, t, ot, u, kk, h1, h2, h3, h4, h5, h6, h7, h8, T₀, oT₀, ts₀, a1, a2, a3, a4, a5, a6⟩ := F.there
  have a6 : ts₀[3]? = some Value.none := a6
  have hs3 : 3 < ts₀.size := (Array.getElem?_eq_some_iff.mp a6).1
  unfold noteFrame
  simp only [hf]
  refine wpAny_bind (wpAny_field h1 h3 a1 ?_)
  rw [if_pos (show (Value.ref T₀ != Value.none) = true from by simp)]
  refine wpAny_bind (wpAny_field a4 a5 a6 ?_)
  rw [if_neg (show ¬ ((Value.none == rawInt L) = true) from by simp [rawInt])]
  refine wpAny_bind (wpAny_setField a4 a5 hs3 ?_)
  have other : ∀ b, b ≠ T₀ → (s.heap.update T₀ (Obj.mapFields (·.setIfInBounds 3 Value.none))).get? b = s.heap.get? b := fun b hb => Heap.get?_update_other _ _ (Ne.symm hb)
  have noRec : ∀ b o', s.heap.get? b = some o' → (∀ vs, o'.data ≠ .fields vs) → b ≠ T₀ := fun b o' hb' hnf q => by rw [q, a4] at hb'; cases hb'; exact hnf ts₀ a5
  refine newEntry_ok (s := { s with heap := s.heap.update T₀ (Obj.mapFields (·.setIfInBounds 3 Value.none)) }) (oe := o) (vs := vs) hfr (hl.of_keeps fun b o' hb' hnf => ⟨o', (other b (noRec b o' hb' hnf)).trans hb', rfl⟩) hf ((other e (Ne.symm a2)).trans h1) h3 (by omega) fun h' T oT ts hT hTe hT' hdT h3T he' keep => ?_
  have hbk : ∀ b o', hb.get? b = some o' → b ≠ e := fun b o' hb' q => by rw [q, F.new] at hb'; cases hb'
  have hbT : ∀ b o', hb.get? b = some o' → b ≠ T₀ := fun b o' hb' q => by rw [q, a3] at hb'; cases hb'
  have hte : t ≠ e := fun q => by rw [q, h1] at h6; cases h6; rw [h8] at h3; cases h3
  have htT : t ≠ T₀ := fun q => by rw [q, a4] at h6; cases h6; rw [h8] at a5; cases a5
  obtain ⟨slt, ht', _⟩ := keep t ot hte ((other t htT).trans h6)
  have hsz' : 3 < (vs.setIfInBounds 1 (.ref T)).size := by rw [Array.size_setIfInBounds]; exact h4
  have hv0 : (vs.setIfInBounds 1 (.ref T))[0]? = some (.ref t) := by rw [Array.getElem?_setIfInBounds_ne (by decide)]; exact h5
  have hv1 : (vs.setIfInBounds 1 (.ref T))[1]? = some (.ref T) := by rw [Array.getElem?_setIfInBounds_self]; simp; omega
  refine k h' ⟨⟨_, vs.setIfInBounds 1 (.ref T), t, _, u, kk, he', (Obj.cls_mapFields _ _).trans h2, Obj.data_mapFields h3 _, hsz', hv0, ht', h7, h8, T, oT, ts, hv1, hTe, ?_, hT', hdT, h3T⟩, F.new⟩ (fun b o' hb' => ?_) (hl.of_keeps fun b o' hb' hnf => ?_)
  · cases q : hb.get? T with
    | none => rfl
    | some o' =>
      obtain ⟨sl, hsl, _⟩ := kb T o' q
      have hT2 : (s.heap.update T₀ (Obj.mapFields (·.setIfInBounds 3 Value.none))).get? T = none := hT
      rw [other T (hbT T o' q), hsl] at hT2; cases hT2
  · obtain ⟨sl, e1, k1⟩ := kb b o' hb'
    obtain ⟨sl', e2, k2⟩ := keep b _ (hbk b o' hb') ((other b (hbT b o' hb')).trans e1)
    exact ⟨sl', e2, fun hbS => (k2 hbS).trans (k1 hbS)⟩
  · have : b ≠ e := fun q => by rw [q, h1] at hb'; cases hb'; exact hnf vs h3
    obtain ⟨sl, e1, _⟩ := keep b o' this ((other b (noRec b o' hb' hnf)).trans hb')
    exact ⟨_, e1, rfl⟩
end

section
variable {K : Cx} {lv : Bool} {n : Nat} {sc : Scope} {X : Addr → Prop} {g : Addr → Option Obj} {sh ow : List (Str × D)} {A : Around} {env : Env} {h h' : Heap} {fp : Str → List Addr} {Q : Out → Prop}

theorem Ns.slots {m : Str → Option Value} {L : Addr} {S : List Addr} (hn : h.Ns L m) (k : Kept S h h') : h'.Ns L m := by
  obtain ⟨o, es, ep, ho, hd, r⟩ := hn
  obtain ⟨sl, e, _⟩ := k L o ho
  exact ⟨_, es, ep, e, hd, r⟩

theorem St.kept (S : St K lv n sc X g sh ow A env h) (k : Kept [env.locals] h h') : St K lv n sc X g sh ow A env h' := by
  obtain ⟨fp, O⟩ := S.vars
  have eff : Eff (· = env.locals) h h' := fun b o hb ho => k.get (by simpa using hb) ho
  have hg : g env.locals = none := S.new _ (.inl rfl)
  have hK : K.h₀.get? env.locals = none := by
    cases q : K.h₀.get? env.locals with
    | none => rfl
    | some o => rw [S.bK _ o q] at hg; cases hg
  have nt : ∀ b, b = env.locals → NoTup h b := fun b q => q ▸ (S.frame.noSeq (.inl rfl)).noTup
  have va : ∀ {y u}, VarAt h env y u → VarAt h' env y u := fun {y u} r => by
    rcases r with ⟨hl, m, hn, hm⟩ | ⟨hl, c', hc', hv⟩
    · exact .inl ⟨hl, m, Ns.slots hn k, hm⟩
    · obtain ⟨o, ho, hd⟩ := hv
      obtain ⟨sl, e, _⟩ := k c' o ho
      exact .inr ⟨hl, c', hc', _, e, hd⟩
  refine ⟨S.room, ⟨S.ok.g, S.ok.b, S.ok.lim, eff.ext S.ok.ext fun b q => q ▸ hK⟩, S.hsc, S.henv, ⟨let ⟨m, hn⟩ := S.frame.ns; ⟨m, Ns.slots hn k⟩, fun x c hc => ?_⟩, fun b o hb => eff b o (fun q => by rw [q, hg] at hb; cases hb) (S.base b o hb), S.bK, S.new, fun b hb => ?_, S.top, fp, ⟨fun x d hx => ?_, O.apart, fun x d hx => ?_⟩⟩
  · obtain ⟨v, o, ho, hd⟩ := S.frame.cells x c hc
    obtain ⟨sl, e, _⟩ := k c o ho
    exact ⟨v, _, e, hd⟩
  · obtain ⟨o, ho⟩ := S.dom b hb
    obtain ⟨sl, e, _⟩ := k b o ho
    exact ⟨_, e⟩
  · obtain ⟨v, h1, h2, h3, h4⟩ := O.own x d hx
    exact ⟨v, va h1, h2.off (eff.off (fun a ha q => (h4 a ha).2.1 (q ▸ .inl rfl)) nt), h3, h4⟩
  · obtain ⟨v, as, h1, h2, h3⟩ := O.shared x d hx
    exact ⟨v, as, va h1, h2.off (eff.off (fun a ha q => (h3 a ha).1 (q ▸ .inl rfl)) nt), h3⟩
end
end Mine

namespace Mine

/-- the refusal, by its words -/
def Exc (h : Heap) (e : Addr) : Prop := ∃ t u, h.ExcAt e "RuntimeError" (.ref t) ∧ h.TupAt t [.str words u]
theorem Fly.exc {hb h : Heap} {e : Addr} {st} (F : Fly hb h e st) : Exc h e := by
  obtain ⟨o, vs, t, ot, u, kk, h1, h2, h3, h4, h5, h6, h7, h8, h9⟩ := F.there
  exact ⟨t, u, ⟨o, vs, h1, h2, h3, h5⟩, ⟨ot, kk, h6, h7, h8⟩⟩

section
variable {K : Cx} {lv : Bool} {n : Nat} {sc : Scope} {X : Addr → Prop} {g : Addr → Option Obj} {sh ow ρ : List (Str × D)} {A A' : Around} {env : Env} {s : Shared} {Q : Value → Shared → Prop} {E : Value → Shared → Prop}
variable {a : Expr} {p pos : Pos} {fa : Addr} {o : Obj} {pm cd doc : Value} {rows : List (List PyData)}

theorem nameG (S : St K lv n sc X g sh ow A env s.heap) {x : Str} {v : Value} (g' : GV K x v) (hx : sc.names.lookup x = some .globalImplicit) (h : Q v s) (hd : (x == ("__debug__" : Str)) = false := by decide) :
    wpAny (model K.prog K.w) A' (eval (.Name x pos) env) Q E s := by
  refine Calls.Name_function_global S.henv.kind (by show env.scope.names.lookup x = _; rw [S.hsc]; exact hx) ?_ hd
  have hg : s.heap.Ns env.globals K.mg := by rw [S.henv.globals]; exact S.ok.g.keeps S.ok.ext
  have hb : s.heap.Ns env.builtins K.mb := by rw [S.henv.builtins]; exact S.ok.b.keeps S.ok.ext
  rcases g' with g | ⟨g1, g2⟩
  · exact Calls.loadGlobal_global hg g h
  · exact Calls.loadGlobal_builtin hg g1 hb g2 h

end

section
variable {K : Cx} {n : Nat} {sc : Scope} {sh ow : List (Str × D)} {Q : Out → Prop}
variable {a : Expr} {x : Str} {p p1 cp ap hp hpos pos : Pos} {fa : Addr} {o : Obj} {pm cd doc : Value} {rows : List (List PyData)} {b₀ : Stmt} {suite : List Stmt}

end
end Mine

namespace Mine

section
variable {K : Cx} {lv : Bool} {n : Nat} {sc : Scope} {sh ow : List (Str × D)} {Q : Out → Prop} {x : Str} {p pos : Pos} {e : Expr} {d : D} {fr : Bool}
variable {A : Around} {env : Env} {s : Shared} {X : Addr → Prop} {g : Addr → Option Obj} {fp : Str → List Addr} {v : Value} {as : List Addr} {E : Value → Shared → Prop} {R : Unit → Shared → Prop}

end

section
variable {K : Cx} {lv : Bool} {n : Nat} {sc : Scope} {sh ow : List (Str × D)} {Q : Out → Prop} {pos : Pos} {e : Expr} {fr : Bool} {ds : List PyData}

end

section
variable {K : Cx} {n : Nat} {sc : Scope} {ρ : List (Str × D)} {a b : Expr} {pos p : Pos} {fa fb : Bool} {xs : List Int} {i : Int} {j : Nat}

end
end Mine

namespace Mine

theorem bindL_other {kindOf : Str → Option NameKind} : ∀ {binds : List (Str × Value)} {m : Str → Option Value} {x : Str}, x ∉ binds.map (·.1) → bindL kindOf binds m x = m x
  | [], _, _, _ => rfl
  | (k, w) :: r, m, x, h => by
    simp only [List.map_cons, List.mem_cons, not_or] at h
    rw [bindL, bindL_other h.2]
    split
    · simp [h.1]
    · rfl
theorem bindL_get {kindOf : Str → Option NameKind} : ∀ {binds : List (Str × Value)} {m : Str → Option Value} {x : Str} {v : Value}, (binds.map (·.1)).Nodup → (x, v) ∈ binds → kindOf x = some .local → bindL kindOf binds m x = some v
  | (k, w) :: r, m, x, v, nd, h, hk => by
    simp only [List.map_cons, List.nodup_cons] at nd
    rw [bindL]
    rcases List.mem_cons.mp h with e | h
    · cases e
      rw [bindL_other nd.1, if_pos hk]; simp
    · exact bindL_get nd.2 h hk
theorem bindC_other {kindOf : Str → Option NameKind} : ∀ {binds : List (Str × Value)} {m : Str → Option Value} {x : Str}, x ∉ binds.map (·.1) → bindC kindOf binds m x = m x
  | [], _, _, _ => rfl
  | (k, w) :: r, m, x, h => by
    simp only [List.map_cons, List.mem_cons, not_or] at h
    rw [bindC, bindC_other h.2]
    split
    · rfl
    · simp [h.1]
theorem bindC_get {kindOf : Str → Option NameKind} : ∀ {binds : List (Str × Value)} {m : Str → Option Value} {x : Str} {v : Value}, (binds.map (·.1)).Nodup → (x, v) ∈ binds → kindOf x = some .cell → bindC kindOf binds m x = some v
  | (k, w) :: r, m, x, v, nd, h, hk => by
    simp only [List.map_cons, List.nodup_cons] at nd
    rw [bindC]
    rcases List.mem_cons.mp h with e | h
    · cases e
      rw [bindC_other nd.1, if_neg (by rw [hk]; decide)]; simp
    · exact bindC_get nd.2 h hk

theorem RdDs.lookup {K : Cx} {h : Heap} : ∀ {names : List Str} {vs ds as}, RdDs K h vs ds as → ∀ {x d}, (names.zip ds).lookup x = some d → ∃ v bs, (x, v) ∈ names.zip vs ∧ RdD K h v d bs ∧ ∀ b ∈ bs, b ∈ as
  | [], _, _, _, _, x, d, h => by simp at h
  | k :: names, _, _, _, .nil, x, d, h => by simp at h
  | k :: names, _, _, _, .cons r rs, x, d, h => by
    rw [List.zip_cons_cons, List.lookup_cons] at h
    by_cases q : x = k
    · subst q; simp at h; subst h
      exact ⟨_, _, .head _, r, fun b hb => List.mem_append_left _ hb⟩
    · have hb : (x == k) = false := by simpa using q
      simp only [hb] at h
      obtain ⟨v, bs, h1, h2, h3⟩ := rs.lookup h
      exact ⟨v, bs, .tail _ h1, h2, fun b hb => List.mem_append_right _ (h3 b hb)⟩
theorem RdDs.length {K : Cx} {h : Heap} : ∀ {vs ds as}, RdDs K h vs ds as → vs.length = ds.length
  | _, _, _, .nil => rfl
  | _, _, _, .cons _ b => by simp [b.length]

/-- what a function's table of names must be like -/
def topOk (scope : Scope) (names : List Str) : Bool :=
  decide (scope.kind = .function) && decide ((scope.names.map (·.1)).Nodup) && (scope.names.all fun p => p.2 != .free) && decide names.Nodup &&
    (names.all fun x => scope.names.lookup x == some .local || scope.names.lookup x == some .cell) && !scope.isGenerator && !scope.isCoroutine
structure TopOk (scope : Scope) (names : List Str) : Prop where
  kind : scope.kind = .function
  nodup : (scope.names.map (·.1)).Nodup
  free : ∀ x, scope.names.lookup x ≠ some .free
  ndup : names.Nodup
  binds : ∀ x ∈ names, scope.names.lookup x = some .local ∨ scope.names.lookup x = some .cell
  gen : scope.isGenerator = false
  co : scope.isCoroutine = false
theorem TopOk.of {scope : Scope} {names : List Str} (h : topOk scope names = true) : TopOk scope names := by
  simp only [topOk, Bool.and_eq_true, decide_eq_true_eq, List.all_eq_true, Bool.or_eq_true, beq_iff_eq, bne_iff_ne, ne_eq, Bool.not_eq_true'] at h
  obtain ⟨⟨⟨⟨⟨⟨h1, h2⟩, h3⟩, h4⟩, h5⟩, h6⟩, h7⟩ := h
  exact ⟨h1, h2, fun x hx => h3 _ (mem_of_lookup hx) rfl, h4, h5, h6, h7⟩

section
variable {K : Cx} {lv : Bool} {n : Nat} {scope : Scope} {A : Around} {h h₁ : Heap} {L fa : Addr} {name : Str} {cd : Value} {names : List Str} {vs : List Value} {ds : List D} {as : List Addr} {X : Addr → Prop}

theorem St.enter (To : TopOk scope names) (ro : Room A n) (ok : K.Ok h) (hL : h.objs.size = L) (F : Fr h L h₁ (bindL (envOfC name scope L fa cd).kindOf (names.zip vs) fun _ => none))
    (C : Cl L (cellsFrom (L + 1) scope.names []) h₁ (bindC (envOfC name scope L fa cd).kindOf (names.zip vs) fun _ => none)) (rd : RdDs K h vs ds as) (hl : names.length = ds.length)
    (hX : ∀ a, X a → ∃ o, h.get? a = some o) (off : ∀ a ∈ as, ¬ X a) (top : lv = true → A.frames = some [envOfC name scope L fa cd]) :
    St K lv n scope X (fun a => h.get? a) (names.zip ds) [] A (envOfC name scope L fa cd) h₁ := by
  have hLn : h.get? L = none := hL ▸ push_new _
  have hcell : ∀ x, scope.names.lookup x = some .cell → ∃ c, (cellsFrom (L + 1) scope.names []).lookup x = some c := fun x hx => by
    obtain ⟨c, hc⟩ := cellsFrom_has scope.names (L + 1) (mem_of_lookup hx)
    exact lookup_isSome_of_mem hc
  have fnew : ∀ a, FrameAddr (envOfC name scope L fa cd) a → h.get? a = none := fun a ha => by
    rcases ha with rfl | ⟨x, hx⟩
    · exact hLn
    · refine Heap.get?_none_of_le ?_
      rw [hL]; exact Nat.le_of_lt (C.above x a (mem_of_lookup hx))
  have hz : (names.zip vs).map (·.1) = names := by
    rw [List.map_fst_zip]; have := rd.length; omega
  refine ⟨ro, ok.mono F.keep, rfl, ⟨To.kind, rfl, rfl, C.apart, fun x hx => ?_⟩, ⟨⟨_, F.ns⟩, fun x c hc => ⟨_, C.cell x c hc⟩⟩, F.keep, fun a o ha => ok.ext a o ha, fnew, fun a ha => let ⟨o, ho⟩ := hX a ha; ⟨o, F.keep a o ho⟩, fun q => ⟨top q, rfl⟩, fun _ => [], ⟨nofun, nofun, fun x d hx => ?_⟩⟩
  · rcases hx with hx | hx
    · exact hcell x hx
    · exact absurd hx (To.free x)
  · obtain ⟨v, bs, h1, h2, h3⟩ := rd.lookup hx
    have hxn : x ∈ names := by rw [← hz]; exact List.mem_map.mpr ⟨_, h1, rfl⟩
    refine ⟨v, bs, ?_, h2.ext F.keep, fun a ha => ⟨fun q => ?_, off a (h3 a ha), fun y hy => by simp at hy⟩⟩
    · rcases To.binds x hxn with q | q
      · exact .inl ⟨q, _, F.ns, bindL_get (by rw [hz]; exact To.ndup) h1 q⟩
      · obtain ⟨c, hc⟩ := hcell x q
        refine .inr ⟨.inl q, c, hc, ?_⟩
        have := C.cell x c hc
        rw [bindC_get (by rw [hz]; exact To.ndup) h1 q] at this
        exact this
    · obtain ⟨o, ho⟩ := h2.dom a ha; rw [fnew a q] at ho; cases ho

end

section
variable {K : Cx} {n : Nat} {sc : Scope} {ρ : List (Str × D)} {pos p : Pos} {fr : Bool}
end
end Mine

namespace Mine

def mask (scope : Scope) (ρ : List (Str × D)) : List (Str × D) := ρ.filter fun p => scope.names.lookup p.1 == some .free
theorem mask_lookup {scope : Scope} : ∀ {ρ : List (Str × D)} {y : Str} {d : D}, (mask scope ρ).lookup y = some d → scope.names.lookup y = some .free ∧ ρ.lookup y = some d
  | [], _, _, h => by cases h
  | (k, v) :: r, y, d, h => by
    unfold mask at h
    rw [List.filter_cons] at h
    split at h
    · rename_i hk
      rw [List.lookup_cons] at h ⊢
      by_cases q : y = k
      · subst q; simp at h hk; subst h; simp [hk]
      · have hb : (y == k) = false := by simpa using q
        simp only [hb] at h ⊢
        exact mask_lookup h
    · rename_i hk
      obtain ⟨h1, h2⟩ := mask_lookup (ρ := r) h
      refine ⟨h1, ?_⟩
      rw [List.lookup_cons]
      have hb : (y == k) = false := by
        cases q : y == k with
        | false => rfl
        | true => rw [beq_iff_eq] at q; subst q; simp [h1] at hk
      simp only [hb]; exact h2

/-- a comprehension, by its turns -/
def Cm (K : Cx) (n : Nat) (sc : Scope) (ρ : List (Str × D)) (elt : Expr) (gens : List Comprehension) (scope : Scope) (cpos : Pos) (out : List PyData) (fr : Bool) : Prop :=
  ∃ tgt iter ifs rest own ρ', ∃ F : List (PyData × List PyData), gens = ⟨tgt, iter, ifs, 0⟩ :: rest ∧ GensOk gens ∧ ScopeOk scope sc own ∧ (∀ x d, ρ'.lookup x = some d → scope.names.lookup x = some .free ∧ ρ.lookup x = some d) ∧
    EvIt K n sc ρ iter (F.map (·.1)) ∧ (∀ p ∈ F, TurnOk K n (relabelS scope sc) own elt gens scope cpos 0 tgt ifs ρ' p.1 p.2 fr) ∧ F.flatMap (·.2) = out ∧ out.length ≤ sizeLine

section
variable {K : Cx} {lv : Bool} {n : Nat} {sc scope : Scope} {ρ sh ow : List (Str × D)} {elt iter iter2 : Expr} {gens : List Comprehension} {cpos p px py pos : Pos} {out : List PyData} {fr : Bool} {x y : Str} {ifs ifs2 : List Expr} {Q : Out → Prop}

theorem Ev.ofCm (h : Cm K n sc ρ elt gens scope cpos out fr) : Ev K n sc ρ (.ListComp elt gens scope cpos) (.py (.list out)) fr := by
  obtain ⟨tgt, iter, ifs, rest, own, ρ', F, h1, h2, h3, h4, h5, h6, rfl, h8⟩ := h
  exact Ev.comp h1 h2 h3 h4 h5 h6 h8
theorem swap_true {l : Nat} (hk : sc.kind = .function) (ht : sc.names.lookup x = some .local) (hl : (p.line == cpos.line) = true) (hno : (scope.names.any fun (n, k) => n == x && (k == .local || k == .cell)) = false) :
    ∀ env : Env, env.scope = sc → swapsWith (.ListComp elt gens scope cpos) (some (.Name x p)) l env = pure true := fun env he => by
  show pure (env.blockKind == .function && env.kindOf x == some .local && p.line == cpos.line && !(scope.names.any fun (n, k) => n == x && (k == .local || k == .cell))) = pure true
  have h1 : env.blockKind = .function := by unfold Env.blockKind; rw [he, hk]; rfl
  have h2 : env.kindOf x = some .local := by show env.scope.names.lookup x = _; rw [he]; exact ht
  rw [h1, h2, hl, hno]; rfl
theorem own_none {own : List Str} (So : ScopeOk scope sc own) {x : Str} (hx : x ∈ own) : (mask scope ρ).lookup x = none := by
  cases q : (mask scope ρ).lookup x with
  | none => rfl
  | some d =>
    have := (mask_lookup q).1
    rcases So.own x hx with h | h <;> (rw [h] at this; cases this)
theorem cons_keep {x : Str} {d : D} {ρ : List (Str × D)} (h : ρ.lookup x = none) : ∀ y e, ρ.lookup y = some e → ((x, d) :: ρ).lookup y = some e := fun y e hy => by
  rw [List.lookup_cons]
  have hb : (y == x) = false := by
    cases q : y == x with
    | false => rfl
    | true => rw [beq_iff_eq] at q; subst q; rw [h] at hy; cases hy
  simp only [hb]; exact hy

/-- `[d for x in iter if pz]` -/
theorem Cm.one {α : Type} (l : List α) (c : α → PyData) (pz : α → Bool) (d : α → PyData) (hit : EvIt K n sc ρ iter (l.map c))
    (test : ∀ a ∈ l, TrAll K n (relabelS scope sc) ((x, .py (c a)) :: mask scope ρ) ifs (pz a)) (el : ∀ a ∈ l, pz a = true → Ev K n (relabelS scope sc) ((x, .py (c a)) :: mask scope ρ) elt (.py (d a)) fr) (hsz : l.length ≤ sizeLine)
    (So : scopeOk scope sc [x] = true := by decide) (hG : ∀ env v, foldedSetIterable iter env v = pure v := by intro _ _; rfl) :
    Cm K n sc ρ elt [⟨.Name x px, iter, ifs, 0⟩] scope cpos ((l.filter pz).map d) fr := by
  have So' := ScopeOk.of So
  refine ⟨_, _, _, _, [x], mask scope ρ, l.map fun a => (c a, if pz a then [d a] else []), rfl, fun g hg => ?_, So', fun y e hy => mask_lookup hy, ?_, fun q hq => ?_, ?_, ?_⟩
  · obtain rfl := List.mem_singleton.mp hg; exact ⟨rfl, hG⟩
  · rw [List.map_map]; exact hit
  · obtain ⟨a, ha, rfl⟩ := List.mem_map.mp hq
    refine ⟨_, pz a, Asg.name (.head _), cons_keep (own_none So' (.head _)), test a ha, fun hp => ?_, fun hp => by simp [hp]⟩
    rw [hp, if_pos rfl]
    exact BodyOk.elt rfl (el a ha hp)
  · clear hit test el hsz
    induction l with
    | nil => rfl
    | cons a l ih => cases h : pz a <;> simp [h, ih]
  · exact Nat.le_trans (by rw [List.length_map]; exact List.length_filter_le ..) hsz

end
end Mine

namespace Mine

/-- the built-in names that the laws use -/
structure BG (K : Cx) : Prop where
  rt : GV K "RuntimeError" (.type "RuntimeError")
  len : GV K "len" (.builtin "len")
  set : GV K "set" (.type "set")
  list : GV K "list" (.type "list")
  divmod : GV K "divmod" (.builtin "divmod")
  range : GV K "range" (.type "range")
  sorted : GV K "sorted" (.builtin "sorted")
  sum : GV K "sum" (.builtin "sum")
  min : GV K "min" (.builtin "min")
  max : GV K "max" (.builtin "max")
  str : GV K "str" (.type "str")
  bool : GV K "bool" (.type "bool")
  isinstance : GV K "isinstance" (.builtin "isinstance")

def Sub (l sh : List (Str × D)) : Prop := ∀ x d, l.lookup x = some d → sh.lookup x = some d
theorem Sub.nil {sh : List (Str × D)} : Sub [] sh := fun x d h => by cases h
theorem Sub.refl {sh : List (Str × D)} : Sub sh sh := fun _ _ h => h
theorem Sub.cons {l sh : List (Str × D)} {x : Str} {d : D} (h : sh.lookup x = some d) (t : Sub l sh) : Sub ((x, d) :: l) sh := fun y e hy => by
  rw [List.lookup_cons] at hy
  by_cases q : y = x
  · subst q; simp at hy; subst hy; exact h
  · have hb : (y == x) = false := by simpa using q
    simp only [hb] at hy; exact t y e hy
theorem Sub.push {l sh : List (Str × D)} {y : Str} {e : D} (t : Sub l sh) (h : l.lookup y = none) : Sub l ((y, e) :: del y sh) := fun x d hx => by
  have q : x ≠ y := fun q => by rw [q, h] at hx; cases hx
  have hb : (x == y) = false := by simpa using q
  rw [List.lookup_cons]
  simp only [hb]
  rw [lookup_del, if_neg q]; exact t x d hx
theorem Sub.pushC {l sh : List (Str × D)} {y : Str} {e : D} (t : Sub l sh) (h : l.lookup y = none) : Sub ((y, e) :: l) ((y, e) :: del y sh) := Sub.cons (by simp) (t.push h)
theorem Cm.cast {K n sc ρ elt gens scope cpos out out' fr} (h : Cm K n sc ρ elt gens scope cpos out fr) (e : out = out') : Cm K n sc ρ elt gens scope cpos out' fr := e ▸ h

theorem eqvAll_ints : ∀ a b : List Int, PyData.eqvAll (a.map .int) (b.map .int) = (a == b)
  | [], [] => by simp [PyData.eqvAll]
  | [], _ :: _ => by simp [PyData.eqvAll]
  | _ :: _, [] => by simp [PyData.eqvAll]
  | x :: a, y :: b => by
    simp only [List.map_cons, PyData.eqvAll, PyData.eqv, eqvAll_ints a b]
    rfl
theorem eqv_iL (a b : List Int) : PyData.eqv (iL a) (iL b) = (a == b) := by unfold iL; simp only [PyData.eqv]; exact eqvAll_ints a b
theorem shp_ints (xs : List Int) : Shp (iL xs) := Shp.list fun d hd => by obtain ⟨x, _, rfl⟩ := List.mem_map.mp hd; exact Atom.int x
theorem flat_ints (xs : List Int) : ∀ d ∈ xs.map PyData.int, Flat d := fun d hd => by obtain ⟨x, _, rfl⟩ := List.mem_map.mp hd; trivial

section
variable {K : Cx} {n : Nat} {sc : Scope} {ρ : List (Str × D)} {a b c : Expr} {pos p : Pos} {fa fb fc fr : Bool} {xs ys : List Int} {i j : Int}
theorem CmpOk.eqIL : CmpOk K n .Eq (.py (iL xs)) (.py (iL ys)) (xs == ys) := CmpOk.cast (CmpOk.eqD (shp_ints xs) (shp_ints ys)) (eqv_iL xs ys)
theorem CmpOk.neIL : CmpOk K n .NotEq (.py (iL xs)) (.py (iL ys)) (!(xs == ys)) := CmpOk.cast (CmpOk.neD (shp_ints xs) (shp_ints ys)) (by rw [eqv_iL])
theorem Ev.lenIL (B : BG K) (ha : Ev K n sc ρ a (.py (iL xs)) fa) (hsz : xs.length ≤ sizeLine) (hx : sc.names.lookup ("len" : Str) = some .globalImplicit := by rfl)
    (he : ∀ env, starEach [a] env = [(false, eval a env)] := by intro _; rfl)
    (hc : ∀ env, eval (.Call (.Name "len" p) [a] [] pos) env = (do callWith pos (← eval (.Name "len" p) env) [] (backTo pos (starEach [a] env)) (backToKw pos (keywordEach [] env))) := by intro _; rfl) :
    Ev K n sc ρ (.Call (.Name "len" p) [a] [] pos) (.py (.int xs.length)) true :=
  Ev.cast (Ev.callB B.len (EvArgs.cons ha EvArgs.nil he) (CallOk.lenL (ds := xs.map .int) (by simpa using hsz)) hx (by decide) he (fun _ => rfl) hc) (by simp)
theorem Ev.listIL (B : BG K) (ha : Ev K n sc ρ a (.py (iL xs)) fa) (hsz : xs.length ≤ sizeLine) (hx : sc.names.lookup ("list" : Str) = some .globalImplicit := by rfl)
    (he : ∀ env, starEach [a] env = [(false, eval a env)] := by intro _; rfl)
    (hc : ∀ env, eval (.Call (.Name "list" p) [a] [] pos) env = (do callWith pos (← eval (.Name "list" p) env) [] (backTo pos (starEach [a] env)) (backToKw pos (keywordEach [] env))) := by intro _; rfl) :
    Ev K n sc ρ (.Call (.Name "list" p) [a] [] pos) (.py (iL xs)) true :=
  Ev.callT B.list (EvArgs.cons ha EvArgs.nil he) (CallOk.list (by simpa using hsz) fun _ => flat_ints xs) hx (by decide) he (fun _ => rfl) hc

end
end Mine

namespace Mine

theorem rdAll_of_ints {h : Heap} : ∀ {vs : List Value} {xs : List Int}, IntsAre vs xs → RdAll h vs (xs.map .int) []
  | [], [], _ => .nil
  | v :: vs, x :: xs, hi => by
    cases hi with
    | cons _ t h1 => exact RdAll.cons (as := []) (bs := []) (.int x t) (rdAll_of_ints h1)

theorem rd_script {P : Params} {h : Heap} {l : Addr} {vs : List Value} {xs : List Int} (w : Well P h (.ref l) (ofPy (PyData.list (xs.map .int)))) (hl : h.IsList l vs.toArray) (hi : IntsAre vs xs) : Rd h (.ref l) (iL xs) [l] := by
  obtain ⟨o, ho, hc, k, hd⟩ := hl
  have e : ofPy (PyData.list (xs.map .int)) = .list (ofPys (xs.map .int)) := by simp [ofPy]
  rw [e] at w
  cases w with
  | @list _ vs' _ h1 _ =>
    rw [ho] at h1; cases h1
    have : vs = vs' := by
      injection hd with h2 h3
      simpa using h2.symm
    subst this
    exact Rd.list ho (rdAll_of_ints hi)

end Mine
namespace Mine
theorem BG.of {p : Program} {loose : List Str} {mean : ExcName → Option Value} {mg mb : Str → Option Value} {h : Heap} (T : Top p loose mean mg mb h) (prog : Program) (w : World)
    (hf : ∀ x ∈ (["RuntimeError", "len", "set", "list", "divmod", "range", "sorted", "sum", "min", "max", "str", "bool", "isinstance"] : List Str), mg x = none) : BG ⟨prog, w, h, mg, mb⟩ where
  rt := .inr ⟨hf _ (by decide), (T.builtins _ (by decide)).trans Boot.«RuntimeError»⟩
  len := .inr ⟨hf _ (by decide), (T.builtins _ (by decide)).trans Boot.«len»⟩
  set := .inr ⟨hf _ (by decide), (T.builtins _ (by decide)).trans Boot.«set»⟩
  list := .inr ⟨hf _ (by decide), (T.builtins _ (by decide)).trans Boot.«list»⟩
  divmod := .inr ⟨hf _ (by decide), (T.builtins _ (by decide)).trans Boot.«divmod»⟩
  range := .inr ⟨hf _ (by decide), (T.builtins _ (by decide)).trans Boot.«range»⟩
  sorted := .inr ⟨hf _ (by decide), (T.builtins _ (by decide)).trans Boot.«sorted»⟩
  sum := .inr ⟨hf _ (by decide), (T.builtins _ (by decide)).trans Boot.«sum»⟩
  min := .inr ⟨hf _ (by decide), (T.builtins _ (by decide)).trans Boot.«min»⟩
  max := .inr ⟨hf _ (by decide), (T.builtins _ (by decide)).trans Boot.«max»⟩
  str := .inr ⟨hf _ (by decide), (T.builtins _ (by decide)).trans Boot.«str»⟩
  bool := .inr ⟨hf _ (by decide), (T.builtins _ (by decide)).trans Boot.«bool»⟩
  isinstance := .inr ⟨hf _ (by decide), (T.builtins _ (by decide)).trans Boot.«isinstance»⟩
end Mine

namespace Mine

/-! ### the merge over anything that can be told apart -/
section
variable {α β : Type} {ea : α → α → Bool} {eb : β → β → Bool} {f : α → β}

theorem strike1_map (h : ∀ x y, eb (f x) (f y) = ea x y) (c : α) (r : List α) : strike1 eb (f c) (r.map f) = (strike1 ea c r).map f := by
  cases r with
  | nil => rfl
  | cons x t => simp only [List.map_cons, strike1, h]; split <;> rfl
theorem okHead_map (h : ∀ x y, eb (f x) (f y) = ea x y) (R : List (List α)) (x : α) : okHead eb (R.map (List.map f)) (f x) = okHead ea R x := by
  unfold okHead
  rw [List.all_map]
  congr 1
  funext r
  simp only [Function.comp, ← List.map_tail, List.any_map]
  congr 2
  funext y
  simp [h]
theorem cand_map (h : ∀ x y, eb (f x) (f y) = ea x y) (R : List (List α)) : cand eb (R.map (List.map f)) = (cand ea R).map f := by
  have key : ∀ S : List (List α), (S.map (List.map f)).findSome? (fun r => match r with | [] => none | x :: _ => if okHead eb (R.map (List.map f)) x then some x else none) = (S.findSome? fun r => match r with | [] => none | x :: _ => if okHead ea R x then some x else none).map f := by
    intro S
    induction S with
    | nil => rfl
    | cons r S ih =>
      rw [List.map_cons, List.findSome?_cons, List.findSome?_cons]
      cases r with
      | nil => simpa using ih
      | cons x t =>
        simp only [List.map_cons, okHead_map h]
        cases q : okHead ea R x
        · simpa using ih
        · simp
  exact key R
theorem c3_map (h : ∀ x y, eb (f x) (f y) = ea x y) : ∀ (n : Nat) (R : List (List α)), c3 eb n (R.map (List.map f)) = ((c3 ea n R).1.map f, (c3 ea n R).2.1.map (List.map f), (c3 ea n R).2.2)
  | 0, R => by
    simp only [c3, List.map_nil, List.all_map]
    congr 3
    funext r; simp
  | n + 1, R => by
    have hall : (R.map (List.map f)).all (·.isEmpty) = R.all (·.isEmpty) := by rw [List.all_map]; congr 1; funext r; simp
    rw [c3, c3, hall, cand_map h]
    split
    · simp
    · cases cand ea R with
      | none => simp
      | some c =>
        simp only [Option.map_some]
        have : (R.map (List.map f)).map (strike1 eb (f c)) = (R.map (strike1 ea c)).map (List.map f) := by
          rw [List.map_map, List.map_map]
          exact List.map_congr_left fun r _ => strike1_map h c r
        rw [this, c3_map h n]
        simp
theorem mg3_map (h : ∀ x y, eb (f x) (f y) = ea x y) (R : List (List α)) : mg3 eb (R.map (List.map f)) = ((mg3 ea R).1.map f, (mg3 ea R).2.1.map (List.map f), (mg3 ea R).2.2) := by
  have : tot (R.map (List.map f)) = tot R := by unfold tot; rw [List.map_map]; congr 1; exact List.map_congr_left fun r _ => by simp
  unfold mg3; rw [this]; exact c3_map h _ R
end

def beq' {α : Type} [DecidableEq α] (x y : α) : Bool := decide (x = y)

section
variable {α : Type} [DecidableEq α] {R : List (List α)} {c : α}

abbrev m3 (R : List (List α)) : List α × List (List α) × Bool := mg3 beq' R
theorem rflB (R : List (List α)) : Rfl beq' R := fun _ _ x _ => by simp [beq']
theorem okHead_iff : okHead beq' R c = true ↔ ∀ r ∈ R, c ∉ r.tail := by
  unfold okHead
  rw [List.all_eq_true]
  constructor
  · intro h r hr hc
    have := h r hr
    simp only [Bool.not_eq_true', List.any_eq_false] at this
    exact this c hc (by simp [beq'])
  · intro h r hr
    simp only [Bool.not_eq_true', List.any_eq_false]
    intro y hy q
    simp [beq'] at q; subst q; exact h r hr hy
theorem strike_cons (x : α) (t : List α) : strike1 beq' c (x :: t) = if x = c then t else x :: t := by
  simp only [strike1, beq']
  by_cases q : x = c <;> simp [q]
theorem m3_empty (h : ∀ r ∈ R, r = []) : m3 R = ([], R, true) := mg3_empty (by rw [List.all_eq_true]; intro r hr; simp [h r hr])
theorem m3_some (hc : cand beq' R = some c) : m3 R = (c :: (m3 (R.map (strike1 beq' c))).1, (m3 (R.map (strike1 beq' c))).2) := mg3_some (rflB R) hc
theorem m3_none (h : ∃ r ∈ R, r ≠ []) (hc : cand (beq' : α → α → Bool) R = none) : m3 R = ([], R, false) := mg3_none (by
  obtain ⟨r, hr, hne⟩ := h
  cases q : R.all (·.isEmpty) with
  | false => rfl
  | true => exact absurd (by simpa using List.all_eq_true.mp q r hr) hne) hc

/-- by what the merge does: nothing left, stuck, or one step -/
theorem m3_cases (R : List (List α)) : ((∀ r ∈ R, r = []) ∧ m3 R = ([], R, true)) ∨ ((∃ r ∈ R, r ≠ []) ∧ cand beq' R = none ∧ m3 R = ([], R, false)) ∨
    (∃ c, cand beq' R = some c ∧ (∃ t, c :: t ∈ R) ∧ (∀ r ∈ R, c ∉ r.tail) ∧ tot (R.map (strike1 beq' c)) < tot R ∧ m3 R = (c :: (m3 (R.map (strike1 beq' c))).1, (m3 (R.map (strike1 beq' c))).2)) := by
  by_cases he : ∀ r ∈ R, r = []
  · exact .inl ⟨he, m3_empty he⟩
  · have he' : ∃ r ∈ R, r ≠ [] := by
      apply Classical.byContradiction
      intro h
      exact he fun r hr => Classical.byContradiction fun q => h ⟨r, hr, q⟩
    right
    cases hc : cand (beq' : α → α → Bool) R with
    | none => exact .inl ⟨he', rfl, m3_none he' hc⟩
    | some c =>
      obtain ⟨⟨t, ht⟩, ho⟩ := cand_spec hc
      exact .inr ⟨c, rfl, ⟨t, ht⟩, okHead_iff.mp ho, tot_strike_lt ht (by simp [beq']), m3_some hc⟩

/-- a merge that is not refused keeps every row, and has each once -/
theorem m3_ok : ∀ (n : Nat) (R : List (List α)), tot R ≤ n → (m3 R).2.2 = true → (m3 R).1.Nodup ∧ (∀ r ∈ R, r.Sublist (m3 R).1) ∧ (∀ x ∈ (m3 R).1, ∃ r ∈ R, x ∈ r) ∧ (∀ r ∈ (m3 R).2.1, r = [])
  | n, R, hn, hok => by
    rcases m3_cases R with ⟨he, e⟩ | ⟨_, _, e⟩ | ⟨c, hc, ⟨t, ht⟩, hh, hlt, e⟩
    · rw [e]
      refine ⟨.nil, fun r hr => ?_, nofun, he⟩
      rw [he r hr]; exact List.Sublist.refl _
    · rw [e] at hok; cases hok
    · cases n with
      | zero => omega
      | succ n =>
        rw [e] at hok ⊢
        obtain ⟨i1, i2, i3, i4⟩ := m3_ok n _ (by omega) hok
        have hno : ∀ r ∈ R, c ∉ strike1 beq' c r := fun r hr q => by
          cases r with
          | nil => cases q
          | cons x u =>
            have := hh _ hr
            rw [strike_cons] at q
            by_cases hx : x = c
            · rw [if_pos hx] at q; exact this q
            · rw [if_neg hx] at q
              rcases List.mem_cons.mp q with q | q
              · exact hx q.symm
              · exact this q
        refine ⟨List.nodup_cons.mpr ⟨fun q => ?_, i1⟩, fun r hr => ?_, fun x hx => ?_, i4⟩
        · obtain ⟨r', hr', hm⟩ := i3 c q
          obtain ⟨r, hr, rfl⟩ := List.mem_map.mp hr'
          exact hno r hr hm
        · have := i2 _ (List.mem_map.mpr ⟨r, hr, rfl⟩)
          cases r with
          | nil => exact List.nil_sublist _
          | cons x u =>
            rw [strike_cons] at this
            split at this
            · rename_i hx; subst hx; exact this.cons_cons _
            · exact this.cons _
        · rcases List.mem_cons.mp hx with rfl | hx
          · exact ⟨_, ht, .head _⟩
          · obtain ⟨r', hr', hm⟩ := i3 x hx
            obtain ⟨r, hr, rfl⟩ := List.mem_map.mp hr'
            exact ⟨r, hr, strike1_mem hm⟩

theorem sublist_strike (r : List α) : (strike1 beq' c r).Sublist r := by
  cases r with
  | nil => exact List.Sublist.refl _
  | cons x t =>
    rw [strike_cons]
    split
    · exact List.sublist_cons_self ..
    · exact List.Sublist.refl _

/-- rows with an order among them are not refused -/
theorem head_free : ∀ {w : List α}, w.Nodup → ∀ {R : List (List α)}, (∀ r ∈ R, r.Sublist w) → (∃ r ∈ R, r ≠ []) → ∃ x t, x :: t ∈ R ∧ ∀ r ∈ R, x ∉ r.tail
  | [], _, R, h, ⟨r, hr, hne⟩ => absurd (List.sublist_nil.mp (h r hr)) hne
  | x :: w, nd, R, h, ⟨r, hr, hne⟩ => by
    obtain ⟨hx, nd⟩ := List.nodup_cons.mp nd
    by_cases q : ∃ t, x :: t ∈ R
    · obtain ⟨t, ht⟩ := q
      refine ⟨x, t, ht, fun r hr hm => ?_⟩
      have hs := h r hr
      cases r with
      | nil => cases hm
      | cons y u =>
        cases hs with
        | cons _ hs => exact hx (hs.subset (.tail _ hm))
        | cons_cons _ hs => exact hx (hs.subset hm)
    · refine head_free nd (fun r hr => ?_) ⟨r, hr, hne⟩
      have hs := h r hr
      cases hs with
      | cons _ hs => exact hs
      | cons_cons _ hs => exact absurd ⟨_, hr⟩ q
theorem cand_isSome {x : α} {t : List α} (hx : x :: t ∈ R) (ho : ∀ r ∈ R, x ∉ r.tail) : ∃ c, cand beq' R = some c := by
  cases q : cand (beq' : α → α → Bool) R with
  | some c => exact ⟨c, rfl⟩
  | none =>
    unfold cand at q
    rw [List.findSome?_eq_none_iff] at q
    have := q _ hx
    simp [okHead_iff.mpr ho] at this
theorem m3_order {w : List α} (nd : w.Nodup) : ∀ (n : Nat) (R : List (List α)), tot R ≤ n → (∀ r ∈ R, r.Sublist w) → (m3 R).2.2 = true
  | n, R, hn, h => by
    rcases m3_cases R with ⟨he, e⟩ | ⟨he, hc, e⟩ | ⟨c, hc, ⟨t, ht⟩, hh, hlt, e⟩
    · rw [e]
    · obtain ⟨x, t, hx, ho⟩ := head_free nd h he
      obtain ⟨c, hc'⟩ := cand_isSome hx ho
      rw [hc] at hc'; cases hc'
    · cases n with
      | zero => omega
      | succ n =>
        rw [e]
        refine m3_order nd n _ (by omega) fun r hr => ?_
        obtain ⟨q, hq, rfl⟩ := List.mem_map.mp hr
        exact (sublist_strike q).trans (h q hq)
end
end Mine

namespace Mine

theorem Walks.lt {prog : Program} {w : World} {A : Around} {I : Addr} {fp wr : List Addr} {n : Nat} {P : Nat → Value → Prop} {St : Nat → Heap → Prop} (W : Walks prog w A I fp wr n P St) : Walks prog w A I fp wr n (fun i v => i < n ∧ P i v) St where
  sub := W.sub
  frame := W.frame
  item := fun i s Q E hi st hQ => W.item i s Q E hi st fun v h' tk hP => hQ v h' tk ⟨hi, hP⟩
  done := W.done
  self := W.self

def rangeIt (K : Cx) {A : Around} (hh : A.handled = none) (I : Addr) (a : Int) (n : Nat) : It K A where
  I := I
  fp := [I]
  n := n
  P := fun i v => i < n ∧ ∃ t, v = .int (a + i * 1) t
  St := fun i h => IsRangeIter h I (a + (i : Nat) * 1) ((n : Int) - (i : Nat)) 1
  W := Walks.lt (Walks.range hh I a 1 n)
  plain := fun i h st => ⟨_, "range_iterator", _, st, rfl, by decide, rfl⟩

section
variable {K : Cx} {n : Nat} {sc : Scope} {ρ : List (Str × D)} {a b : Expr} {pos p : Pos} {fa fb : Bool}

theorem range_core {A : Around} {env : Env} {s : Shared} {X : Addr → Prop} {E : Value → Shared → Prop} {Q : Value → Shared → Prop} {h₁ : Heap} {tk : Nat} {lo : Int} {k : Nat} {r : Addr} {u v t : Tok} (I : In K n sc X ρ A env s.heap) (x : Ext s.heap h₁) (hr : IsRange h₁ r lo (lo + k) 1 u v t)
    (h1 : -(2 ^ 62) ≤ lo) (h2 : lo + k < 2 ^ 62)
    (q : ∀ (t : It K A) h' tk, Ext s.heap h' → ItAt t 0 s.heap h' X ((List.range k).map fun i => .int (lo + (i : Nat))) → Q (.ref t.I) { s with heap := h', toks := tk }) :
    wpAny (model K.prog K.w) A (pyIter (.ref r)) Q E { s with heap := h₁, toks := tk } := by
  refine wpAny_pyIter_range (s := { s with heap := h₁, toks := tk }) hr (small_one h1 (by omega) (by omega) h2) ?_
  have hsz : Builtin.Range.rangeSize lo (lo + k) 1 = (k : Int) := by rw [rangeSize_one]; split <;> omega
  refine q (rangeIt K I.room.quiet h₁.objs.size lo k) _ _ (x.trans (Ext.push _ _)) ⟨?_, ?_, ?_, ?_, ?_, ?_⟩
  · show IsRangeIter _ _ (lo + ((0 : Nat) : Int) * 1) ((k : Int) - ((0 : Nat) : Int)) 1
    have e1 : lo + ((0 : Nat) : Int) * 1 = lo := by simp
    have e2 : (k : Int) - ((0 : Nat) : Int) = Builtin.Range.rangeSize lo (lo + k) 1 := by rw [hsz]; simp
    rw [e1, e2]
    exact Heap.get?_push_size _ rfl
  · show k = _; simp
  · intro b hb hx
    rw [List.mem_singleton.mp hb] at hx
    obtain ⟨o, ho⟩ := I.dom _ hx; have := x _ _ ho; rw [push_new] at this; cases this
  · exact x.none (push_new _)
  · intro b hb
    rw [List.mem_singleton.mp hb]
    exact ⟨_, Heap.get?_push_size _ rfl⟩
  · rintro j v ⟨hj, t, rfl⟩
    have hj' : j < k := hj
    refine ⟨.int (lo + (j : Nat)), [], by simp [hj'], ?_, nofun⟩
    rw [Int.mul_one]; exact .int _ _

theorem EvIt.range1 (B : BG K) {k : Nat} (ha : Ev K n sc ρ a (.py (.int k)) fa) (hk : k ≤ sizeLine) (hx : sc.names.lookup ("range" : Str) = some .globalImplicit := by rfl)
    (he : ∀ env, starEach [a] env = [(false, eval a env)] := by intro _; rfl)
    (hc : ∀ env, eval (.Call (.Name "range" p) [a] [] pos) env = (do callWith pos (← eval (.Name "range" p) env) [] (backTo pos (starEach [a] env)) (backToKw pos (keywordEach [] env))) := by intro _; rfl) :
    EvIt K n sc ρ (.Call (.Name "range" p) [a] [] pos) ((List.range k).map fun i => .int (i : Nat)) := Hide.mk fun {A env s X E Q} I q => by
  refine Call_ (name_global I B.range hx ?_ (by decide)) (hc env)
  refine PySem.callWith_type (by rw [he env]; rfl) ?_
  rw [he env]
  refine Calls.evalArgs_plain (Calls.spliced_cons (wpAny_mono (ha.run I) (fun v s₁ t => ?_) fun _ _ x => x))
  obtain ⟨h₁, tk, as, rfl, g⟩ := t
  refine Calls.spliced_nil ?_
  have r : Rd h₁ v (.int k) as := g.rd
  cases r with
  | int _ t =>
    refine call_range_1 (s := { s with heap := h₁, toks := tk }) ?_
    have hr := IsRange.new h₁ 0 (k : Int) 1 tk t (tk + 1)
    rw [sizeLine_eq] at hk
    refine range_core (s := s) (lo := 0) (k := k) (u := tk) (v := t) (t := tk + 1) I (g.ext.trans (Ext.push _ _)) (by simpa using hr) (by decide) (by omega) fun t h' tk' x it => ?_
    simp only [Int.zero_add] at it
    exact q t h' tk' x it

theorem EvIt.range2 (B : BG K) {lo hi : Nat} (ha : Ev K n sc ρ a (.py (.int lo)) fa) (hb : Ev K n sc ρ b (.py (.int hi)) fb) (hlo : lo ≤ sizeLine) (hhi : hi ≤ sizeLine) (hx : sc.names.lookup ("range" : Str) = some .globalImplicit := by rfl)
    (he : ∀ env, starEach [a, b] env = [(false, eval a env), (false, eval b env)] := by intro _; rfl)
    (hc : ∀ env, eval (.Call (.Name "range" p) [a, b] [] pos) env = (do callWith pos (← eval (.Name "range" p) env) [] (backTo pos (starEach [a, b] env)) (backToKw pos (keywordEach [] env))) := by intro _; rfl) :
    EvIt K n sc ρ (.Call (.Name "range" p) [a, b] [] pos) ((List.range (hi - lo)).map fun i => .int ((lo + i : Nat))) := Hide.mk fun {A env s X E Q} I q => by
  refine Call_ (name_global I B.range hx ?_ (by decide)) (hc env)
  refine PySem.callWith_type (by rw [he env]; rfl) ?_
  rw [he env]
  refine Calls.evalArgs_plain (Calls.spliced_cons (wpAny_mono (ha.run I) (fun v s₁ t => ?_) fun _ _ x => x))
  obtain ⟨h₁, tk, as, rfl, g⟩ := t
  refine Calls.spliced_cons (wpAny_mono (hb.run (s := { s with heap := h₁, toks := tk }) (I.ext g.ext)) (fun v' s₂ t => ?_) fun _ _ x => x)
  obtain ⟨h₂, tk₂, bs, rfl, g₂⟩ := t
  refine Calls.spliced_nil ?_
  have r : Rd h₁ v (.int lo) as := g.rd
  have r' : Rd h₂ v' (.int hi) bs := g₂.rd
  cases r with
  | int _ t =>
  cases r' with
  | int _ t' =>
    refine call_range_2 (s := { s with heap := h₂, toks := tk₂ }) ?_
    have x₂ := g.ext.trans g₂.ext
    rw [sizeLine_eq] at hlo hhi
    by_cases hle : lo ≤ hi
    · have hr := IsRange.new h₂ lo hi 1 t t' tk₂
      have e : (lo : Int) + ((hi - lo : Nat) : Int) = hi := by omega
      refine range_core (s := s) (lo := lo) (k := hi - lo) (u := t) (v := t') (t := tk₂) I (x₂.trans (Ext.push _ _)) (by rw [e]; exact hr) (by omega) (by omega) fun t h' tk' x it => ?_
      simp only [Int.natCast_add] at q
      exact q t h' tk' x it
    · have hr := IsRange.new h₂ lo hi 1 t t' tk₂
      refine wpAny_pyIter_range (s := { s with heap := _, toks := tk₂ + 1 }) hr (small_one (by omega) (by omega) (by omega) (by omega)) ?_
      have hsz : Builtin.Range.rangeSize lo hi 1 = 0 := by rw [rangeSize_one]; split <;> omega
      have x₃ := x₂.trans (Ext.push h₂ { cls := .type "range", data := .fields #[.int lo t, .int hi t', .int 1 tk₂] })
      refine q (rangeIt K I.room.quiet _ lo 0) _ _ (x₃.trans (Ext.push _ _)) ⟨?_, ?_, ?_, ?_, ?_, ?_⟩
      · show IsRangeIter _ _ ((lo : Int) + ((0 : Nat) : Int) * 1) (((0 : Nat) : Int) - ((0 : Nat) : Int)) 1
        have e1 : (lo : Int) + ((0 : Nat) : Int) * 1 = lo := by simp
        have e2 : ((0 : Nat) : Int) - ((0 : Nat) : Int) = Builtin.Range.rangeSize lo hi 1 := by rw [hsz]; simp
        rw [e1, e2]
        exact Heap.get?_push_size _ rfl
      · show 0 = _; simp; omega
      · intro b hb hx
        rw [List.mem_singleton.mp hb] at hx
        obtain ⟨o, ho⟩ := I.dom _ hx; exact absurd (Heap.lt_size (x₃ _ _ ho)) (Nat.lt_irrefl _)
      · exact x₃.none (push_new _)
      · intro b hb
        rw [List.mem_singleton.mp hb]
        exact ⟨_, Heap.get?_push_size _ rfl⟩
      · rintro j v ⟨hj, _⟩
        exact absurd hj (Nat.not_lt_zero _)
end

/-! ### the greatest, the least, the sum -/
section
variable {K : Cx} {n : Nat} {xs : List Int}
end
end Mine

namespace Mine

section
variable {K : Cx} {n : Nat} {xs : List Int}
variable {sc : Scope} {ρ : List (Str × D)} {a : Expr} {pos p : Pos} {fa : Bool}
end

/-! ### changes in place of what a name owns alone -/
section
variable {K : Cx} {lv : Bool} {n : Nat} {sc : Scope} {X : Addr → Prop} {g : Addr → Option Obj} {sh ow : List (Str × D)} {A : Around} {env : Env} {h h' : Heap} {fp : Str → List Addr} {x : Str} {d d' : D} {v : Value}

/-- the names as they are, but for x, which owns d' now -/
def put (x : Str) (d : D) (ow : List (Str × D)) : List (Str × D) := (x, d) :: del x ow

/-- one object that x owns is changed; x then reads as d', by old objects of its own and new ones -/
theorem St.change {hp : Heap} (S₀ : St K lv n sc X g sh ow A env hp) (O₀ : Own K g X env sh ow fp hp) (xe : Ext hp h) (hx : ow.lookup x = some d) {a : Addr} (ha : a ∈ fp x) (e : Eff (· = a) h h') (nt : NoTup h a) (va : VarAt h env x v) {as : List Addr} (rd : RdD K h' v d' as) (nd : as.Nodup)
    (new : ∀ b ∈ as, b ∈ fp x ∨ hp.get? b = none) (hsome : ∃ o, h'.get? a = some o) : St K lv n sc X g sh (put x d' ow) A env h' := by
  have S := S₀.ext xe
  have O := O₀.ext xe
  obtain ⟨v₀, o1, o2, o3, o4⟩ := O.own x d hx
  have hga : g a = none := (o4 a ha).1
  have nfa : ¬ FrameAddr env a := (o4 a ha).2.1
  have nXa : ¬ X a := (o4 a ha).2.2
  have hK : K.h₀.get? a = none := by
    cases q : K.h₀.get? a with
    | none => rfl
    | some o => rw [S.bK a o q] at hga; cases hga
  have nt' : ∀ b, b = a → NoTup h b := fun b q => q ▸ nt
  have hxs : (ow.lookup x).isSome = true := by rw [hx]; rfl
  have va' : ∀ {y u}, VarAt h env y u → VarAt h' env y u := fun {y u} r => by
    rcases r with ⟨hl, m, hn, hm⟩ | ⟨hl, c', hc', hv⟩
    · exact .inl ⟨hl, m, hn.at' fun o ho => e _ o (fun q => nfa (q ▸ .inl rfl)) ho, hm⟩
    · obtain ⟨o, ho, hd⟩ := hv
      exact .inr ⟨hl, c', hc', o, e c' o (fun q => nfa (q ▸ .inr ⟨_, hc'⟩)) ho, hd⟩
  have look : ∀ y, (put x d' ow).lookup y = if y = x then some d' else ow.lookup y := fun y => by
    unfold put
    rw [List.lookup_cons]
    by_cases q : y = x
    · simp [q]
    · have hb : (y == x) = false := by simpa using q
      simp only [hb, if_neg q]; rw [lookup_del, if_neg q]
  have isome : ∀ y, ((put x d' ow).lookup y).isSome = true → (ow.lookup y).isSome = true := fun y hy => by
    rw [look] at hy
    by_cases q : y = x
    · rw [q]; exact hxs
    · rw [if_neg q] at hy; exact hy
  have newB : ∀ b ∈ as, (g b = none ∧ ¬ FrameAddr env b ∧ ¬ X b) ∧ (∀ y, y ≠ x → (ow.lookup y).isSome = true → b ∉ fp y) := fun b hb => by
    rcases new b hb with q | q
    · exact ⟨o4 b q, fun y hy hs => O.apart x y (Ne.symm hy) hxs hs b q⟩
    · refine ⟨⟨?_, fun r => ?_, fun r => ?_⟩, fun y hy hs hm => ?_⟩
      · cases r : g b with
        | none => rfl
        | some o => have := S₀.base b o r; rw [q] at this; cases this
      · obtain ⟨o, ho⟩ := S₀.frame.some r; rw [q] at ho; cases ho
      · obtain ⟨o, ho⟩ := S₀.dom b r; rw [q] at ho; cases ho
      · obtain ⟨dy, hdy⟩ := Option.isSome_iff_exists.mp hs
        obtain ⟨_, _, h2, _⟩ := O₀.own y dy hdy
        obtain ⟨o, ho⟩ := h2.dom b hm; rw [q] at ho; cases ho
  refine ⟨S.room, ⟨S.ok.g, S.ok.b, S.ok.lim, e.ext S.ok.ext fun b q => q ▸ hK⟩, S.hsc, S.henv, S.frame.at1 e nfa, fun b o hb => e b o (fun q => by rw [q, hga] at hb; cases hb) (S.base b o hb), S.bK, S.new, fun b hb => ?_, S.top, fun y => if y = x then as else fp y, ⟨fun y dy hy => ?_, fun y z hyz hy hz b hb => ?_, fun y dy hy => ?_⟩⟩
  · obtain ⟨o, ho⟩ := S.dom b hb
    exact ⟨o, e b o (fun q => nXa (q ▸ hb)) ho⟩
  · rw [look] at hy
    by_cases q : y = x
    · subst q; simp only [if_true] at hy ⊢; cases hy
      exact ⟨v, va' va, rd, nd, fun b hb => (newB b hb).1⟩
    · simp only [if_neg q] at hy ⊢
      obtain ⟨u, h1, h2, h3, h4⟩ := O.own y dy hy
      exact ⟨u, va' h1, h2.off (e.off (fun b hb r => O.apart x y (Ne.symm q) hxs (by rw [hy]; rfl) a ha (r ▸ hb)) nt'), h3, h4⟩
  · have hy' := isome y hy
    have hz' := isome z hz
    by_cases q : y = x
    · subst q
      have hzy : z ≠ y := Ne.symm hyz
      simp only [if_true, if_neg hzy] at hb ⊢
      exact (newB b hb).2 z hzy hz'
    · by_cases r : z = x
      · subst r
        simp only [if_true, if_neg q] at hb ⊢
        exact fun hm => (newB b hm).2 y q hy' hb
      · simp only [if_neg q, if_neg r] at hb ⊢
        exact O.apart y z hyz hy' hz' b hb
  · obtain ⟨u, bs, h1, h20, h3⟩ := O₀.shared y dy hy
    have h1 := h1.ext xe
    have h2 := h20.ext xe
    have hoff : ∀ b ∈ bs, b ≠ a := fun b hb q => (h3 b hb).2.2 x hxs (q ▸ ha)
    refine ⟨u, bs, va' h1, h2.off (e.off (fun b hb q => hoff b hb q) nt'), fun b hb => ⟨(h3 b hb).1, (h3 b hb).2.1, fun z hz => ?_⟩⟩
    by_cases q : z = x
    · subst q
      simp only [if_true]
      intro hm
      rcases new b hm with r | r
      · exact (h3 b hb).2.2 z hxs r
      · obtain ⟨o, ho⟩ := h20.dom b hb; rw [r] at ho; cases ho
    · simp only [if_neg q]
      exact (h3 b hb).2.2 z (isome z hz)
end

section
variable {K : Cx} {lv : Bool} {n : Nat} {sc : Scope} {sh ow : List (Str × D)} {Q : Out → Prop} {x : Str} {p p' pos cp : Pos} {e : Expr} {ds : List PyData} {d : PyData} {fr : Bool}

theorem interactive_false {env : Env} (h : EnvOk env) : interactive env = false := by unfold interactive; rw [h.kind]; rfl

/-- `x.append(e)` -/
theorem Ex1.append (hx : ow.lookup x = some (.py (.list ds))) (h : Ev K n sc (ow ++ sh) e (.py d) true) (hsz : ds.length ≤ sizeLine) (hq : Q (.next sh (put x (.py (.list (ds ++ [d]))) ow)))
    (hd : (x == ("__debug__" : Str)) = false := by decide) (hc : (x == ("__classdict__" : Str)) = false := by decide)
    (hline : (p'.endLine == cp.line) = true := by rfl) (ht : ∀ env, backTo cp (starEach [e] env) = [(false, eval e env)] := by intro _; rfl) :
    Ex1 K lv n sc sh ow (.Expr (.Call (.Attribute (.Name x p) "append" p') [e] [] cp) pos) Q := Hide.mk fun {A env s X g E} S => by
  obtain ⟨fp, O⟩ := S.vars
  obtain ⟨v, o1, o2, o3, o4⟩ := O.own x _ hx
  refine wpAny_Expr_any (wpAny_Call_method1_late (by rfl) hline (ht env) (wpAny_Name (loadName_at S.henv o1 ?_ hc) hd)) (interactive_false S.henv) (by rfl)
  have o2' : Rd s.heap v (.list ds) (fp x) := o2
  generalize hfp : fp x = fx at o2' o3 o4
  cases o2' with
  | @list l vs c _ as hl rs =>
    refine ⟨"list", "list.append", F.plainAttrs_list, F.slot_list_append, F.type_list_append, ⟨_, hl, rfl⟩, fun a ha => by cases ha; exact ⟨_, hl, rfl⟩, PySem.P.append_list (wpAny_mono (h.run S.inAll) (fun w s₁ t => ?_) fun _ _ x => x)⟩
    obtain ⟨h₁, tk, bs, rfl, gt⟩ := t
    obtain ⟨nd, new⟩ := gt.new rfl
    have hl₁ := gt.ext _ _ hl
    refine ⟨vs.toArray, c, by rw [List.size_toArray, rs.length]; exact hsz, hl₁, ?_⟩
    have hs : Heap.SameBut l h₁ (h₁.update l (Obj.mapSeq fun xs => xs.push w)) := Heap.SameBut.update ..
    have eff := Eff.of_sameBut hs
    have nt : NoTup h₁ l := noTup_list hl₁
    obtain ⟨lnd, and⟩ := List.nodup_cons.mp o3
    have rdw : Rd h₁ w d bs := gt.rd
    have lb : l ∉ bs := fun q => by have := new l q; rw [hl] at this; cases this
    have hup : (h₁.update l (Obj.mapSeq fun xs => xs.push w)).get? l = some { cls := .type "list", data := .seq (vs ++ [w]).toArray (if ((vs ++ [w]).toArray).size == vs.toArray.size then c else c + 1) } := by
      simpa using IsL.update (n := c) hl₁ (fun xs => xs.push w)
    refine ⟨_, hq, _, tk, rfl, S.change O gt.ext (d' := .py (.list (ds ++ [d]))) (as := l :: (as ++ bs)) hx (a := l) (by rw [hfp]; exact .head _) eff nt (o1.ext gt.ext) ?_ ?_ ?_ ⟨_, hup⟩⟩
    · refine Rd.list hup ?_
      refine RdAll.append ((rs.ext gt.ext).off (eff.off (fun b hb q => lnd (q ▸ hb)) fun b q => q ▸ nt)) ?_
      have := RdAll.one (rdw.off (eff.off (fun b hb q => lb (q ▸ hb)) fun b q => q ▸ nt))
      exact this
    · refine List.nodup_cons.mpr ⟨fun q => ?_, nodup_append and nd fun b hb hb' => ?_⟩
      · rcases List.mem_append.mp q with q | q
        · exact lnd q
        · exact lb q
      · obtain ⟨o, ho⟩ := (rs : RdAll s.heap vs ds as).dom b hb
        have := new b hb'; rw [ho] at this; cases this
    · intro b hb
      rcases List.mem_cons.mp hb with rfl | hb
      · left; rw [hfp]; exact .head _
      · rcases List.mem_append.mp hb with hb | hb
        · left; rw [hfp]; exact .tail _ hb
        · right; exact new b hb
end
end Mine

namespace Mine

section
variable {K : Cx} {lv : Bool} {n : Nat} {sc : Scope} {X Y Z Z' : Addr → Prop} {g : Addr → Option Obj} {sh ow : List (Str × D)} {A : Around} {env : Env} {h h' : Heap} {fp : Str → List Addr} {x : Str} {d : D} {v : Value} {c : Addr}

theorem St.moreXP (S : St K lv n sc X g sh ow A env h) (e : Ext h h') (hY : ∀ a, Y a → h.get? a = none ∧ ∃ o, h'.get? a = some o) : St K lv n sc (fun a => X a ∨ Y a) g sh ow A env h' := by
  obtain ⟨fp, O⟩ := S.vars
  have S' := S.ext e
  refine ⟨S'.room, S'.ok, S'.hsc, S'.henv, S'.frame, S'.base, S'.bK, S'.new, fun a ha => ha.elim (S'.dom a) fun q => (hY a q).2, S'.top, fp, ⟨fun y dy hy => ?_, O.apart, fun y dy hy => ?_⟩⟩
  · obtain ⟨u, h1, h2, h3, h4⟩ := O.own y dy hy
    exact ⟨u, h1.ext e, h2.ext e, h3, fun a ha => ⟨(h4 a ha).1, (h4 a ha).2.1, fun q => q.elim (h4 a ha).2.2 fun q => by obtain ⟨o, ho⟩ := h2.dom a ha; rw [(hY a q).1] at ho; cases ho⟩⟩
  · obtain ⟨u, as, h1, h2, h3⟩ := O.shared y dy hy
    exact ⟨u, as, h1.ext e, h2.ext e, fun a ha => ⟨(h3 a ha).1, (fun q => q.elim (h3 a ha).2.1 fun q => by obtain ⟨o, ho⟩ := h2.dom a ha; rw [(hY a q).1] at ho; cases ho), (h3 a ha).2.2⟩⟩

end

section
variable {K : Cx} {lv : Bool} {n : Nat} {sc : Scope} {sh ow : List (Str × D)} {Q : Out → Prop} {x y : Str} {px py pos tp vp p1 p2 : Pos} {k k2 : Nat}

end
end Mine

namespace Mine

def iLL (R : List (List Int)) : PyData := .list (R.map iL)
theorem iLL_eq (R : List (List Int)) : iLL R = .list ((R.map (List.map PyData.int)).map .list) := by unfold iLL; rw [List.map_map]; rfl
theorem le_size {n : Nat} (h : n ≤ 63) : n ≤ sizeLine := by rw [sizeLine_eq]; omega

theorem Sub.del {l ow : List (Str × D)} {y : Str} (t : Sub l ow) (h : l.lookup y = none) : Sub l (del y ow) := fun x d hx => by
  have q : x ≠ y := fun q => by rw [q, h] at hx; cases hx
  rw [lookup_del, if_neg q]; exact t x d hx
theorem Ex.subs2 {K lv n sc sh ow} {l l2 : List (Str × D)} {ss : List Stmt} {Q : Out → Prop} (t : Sub l sh) (t2 : Sub l2 ow) (h : Ex K lv n sc l l2 ss Q) : Ex K lv n sc sh ow ss Q := h.sub t t2
section
variable {K : Cx} {n : Nat} {sc scope : Scope} {ρ : List (Str × D)} {a b iter : Expr} {p px pos cpos lp : Pos} {fa : Bool} {R : List (List Int)} {x : Str}

theorem mg3_ints (R : List (List Int)) : mg3 PyData.eqv (R.map (List.map PyData.int)) = ((m3 R).1.map .int, (m3 R).2.1.map (List.map .int), (m3 R).2.2) := mg3_map (f := PyData.int) (ea := beq') (fun x y => by simp only [PyData.eqv, beq']; rfl) R

end

section
variable {K : Cx} {n : Nat} {sc : Scope} {ρ : List (Str × D)} {a b : Expr} {p pos : Pos} {fa fb : Bool} {xs : List Int} {j : Nat}
theorem Ev.itemIL (ha : Ev K n sc ρ a (.py (iL xs)) fa) (hb : Ev K n sc ρ b (.py (.int j)) fb) (hj : j < xs.length) (hsz : xs.length ≤ sizeLine)
    (hs : ∀ o j, subscripted b false o j = operate [o, j] (getItem o j) := by intro _ _; rfl) : Ev K n sc ρ (.Subscript a b pos) (.py (.int (xs.getD j 0))) false :=
  Ev.item (ds := xs.map .int) ha hb (Int.natCast_nonneg _) (by simp [hj, List.getD_eq_getElem?_getD]) (by simpa using hsz) hs
end

theorem tot_le {α : Type} {R : List (List α)} {b : Nat} (h : ∀ r ∈ R, r.length ≤ b) : tot R ≤ R.length * b := by
  induction R with
  | nil => simp [tot]
  | cons r R ih =>
    rw [tot_cons, List.length_cons, Nat.add_mul, Nat.one_mul]
    have := h r (.head _)
    have := ih fun q hq => h q (.tail _ hq)
    omega
section
variable {K : Cx} {n : Nat} {P R : List (List Int)}
end
theorem EvIt.cast {K n sc ρ} {e : Expr} {ds ds' : List PyData} (h : EvIt K n sc ρ e ds) (q : ds = ds') : EvIt K n sc ρ e ds' := q ▸ h
section
variable {K : Cx} {n : Nat} {sc : Scope} {ρ : List (Str × D)} {a b c : Expr} {p pos : Pos} {fa fb fc : Bool} {P R : List (List Int)} {k : Nat}
theorem Ev.addLL (ha : Ev K n sc ρ a (.py (iLL P)) fa) (hb : Ev K n sc ρ b (.py (iLL R)) fb) (hsz : P.length + R.length ≤ sizeLine) : Ev K n sc ρ (.BinOp a .Add b pos) (.py (iLL (P ++ R))) (fa && fb) :=
  Ev.cast (Ev.addL ha hb (by simpa using hsz)) (by unfold iLL; rw [List.map_append])
theorem Ev.itemLL (ha : Ev K n sc ρ a (.py (iLL P)) fa) (hb : Ev K n sc ρ b (.py (.int k)) fb) (hk : k < P.length) (hsz : P.length ≤ sizeLine)
    (hs : ∀ o j, subscripted b false o j = operate [o, j] (getItem o j) := by intro _ _; rfl) : Ev K n sc ρ (.Subscript a b pos) (.py (iL (P.getD k []))) false :=
  Ev.item (ds := P.map iL) ha hb (Int.natCast_nonneg _) (by simp [hk, List.getD_eq_getElem?_getD]) (by simpa using hsz) hs
end
end Mine

namespace Mine

theorem RdAll.setAt {h : Heap} : ∀ {vs : List Value} {ds : List PyData} {as : List Addr}, RdAll h vs ds as → as.Nodup → ∀ {i : Nat} {es : List PyData}, ds[i]? = some (.list es) →
    ∃ (b : Addr) (ws : List Value) (c : Nat) (asb : List Addr), vs[i]? = some (.ref b) ∧ h.get? b = some { cls := .type "list", data := .seq ws.toArray c } ∧ RdAll h ws es asb ∧ b ∈ as ∧ b ∉ asb ∧
      ∀ (h' : Heap) (ws' : List Value) (c' : Nat) (es' : List PyData), Eff (· = b) h h' → h'.get? b = some { cls := .type "list", data := .seq ws'.toArray c' } → RdAll h' ws' es' asb → RdAll h' vs (ds.set i (.list es')) as
  | _, _, _, .nil, _, i, es, e => by simp at e
  | _, _, _, .cons (v := v) (vs := vs) (d := d) (ds := ds) (as := a) (bs := bs) r rs, nd, 0, es, e => by
    obtain rfl : d = .list es := by simpa using e
    obtain ⟨n1, n2, n3⟩ := List.nodup_append.mp nd
    cases r with
    | @list b ws c _ asb hb rb =>
      refine ⟨b, ws, c, asb, rfl, hb, rb, by simp, (List.nodup_cons.mp n1).1, fun h' ws' c' es' ef hb' rb' => ?_⟩
      refine RdAll.cons (Rd.list hb' rb') (rs.off (ef.off (fun x hx q => n3 b (.head _) x hx q.symm) fun x q => q ▸ noTup_list hb))
  | _, _, _, .cons (v := v) (vs := vs) (d := d) (ds := ds) (as := a) (bs := bs) r rs, nd, i + 1, es, e => by
    obtain ⟨n1, n2, n3⟩ := List.nodup_append.mp nd
    obtain ⟨b, ws, c, asb, h1, h2, h3, h4, h5, h6⟩ := rs.setAt n2 (i := i) (es := es) (by simpa using e)
    refine ⟨b, ws, c, asb, by simpa using h1, h2, h3, List.mem_append_right _ h4, h5, fun h' ws' c' es' ef hb' rb' => ?_⟩
    exact RdAll.cons (r.off (ef.off (fun x hx q => n3 x hx b h4 q) fun x q => q ▸ noTup_list h2)) (h6 h' ws' c' es' ef hb' rb')

section
variable {K : Cx} {lv : Bool} {n : Nat} {sc : Scope} {sh ow : List (Str × D)} {Q : Out → Prop} {x : Str} {p p' sp pos cp : Pos} {e idx : Expr} {ds es : List PyData} {d : PyData} {fr fi : Bool} {i : Nat} {k : Int}

/-- `x[k].append(e)`, e without a list in it -/
theorem Ex1.itemAppend (hx : ow.lookup x = some (.py (.list ds))) (hk : Ev K n sc (ow ++ sh) idx (.py (.int k)) fi) (hi : (0 ≤ k ∧ k.toNat = i) ∨ (k < 0 ∧ -(ds.length : Int) ≤ k ∧ (k + ds.length).toNat = i)) (hsz0 : ds.length ≤ sizeLine) (hes : ds[i]? = some (.list es))
    (h : Ev K n sc (ow ++ sh) e (.py d) fr) (hfp : ∀ {h v as}, Rd h v d as → as = []) (hsz : es.length ≤ sizeLine) (hq : Q (.next sh (put x (.py (.list (ds.set i (.list (es ++ [d]))))) ow)))
    (hd : (x == ("__debug__" : Str)) = false := by decide) (hc : (x == ("__classdict__" : Str)) = false := by decide)
    (hsub : ∀ o j, subscripted idx false o j = operate [o, j] (getItem o j) := by intro _ _; rfl)
    (hline : (p'.endLine == cp.line) = true := by rfl) (ht : ∀ env, backTo cp (starEach [e] env) = [(false, eval e env)] := by intro _; rfl) :
    Ex1 K lv n sc sh ow (.Expr (.Call (.Attribute (.Subscript (.Name x p) idx sp) "append" p') [e] [] cp) pos) Q := Hide.mk fun {A env s X g E} S => by
  obtain ⟨fp, O⟩ := S.vars
  obtain ⟨v, o1, o2, o3, o4⟩ := O.own x _ hx
  refine wpAny_Expr_any (wpAny_Call_method1_late (by rfl) hline (ht env) (Subscript_ (wpAny_Name (loadName_at S.henv o1 ?_ hc) hd))) (interactive_false S.henv) (by rfl)
  refine wpAny_mono (hk.run S.inAll) (fun vk s₁ t => ?_) fun _ _ x => x
  obtain ⟨h₁, tk, as₀, rfl, g₁⟩ := t
  have rk : Rd h₁ vk (.int k) as₀ := g₁.rd
  cases rk with
  | int _ tk' =>
  have o2' : Rd h₁ v (.list ds) (fp x) := Rd.ext o2 g₁.ext
  generalize hfpx : fp x = fx at o2' o3 o4
  cases o2' with
  | @list l vs c _ as hl rs =>
    obtain ⟨lnd, and⟩ := List.nodup_cons.mp o3
    obtain ⟨b, ws, cb, asb, h1, h2, h3, h4, h5, h6⟩ := rs.setAt and hes
    have hlen : vs.length = ds.length := rs.length
    have hil : i < ds.length := (List.getElem?_eq_some_iff.mp hes).1
    have hl' : ({ s with heap := h₁, toks := tk } : Shared).heap.IsList l vs.toArray := ⟨_, hl, rfl, _, rfl⟩
    have hget : ∀ {Q' : Value → Shared → Prop}, Q' (.ref b) { s with heap := h₁, toks := tk } → wpAny (model K.prog K.w) A (getItem (.ref l) (.int k tk')) Q' E { s with heap := h₁, toks := tk } := fun {Q'} hq' => by
      rw [sizeLine_eq] at hsz0
      rcases hi with ⟨k0, rfl⟩ | ⟨k0, k1, rfl⟩
      · exact wpAny_getItem_list hl' k0 (by omega) (by simpa using h1) hq'
      · refine wpAny_getItem_list_neg hl' k0 (by simp only [List.size_toArray, hlen]; exact k1) (by omega) ?_ hq'
        simp only [List.size_toArray, hlen]; simpa using h1
    refine tail_any hl'.typeIs slot_list_getitem.lookup (hget ?_) (hsub _ _)
    refine ⟨"list", "list.append", F.plainAttrs_list, F.slot_list_append, F.type_list_append, ⟨_, h2, rfl⟩, fun a ha => by cases ha; exact ⟨_, h2, rfl⟩, PySem.P.append_list (wpAny_mono (h.run (s := { s with heap := h₁, toks := tk }) (S.inAll.ext g₁.ext)) (fun w s₂ t => ?_) fun _ _ x => x)⟩
    obtain ⟨h₃, tk₃, bs, rfl, g₃⟩ := t
    have rw₃ : Rd h₃ w d bs := g₃.rd
    obtain rfl := hfp rw₃
    have hb₃ := g₃.ext _ _ h2
    refine ⟨ws.toArray, cb, by rw [List.size_toArray, h3.length]; exact hsz, hb₃, ?_⟩
    have hs : Heap.SameBut b h₃ (h₃.update b (Obj.mapSeq fun xs => xs.push w)) := Heap.SameBut.update ..
    have eff := Eff.of_sameBut hs
    have nt : NoTup h₃ b := noTup_list hb₃
    have lb : l ≠ b := fun q => lnd (q ▸ h4)
    have hup : (h₃.update b (Obj.mapSeq fun xs => xs.push w)).get? b = some { cls := .type "list", data := .seq (ws ++ [w]).toArray (if ((ws ++ [w]).toArray).size == ws.toArray.size then cb else cb + 1) } := by
      simpa using IsL.update (n := cb) hb₃ (fun xs => xs.push w)
    have xe := g₁.ext.trans g₃.ext
    refine ⟨_, hq, _, tk₃, rfl, S.change O xe (d' := .py (.list (ds.set i (.list (es ++ [d]))))) (as := l :: as) hx (a := b) (by rw [hfpx]; exact .tail _ h4) eff nt (o1.ext xe) ?_ o3 (fun c hc => .inl (by rw [hfpx]; exact hc)) ⟨_, hup⟩⟩
    refine Rd.list ((hs.2 l lb).trans (g₃.ext _ _ hl)) ?_
    obtain ⟨b', ws', cb', asb', i1, i2, i3, i4, i5, i6⟩ := (rs.ext g₃.ext).setAt and hes
    obtain rfl : b = b' := by rw [h1] at i1; cases i1; rfl
    have : ws' = ws := by rw [hb₃] at i2; injection i2 with i2; injection i2 with _ _ i2; injection i2 with i2; simpa using i2.symm
    subst this
    refine i6 _ _ _ _ eff hup ?_
    have r1 := i3.off (eff.off (fun c hc q => i5 (q ▸ hc)) fun c q => q ▸ nt)
    have r2 := RdAll.one (rw₃.off (eff.off (as := []) nofun fun c q => q ▸ nt))
    simpa using r1.append r2
end
end Mine
namespace Mine
section
variable {K : Cx} {lv : Bool} {n : Nat} {sc : Scope} {sh ow : List (Str × D)} {Q : Out → Prop} {x : Str} {p p' pos cp : Pos} {e : Expr} {ds es : List PyData}

end
end Mine

namespace Mine

section
variable {prog : Program} {w : World} {A : Around} {E : Value → Shared → Prop} {s : Shared} {a : Addr} {es : Array (Int × Value)} {ep : Nat} {t : SetTable}

end

section
variable {prog : Program} {w : World} {A : Around} {E : Value → Shared → Prop} {s : Shared} {r : Addr} {Q : Bool → Shared → Prop}
end
end Mine

namespace Mine

theorem intsAre_of {es : List Value} (h : ∀ v ∈ es, ∃ k t, v = .int k t) : ∃ ns, IntsAre es ns := by
  induction es with
  | nil => exact ⟨[], .nil⟩
  | cons v es ih =>
    obtain ⟨ns, hn⟩ := ih fun u hu => h u (.tail _ hu)
    obtain ⟨k, t, rfl⟩ := h v (.head _)
    exact ⟨k :: ns, .cons k t hn⟩
theorem IntsAre.len {es : List Value} {ns : List Int} (h : IntsAre es ns) : es.length = ns.length := by
  induction h with
  | nil => rfl
  | cons _ _ _ ih => simp [ih]

section
variable {K : Cx} {n : Nat} {xs : List Int}

end
end Mine

namespace Mine

section
variable {K : Cx} {n : Nat} {sc : Scope} {ρ : List (Str × D)} {a b : Expr} {pos p : Pos} {fa fb fr : Bool} {bs : List Bool} {xs : List Int} {R : List (List Int)}

variable {iter : Expr} {scope : Scope} {x y : Str} {px py cpos : Pos}
end
end Mine

namespace Mine

section
variable {prog : Program} {w : World} {A : Around} {E : Value → Shared → Prop} {s : Shared}
end

section
variable {K : Cx} {lv : Bool} {n : Nat} {sc : Scope} {sh ow : List (Str × D)} {Q : Out → Prop} {x : Str} {p p' pos cp : Pos} {e : Expr} {xs : List Int} {i : Int} {fr : Bool}
end
end Mine

namespace Mine

/-! ### `_law_rows`: rows that rise -/
def lastRow (R : List (List Int)) : List Int := R.getD (R.length - 1) []
def addLast (R : List (List Int)) (v : Int) : List (List Int) := R.set (R.length - 1) (lastRow R ++ [v])
def opens (R : List (List Int)) (x : Int) : Bool := (x % 2 == 1) || (!(lastRow R == []) && decide (x / 2 ≤ (lastRow R).getLastD 0))
def rise (R : List (List Int)) (x : Int) : List (List Int) := addLast (if opens R x then R ++ [[]] else R) (x / 2)
section
variable {K : Cx} {n : Nat} {xs : List Int} {sh ow : List (Str × D)} {Q : Out → Prop}
end
end Mine

namespace Mine

/-! ### the merge by what it has told so far -/
section
variable {α : Type} [DecidableEq α] {R : List (List α)} {c : α} {p : List α}
def rem (p : List α) (R : List (List α)) : List (List α) := R.map fun r => r.filter fun x => decide (x ∉ p)
/-- y waits for one that is not told yet -/
def Blk (p : List α) (R : List (List α)) (y : α) : Prop := ∃ r ∈ R, ∃ z, z ∉ p ∧ [z, y].Sublist r

theorem mem_tail_iff {y : α} : ∀ {l : List α}, y ∈ l.tail ↔ ∃ z, [z, y].Sublist l
  | [] => by simp
  | x :: t => by
    constructor
    · intro h; exact ⟨x, (List.singleton_sublist.mpr h).cons_cons x⟩
    · rintro ⟨z, h⟩
      cases h with
      | cons _ h => exact h.mem (by simp)
      | cons_cons _ h => exact h.mem (by simp)
theorem pair_filter {z y : α} {P : α → Bool} {r : List α} : [z, y].Sublist (r.filter P) ↔ [z, y].Sublist r ∧ P z = true ∧ P y = true := by
  constructor
  · intro h
    exact ⟨h.trans List.filter_sublist, (List.mem_filter.mp (h.mem (by simp))).2, (List.mem_filter.mp (h.mem (by simp))).2⟩
  · rintro ⟨h, h1, h2⟩
    have := h.filter P
    simpa [h1, h2] using this
theorem tail_rem {r : List α} {y : α} : y ∈ (r.filter fun x => decide (x ∉ p)).tail ↔ y ∉ p ∧ ∃ z, z ∉ p ∧ [z, y].Sublist r := by
  rw [mem_tail_iff]
  constructor
  · rintro ⟨z, h⟩
    obtain ⟨h0, h1, h2⟩ := pair_filter.mp h
    exact ⟨of_decide_eq_true h2, z, of_decide_eq_true h1, h0⟩
  · rintro ⟨h2, z, h1, h0⟩
    exact ⟨z, pair_filter.mpr ⟨h0, decide_eq_true h1, decide_eq_true h2⟩⟩
theorem rem_tail {y : α} (hy : y ∉ p) : (∃ r ∈ rem p R, y ∈ r.tail) ↔ Blk p R y := by
  constructor
  · rintro ⟨r', hr', h⟩
    obtain ⟨r, hr, rfl⟩ := List.mem_map.mp hr'
    obtain ⟨_, z, hz⟩ := tail_rem.mp h
    exact ⟨r, hr, z, hz⟩
  · rintro ⟨r, hr, z, hz⟩
    exact ⟨_, List.mem_map_of_mem hr, tail_rem.mpr ⟨hy, z, hz⟩⟩

theorem cand_idx : ∀ {R S : List (List α)} {i : Nat} {x : α} {t : List α}, R[i]? = some (x :: t) → okHead beq' S x = true → (∀ (j : Nat) (y : α) (u : List α), j < i → R[j]? = some (y :: u) → okHead beq' S y = false) →
    (R.findSome? fun r => match r with | [] => none | x :: _ => if okHead beq' S x then some x else none) = some x
  | [], S, i, x, t, h, _, _ => by simp at h
  | r :: R, S, 0, x, t, h, ho, _ => by
    simp at h; subst h
    simp [List.findSome?_cons, ho]
  | r :: R, S, i + 1, x, t, h, ho, hb => by
    have ih := cand_idx (R := R) (S := S) (i := i) (x := x) (t := t) (by simpa using h) ho fun j y u hj hy => hb (j + 1) y u (by omega) (by simpa using hy)
    rw [List.findSome?_cons]
    cases r with
    | nil => exact ih
    | cons y u =>
      have := hb 0 y u (by omega) rfl
      simp only [this]; exact ih
theorem cand_inv : ∀ {R S : List (List α)} {x : α}, (R.findSome? fun r => match r with | [] => none | x :: _ => if okHead beq' S x then some x else none) = some x →
    ∃ (i : Nat) (t : List α), R[i]? = some (x :: t) ∧ okHead beq' S x = true ∧ ∀ (j : Nat) (y : α) (u : List α), j < i → R[j]? = some (y :: u) → okHead beq' S y = false
  | [], S, x, h => by simp at h
  | r :: R, S, x, h => by
    rw [List.findSome?_cons] at h
    have rec' : (R.findSome? fun r => match r with | [] => none | x :: _ => if okHead beq' S x then some x else none) = some x → (∀ y u, r = y :: u → okHead beq' S y = false) →
        ∃ (i : Nat) (t : List α), (r :: R)[i]? = some (x :: t) ∧ okHead beq' S x = true ∧ ∀ (j : Nat) (y : α) (u : List α), j < i → (r :: R)[j]? = some (y :: u) → okHead beq' S y = false := fun h h0 => by
      obtain ⟨i, t, h1, h2, h3⟩ := cand_inv h
      refine ⟨i + 1, t, by simpa using h1, h2, fun j y u hj hy => ?_⟩
      cases j with
      | zero => exact h0 y u (by simpa using hy)
      | succ j => exact h3 j y u (by omega) (by simpa using hy)
    cases r with
    | nil => exact rec' h nofun
    | cons y u =>
      by_cases q : okHead beq' S y = true
      · simp only [q, if_true] at h
        cases h
        exact ⟨0, u, rfl, q, fun j _ _ hj => absurd hj (by omega)⟩
      · simp only [q, if_false] at h
        exact rec' h fun y' u' e => by cases e; simpa using q

theorem okHead_rem {y : α} (hy : y ∉ p) : okHead beq' (rem p R) y = true ↔ ¬ Blk p R y := by
  rw [okHead_iff, ← rem_tail hy]
  exact ⟨fun h ⟨r, hr, h'⟩ => h r hr h', fun h r hr h' => h ⟨r, hr, h'⟩⟩
theorem okHead_rem' {y : α} (hy : y ∉ p) : okHead beq' (rem p R) y = false ↔ Blk p R y := by
  rw [← Bool.not_eq_true, okHead_rem hy]; exact ⟨fun h => Classical.byContradiction h, fun h q => q h⟩

theorem rem_get {i : Nat} {r : List α} (h : R[i]? = some r) : (rem p R)[i]? = some (r.filter fun x => decide (x ∉ p)) := by
  unfold rem; rw [List.getElem?_map, h]; rfl
theorem rem_get' {i : Nat} {r' : List α} (h : (rem p R)[i]? = some r') : ∃ r, R[i]? = some r ∧ r' = r.filter fun x => decide (x ∉ p) := by
  unfold rem at h; rw [List.getElem?_map] at h
  cases q : R[i]? with
  | none => rw [q] at h; cases h
  | some r => rw [q] at h; exact ⟨r, rfl, by simpa using h.symm⟩

theorem snocInd {β : Type} {motive : List β → Prop} (nil : motive []) (snoc : ∀ p c, motive p → motive (p ++ [c])) (l : List β) : motive l := by
  have : ∀ l : List β, motive l.reverse := fun l => by
    induction l with
    | nil => exact nil
    | cons x l ih => rw [List.reverse_cons]; exact snoc _ _ ih
  have h := this l.reverse
  rwa [List.reverse_reverse] at h

/-- the next one: not told, waiting for none, in a row ahead of which every one waits -/
def Next (p : List α) (R : List (List α)) (c : α) : Prop :=
  ∃ (i : Nat) (r : List α), R[i]? = some r ∧ c ∈ r ∧ c ∉ p ∧ ¬ Blk p R c ∧ ∀ (j : Nat) (r' : List α), j < i → R[j]? = some r' → ∀ y ∈ r', y ∉ p → Blk p R y

theorem cand_rem : cand beq' (rem p R) = some c ↔ Next p R c := by
  constructor
  · intro h
    obtain ⟨i, t, h1, h2, h3⟩ := cand_inv (R := rem p R) (S := rem p R) h
    obtain ⟨r, hr, e⟩ := rem_get' h1
    have hc : c ∈ r.filter fun x => decide (x ∉ p) := by rw [← e]; exact .head _
    have hcp : c ∉ p := of_decide_eq_true (List.mem_filter.mp hc).2
    refine ⟨i, r, hr, (List.mem_filter.mp hc).1, hcp, (okHead_rem hcp).mp h2, fun j r' hj hr' y hy hyp => ?_⟩
    have hm : y ∈ r'.filter fun x => decide (x ∉ p) := List.mem_filter.mpr ⟨hy, decide_eq_true hyp⟩
    cases q : r'.filter fun x => decide (x ∉ p) with
    | nil => rw [q] at hm; cases hm
    | cons y0 u =>
      rw [q] at hm
      rcases List.mem_cons.mp hm with rfl | hm
      · exact (okHead_rem' hyp).mp (h3 j y u hj (by rw [rem_get hr', q]))
      · exact (rem_tail hyp).mp ⟨_, List.mem_of_getElem? (rem_get hr'), by rw [q]; exact hm⟩
  · rintro ⟨i, r, hr, hc, hcp, hb, hall⟩
    have hm : c ∈ r.filter fun x => decide (x ∉ p) := List.mem_filter.mpr ⟨hc, decide_eq_true hcp⟩
    cases q : r.filter fun x => decide (x ∉ p) with
    | nil => rw [q] at hm; cases hm
    | cons y0 u =>
      rw [q] at hm
      rcases List.mem_cons.mp hm with rfl | hm
      · refine cand_idx (R := rem p R) (S := rem p R) (i := i) (x := c) (t := u) (by rw [rem_get hr, q]) ((okHead_rem hcp).mpr hb) fun j y v hj hy => ?_
        obtain ⟨r', hr', e⟩ := rem_get' hy
        have hm' : y ∈ r'.filter fun x => decide (x ∉ p) := by rw [← e]; exact .head _
        have hyp : y ∉ p := of_decide_eq_true (List.mem_filter.mp hm').2
        exact (okHead_rem' hyp).mpr (hall j r' hj hr' y (List.mem_filter.mp hm').1 hyp)
      · exact absurd ((rem_tail hcp).mp ⟨_, List.mem_of_getElem? (rem_get hr), by rw [q]; exact hm⟩) hb

theorem strike_filter {r : List α} (h : c ∉ r.tail) : strike1 beq' c r = r.filter fun x => decide (x ≠ c) := by
  cases r with
  | nil => rfl
  | cons x t =>
    have ht : (t.filter fun x => decide (x ≠ c)) = t := List.filter_eq_self.mpr fun y hy => decide_eq_true fun q => h (q ▸ hy)
    rw [strike_cons, List.filter_cons]
    by_cases q : x = c
    · rw [if_pos q, if_neg (by simpa using q), ht]
    · rw [if_neg q, if_pos (by simpa using q), ht]
theorem rem_nil (R : List (List α)) : rem [] R = R := by
  unfold rem
  have : ∀ r : List α, (r.filter fun x => decide (x ∉ ([] : List α))) = r := fun r => List.filter_eq_self.mpr (by simp)
  simp only [this]; exact List.map_id _
theorem rem_rem (p q : List α) (R : List (List α)) : rem q (rem p R) = rem (p ++ q) R := by
  unfold rem
  rw [List.map_map]
  refine List.map_congr_left fun r _ => ?_
  show (r.filter _).filter _ = _
  rw [List.filter_filter]
  refine List.filter_congr fun x _ => ?_
  simp [Bool.and_comm]
theorem rem_strike (h : ∀ r ∈ rem p R, c ∉ r.tail) : (rem p R).map (strike1 beq' c) = rem (p ++ [c]) R := by
  rw [← rem_rem]
  refine List.map_congr_left fun r hr => ?_
  rw [strike_filter (h r hr)]
  refine List.filter_congr fun x _ => ?_
  simp

/-- p is what is told first -/
def Runs (R : List (List α)) (p : List α) : Prop := ∀ q c r, p = q ++ c :: r → Next q R c
theorem Runs.take (h : Runs R p) (k : Nat) : Runs R (p.take k) := fun q c r e => by
  refine h q c (r ++ p.drop k) ?_
  rw [← List.cons_append, ← List.append_assoc, ← e, List.take_append_drop]
theorem m3_step (h : Next p R c) : m3 (rem p R) = (c :: (m3 (rem (p ++ [c]) R)).1, (m3 (rem (p ++ [c]) R)).2) := by
  have hc := cand_rem.mpr h
  rw [m3_some hc, rem_strike (okHead_iff.mp (cand_spec hc).2)]
theorem m3_runs : ∀ {p : List α}, Runs R p → m3 R = (p ++ (m3 (rem p R)).1, (m3 (rem p R)).2) := by
  intro p
  induction p using snocInd with
  | nil => intro _; rw [rem_nil]; rfl
  | snoc p c ih =>
    intro h
    have h0 : Runs R p := by simpa using h.take p.length
    rw [ih h0, m3_step (h p c [] rfl)]
    simp
end
end Mine

namespace Mine

section
variable {K : Cx} {n : Nat} {sc scope : Scope} {ρ : List (Str × D)} {iter tst : Expr} {p1 p2 p3 p4 p5 p6 p7 p8 p9 p10 cpos pos : Pos} {z : Nat} {R : List (List Int)} {P : List Int → Nat → Bool}
theorem Ev.revIL {a b : Expr} {pos p : Pos} {fa fb : Bool} {xs : List Int} (ha : Ev K n sc ρ a (.py (iL xs)) fa) (hb : Ev K n sc ρ b (.py (.int (-1))) fb) (hsz : xs.length ≤ sizeLine) :
    Ev K n sc ρ (.Subscript a (.Slice none none (some b) p) pos) (.py (iL xs.reverse)) true :=
  Ev.cast (Ev.sliceRev (ds := xs.map .int) ha hb (by simpa using hsz) (fun _ => flat_ints xs)) (by unfold iL; rw [List.map_reverse])
end

/-- told is a right merge: the whole test of it -/
def keeps (told : List Int) (R : List (List Int)) : Bool := (R.filter fun r => !((told.filter fun x => r.contains x) == r)) == []
def without (h : List Int) (R : List (List Int)) : List (List Int) := R.map fun r => r.filter fun x => !h.contains x
end Mine

namespace Mine

/-! ### rows among which there is an order -/
section
variable {α : Type} [DecidableEq α] {c z y : α} {q : List α} {A B : List (List α)} {T : List α} {R : List (List α)}
theorem pair_append {S U : List α} (h : [z, c].Sublist (S ++ U)) : [z, c].Sublist S ∨ (z ∈ S ∧ c ∈ U) ∨ [z, c].Sublist U := by
  obtain ⟨l1, l2, e, h1, h2⟩ := List.sublist_append_iff.mp h
  cases l1 with
  | nil => simp at e; subst e; exact .inr (.inr h2)
  | cons a l1 =>
    simp at e
    obtain ⟨rfl, e⟩ := e
    cases l1 with
    | nil => simp at e; subst e; exact .inr (.inl ⟨h1.mem (by simp), h2.mem (by simp)⟩)
    | cons b l1 =>
      simp at e
      obtain ⟨rfl, e, _⟩ := e
      subst e; exact .inl h1
theorem pair_append' {S U : List α} (h1 : z ∈ S) (h2 : c ∈ U) : [z, c].Sublist (S ++ U) :=
  (List.singleton_sublist.mpr h1).append (List.singleton_sublist.mpr h2)
/-- in a list with each once: what stands ahead -/
theorem pair_split {a b : List α} (nd : (a ++ c :: b).Nodup) (h : [z, c].Sublist (a ++ c :: b)) : z ∈ a := by
  have hn := List.nodup_append.mp nd
  have hcb := (List.nodup_cons.mp hn.2.1).1
  have hca : c ∉ a := fun h => hn.2.2 c h c (.head _) rfl
  rcases pair_append h with h | ⟨h, _⟩ | h
  · exact absurd (h.mem (by simp)) hca
  · exact h
  · cases h with
    | cons _ h => exact absurd (h.mem (by simp)) hcb
    | cons_cons _ h => exact absurd (h.mem (by simp)) hcb
end

end Mine

namespace Mine

/-! ### a set grown in one pass -/
section
variable {T : List Int → Int → Bool} {E : Int → Int → Prop} {l S : List Int} {x y : Int}
end

end Mine

namespace Mine

/-! ### the merge, its refusal caught in a function of the text -/
section
variable {K : Cx} {A : Around} {n : Nat} {s : Shared} {As : List Addr} {l fa fm : Addr} {o om : Obj} {pm cd doc pmm cdm docm : Value} {f : Addr → List PyData} {Q : Value → Shared → Prop} {E : Value → Shared → Prop} {outer : List Env}
theorem globG {A' : Around} {h : Heap} {env : Env} {x : Str} {v : Value} {pos : Pos} {s : Shared} (henv : EnvOk env) (gg : s.heap.Ns mainGlobals K.mg) (gb : s.heap.Ns builtinsNs K.mb) (g' : GV K x v) (hx : env.scope.names.lookup x = some .globalImplicit) (hq : Q v s) (hd : (x == ("__debug__" : Str)) = false := by decide) :
    wpAny (model K.prog K.w) A' (eval (.Name x pos) env) Q E s := by
  refine Calls.Name_function_global henv.kind hx ?_ hd
  have hg : s.heap.Ns env.globals K.mg := by rw [henv.globals]; exact gg
  have hb : s.heap.Ns env.builtins K.mb := by rw [henv.builtins]; exact gb
  rcases g' with g | ⟨g1, g2⟩
  · exact Calls.loadGlobal_global hg g hq
  · exact Calls.loadGlobal_builtin hg g1 hb g2 hq

theorem Exc.off {h h' : Heap} {e L : Addr} {m : Str → Option Value} (x : Exc h e) (hn : h.Ns L m) (hs : Heap.SameBut L h h') : Exc h' e := by
  obtain ⟨t, u, ⟨o, vs, h1, h2, h3⟩, ht⟩ := x
  obtain ⟨oL, es, ep, hoL, hdL, _⟩ := hn
  obtain ⟨ot, kt, ht1, ht2, ht3⟩ := ht
  have eL : e ≠ L := fun q => by rw [q, hoL] at h1; cases h1; rw [hdL] at h3; simp at h3
  have tL : t ≠ L := fun q => by rw [q, hoL] at ht1; cases ht1; rw [hdL] at ht3; simp at ht3
  exact ⟨t, u, ⟨o, vs, (hs.2 e eL).trans h1, h2, h3⟩, ot, kt, (hs.2 t tL).trans ht1, ht2, ht3⟩

end
end Mine

namespace Mine

section
variable {K : Cx} {lv : Bool} {n : Nat} {sc : Scope} {X Y : Addr → Prop} {g : Addr → Option Obj} {sh ow : List (Str × D)} {A : Around} {env : Env} {h h' : Heap} {fp : Str → List Addr} {x : Str} {d d' : D} {v : Value} {W : Addr → Prop}
theorem lookup_put (y : Str) : (put x d' ow).lookup y = if y = x then some d' else ow.lookup y := by
  unfold put
  rw [List.lookup_cons]
  by_cases q : y = x
  · simp [q]
  · have hb : (y == x) = false := by simpa using q
    simp only [hb, if_neg q]; rw [lookup_del, if_neg q]
/-- things that x owns are changed, the frame's slots too, and new things are laid aside -/
theorem St.changeK (S : St K lv n sc X g sh ow A env h) (O : Own K g X env sh ow fp h) (hx : ow.lookup x = some d) (hW : ∀ a, W a → a ∈ fp x)
    (k : ∀ b o, h.get? b = some o → ¬ W b → ∃ sl, h'.get? b = some { o with slots := sl } ∧ (b ≠ env.locals → sl = o.slots)) (ntW : ∀ a, W a → NoTup h a) (va : VarAt h env x v) (rd : RdD K h' v d' (fp x))
    (hY : ∀ a, Y a → h.get? a = none ∧ ∃ o, h'.get? a = some o) : St K lv n sc (fun a => X a ∨ Y a) g sh (put x d' ow) A env h' := by
  obtain ⟨v₀, o1, o2, o3, o4⟩ := O.own x d hx
  have hxs : (ow.lookup x).isSome = true := by rw [hx]; rfl
  have hWf : ∀ a, FrameAddr env a → ¬ W a := fun a ha w => (o4 a (hW a w)).2.1 ha
  have eff : Eff (fun b => W b ∨ b = env.locals) h h' := fun b o hb ho => by
    obtain ⟨sl, e1, e2⟩ := k b o ho fun w => hb (.inl w)
    rw [e2 fun q => hb (.inr q)] at e1; exact e1
  have nt : ∀ b, (W b ∨ b = env.locals) → NoTup h b := fun b q => q.elim (ntW b) fun q => q ▸ (S.frame.noSeq (.inl rfl)).noTup
  have hgE : ∀ b, (W b ∨ b = env.locals) → g b = none := fun b q => q.elim (fun w => (o4 b (hW b w)).1) fun q => q ▸ S.new _ (.inl rfl)
  have hK : ∀ b, (W b ∨ b = env.locals) → K.h₀.get? b = none := fun b q => by
    cases r : K.h₀.get? b with
    | none => rfl
    | some o => have := hgE b q; rw [S.bK b o r] at this; cases this
  have ns' : ∀ {m}, h.Ns env.locals m → h'.Ns env.locals m := fun {m} hn => by
    obtain ⟨o, es, ep, ho, hd, r⟩ := hn
    obtain ⟨sl, e, _⟩ := k _ o ho (hWf _ (.inl rfl))
    exact ⟨_, es, ep, e, hd, r⟩
  have cell' : ∀ {y c u}, env.cells.lookup y = some c → h.IsCell c u → h'.IsCell c u := fun {y c u} hc hv => by
    obtain ⟨o, ho, hd⟩ := hv
    obtain ⟨sl, e, _⟩ := k _ o ho (hWf _ (.inr ⟨y, hc⟩))
    exact ⟨_, e, hd⟩
  have va' : ∀ {y u}, VarAt h env y u → VarAt h' env y u := fun {y u} r => by
    rcases r with ⟨hl, m, hn, hm⟩ | ⟨hl, c', hc', hv⟩
    · exact .inl ⟨hl, m, ns' hn, hm⟩
    · exact .inr ⟨hl, c', hc', cell' hc' hv⟩
  have hYn : ∀ {y : D} {w : Value} {as : List Addr}, RdD K h w y as → ∀ a ∈ as, ¬ Y a := fun {y w as} r a ha q => by
    obtain ⟨o, ho⟩ := r.dom a ha; rw [(hY a q).1] at ho; cases ho
  have isome : ∀ y, ((put x d' ow).lookup y).isSome = true → (ow.lookup y).isSome = true := fun y hy => by
    rw [lookup_put] at hy
    by_cases q : y = x
    · rw [q]; exact hxs
    · rw [if_neg q] at hy; exact hy
  refine ⟨S.room, ⟨S.ok.g, S.ok.b, S.ok.lim, eff.ext S.ok.ext hK⟩, S.hsc, S.henv, ⟨let ⟨m, hn⟩ := S.frame.ns; ⟨m, ns' hn⟩, fun y c hc => let ⟨u, hu⟩ := S.frame.cells y c hc; ⟨u, cell' hc hu⟩⟩,
    fun b o hb => eff b o (fun q => by rw [hgE b q] at hb; cases hb) (S.base b o hb), S.bK, S.new, fun b hb => ?_, S.top, fp, ⟨fun y dy hy => ?_, fun y z hyz hy hz => O.apart y z hyz (isome y hy) (isome z hz), fun y dy hy => ?_⟩⟩
  · rcases hb with hb | hb
    · obtain ⟨o, ho⟩ := S.dom b hb
      obtain ⟨sl, e, _⟩ := k b o ho fun w => (o4 b (hW b w)).2.2 hb
      exact ⟨_, e⟩
    · exact (hY b hb).2
  · rw [lookup_put] at hy
    by_cases q : y = x
    · subst q; rw [if_pos rfl] at hy; cases hy
      exact ⟨v, va' va, rd, o3, fun b hb => ⟨(o4 b hb).1, (o4 b hb).2.1, fun r => r.elim (o4 b hb).2.2 (hYn o2 b hb)⟩⟩
    · rw [if_neg q] at hy
      obtain ⟨u, h1, h2, h3, h4⟩ := O.own y dy hy
      refine ⟨u, va' h1, h2.off (eff.off (fun b hb r => ?_) nt), h3, fun b hb => ⟨(h4 b hb).1, (h4 b hb).2.1, fun r => r.elim (h4 b hb).2.2 (hYn h2 b hb)⟩⟩
      rcases r with w | r
      · exact O.apart x y (Ne.symm q) hxs (by rw [hy]; rfl) b (hW b w) hb
      · exact (h4 b hb).2.1 (r ▸ .inl rfl)
  · obtain ⟨u, bs, h1, h2, h3⟩ := O.shared y dy hy
    refine ⟨u, bs, va' h1, h2.off (eff.off (fun b hb r => ?_) nt), fun b hb => ⟨(h3 b hb).1, fun r => r.elim (h3 b hb).2.1 (hYn h2 b hb), fun z hz => (h3 b hb).2.2 z (isome z hz)⟩⟩
    rcases r with w | r
    · exact (h3 b hb).2.2 x hxs (hW b w)
    · exact (h3 b hb).1 (r ▸ .inl rfl)

theorem Rows.rdAll {h : Heap} : ∀ {As : List Addr} {f : Addr → List PyData}, Rows h As f → RdAll h (As.map Value.ref) ((As.map f).map .list) As
  | [], f, _ => .nil
  | a :: As, f, r => by
    obtain ⟨vs, c, h1, h2⟩ := r a (.head _)
    have := RdAll.cons (Rd.list h1 h2) (Rows.rdAll (As := As) (f := f) fun b hb => r b (.tail _ hb))
    simpa using this
end

section
variable {K : Cx} {n : Nat} {sc : Scope} {sh ow sh' ow' : List (Str × D)} {Q : Out → Prop} {a e e2 : Expr} {x y : Str} {p p1 pos cp : Pos} {fa fm : Addr} {o om : Obj} {pm cd doc pmm cdm docm : Value} {rows : List (List PyData)} {d : DefRec} {out : List PyData} {b : Bool}

theorem law_frames {X : Addr → Prop} {g : Addr → Option Obj} {A : Around} {env : Env} {h : Heap} (S : St K true n sc X g sh ow A env h) :
    A.frames = some [env] ∧ [env].filterMap (·.frame) = [env.locals] ∧ (∀ h₂ : Heap, (∀ o, h.get? env.locals = some o → h₂.get? env.locals = some o) → h₂.FunFrames K.h₀ [env]) ∧ (∀ b ∈ [env].filterMap (·.frame), NoSeq h b) := by
  obtain ⟨t1, t2⟩ := S.top rfl
  have hfr : ([env].filterMap (·.frame)) = [env.locals] := by simp [t2]
  have hk : env.scope.kind ≠ .module := by rw [S.henv.kind]; decide
  have hLK : K.h₀.get? env.locals = none := by
    cases q : K.h₀.get? env.locals with
    | none => rfl
    | some o => have := S.new _ (.inl rfl); rw [S.bK _ o q] at this; cases this
  obtain ⟨m, hn⟩ := S.frame.ns
  refine ⟨t1, hfr, fun h₂ hk₂ => ?_, fun b hb => ?_⟩
  · refine Heap.FunFrames.cons (m := m) hk t2 ?_ hLK trivial
    obtain ⟨o', es, ep, ho', r'⟩ := hn
    exact ⟨o', es, ep, hk₂ _ ho', r'⟩
  · rw [hfr] at hb
    rw [List.mem_singleton.mp hb]
    exact S.frame.noSeq (.inl rfl)

end
end Mine

namespace Mine

section
variable {K : Cx} {lv : Bool} {n : Nat} {sc : Scope} {Z Z' : Addr → Prop} {g : Addr → Option Obj} {sh ow : List (Str × D)} {A : Around} {env : Env} {x : Str} {d : D} {v : Value} {as : List Addr}
/-- x takes a thing whose parts were laid aside for it -/
theorem store_owXs {s : Shared} {E : Value → Shared → Prop} {R : Unit → Shared → Prop} (S : St K lv n sc Z g sh ow A env s.heap) (hc : ∀ c ∈ as, Z c ∧ ¬ Z' c ∧ g c = none ∧ ¬ FrameAddr env c) (sub : ∀ a, Z' a → Z a) (nd : as.Nodup) (rd : RdD K s.heap v d as)
    (hx : sc.names.lookup x = some .local ∨ sc.names.lookup x = some .cell)
    (k : ∀ h' tk a, FrameAddr env a → Heap.SameBut a s.heap h' → St K lv n sc Z' g (del x sh) ((x, d) :: del x ow) A env h' → R () { s with heap := h', toks := tk }) : wpAny (model K.prog K.w) A (storeName env x v) R E s := by
  obtain ⟨fp, O⟩ := S.vars
  obtain ⟨a, sa⟩ := S.storeAddr hx
  refine store_at S.henv S.frame sa fun h' tk hs st => k h' tk a sa.frame hs ?_
  have eff := Eff.of_sameBut hs
  have nt : ∀ b, b = a → NoTup s.heap b := fun b q => q ▸ (S.frame.noSeq sa.frame).noTup
  have O' := O.stored S.frame sa hs st
  have O2 : Own K g Z' env (del x sh) (del x ow) fp h' := ⟨fun y dy hy => let ⟨u, h1, h2, h3, h4⟩ := O'.own y dy hy; ⟨u, h1, h2, h3, fun b hb => ⟨(h4 b hb).1, (h4 b hb).2.1, fun q => (h4 b hb).2.2 (sub b q)⟩⟩, O'.apart,
    fun y dy hy => let ⟨u, as, h1, h2, h3⟩ := O'.shared y dy hy; ⟨u, as, h1, h2, fun b hb => ⟨(h3 b hb).1, fun q => (h3 b hb).2.1 (sub b q), (h3 b hb).2.2⟩⟩⟩
  have O3 := O2.addOw (d := d) (as := as) (by rw [lookup_del]; simp) st.at_ (rd.off (eff.off (fun b hb q => (hc b hb).2.2.2 (q ▸ sa.frame)) nt)) nd (fun b hb => by
      refine ⟨?_, (hc b hb).2.2.1⟩
      rintro (q | q | ⟨y, hy, hm⟩)
      · exact (hc b hb).2.1 q
      · exact (hc b hb).2.2.2 q
      · obtain ⟨dy, hdy⟩ := Option.isSome_iff_exists.mp hy
        obtain ⟨_, _, _, _, h4⟩ := O'.own y dy hdy
        exact (h4 b hm).2.2 (hc b hb).1) (fun y dy hy => by
      obtain ⟨u, bs, h1, h2, h3⟩ := O'.shared y dy hy
      exact ⟨u, bs, h1, h2, fun b hb => ⟨(h3 b hb).1, fun q => (h3 b hb).2.1 (sub b q), (h3 b hb).2.2, fun q => (h3 b hb).2.1 (hc b q).1⟩⟩)
  have S2 := S.stored sa hs st O'
  exact ⟨S2.room, S2.ok, S2.hsc, S2.henv, S2.frame, S2.base, S2.bK, S2.new, fun b hb => S2.dom b (sub b hb), S2.top, _, O3⟩
end

section
variable {K : Cx} {lv : Bool} {n : Nat} {sc : Scope} {sh ow : List (Str × D)} {Q : Out → Prop} {x : Str} {p pos cpos : Pos} {elt : Expr} {gens : List Comprehension} {scope : Scope} {out : List PyData}
/-- a comprehension's new list goes to a local name, which owns it -/
theorem Ex1.assignCmOwn (h : Cm K n sc (ow ++ sh) elt gens scope cpos out true) (hq : Q (.next (del x sh) ((x, .py (.list out)) :: del x ow))) (hx : sc.names.lookup x = some .local := by rfl)
    (hsw : ∀ env, env.scope = sc → swapsWith (.ListComp elt gens scope cpos) (some (.Name x p)) pos.line env = pure true) : Ex1 K lv n sc sh ow (.Assign [.Name x p] (.ListComp elt gens scope cpos) pos) Q := Hide.mk fun {A env s X g E} S => by
  obtain ⟨tgt, iter, ifs, rest, own, ρ', F, hg, hG, So, hm, hit, turns, rfl, hsz⟩ := h
  rw [exec_Assign_Name_used _ _ _ _ (hsw env S.hsc)]
  refine wpAny_bind (wpAny_standAt (wpAny_bind ?_))
  have e1 : firstAsync gens = false := by rw [hg]; rfl
  have e2 : firstIter gens env = eval iter env := by rw [hg]; rfl
  show wpAny _ A (do let _ ← comprehension (.ListComp elt gens scope cpos) scope env (firstIterPos gens cpos) (newList []) (firstAsync gens) (firstIter gens env) (some (PySem.assign (.Name x p) env))) _ _ s
  rw [e1, e2]
  refine wpAny_bind (wpAny_mono (comp_core (use := some (PySem.assign (.Name x p) env)) (Q := fun _ s' => ∃ o, Q o ∧ OutOk K lv n sc X g A env s o .next s') hg hG So hm hit turns hsz S.inAll fun h' tk D C as m xe rd off bD new hn hC => ?_)
    (fun _ s' hq' => wpAny_pure (wpAny_pure hq')) fun _ _ x => x)
  show wpAny _ A (PySem.assign (.Name x p) env (.ref D)) _ _ _
  refine wpAny_assign_Name ?_
  obtain ⟨nd, new⟩ := new rfl
  have rd' : RdD K h' (.ref D) (.py (.list (F.flatMap (·.2)))) (D :: as) := rd
  have S' := S.moreXP (Y := fun a => a = C ∨ a ∈ D :: as) xe fun a ha => by
    rcases ha with rfl | ha
    · exact ⟨hC, let ⟨o, _, _, ho, _⟩ := hn; ⟨o, ho⟩⟩
    · exact ⟨new a ha, rd'.dom a ha⟩
  have nX : ∀ a, s.heap.get? a = none → ¬ X a := fun a ha q => by obtain ⟨o, ho⟩ := S.dom a q; rw [ha] at ho; cases ho
  have nf' : ∀ a, s.heap.get? a = none → ¬ FrameAddr env a := fun a ha q => by obtain ⟨o, ho⟩ := S.frame.some q; rw [ha] at ho; cases ho
  have ng : ∀ a, s.heap.get? a = none → g a = none := fun a ha => by
    cases q : g a with
    | none => rfl
    | some o => have := S.base a o q; rw [ha] at this; cases this
  have nf : ¬ FrameAddr env C := nf' C hC
  refine store_owXs (s := { s with heap := h', toks := tk }) (Z' := fun a => X a ∨ a = C) S' (fun c hc => ⟨.inr (.inr hc), fun q => q.elim (nX c (new c hc)) (off c hc).2, ng c (new c hc), nf' c (new c hc)⟩) (fun a ha => ha.elim .inl fun q => .inr (.inl q)) nd rd' (.inl hx) fun h'' tk' a ha hs S'' => ?_
  have hne : C ≠ a := fun q => nf (q ▸ ha)
  have hn' := hn.sameBut hs hne
  refine ⟨m, hn', fun h₃ hs₃ => ⟨_, hq, h₃, tk', rfl, ?_⟩⟩
  exact S''.drop1 (Eff.of_sameBut hs₃) (nX C hC) (ns_noTup hn') nf (ng C hC)
end
end Mine

namespace Mine
section
variable {K : Cx} {n : Nat} {sh ow : List (Str × D)} {R : List (List Int)} {fc fm : Addr} {oc om : Obj} {pmc cdc docc pmm cdm docm : Value} {a : Expr} {p p1 pos : Pos} {sc : Scope} {d : DefRec} {x : Str}
theorem tot_ints (R : List (List Int)) : tot (R.map (List.map PyData.int)) = tot R := by
  unfold tot; rw [List.map_map]; congr 1; refine List.map_congr_left fun r _ => ?_; simp
theorem atoms_ints (R : List (List Int)) : ∀ r ∈ R.map (List.map PyData.int), ∀ d ∈ r, Atom d := fun r hr d hd => by
  obtain ⟨r', _, rfl⟩ := List.mem_map.mp hr
  obtain ⟨i, _, rfl⟩ := List.mem_map.mp hd
  exact Atom.int i
theorem shp_words : Shp (.str words) := by unfold Shp; decide +kernel
end
end Mine

namespace Mine

/-! ### dicts whose keys are ints -/
section
variable {K : Cx} {n : Nat} {sc : Scope} {ρ : List (Str × D)} {a b : Expr} {pos p : Pos} {fa fb fr : Bool} {kvs : List (Int × PyData)} {k : Int} {d : PyData}
end
end Mine

namespace Mine

section
variable {K : Cx} {n : Nat} {sc : Scope} {ρ : List (Str × D)} {e : Expr} {fr : Bool} {kvs : List (Int × PyData)}
end

section
variable {K : Cx} {n : Nat} {kvs : List (Int × PyData)}
end
end Mine

namespace Mine

section
variable {K : Cx} {lv : Bool} {n : Nat} {sc : Scope} {sh ow : List (Str × D)} {x y : Str} {px py tp : Pos} {k : Nat} {d1 d2 : PyData} {own : List Str} {ρ : List (Str × D)}
end
end Mine

namespace Mine

section
variable {K : Cx} {lv : Bool} {n : Nat} {sc : Scope} {sh ow : List (Str × D)} {Q : Out → Prop} {x : Str} {p sp pos : Pos} {e idx : Expr} {kvs : List (Int × PyData)} {i : Int} {d : PyData} {fr fi : Bool}
end
end Mine

namespace Mine

section
variable {K : Cx} {n : Nat} {sc : Scope} {ρ : List (Str × D)} {e : Expr} {p q pos : Pos} {fa : Bool} {d : PyData} {r : Bool}
end
end Mine

namespace Mine

section
variable {K : Cx} {lv : Bool} {n : Nat} {sc scope : Scope} {ρ sh ow : List (Str × D)} {elt iter iter2 a : Expr} {gens : List Comprehension} {cpos p px py pz' tp pos lp : Pos} {out ds : List PyData} {fr fa : Bool} {x y z : Str} {kk : Nat} {ifs ifs2 : List Expr} {Q : Out → Prop} {d : PyData}

end
end Mine

namespace Mine

/-! ### comprehensions that make a dict -/
end Mine

namespace Mine

section
variable {K : Cx} {n : Nat} {sc : Scope} {own : List Str} {kx vx : Expr} {gens rest : List Comprehension} {scope : Scope} {pos pos' : Pos} {k : Nat} {tgt iter : Expr} {ifs : List Expr} {ρ ρ' : List (Str × D)}
  {A : Around} {env : Env} {X₀ X : Addr → Prop} {b b₀ : Heap} {D : Addr} {F : List (PyData × List (Int × PyData))} {s : Shared} {kvs : List (Int × PyData)} {as : List Addr} {R : Result → Shared → Prop} {E : Value → Shared → Prop} {Q : Value → Shared → Prop}
end
end Mine

namespace Mine

section
variable {prog : Program} {w : World} {A : Around} {E : Value → Shared → Prop} {s : Shared}
end

section
variable {K : Cx} {lv : Bool} {n : Nat} {sc : Scope} {ρ sh ow : List (Str × D)} {Q : Out → Prop} {x y : Str} {p p' py pos cp sp : Pos} {e test idx : Expr} {ds es : List PyData} {d : PyData} {fr fi : Bool} {body orelse : List Stmt} {kvs : List (Int × PyData)} {k : Int}

/-- `while test: body` -/
theorem Ex1.while (Inv : Nat → List (Str × D) → List (Str × D) → Prop) {m : Nat} (h0 : Inv m sh ow)
    (turn : ∀ m sh ow, Inv m sh ow → ∃ b, Tr K n sc (ow ++ sh) test b ∧ (b = true → Ex K lv n sc sh ow body fun o => match o with
      | .next sh' ow' => ∃ m', m' < m ∧ Inv m' sh' ow' | .cont sh' ow' => ∃ m', m' < m ∧ Inv m' sh' ow' | .brk sh' ow' => Q (.next sh' ow') | .ret d fr => Q (.ret d fr)) ∧ (b = false → Ex K lv n sc sh ow orelse Q)) :
    Ex1 K lv n sc sh ow (.While test body orelse pos) Q := Hide.mk fun {A env s X g E} S => by
  refine wpAny_While (codeAny_whileLoop (fun m s' => ∃ sh' ow' h tk, s' = { s with heap := h, toks := tk } ∧ Inv m sh' ow' ∧ St K lv n sc X g sh' ow' A env h) (fun m s' hI => ?_) m ⟨sh, ow, s.heap, s.toks, shared_eta s, h0, S⟩)
  obtain ⟨sh', ow', h, tk, rfl, hI, S'⟩ := hI
  obtain ⟨b, ht, h1, h2⟩ := turn m sh' ow' hI
  refine wpAny_mono (ht.run (s := { s with heap := h, toks := tk }) S'.inAll) (fun b' s₁ p => ?_) fun _ _ x => x
  obtain ⟨rfl, h₁, tk₁, rfl, x⟩ := p
  cases b' with
  | true =>
    rw [if_pos rfl]
    refine wpAny_mono ((h1 rfl).run (s := { s with heap := h₁, toks := tk₁ }) (S'.ext x)) (fun f s₂ p => ?_) fun _ _ x => x
    obtain ⟨o, hq, h₂, tk₂, rfl, r⟩ := p
    cases o <;> cases f <;> first | exact r.elim | skip
    · obtain ⟨m', hm, hi⟩ := hq; exact ⟨m', hm, _, _, h₂, tk₂, rfl, hi, r⟩
    · exact ⟨_, hq, h₂, tk₂, rfl, r⟩
    · obtain ⟨m', hm, hi⟩ := hq; exact ⟨m', hm, _, _, h₂, tk₂, rfl, hi, r⟩
    · exact ⟨_, hq, h₂, tk₂, rfl, r⟩
  | false =>
    rw [if_neg Bool.false_ne_true]
    exact wpAny_mono ((h2 rfl).run (s := { s with heap := h₁, toks := tk₁ }) (S'.ext x)) (fun f s₂ p => let ⟨o, hq, r⟩ := p; ⟨o, hq, r.after⟩) fun _ _ x => x

/-- `x = y.pop()` -/
theorem Ex1.assignPop (hy : ow.lookup y = some (.py (.list (ds ++ [d])))) (hA : ∀ d' ∈ ds ++ [d], Atom d') (hsz : ds.length + 1 ≤ sizeLine) (hq : Q (.next ((x, .py d) :: del x sh) (del x (put y (.py (.list ds)) ow))))
    (hx : sc.names.lookup x = some .local ∨ sc.names.lookup x = some .cell := by first | exact Or.inl rfl | exact Or.inr rfl)
    (hd : (y == ("__debug__" : Str)) = false := by decide) (hc : (y == ("__classdict__" : Str)) = false := by decide) (hline : (p'.endLine == cp.line) = true := by rfl)
    (hsw : ∀ env, env.scope = sc → swapsWith (.Call (.Attribute (.Name y py) "pop" p') [] [] cp) (some (.Name x p)) pos.line env = pure false := by intro _ _; rfl) :
    Ex1 K lv n sc sh ow (.Assign [.Name x p] (.Call (.Attribute (.Name y py) "pop" p') [] [] cp) pos) Q := Hide.mk fun {A env s X g E} S => by
  obtain ⟨fp, O⟩ := S.vars
  obtain ⟨v, o1, o2, o3, o4⟩ := O.own y _ hy
  refine wpAny_Assign_Name (wpAny_Call_method0_late (by rfl) hline (wpAny_Name (loadName_at S.henv o1 ?_ hc) hd)) (hsw env S.hsc)
  have o2' : Rd s.heap v (.list (ds ++ [d])) (fp y) := o2
  generalize hfp : fp y = fx at o2' o3 o4
  cases o2' with
  | @list l vs c _ as hl rs =>
    have hv : vs.length = ds.length + 1 := by rw [rs.length]; simp
    have hsp : ∃ vs' u, vs = vs' ++ [u] := ⟨vs.dropLast, vs.getLast (by intro q; rw [q] at hv; simp at hv), (List.dropLast_concat_getLast _).symm⟩
    obtain ⟨vs', u, rfl⟩ := hsp
    have hv' : vs'.length = ds.length := by simpa using hv
    have hsz' : (vs' ++ [u]).toArray.size - 1 = vs'.length := by simp
    refine ⟨"list", "list.pop", F.plainAttrs_list, F.slot_list_pop, F.type_list_pop, ⟨_, hl, rfl⟩, fun a ha => by cases ha; exact ⟨_, hl, rfl⟩, PySem.P.pop_list (y := u) hl (by simp) ?_ (by simp; omega)⟩
    have hs : Heap.SameBut l s.heap (s.heap.update l (Obj.mapSeq fun xs => xs.eraseIdxIfInBounds ((vs' ++ [u]).toArray.size - 1))) := Heap.SameBut.update ..
    have eff := Eff.of_sameBut hs
    have nt : NoTup s.heap l := noTup_list hl
    obtain ⟨lnd, and⟩ := List.nodup_cons.mp o3
    have hup : (s.heap.update l (Obj.mapSeq fun xs => xs.eraseIdxIfInBounds ((vs' ++ [u]).toArray.size - 1))).get? l = some { cls := .type "list", data := .seq vs'.toArray (if (vs'.toArray).size == (vs' ++ [u]).toArray.size then c else c + 1) } := by
      have := IsL.update (n := c) hl (fun xs => xs.eraseIdxIfInBounds ((vs' ++ [u]).toArray.size - 1))
      have e : ((vs' ++ [u]).toArray.eraseIdxIfInBounds ((vs' ++ [u]).toArray.size - 1)) = vs'.toArray := by
        rw [hsz']
        apply Array.toList_inj.mp
        have e2 : (vs' ++ [u]).eraseIdx vs'.length = vs' := by rw [List.eraseIdx_append_of_length_le (Nat.le_refl _)]; simp
        simp [Array.eraseIdxIfInBounds, e2]
      rw [e] at this
      exact this
    generalize hh' : s.heap.update l (Obj.mapSeq fun xs => xs.eraseIdxIfInBounds ((vs' ++ [u]).toArray.size - 1)) = h' at hs eff hup
    obtain ⟨bs, r1, r2⟩ := rs.take vs'.length
    rw [List.take_left' rfl, List.take_left' hv'.symm] at r1
    obtain ⟨du, bu, e1, ru, _⟩ := rs.get (i := vs'.length) (v := u) (by simp)
    have edu : d = du := by rw [hv'] at e1; simpa using e1
    subst edu
    obtain rfl := (hA d (by simp)).fp ru
    obtain rfl := r1.atoms fun d' hd' => hA d' (List.mem_append_left _ hd')
    have S₁ := S.change O (.refl _) (d' := .py (.list ds)) (as := [l]) hy (a := l) (by rw [hfp]; exact .head _) eff nt o1 (Rd.list hup (r1.off (eff.off nofun fun b q => q ▸ nt)))
      (by simp) (fun b hb => by
        left; rw [hfp, List.mem_singleton.mp hb]; exact .head _) ⟨_, hup⟩
    obtain ⟨fp₁, O₁⟩ := S₁.vars
    exact store_sh (s := { s with heap := h' }) (d := .py d) (as := []) S₁ O₁ hx (Rd.off ru (eff.off nofun fun b q => q ▸ nt)) nofun fun h'' tk' _ _ _ S'' => ⟨_, hq, h'', tk', rfl, S''⟩
end
end Mine

namespace Mine

section
variable {K : Cx} {lv : Bool} {n : Nat} {sc scope : Scope} {ρ sh ow : List (Str × D)} {Q : Out → Prop} {x y : Str} {p p' px py pe pr pv pos cp sp : Pos} {e idx iter : Expr} {ds es : List PyData} {d : PyData} {fr fi : Bool} {kvs : List (Int × PyData)} {k : Int}

/-- `x.extend(e)`, e a list without lists in it -/
theorem Ex1.extendA (hx : ow.lookup x = some (.py (.list ds))) (h : Ev K n sc (ow ++ sh) e (.py (.list es)) fr) (hA : ∀ d ∈ es, Atom d) (hsz : ds.length + es.length ≤ sizeLine) (hq : Q (.next sh (put x (.py (.list (ds ++ es))) ow)))
    (hd : (x == ("__debug__" : Str)) = false := by decide) (hc : (x == ("__classdict__" : Str)) = false := by decide)
    (hline : (p'.endLine == cp.line) = true := by rfl) (ht : ∀ env, backTo cp (starEach [e] env) = [(false, eval e env)] := by intro _; rfl) :
    Ex1 K lv n sc sh ow (.Expr (.Call (.Attribute (.Name x p) "extend" p') [e] [] cp) pos) Q := Hide.mk fun {A env s X g E} S => by
  obtain ⟨fp, O⟩ := S.vars
  obtain ⟨v, o1, o2, o3, o4⟩ := O.own x _ hx
  refine wpAny_Expr_any (wpAny_Call_method1_late (by rfl) hline (ht env) (wpAny_Name (loadName_at S.henv o1 ?_ hc) hd)) (interactive_false S.henv) (by rfl)
  have o2' : Rd s.heap v (.list ds) (fp x) := o2
  generalize hfp : fp x = fx at o2' o3 o4
  cases o2' with
  | @list l vs c _ as hl rs =>
    refine ⟨"list", "list.extend", F.plainAttrs_list, F.slot_list_extend, F.type_list_extend, ⟨_, hl, rfl⟩, fun a ha => by cases ha; exact ⟨_, hl, rfl⟩, PySem.P.extend_list (wpAny_mono (h.run S.inAll) (fun w s₁ t => ?_) fun _ _ x => x)⟩
    obtain ⟨h₁, tk, bs, rfl, gt⟩ := t
    have hl₁ := gt.ext _ _ hl
    have rdw : Rd h₁ w (.list es) bs := gt.rd
    cases rdw with
    | @list le ws ce _ bs' hle rw' =>
    obtain rfl := rw'.atoms hA
    obtain ⟨lnd, and⟩ := List.nodup_cons.mp o3
    have hv : vs.length = ds.length := rs.length
    have hw : ws.length = es.length := rw'.length
    refine ⟨le, vs.toArray, ws.toArray, c, ce, by simp only [List.size_toArray]; omega, by simp only [List.size_toArray]; omega, extend_door (by simp only [List.size_toArray]; omega), rfl, hl₁, hle, ?_⟩
    have hs : Heap.SameBut l h₁ (h₁.update l (Obj.mapSeq fun xs => xs ++ ws.toArray)) := Heap.SameBut.update ..
    have eff := Eff.of_sameBut hs
    have nt : NoTup h₁ l := noTup_list hl₁
    have hup : (h₁.update l (Obj.mapSeq fun xs => xs ++ ws.toArray)).get? l = some { cls := .type "list", data := .seq (vs ++ ws).toArray (if ((vs ++ ws).toArray).size == vs.toArray.size then c else c + 1) } := by
      simpa using IsL.update (n := c) hl₁ (fun xs => xs ++ ws.toArray)
    refine ⟨_, hq, _, tk, rfl, S.change O gt.ext (d' := .py (.list (ds ++ es))) (as := l :: (as ++ [])) hx (a := l) (by rw [hfp]; exact .head _) eff nt (o1.ext gt.ext) ?_ ?_ ?_ ⟨_, hup⟩⟩
    · refine Rd.list hup ?_
      exact RdAll.append ((rs.ext gt.ext).off (eff.off (fun b hb q => lnd (q ▸ hb)) fun b q => q ▸ nt)) (rw'.off (eff.off nofun fun b q => q ▸ nt))
    · rw [List.append_nil]; exact o3
    · intro b hb; rw [List.append_nil] at hb; left; rw [hfp]; exact hb

end
end Mine

namespace Mine
open PySem.SeqAt PySem.AutoSeq1 PySem.MeetsSeq PySem.MeetsSeq2 PySem.MeetsSeq3 PySem.SeqRoads2

end Mine

namespace Mine
open PySem.SeqAt PySem.AutoSeq1 PySem.MeetsSeq PySem.MeetsSeq2 PySem.MeetsSeq3 PySem.SeqRoads2

section
variable {prog : Program} {w : World} {A : Around} {E : Value → Shared → Prop} {R : Result → Shared → Prop}

end

end Mine

namespace Mine

section
variable {K : Cx} {lv : Bool} {n : Nat} {sc : Scope} {sh ow : List (Str × D)} {Q : Out → Prop} {tgt iter : Expr} {body orelse : List Stmt} {pos : Pos} {its : List PyData}
set_option maxHeartbeats 1000000 in
/-- a loop over a list that is there already -/
theorem for_val {A : Around} {env : Env} {s : Shared} {X : Addr → Prop} {g : Addr → Option Obj} {E : Value → Shared → Prop} {fp : Str → List Addr} {v : Value} {as : List Addr} (S : St K lv n sc X g sh ow A env s.heap) (O : Own K g X env sh ow fp s.heap) (rd : Rd s.heap v (.list its) as) (off : ∀ b ∈ as, ¬ ownX X env ow fp b)
    (Inv : Nat → List (Str × D) → List (Str × D) → Prop) (h0 : Inv 0 sh ow)
    (turn : ∀ i d sh ow, its[i]? = some d → Inv i sh ow → ∃ sh₁ ow₁, AsgS K lv n sc tgt d sh ow sh₁ ow₁ ∧ Ex K lv n sc sh₁ ow₁ body fun o => match o with
      | .next sh' ow' => Inv (i + 1) sh' ow' | .cont sh' ow' => Inv (i + 1) sh' ow' | .brk sh' ow' => Q (.next sh' ow') | .ret d fr => Q (.ret d fr))
    (done : ∀ sh ow, Inv its.length sh ow → Ex K lv n sc sh ow orelse Q) :
    wpAny (model K.prog K.w) A (pyIter v) (fun it s₂ => codeAny (model K.prog K.w) A (.forLoop tgt it body orelse env) (fun r s' => match r with
      | .ok f => ∃ o, Q o ∧ OutOk K lv n sc X g A env s o f s'
      | .error e => cameBackBy (model K.prog K.w) A env E e s') s₂) E s := by
  suffices key : ∀ (t : It K A) h₁ tk, Ext s.heap h₁ → ItAt t 0 s.heap h₁ (ownX X env ow fp) its → codeAny (model K.prog K.w) A (.forLoop tgt (.ref t.I) body orelse env) (fun r s' => match r with
      | .ok f => ∃ o, Q o ∧ OutOk K lv n sc X g A env s o f s'
      | .error e => cameBackBy (model K.prog K.w) A env E e s') { s with heap := h₁, toks := tk } by
    have I := S.inSh O
    cases rd with
    | @list a vs m ds as e r =>
      have hne : a ≠ s.heap.objs.size := Nat.ne_of_lt (Heap.lt_size e)
      refine wpAny_pyIter_list (items := vs.toArray) ⟨_, e, rfl, _, rfl⟩ ?_
      refine key (listIt K I.room.quiet s.heap.objs.size a hne vs.toArray) _ s.toks (Ext.push _ _) ⟨?_, ?_, ?_, ?_, ?_, ?_⟩
      · exact ⟨⟨_, Heap.get?_push_size _ rfl, rfl, rfl⟩, ⟨_, Heap.get?_push_of_some _ e, rfl, _, rfl⟩⟩
      · show vs.toArray.size = _; simp [r.length]
      · intro b hb
        rcases List.mem_cons.mp hb with rfl | hb
        · intro hx; obtain ⟨o, ho⟩ := I.dom _ hx; rw [push_new] at ho; cases ho
        · rw [List.mem_singleton.mp hb]; exact off a (.head _)
      · exact push_new _
      · intro b hb
        rcases List.mem_cons.mp hb with rfl | hb
        · exact ⟨_, Heap.get?_push_size _ rfl⟩
        · rw [List.mem_singleton.mp hb]; exact ⟨_, Heap.get?_push_of_some _ e⟩
      · intro j v hv
        have hv' : vs[j]? = some v := by
          have : vs.toArray[j]? = some v := hv
          simpa using this
        obtain ⟨d, bs, h1, h2, h3⟩ := r.get hv'
        refine ⟨d, bs, h1, h2.ext (Ext.push _ _), fun b hb => ⟨off b (.tail _ (h3 b hb)), ?_⟩⟩
        intro hm'
        obtain ⟨o, ho⟩ := h2.dom b hb
        have hm' : b = s.heap.objs.size := hm'
        rw [hm', push_new] at ho; cases ho
  intro t h₁ tk x₁ T
  have pI := t.plain _ _ T.st
  have hIn : s.heap.get? t.I = none := T.new
  have hgI : g t.I = none := by
    cases q : g t.I with
    | none => rfl
    | some o => have := S.base _ o q; rw [hIn] at this; cases this
  have S₁ := S.moreX1 (c := t.I) x₁ hIn pI.some
  have O₁ := (O.moreX1 (c := t.I) hIn).ext x₁
  obtain ⟨S₂, sub⟩ := S₁.snapped (c := t.I) O₁ hgI
  generalize hg2 : snap h₁ env ow fp t.I = g₂ at S₂ sub
  -- what the items and the thing are, is kept
  have kept : ∀ a, ¬ ownX X env ow fp a → a ≠ t.I → g₂ a = h₁.get? a := fun a h1 h2 => by
    rw [← hg2]; exact snap_of (fun q => h1 (.inr (.inl q))) (fun y hy q => h1 (.inr (.inr ⟨y, hy, q⟩))) h2
  have keptTup : ∀ a xs m, h₁.get? a = some { cls := .type "tuple", data := .seq xs m } → g₂ a = some { cls := .type "tuple", data := .seq xs m } := fun a xs m ha => by
    rw [← hg2, snap_of]
    · exact ha
    · intro q; obtain ⟨o, ho, hn⟩ := S₁.frame.noSeq q; rw [ho] at ha; cases ha; exact hn _ _ rfl
    · intro y hy q
      obtain ⟨d, hd⟩ := Option.isSome_iff_exists.mp hy
      obtain ⟨_, _, h2, _⟩ := O₁.own y d hd
      exact h2.noTup a q xs m ha
    · intro q; exact pI.noTup xs m (q ▸ ha)
  have gnI : g₂ t.I = none := by rw [← hg2]; exact snap_none (.inr (.inr rfl))
  have nXI : ¬ X t.I := fun q => by obtain ⟨o, ho⟩ := S.dom _ q; rw [hIn] at ho; cases ho
  refine codeAny_for (fun m s' => ∃ i sh' ow' h tk', i ≤ its.length ∧ m = its.length - i + 1 ∧ s' = { s with heap := h, toks := tk' } ∧ Inv i sh' ow' ∧ t.St i h ∧ St K lv n sc (fun a => X a ∨ a = t.I) g₂ sh' ow' A env h)
    (fun m s' hI => ?_) (its.length - 0 + 1) ⟨0, sh, ow, h₁, tk, Nat.zero_le _, rfl, rfl, h0, T.st, S₂⟩
  obtain ⟨i, sh', ow', h, tk', hi, rfl, rfl, hInv, st, S'⟩ := hI
  have pI' := t.plain _ _ st
  have nf' := pI'.not_frame S'.frame
  by_cases hlt : i < its.length
  · refine t.W.item i _ _ _ (by rw [T.len]; exact hlt) st fun v h₂ tk₂ hv st₂ hk₂ => ?_
    have e₂ : Eff (· = t.I) h h₂ := fun a o ha ho => hk₂ a o (by simpa using ha) ho
    have pI₂ := t.plain _ _ st₂
    have S₃ := S'.at1 e₂ (.inr rfl) pI₂.some pI'.noTup nf' gnI
    obtain ⟨fp₃, O₃⟩ := S₃.vars
    refine letOwned_ok pI₂ ?_
    obtain ⟨d, as, hd, rd, off⟩ := T.items i v hv
    obtain ⟨sh₁, ow₁, asg, bodyOk⟩ := turn i d sh' ow' hd hInv
    have rd₂ : Rd h₂ v d as := rd.off ⟨fun b hb o ho => S₃.base b o (by rw [kept b (off b hb).1 (off b hb).2]; exact ho), fun b xs m e => S₃.base b _ (keptTup b xs m e)⟩
    refine asg.run (s := { s with heap := h₂, toks := tk₂ }) S₃ O₃ rd₂ (fun b hb q => ?_) fun h₃ tk₃ e₃ S₄ => ?_
    · rcases q with (q | q) | q | ⟨y, hy, q⟩
      · exact (off b hb).1 (.inl q)
      · exact (off b hb).2 q
      · exact (off b hb).1 (.inr (.inl q))
      · obtain ⟨d', hd'⟩ := Option.isSome_iff_exists.mp hy
        obtain ⟨_, _, _, _, h4⟩ := O₃.own y d' hd'
        obtain ⟨o, ho⟩ := rd.dom b hb
        have := (h4 b q).1
        rw [kept b (off b hb).1 (off b hb).2, ho] at this; cases this
    · have nfI : ¬ FrameAddr env t.I := pI₂.not_frame S₃.frame
      have st₃ : t.St (i + 1) h₃ := t.W.frame _ _ _ st₂ fun b hb o ho => e₃ b o (fun q => T.off b hb (.inr (.inl q))) ho
      have S₅ := S₄.pin (c := t.I) (.inr rfl) nfI
      refine wpAny_mono (bodyOk.run (s := { s with heap := h₃, toks := tk₃ }) S₅) (fun f s₄ p => ?_) fun _ _ x => x
      obtain ⟨o, hq, h₄, tk₄, rfl, r⟩ := p
      have lessG : ∀ {sh ow}, St K lv n sc (fun a => X a ∨ a = t.I) (fun a => if a = t.I then h₃.get? t.I else g₂ a) sh ow A env h₄ → St K lv n sc (fun a => X a ∨ a = t.I) g₂ sh ow A env h₄ := fun S => S.lessG (fun a o ha => by
        by_cases q : a = t.I
        · rw [q, gnI] at ha; cases ha
        · simp only [q, if_false]; exact ha) S₂.bK
      have stNext : ∀ {sh ow}, St K lv n sc (fun a => X a ∨ a = t.I) (fun a => if a = t.I then h₃.get? t.I else g₂ a) sh ow A env h₄ → t.St (i + 1) h₄ := fun S => t.W.frame _ _ _ st₃ fun b hb o ho => by
        refine S.base b o ?_
        by_cases q : b = t.I
        · subst q; simpa using ho
        · simp only [q, if_false]
          rw [kept b (T.off b hb) q]
          obtain ⟨o', ho'⟩ := T.dom b hb
          have h3 := S₄.base b o' (by rw [kept b (T.off b hb) q]; exact ho')
          rw [ho] at h3; cases h3; exact ho'
      have back : ∀ {sh ow}, St K lv n sc (fun a => X a ∨ a = t.I) (fun a => if a = t.I then h₃.get? t.I else g₂ a) sh ow A env h₄ → St K lv n sc X g sh ow A env h₄ := fun Z => ((lessG Z).lessX fun a ha => .inl ha).lessG sub S.bK
      cases o with
      | next sh' ow' =>
        cases f with
        | next => exact ⟨its.length - (i + 1) + 1, by omega, i + 1, sh', ow', h₄, tk₄, hlt, rfl, rfl, hq, stNext r, lessG r⟩
        | _ => exact r.elim
      | cont sh' ow' =>
        cases f with
        | cont => exact ⟨its.length - (i + 1) + 1, by omega, i + 1, sh', ow', h₄, tk₄, hlt, rfl, rfl, hq, stNext r, lessG r⟩
        | _ => exact r.elim
      | brk sh' ow' =>
        cases f with
        | brk => exact ⟨_, hq, h₄, tk₄, rfl, back r⟩
        | _ => exact r.elim
      | ret d fr =>
        cases f with
        | ret v =>
          obtain ⟨as, r1, r2, r3, r4⟩ := r
          have gi : ∀ a o, g a = some o → (if a = t.I then h₃.get? t.I else g₂ a) = some o := fun a o ha => by
            by_cases q : a = t.I
            · rw [q, hgI] at ha; cases ha
            · simp only [q, if_false]; exact sub a o ha
          refine ⟨_, hq, h₄, tk₄, rfl, as, fun a o ha => r1 a o (gi a o ha), r2, fun a ha q => r3 a ha (.inl q), fun hf => ⟨(r4 hf).1, fun a ha => ?_⟩⟩
          cases q : g a with
          | none => rfl
          | some o =>
            have h1 : (if a = t.I then h₃.get? t.I else g₂ a) = none := (r4 hf).2 a ha
            rw [gi a o q] at h1; cases h1
        | _ => exact r.elim
  · have hie : i = its.length := by omega
    subst hie
    refine t.W.done _ _ _ (by rw [T.len]; exact st) fun h₂ tk₂ hk₂ => ?_
    have e₂ : Eff (· = t.I) h h₂ := fun a o ha ho => hk₂ a o (by simpa using ha) ho
    have S₃ := (S'.drop1 e₂ nXI pI'.noTup nf' gnI).lessG sub S.bK
    refine wpAny_mono ((done sh' ow' hInv).run (s := { s with heap := h₂, toks := tk₂ }) S₃) (fun f s' p => ?_) fun _ _ x => x
    obtain ⟨o, hq, r⟩ := p
    exact ⟨o, hq, r.after⟩
end
end Mine

namespace Mine

section
variable {prog : Program} {w : World} {A : Around} {E : Value → Shared → Prop} {s : Shared}
/-- a range is gathered -/
theorem collect_rangeX {R : List Value → Shared → Prop} {r : Addr} {a b c : Int} {t u v : Tok} {n : Nat} (hh : A.handled = none) (hr : IsRange s.heap r a b c t u v) (hsmall : Builtin.Range.small a b c = true) (hn : Builtin.Range.rangeSize a b c = n) (hlen : n ≤ 2 ^ 24)
    (h : ∀ (h' : Heap) (tk : Nat) (acc : Array Value), Ext s.heap h' → ItemsOf (fun i v => ∃ t, v = .int (a + i * c) t) acc n → R acc.toList { s with heap := h', toks := tk }) :
    wpAny (model prog w) A (collect (.ref r)) R E s := by
  unfold collect
  refine wpAny_bind (wpAny_runValue (codeAny_builtin PySem.F.entry_proto_collect ?_))
  rw [Around.under_plainId PySem.F.plain_proto_collect _]
  show wpAny _ A.in1 (newList [] >>= fun l => again (.builtin "list.__iadd__" ⟨[l, .ref r], []⟩)) _ _ s
  refine wpAny_bind (wpAny_newObj_type ?_)
  refine wpAny_pure ⟨plainId_quiet PySem.F.plain_list_iadd _, codeAny_builtin PySem.F.entry_list_iadd ?_⟩
  rw [Around.under_plainId PySem.F.plain_list_iadd _]
  have hS₁ : (s.heap.push { cls := .type "list", data := .seq ([] : List Value).toArray }).get? s.heap.objs.size = some { cls := .type "list", data := .seq #[] } := Heap.get?_push_size _ rfl
  show wpAny _ A.in1 (Builtin.List.listExtendWith (.ref s.heap.objs.size) (.ref r) (.ref s.heap.objs.size)) _ _ _
  have key := wpAny_extend_range (prog := prog) (w := w) (A := A) (s := { s with heap := s.heap.push { cls := .type "list", data := .seq ([] : List Value).toArray } })
    (R := fun (q : Result) (s' : Shared) => ∃ (h' : Heap) (tk : Nat) (acc' : Array Value) (c' : Nat), q = .ok (.ret (.ref s.heap.objs.size)) ∧ s' = { s with heap := h', toks := tk } ∧
      Ext s.heap h' ∧ h'.get? s.heap.objs.size = some { cls := .type "list", dict := none, data := .seq acc' c', slots := #[] } ∧ ItemsOf (fun i v => ∃ t, v = .int (a + i * c) t) acc' n)
    hh (r := r) (Heap.get?_push_of_some _ hr) hsmall hn hlen s.heap.objs.size (.ref s.heap.objs.size) 0 hS₁
    (fun h' tk acc' c' hk hS' hacc => ⟨h', tk, acc', c', rfl, rfl, fun b o e => hk b o (Nat.ne_of_lt (Heap.lt_size e)) (Heap.get?_push_of_some _ e), hS', hacc⟩)
  refine wpAny_mono key (fun fin s' x => ?_) fun e s' x => ?_
  · cases fin with
    | done f =>
      obtain ⟨h', tk, acc', c', e, rfl, hk, hS', hacc⟩ := x
      cases e
      show wpAny _ A (load s.heap.objs.size >>= _) _ _ _
      refine wpAny_bind (wpAny_load hS' ?_)
      exact wpAny_pure (h h' tk acc' hk hacc)
    | again c₁ =>
      refine ⟨x.1, codeAny_mono x.2 fun q s₂ y => ?_⟩
      obtain ⟨h', tk, acc', c', rfl, rfl, hk, hS', hacc⟩ := y
      show wpAny _ A (load s.heap.objs.size >>= _) _ _ _
      refine wpAny_bind (wpAny_load hS' ?_)
      exact wpAny_pure (h h' tk acc' hk hacc)
  · obtain ⟨_, _, _, _, e', _⟩ := x
    cases e'

/-- all objects of a heap but one -/
def newsOf (h : Heap) (L : Addr) : List (Addr × Obj) := (List.range h.objs.size).filterMap fun b => if b = L then none else (h.get? b).map fun o => (b, o)
theorem mem_newsOf {h : Heap} {L b : Addr} {o : Obj} : (b, o) ∈ newsOf h L ↔ b ≠ L ∧ h.get? b = some o := by
  unfold newsOf
  rw [List.mem_filterMap]
  constructor
  · rintro ⟨c, _, e⟩
    split at e
    · cases e
    · rename_i hc
      cases q : h.get? c with
      | none => rw [q] at e; cases e
      | some o' => rw [q] at e; cases e; exact ⟨hc, q⟩
  · rintro ⟨h1, h2⟩
    exact ⟨b, List.mem_range.mpr (Heap.lt_size h2), by rw [if_neg h1, h2]; rfl⟩

theorem ints_nums {vs out : List Value} {ns : List Int} (hi : IntsAre vs ns) (hp : out.Perm vs) : ∃ its, IntsAre out its ∧ its.Perm ns := by
  obtain ⟨its, h⟩ := intsAre_of (es := out) fun v hv => by
    obtain ⟨i, hi', e⟩ := List.getElem_of_mem (hp.mem_iff.mp hv)
    obtain ⟨t, ht⟩ := IntsAre.int_at hi i v (by rw [List.getElem?_eq_getElem hi', e])
    exact ⟨_, t, ht⟩
  refine ⟨its, h, ?_⟩
  have e1 := h.nums
  have e2 := hi.nums
  rw [← e1, ← e2]
  exact hp.map _

/-- the objects are there but for L, whose names are as they were -/
structure ButL (h₀ : Heap) (L : Addr) (m : Str → Option Value) (h : Heap) : Prop where
  eff : Eff (· = L) h₀ h
  ns : h.Ns L m
set_option maxHeartbeats 1000000 in
theorem sorted_keyX {L r f : Addr} {m : Str → Option Value} {lo : Int} {k : Nat} {t u v : Tok} {kz : List Int} {Q : Value → Shared → Prop} (hh : A.handled = none) (hns : s.heap.Ns L m) (hr : IsRange s.heap r lo (lo + k) 1 t u v) (h1 : -(2 ^ 62) ≤ lo) (h2 : lo + k < 2 ^ 62) (h64 : k < 64) (hkz : kz.length = k)
    (turn : ∀ (i : Nat) (t : Tok) (h : Heap) (tk : Nat) (x : Int), i < k → kz[i]? = some x → ButL s.heap L m h → wpAny (model prog w) A.in1.in1 (call (.ref f) [.int (lo + i) t]) (fun v s' => ∃ h' tk' t', s' = { s with heap := h', toks := tk' } ∧ v = .int x t' ∧ Ext h h') (fun _ _ => False) { s with heap := h, toks := tk })
    (done : ∀ D h' tk its vs c, ButL s.heap L m h' → s.heap.get? D = none → D ≠ L → h'.get? D = some { cls := .type "list", data := .seq (vs : List Value).toArray c } → IntsAre vs its → its.Perm ((List.range k).map fun i => lo + (i : Nat)) → Q (.ref D) { s with heap := h', toks := tk }) :
    wpAny (model prog w) A (call (.builtin "sorted") [.ref r] [(Str.ofString "key", .ref f)]) Q E s := by
  have hsz : Builtin.Range.rangeSize lo (lo + k) 1 = (k : Int) := by rw [rangeSize_one]; split <;> omega
  refine call_function_entry_kw kind_sorted plain_sorted entry_sorted (ksk_s1 _ _) ?_
  unfold Builtin.«sorted»
  refine wpAny_bind (m := checkCount "sorted" 1 1 _) (wpAny_pure ?_)
  refine wpAny_bind (collect_rangeX (A := A.in1) (by simpa using hh) hr (small_one h1 (by omega) (by omega) h2) hsz (by omega) fun h₁ tk₁ acc x₁ hacc => ?_)
  have hsa : acc.size = k := hacc.1
  have hia : IntsAre acc.toList ((List.range k).map fun i => lo + (i : Nat)) := by
    obtain ⟨ns, hns'⟩ := intsAre_of (es := acc.toList) fun v hv => by
      obtain ⟨i, hi', e⟩ := List.getElem_of_mem hv
      obtain ⟨t, ht⟩ := hacc.2 i v (by rw [← Array.getElem?_toList, List.getElem?_eq_getElem hi', e])
      exact ⟨_, t, ht⟩
    have : ns = (List.range k).map fun i => lo + (i : Nat) := by
      have hl : ns.length = k := by have := IntsAre.len hns'; rw [Array.length_toList] at this; omega
      refine List.ext_getElem (by simpa using hl) fun i hi1 hi2 => ?_
      have hia : i < acc.size := by omega
      obtain ⟨t, ht⟩ := hacc.2 i acc[i] (by simp [hia])
      obtain ⟨t', ht'⟩ := IntsAre.int_at hns' i acc[i] (by rw [Array.getElem?_toList]; simp [hia])
      rw [ht] at ht'
      injection ht' with e _
      rw [List.getD_eq_getElem?_getD, List.getElem?_eq_getElem hi1] at e
      simp at e ⊢
      omega
    rw [← this]; exact hns'
  refine wpAny_bind (wpAny_newList ?_ (by rw [Array.length_toList, sizeLine_eq]; omega))
  have hD : h₁.get? h₁.objs.size = none := push_new _
  have hD0 : s.heap.get? h₁.objs.size = none := x₁.none hD
  have hDL : h₁.objs.size ≠ L := fun q => by
    have := (hns.keeps x₁).lt
    rw [q] at this; exact Nat.lt_irrefl _ this
  have hoL : (h₁.push (seqObj "list" acc.toList.toArray 0)).get? h₁.objs.size = some (seqObj "list" acc.toList.toArray 0) := Heap.get?_push_size _ rfl
  have x₂ : Ext s.heap (h₁.push (seqObj "list" acc.toList.toArray 0)) := x₁.trans (Ext.push _ _)
  show wpAny _ _ _ _ _ { s with heap := h₁.push (seqObj "list" acc.toList.toArray 0), toks := tk₁ }
  generalize h₁.push (seqObj "list" acc.toList.toArray 0) = h₂ at hoL x₂
  generalize h₁.objs.size = D at *
  refine wpAny_bind (wpAny_holding (wpAny_call_entry_kw slot_list_sort ⟨_, hoL, rfl⟩ entry_list_sort ?_ (ksk_l1 _ _)))
  show wpAny (model prog w) A.in1.in1 (Builtin.«list.sort» ⟨[.ref D], [(Str.ofString "key", .ref f)]⟩) _ _ _
  rw [ksk_t1]
  have hnews : ∀ p ∈ newsOf s.heap L, p.1 ≠ D := fun p hp q => by
    have := (mem_newsOf.mp (show (p.1, p.2) ∈ newsOf s.heap L from hp)).2
    rw [q, hD0] at this; cases this
  have toBut : ∀ {h : Heap} {own : List (Addr × Obj)}, Fr {} L h m → News {} L h (newsOf s.heap L ++ own) → ButL s.heap L m h := fun {h own} F N =>
    ⟨fun b o hb ho => (N (b, o) (List.mem_append_left _ (mem_newsOf.mpr ⟨hb, ho⟩))).1, F.ns⟩
  refine ksk_sort (s := { s with heap := h₂, toks := tk₁ }) (h₀ := {}) (L := L) (m := m) (news := newsOf s.heap L) (kz := kz) (vs := acc.toList) (b := false) ⟨hns.keeps x₂, (fun b o e => by cases e), Nat.zero_le _⟩ (fun p hp => ?_) hoL hDL rfl hnews (by rw [hkz, Array.length_toList, hsa]) (by rw [Array.length_toList, hsa]; exact h64) (fun i v x hv hx h tk own F N => ?_) fun h' tk out c F N ko => ⟨_, rfl, wpAny_pure ⟨_, rfl, ?_⟩⟩
  · have := mem_newsOf.mp (show (p.1, p.2) ∈ newsOf s.heap L from hp)
    exact ⟨x₂ _ _ this.2, this.1, rfl⟩
  · have hi : i < k := by have := (List.getElem?_eq_some_iff.mp hv).1; rw [Array.length_toList] at this; omega
    obtain ⟨t, ht⟩ := IntsAre.int_at hia i v hv
    rw [List.getD_eq_getElem?_getD, List.getElem?_map, List.getElem?_range hi] at ht
    have ht' : v = .int (lo + (i : Nat)) t := ht
    subst ht'
    refine wpAny_mono (turn i t h tk x hi hx (toBut F N)) (fun v' s' p => ?_) fun _ _ q => q
    obtain ⟨h', tk', t', rfl, rfl, xe⟩ := p
    exact ⟨h', tk', t', rfl, rfl, ⟨F.ns.keeps xe, (fun b o e => by cases e), Nat.zero_le _⟩, fun p hp => ⟨xe _ _ (N p hp).1, (N p hp).2⟩⟩
  · obtain ⟨ps, hp, ho, _⟩ := ko
    have hpv : out.toList.Perm acc.toList := by
      have h1 := hp.map Prod.snd
      rw [← ho] at h1
      have e : (kz.zip acc.toList).map Prod.snd = acc.toList := List.map_snd_zip (by rw [Array.length_toList, hsa, hkz]; omega)
      rw [e] at h1; exact h1
    obtain ⟨its, hi1, hi2⟩ := ints_nums hia hpv
    have nD := (N (D, seqObj "list" out c) (.head _)).1
    refine done D h' tk its out.toList c (toBut (own := []) F fun p hp => N p (List.mem_cons_of_mem _ (by simpa using hp))) hD0 hDL ?_ hi1 hi2
    simpa using nD
end
end Mine

namespace Mine

section
variable {K : Cx} {lv : Bool} {n : Nat} {sc : Scope} {Z Z' : Addr → Prop} {g : Addr → Option Obj} {sh ow : List (Str × D)} {A : Around} {env : Env} {h h' : Heap} {fp : Str → List Addr} {x : Str} {d d' : D} {v : Value} {r : Addr}
/-- one object that x owns is changed; x then has, too, a thing that was laid aside -/
theorem St.takeX (S : St K lv n sc Z g sh ow A env h) (O : Own K g Z env sh ow fp h) (hx : ow.lookup x = some d) {a : Addr} (ha : a ∈ fp x) (e : Eff (· = a) h h') (nt : NoTup h a) (va : VarAt h env x v) {as : List Addr} (rd : RdD K h' v d' as) (nd : as.Nodup)
    (new : ∀ b ∈ as, b ∈ fp x ∨ b = r) (Zr : Z r) (sub : ∀ b, Z' b → Z b) (nZr : ¬ Z' r) (gr : g r = none) (fr : ¬ FrameAddr env r) (hsome : ∃ o, h'.get? a = some o) : St K lv n sc Z' g sh (put x d' ow) A env h' := by
  obtain ⟨v₀, o1, o2, o3, o4⟩ := O.own x d hx
  have hga : g a = none := (o4 a ha).1
  have nfa : ¬ FrameAddr env a := (o4 a ha).2.1
  have nXa : ¬ Z a := (o4 a ha).2.2
  have hK : K.h₀.get? a = none := by
    cases q : K.h₀.get? a with
    | none => rfl
    | some o => rw [S.bK a o q] at hga; cases hga
  have nt' : ∀ b, b = a → NoTup h b := fun b q => q ▸ nt
  have hxs : (ow.lookup x).isSome = true := by rw [hx]; rfl
  have va' : ∀ {y u}, VarAt h env y u → VarAt h' env y u := fun {y u} r => by
    rcases r with ⟨hl, m, hn, hm⟩ | ⟨hl, c', hc', hv⟩
    · exact .inl ⟨hl, m, hn.at' fun o ho => e _ o (fun q => nfa (q ▸ .inl rfl)) ho, hm⟩
    · obtain ⟨o, ho, hd⟩ := hv
      exact .inr ⟨hl, c', hc', o, e c' o (fun q => nfa (q ▸ .inr ⟨_, hc'⟩)) ho, hd⟩
  have look : ∀ y, (put x d' ow).lookup y = if y = x then some d' else ow.lookup y := fun y => lookup_put y
  have isome : ∀ y, ((put x d' ow).lookup y).isSome = true → (ow.lookup y).isSome = true := fun y hy => by
    rw [look] at hy
    by_cases q : y = x
    · rw [q]; exact hxs
    · rw [if_neg q] at hy; exact hy
  have newB : ∀ b ∈ as, (g b = none ∧ ¬ FrameAddr env b ∧ ¬ Z' b) ∧ (∀ y, y ≠ x → (ow.lookup y).isSome = true → b ∉ fp y) := fun b hb => by
    rcases new b hb with q | q
    · exact ⟨⟨(o4 b q).1, (o4 b q).2.1, fun w => (o4 b q).2.2 (sub b w)⟩, fun y hy hs => O.apart x y (Ne.symm hy) hxs hs b q⟩
    · subst q
      refine ⟨⟨gr, fr, nZr⟩, fun y hy hs hm => ?_⟩
      obtain ⟨dy, hdy⟩ := Option.isSome_iff_exists.mp hs
      obtain ⟨_, _, _, _, h4⟩ := O.own y dy hdy
      exact (h4 _ hm).2.2 Zr
  refine ⟨S.room, ⟨S.ok.g, S.ok.b, S.ok.lim, e.ext S.ok.ext fun b q => q ▸ hK⟩, S.hsc, S.henv, S.frame.at1 e nfa, fun b o hb => e b o (fun q => by rw [q, hga] at hb; cases hb) (S.base b o hb), S.bK, S.new, fun b hb => ?_, S.top, fun y => if y = x then as else fp y, ⟨fun y dy hy => ?_, fun y z hyz hy hz b hb => ?_, fun y dy hy => ?_⟩⟩
  · obtain ⟨o, ho⟩ := S.dom b (sub b hb)
    exact ⟨o, e b o (fun q => nXa (q ▸ sub b hb)) ho⟩
  · rw [look] at hy
    by_cases q : y = x
    · subst q; simp only [if_true] at hy ⊢; cases hy
      exact ⟨v, va' va, rd, nd, fun b hb => (newB b hb).1⟩
    · simp only [if_neg q] at hy ⊢
      obtain ⟨u, h1, h2, h3, h4⟩ := O.own y dy hy
      exact ⟨u, va' h1, h2.off (e.off (fun b hb r => O.apart x y (Ne.symm q) hxs (by rw [hy]; rfl) a ha (r ▸ hb)) nt'), h3, fun b hb => ⟨(h4 b hb).1, (h4 b hb).2.1, fun w => (h4 b hb).2.2 (sub b w)⟩⟩
  · have hy' := isome y hy
    have hz' := isome z hz
    by_cases q : y = x
    · subst q
      have hzy : z ≠ y := Ne.symm hyz
      simp only [if_true, if_neg hzy] at hb ⊢
      exact (newB b hb).2 z hzy hz'
    · by_cases r : z = x
      · subst r
        simp only [if_true, if_neg q] at hb ⊢
        exact fun hm => (newB b hm).2 y q hy' hb
      · simp only [if_neg q, if_neg r] at hb ⊢
        exact O.apart y z hyz hy' hz' b hb
  · obtain ⟨u, bs, h1, h2, h3⟩ := O.shared y dy hy
    have hoff : ∀ b ∈ bs, b ≠ a := fun b hb q => (h3 b hb).2.2 x hxs (q ▸ ha)
    refine ⟨u, bs, va' h1, h2.off (e.off (fun b hb q => hoff b hb q) nt'), fun b hb => ⟨(h3 b hb).1, fun w => (h3 b hb).2.1 (sub b w), fun z hz => ?_⟩⟩
    by_cases q : z = x
    · subst q
      simp only [if_true]
      intro hm
      rcases new b hm with w | w
      · exact (h3 b hb).2.2 z hxs w
      · exact (h3 b hb).2.1 (w ▸ Zr)
    · simp only [if_neg q]
      exact (h3 b hb).2.2 z (isome z hz)
end

section
variable {K : Cx} {n : Nat} {sc : Scope} {X : Addr → Prop} {g : Addr → Option Obj} {sh ow : List (Str × D)} {A : Around} {env : Env} {s : Shared} {fp : Str → List Addr} {y : Str} {fa : Addr} {o : Obj} {pm cd doc : Value} {rows : List (List PyData)} {p p1 pos : Pos} {Q : Value → Shared → Prop} {E : Value → Shared → Prop}
/-- a merge of lists that a name owns -/
theorem c3_own (Fc : Fn K c3Rec fa o pm cd doc) (hg : GV K "RuntimeError" (.type "RuntimeError")) (S : St K true (n + 1) sc X g sh ow A env s.heap) (O : Own K g X env sh ow fp s.heap) (hy : ow.lookup y = some (.py (.list (rows.map .list))))
    (hat : ∀ r ∈ rows, ∀ d ∈ r, Atom d) (hsz : rows.length ≤ sizeLine) (htot : tot rows ≤ sizeLine)
    (k1 : ∀ out rest, mg3 PyData.eqv rows = (out, rest, true) → ∀ r h' tk, St K true (n + 1) sc (fun a => X a ∨ a = r) g sh (put y (.py (.list (rest.map .list))) ow) A env h' → Eff (· ∈ fp y) s.heap h' → RdD K h' (.ref r) (.py (.list out)) [r] → s.heap.get? r = none → Q (.ref r) { s with heap := h', toks := tk })
    (k2 : (mg3 PyData.eqv rows).2.2 = false → ∀ hb h' e tk d, St K true (n + 1) sc X g sh (put y d ow) A env hb → Eff (· ∈ fp y) s.heap hb → Fly hb h' e (some none) → Kept [env.locals] hb h' → h'.FunFrames K.h₀ [env] → E (.ref e) { s with heap := h', toks := tk })
    (hx : sc.names.lookup c3N = some .globalImplicit := by rfl) (hdb : (y == ("__debug__" : Str)) = false := by decide) (hcd : (y == ("__classdict__" : Str)) = false := by decide)
    (hc : ∀ env, eval (.Call (.Name c3N p) [.Name y p1] [] pos) env = (do callWith pos (← eval (.Name c3N p) env) [] (backTo pos (starEach [.Name y p1] env)) (backToKw pos (keywordEach [] env))) := by intro _; rfl) :
    wpAny (model K.prog K.w) A (eval (.Call (.Name c3N p) [.Name y p1] [] pos) env) Q E s := by
  have I := S.inAll
  obtain ⟨v, o1, o2, o3, o4⟩ := O.own y _ hy
  refine Call_ (name_global I (.inl Fc.name) hx ?_ (by rfl)) (hc env)
  refine callWith_def Fc.data (args_cons (wpAny_Name (loadName_at S.henv o1 ?_ hcd) hdb) (by rfl)) (by rfl)
  refine args_nil ⟨I.ok.ext _ _ Fc.get, ?_⟩
  have o2' : Rd s.heap v (.list (rows.map .list)) (fp y) := o2
  generalize hfp : fp y = fx at o2' o3 o4
  cases o2' with
  | @list l vs c _ As hl rs =>
    obtain ⟨lnA, ndA⟩ := List.nodup_cons.mp o3
    obtain ⟨f, h1, h2, h3⟩ := rs.rowsFn ndA hat
    subst h1
    obtain ⟨t1, hfr, t3, t4⟩ := law_frames S
    have gA : ∀ a ∈ As, g a = none ∧ ¬ FrameAddr env a ∧ ¬ X a := fun a ha => o4 a (.tail _ ha)
    have hAK : ∀ a ∈ As, K.h₀.get? a = none := fun a ha => by
      cases q : K.h₀.get? a with
      | none => rfl
      | some o => have := (gA a ha).1; rw [S.bK a o q] at this; cases this
    have ntA : ∀ a, a ∈ As → NoTup s.heap a := fun a ha => by obtain ⟨vs', c', h1, _⟩ := h3 a ha; exact noTup_list h1
    refine c3_call (n := n) (outer := [env]) Fc hg I.room I.ok (.inr ⟨t1, fun h ef => t3 h fun o ho => ef _ _ (fun q => (gA _ q).2.1 (.inl rfl)) ho, t4⟩) ⟨_, hl, rfl, _, by rw [h2]⟩ h3 ndA lnA hAK
      (fun a ha => hat _ (List.mem_map.mpr ⟨a, ha, rfl⟩)) (fun a ha => Nat.le_trans (length_le_tot (List.mem_map.mpr ⟨a, ha, rfl⟩)) htot) htot (by simpa using hsz) (fun out' f' run' h₂ tk₂ r ws e₂ rw₂ hr hrl rd ok₂ => ?_) (fun out' f' run' hb h₂ e tk₂ e₂ rw₂ fl kb _ _ fm _ => ?_)
    · obtain ⟨c', hrl⟩ := hrl
      refine k1 out' (As.map f') run' r h₂ tk₂ (S.changeK (W := (· ∈ As)) (Y := (· = r)) (v := .ref l) O hy (fun a ha => by rw [hfp]; exact .tail _ ha) (fun b o hb hbA => ⟨o.slots, e₂ b o hbA hb, fun _ => rfl⟩) ntA o1 (by
        rw [hfp]
        have := Rows.rdAll rw₂
        rw [← h2] at this
        exact Rd.list (e₂ _ _ lnA hl) this) fun a ha => by rw [ha]; exact ⟨hr, _, hrl⟩) (e₂.mono fun a ha => by rw [hfp]; exact .tail _ ha) (Rd.list hrl rd) hr
    · have S_b := (S.changeK (h' := hb) (W := (· ∈ As)) (Y := fun _ => False) (v := .ref l) (d' := .py (.list ((As.map f').map .list))) O hy (fun a ha => by rw [hfp]; exact .tail _ ha) (fun b o hb' hbA => ⟨o.slots, e₂ b o hbA hb', fun _ => rfl⟩) ntA o1 (by
        rw [hfp]
        have := Rows.rdAll rw₂
        rw [← h2] at this
        exact Rd.list (e₂ _ _ lnA hl) this) nofun).lessX fun a (ha : X a) => .inl ha
      exact k2 (by rw [run']) hb h₂ e tk₂ _ S_b (e₂.mono fun a ha => by rw [hfp]; exact .tail _ ha) fl (by rw [← hfr]; exact kb) fm
end

section
variable {K : Cx} {lv : Bool} {n : Nat} {sc : Scope} {sh ow : List (Str × D)} {Q : Out → Prop} {x : Str} {p p' pos cp sp : Pos} {e1 e idx : Expr} {ds es : List PyData} {d : PyData} {k : Int} {i : Nat} {fi f1 fr : Bool}
theorem insert_zero {prog : Program} {w : World} {A : Around} {E : Value → Shared → Prop} {s : Shared} {l : Addr} {x y : Sem Value} {Q : Value → Shared → Prop} {pos : Pos}
    (h : wpAny (model prog w) A x (fun v s₁ => wpAny (model prog w) A y (fun u s₂ => ∃ (items : Array Value) (n : Nat) (t : Tok), v = .int 0 t ∧ items.size ≤ sizeLine ∧ IsL s₂.heap l items n ∧ Q .none { s₂ with heap := s₂.heap.update l (Obj.mapSeq fun xs => #[u] ++ xs) }) E s₁) E s) :
    wpAny (model prog w) A (callWith pos (.builtin "list.insert") [.ref l] [(false, x), (false, y)] []) Q E s :=
  method_meets PySem.F.slot_list_insert PySem.F.entry_list_insert rfl (Calls.evalArgs_plain (Calls.spliced_cons (wpAny_mono h (fun v s₁ h₁ => Calls.spliced_cons (wpAny_mono h₁ (fun u s₂ h₂ => Calls.spliced_nil (by
    obtain ⟨items, n, t, rfl, hsz, hl, hq⟩ := h₂
    refine ⟨rfl, ⟨_, hl, rfl⟩, PySem.F.args_list_insert_3 _ _ _, _, AutoSeq1.list_insert_list_int_val_1 l items n 0 t u (by decide) hsz, hl, ?_⟩
    have e : (Obj.mapSeq fun xs : Array Value => have k := if (0 : Int) < 0 then ((0 : Int) + (xs.size : Int)).toNat else min (0 : Int).toNat xs.size; (xs.extract 0 k).push u ++ xs.extract k) = Obj.mapSeq fun xs => #[u] ++ xs := by
      congr 1; funext xs
      simp
    rw [e]; exact hq)) fun _ _ e => e)) fun _ _ e => e)))

/-- `x[k].insert(0, e)`, e without a list in it -/
theorem Ex1.itemInsert (hx : ow.lookup x = some (.py (.list ds))) (hk : Ev K n sc (ow ++ sh) idx (.py (.int k)) fi) (h0 : 0 ≤ k) (hki : k.toNat = i) (hsz0 : ds.length ≤ sizeLine) (hes : ds[i]? = some (.list es))
    (he1 : Ev K n sc (ow ++ sh) e1 (.py (.int 0)) f1) (h : Ev K n sc (ow ++ sh) e (.py d) fr) (hfp : ∀ {h v as}, Rd h v d as → as = []) (hsz : es.length ≤ sizeLine) (hq : Q (.next sh (put x (.py (.list (ds.set i (.list (d :: es))))) ow)))
    (hd : (x == ("__debug__" : Str)) = false := by decide) (hc : (x == ("__classdict__" : Str)) = false := by decide)
    (hsub : ∀ o j, subscripted idx false o j = operate [o, j] (getItem o j) := by intro _ _; rfl)
    (hline : (p'.endLine == cp.line) = true := by rfl) (ht : ∀ env, backTo cp (starEach [e1, e] env) = [(false, eval e1 env), (false, eval e env)] := by intro _; rfl) :
    Ex1 K lv n sc sh ow (.Expr (.Call (.Attribute (.Subscript (.Name x p) idx sp) "insert" p') [e1, e] [] cp) pos) Q := Hide.mk fun {A env s X g E} S => by
  obtain ⟨fp, O⟩ := S.vars
  obtain ⟨v, o1, o2, o3, o4⟩ := O.own x _ hx
  refine wpAny_Expr_any (wpAny_Call_method2_late (by rfl) hline (ht env) (Subscript_ (wpAny_Name (loadName_at S.henv o1 ?_ hc) hd))) (interactive_false S.henv) (by rfl)
  refine wpAny_mono (hk.run S.inAll) (fun vk s₁ t => ?_) fun _ _ x => x
  obtain ⟨h₁, tk, as₀, rfl, g₁⟩ := t
  have rk : Rd h₁ vk (.int k) as₀ := g₁.rd
  cases rk with
  | int _ tk' =>
  have o2' : Rd h₁ v (.list ds) (fp x) := Rd.ext o2 g₁.ext
  generalize hfpx : fp x = fx at o2' o3 o4
  cases o2' with
  | @list l vs c _ as hl rs =>
    obtain ⟨lnd, and⟩ := List.nodup_cons.mp o3
    obtain ⟨b, ws, cb, asb, h1, h2, h3, h4, h5, h6⟩ := rs.setAt and hes
    have hlen : vs.length = ds.length := rs.length
    have hil : i < ds.length := (List.getElem?_eq_some_iff.mp hes).1
    have hl' : ({ s with heap := h₁, toks := tk } : Shared).heap.IsList l vs.toArray := ⟨_, hl, rfl, _, rfl⟩
    refine tail_any hl'.typeIs slot_list_getitem.lookup (wpAny_getItem_list hl' h0 (by rw [sizeLine_eq] at hsz0; omega) (by rw [hki]; simpa using h1) ?_) (hsub _ _)
    have I₁ := S.inAll.ext g₁.ext
    refine ⟨"list", "list.insert", F.plainAttrs_list, F.slot_list_insert, F.type_list_insert, ⟨_, h2, rfl⟩, fun a ha => by cases ha; exact ⟨_, h2, rfl⟩, insert_zero (wpAny_mono (he1.run (s := { s with heap := h₁, toks := tk }) I₁) (fun w1 s₂ t => ?_) fun _ _ x => x)⟩
    obtain ⟨h₂, tk₂, bs1, rfl, g₂⟩ := t
    have r1 : Rd h₂ w1 (.int 0) bs1 := g₂.rd
    cases r1
    refine wpAny_mono (h.run (s := { s with heap := h₂, toks := tk₂ }) (I₁.ext g₂.ext)) (fun w s₃ t => ?_) fun _ _ x => x
    obtain ⟨h₃, tk₃, bs, rfl, g₃⟩ := t
    have rw₃ : Rd h₃ w d bs := g₃.rd
    obtain rfl := hfp rw₃
    have x23 := g₂.ext.trans g₃.ext
    have hb₃ := x23 _ _ h2
    refine ⟨ws.toArray, cb, _, rfl, by rw [List.size_toArray, h3.length]; exact hsz, hb₃, ?_⟩
    have hs : Heap.SameBut b h₃ (h₃.update b (Obj.mapSeq fun xs => #[w] ++ xs)) := Heap.SameBut.update ..
    have eff := Eff.of_sameBut hs
    have nt : NoTup h₃ b := noTup_list hb₃
    have lb : l ≠ b := fun q => lnd (q ▸ h4)
    have hup : (h₃.update b (Obj.mapSeq fun xs => #[w] ++ xs)).get? b = some { cls := .type "list", data := .seq (w :: ws).toArray (if ((w :: ws).toArray).size == ws.toArray.size then cb else cb + 1) } := by
      simpa using IsL.update (n := cb) hb₃ (fun xs => #[w] ++ xs)
    have xe := g₁.ext.trans x23
    refine ⟨_, hq, _, tk₃, rfl, S.change O xe (d' := .py (.list (ds.set i (.list (d :: es))))) (as := l :: as) hx (a := b) (by rw [hfpx]; exact .tail _ h4) eff nt (o1.ext xe) ?_ o3 (fun c hc => .inl (by rw [hfpx]; exact hc)) ⟨_, hup⟩⟩
    refine Rd.list ((hs.2 l lb).trans (x23 _ _ hl)) ?_
    obtain ⟨b', ws', cb', asb', i1, i2, i3, i4, i5, i6⟩ := (rs.ext x23).setAt and hes
    obtain rfl : b = b' := by rw [h1] at i1; cases i1; rfl
    have : ws' = ws := by rw [hb₃] at i2; injection i2 with i2; injection i2 with _ _ i2; injection i2 with i2; simpa using i2.symm
    subst this
    refine i6 _ _ _ _ eff hup ?_
    have r1 := i3.off (eff.off (fun c hc q => i5 (q ▸ hc)) fun c q => q ▸ nt)
    have r2 := rw₃.off (eff.off (as := []) nofun fun c q => q ▸ nt)
    simpa using RdAll.cons r2 r1
end
end Mine

namespace Mine

def lawRec : DefRec := ((recsOf PySem.Challenge.pw_dn0018_05).getD 1 c3Rec)
def lawSc : Scope := lawRec.scope
def st5 (i : Nat) : Stmt := lawRec.body.getD i (.Pass ⟨0, 0, 0, 0⟩)
def iter5 : Expr := match st5 2 with | .For _ it _ _ _ => it | _ => .Name "" ⟨0, 0, 0, 0⟩
def lam5 : Expr := match iter5 with | .Call _ _ [⟨_, v, _⟩] _ => v | _ => .Name "" ⟨0, 0, 0, 0⟩
def lamArgs : Arguments := match lam5 with | .Lambda a _ _ _ => a | _ => ⟨[], [], none, [], [], none, []⟩
def lamBody : Expr := match lam5 with | .Lambda _ b _ _ => b | _ => .Name "" ⟨0, 0, 0, 0⟩
def lamSc : Scope := match lam5 with | .Lambda _ _ s _ => s | _ => lawSc
def lamPos : Pos := match lam5 with | .Lambda _ _ _ p => p | _ => ⟨0, 0, 0, 0⟩
def rng5 : Expr := match iter5 with | .Call _ [r] _ _ => r | _ => .Name "" ⟨0, 0, 0, 0⟩
theorem lam5_eq : lam5 = .Lambda lamArgs lamBody lamSc lamPos := rfl

section
variable {K : Cx} {lv : Bool} {n : Nat} {sc : Scope} {X : Addr → Prop} {g : Addr → Option Obj} {sh ow : List (Str × D)} {A : Around} {env : Env} {h h' : Heap} {fp : Str → List Addr} {P : Addr} {m : Str → Option Value}
/-- the table of code changes, and the frame's own object, its names as they were -/
theorem St.effL (S : St K lv n sc X g sh ow A env h) (O : Own K g X env sh ow fp h) (hn : h.Ns env.locals m) (hn' : h'.Ns env.locals m) (e : Eff (fun a => a = P ∨ a = env.locals) h h') (XP : X P) (gP : g P = none) (nfP : ¬ FrameAddr env P) (ntP : NoTup h P) (hP' : ∃ o, h'.get? P = some o) :
    St K lv n sc X g sh ow A env h' ∧ Own K g X env sh ow fp h' := by
  have gL : g env.locals = none := S.new _ (.inl rfl)
  have keep : ∀ a o, g a = some o → h'.get? a = some o := fun a o ha => e a o (fun q => q.elim (fun q => by rw [q, gP] at ha; cases ha) fun q => by rw [q, gL] at ha; cases ha) (S.base a o ha)
  have cell : ∀ {c : Addr} {v : Option Value}, FrameAddr env c → h.IsCell c v → h'.IsCell c v := fun {c v} hc x => by
    obtain ⟨o, ho, hd⟩ := x
    exact ⟨o, e c o (fun q => q.elim (fun q => nfP (q ▸ hc)) fun q => ns_ne_cell hn (show h.IsCell c v from ⟨o, ho, hd⟩) q.symm) ho, hd⟩
  have va : ∀ {x : Str} {v : Value}, VarAt h env x v → VarAt h' env x v := fun {x v} r => by
    rcases r with ⟨k, m', hm, hx⟩ | ⟨k, c, hc, hv⟩
    · refine .inl ⟨k, m, hn', ?_⟩
      rw [hn.eq_nsMap, ← hm.eq_nsMap]; exact hx
    · exact .inr ⟨k, c, hc, cell (.inr ⟨x, hc⟩) hv⟩
  have off : ∀ {as : List Addr}, (∀ a ∈ as, ¬ FrameAddr env a ∧ ¬ X a) → Off h h' as := fun {as} ha => Eff.off e (fun a hm q => q.elim (fun q => (ha a hm).2 (q ▸ XP)) fun q => (ha a hm).1 (q ▸ .inl rfl)) fun a q => q.elim (fun q => q ▸ ntP) fun q => q ▸ ns_noTup hn
  have O' : Own K g X env sh ow fp h' := ⟨fun x d hx => let ⟨v, h1, h2, h3, h4⟩ := O.own x d hx; ⟨v, va h1, h2.off (off fun a ha => (h4 a ha).2), h3, h4⟩, O.apart,
    fun x d hx => let ⟨v, as, h1, h2, h3⟩ := O.shared x d hx; ⟨v, as, va h1, h2.off (off fun a ha => ⟨(h3 a ha).1, (h3 a ha).2.1⟩), h3⟩⟩
  refine ⟨⟨S.room, ⟨S.ok.g, S.ok.b, S.ok.lim, fun a o ha => keep a o (S.bK a o ha)⟩, S.hsc, S.henv, ⟨⟨m, hn'⟩, fun x c hc => ?_⟩, keep, S.bK, S.new, fun a ha => ?_, S.top, fp, O'⟩, O'⟩
  · obtain ⟨v, hv⟩ := S.frame.cells x c hc
    exact ⟨v, cell (.inr ⟨x, hc⟩) hv⟩
  · obtain ⟨o, ho⟩ := S.dom a ha
    by_cases q : a = P
    · rw [q]; exact hP'
    · by_cases q2 : a = env.locals
      · obtain ⟨o', _, _, ho', _⟩ := hn'
        exact ⟨o', q2 ▸ ho'⟩
      · exact ⟨o, e a o (fun w => w.elim q q2) ho⟩
end

/-- the lambda is called -/
theorem lam_call {K : Cx} {n : Nat} {A : Around} {s : Shared} {f c' cs : Addr} {pm ctv vS : Value} {as : List Addr} {xs : List Int} {k : Nat} {t : Tok} {qual : Str} (ro : Room A (n + 1)) (ok : K.Ok s.heap) (ho : s.heap.get? f = some (kla_obj "<lambda>" qual lamArgs lamBody lamSc [(("script" : Str), cs)] pm c' ctv))
    (hcd : s.heap.CodeRec (.ref c') qual) (hcell : s.heap.IsCell cs (some vS)) (rd : Rd s.heap vS (iL xs) as) (h1 : 1 ≤ k) (h2 : k ≤ xs.length) (hxs : xs.length ≤ 63) :
    wpAny (model K.prog K.w) A (call (.ref f) [.int (k : Int) t]) (fun v s' => ∃ h' tk' t', s' = { s with heap := h', toks := tk' } ∧ v = .int (xs.getD (k - 1) 0) t' ∧ Ext s.heap h') (fun _ _ => False) s := by
  refine wpAny_call ?_
  refine kla_callFunE (by have := ro.depth; omega) ho rfl rfl rfl rfl hcd ?_
  show wpAny _ A.in1 (bindArgs (kla_fn "<lambda>" qual lamArgs lamBody lamSc [(("script" : Str), cs)] pm (.ref c') ctv) ⟨[.int (k : Int) t], []⟩) _ _ _
  have hb : bindArgs (kla_fn "<lambda>" qual lamArgs lamBody lamSc [(("script" : Str), cs)] pm (.ref c') ctv) ⟨[.int (k : Int) t], []⟩ = pure [(("k" : Str), .int (k : Int) t)] := rfl
  rw [hb]
  refine wpAny_pure (wpAny_newFunctionEnv (show ∀ x ∈ lamSc.names, x.2 ≠ NameKind.cell by decide) (by intro y hy; rw [List.mem_singleton.mp hy]; rfl) (fun h₁ hns hsb => ⟨((ok.lim).keeps ok.ext).fresh _ hsb, ?_⟩) rfl)
  have x₁ : Ext s.heap h₁ := fun b o e => hsb.extBut b o (Nat.ne_of_lt (Heap.lt_size e)) (Heap.get?_push_of_some _ e)
  generalize s.heap.objs.size = L at *
  refine kla_codeExpr ?_
  show wpAny _ (A.deeper (newEnv lamSc L mainGlobals [(("script" : Str), cs)] (qual ++ ".<locals>.") (some f) (.ref c') none builtinsNs)) (eval lamBody (newEnv lamSc L mainGlobals [(("script" : Str), cs)] (qual ++ ".<locals>.") (some f) (.ref c') none builtinsNs)) _ _ _
  generalize henv : newEnv lamSc L mainGlobals [(("script" : Str), cs)] (qual ++ ".<locals>.") (some f) (.ref c') none builtinsNs = env
  have hcells : env.cells = [(("script" : Str), cs)] := by rw [← henv]; rfl
  have hscope : env.scope = lamSc := by rw [← henv]; rfl
  have hloc : env.locals = L := by rw [← henv]; rfl
  have I : In K n lamSc (fun _ => False) [(("k" : Str), .py (.int (k : Int))), (("script" : Str), .py (iL xs))] (A.deeper env) env h₁ := by
    refine ⟨ro.deeper, ok.mono x₁, hscope, ⟨by rw [hscope]; rfl, by rw [← henv]; rfl, by rw [← henv]; rfl, by rw [hcells]; simp, fun y hy => ?_⟩, ⟨⟨_, hloc ▸ hns⟩, fun y c hc => ?_⟩, nofun, fun y d hy => ?_⟩
    · have hy' : lamSc.names.lookup y = some .cell ∨ lamSc.names.lookup y = some .free := by
        unfold Env.kindOf at hy; rw [hscope] at hy; exact hy
      have hl : lamSc.names = [(("k" : Str), NameKind.local), (("script" : Str), NameKind.free)] := rfl
      rw [hl] at hy'
      rw [hcells]
      by_cases q : y = "script"
      · subst q; exact ⟨cs, rfl⟩
      · rw [List.lookup_cons, List.lookup_cons] at hy'
        by_cases q2 : y = "k"
        · subst q2; rcases hy' with h | h <;> cases h
        · rw [show (y == ("k" : Str)) = false by simpa using q2, show (y == ("script" : Str)) = false by simpa using q] at hy'
          rcases hy' with h | h <;> cases h
    · rw [hcells] at hc
      by_cases q : y = "script"
      · subst q
        have : cs = c := by simpa using hc
        subst this
        exact ⟨_, hcell.keeps x₁⟩
      · rw [List.lookup_cons, show (y == ("script" : Str)) = false by simpa using q] at hc; cases hc
    · by_cases q : y = "k"
      · subst q
        have hd : d = .py (.int (k : Int)) := by
          have : some (D.py (.int (k : Int))) = some d := hy
          injection this with this; exact this.symm
        subst hd
        exact ⟨.int (k : Int) t, [], .inl ⟨by unfold Env.kindOf; rw [hscope]; rfl, _, hloc ▸ hns, rfl⟩, Rd.int _ _, nofun⟩
      · rw [List.lookup_cons, show (y == ("k" : Str)) = false by simpa using q] at hy
        by_cases q2 : y = "script"
        · subst q2
          have hd : d = .py (iL xs) := by
            have : some (D.py (iL xs)) = some d := hy
            injection this with this; exact this.symm
          subst hd
          exact ⟨vS, as, .inr ⟨.inr (by unfold Env.kindOf; rw [hscope]; rfl), cs, by rw [hcells]; rfl, hcell.keeps x₁⟩, rd.ext x₁, fun _ _ => id⟩
        · rw [List.lookup_cons, show (y == ("script" : Str)) = false by simpa using q2] at hy; cases hy
  have ev : Ev K n lamSc [(("k" : Str), .py (.int (k : Int))), (("script" : Str), .py (iL xs))] lamBody (.py (.int (xs.getD (k - 1) 0))) false :=
    Ev.itemIL (xs := xs) (j := k - 1) (Ev.name (by rfl)) (Ev.cast (Ev.subI (Ev.name (by rfl)) Ev.cInt) (by rw [show ((k : Nat) : Int) - 1 = ((k - 1 : Nat) : Int) by omega])) (by omega) (le_size hxs)
  refine wpAny_mono (ev.run (s := { s with heap := h₁, toks := s.toks + 1 }) (E := fun _ _ => False) I) (fun v s' p => ?_) fun _ _ q => q.elim
  obtain ⟨h', tk', bs, rfl, gt⟩ := p
  have rv : Rd h' v (.int (xs.getD (k - 1) 0)) bs := gt.rd
  cases rv
  exact ⟨h', tk', _, rfl, rfl, x₁.trans gt.ext⟩

/-- `sorted(range(1, top), key=lambda k: script[k - 1])` -/
theorem eval_sorted {K : Cx} {n : Nat} {X : Addr → Prop} {g : Addr → Option Obj} {sh ow : List (Str × D)} {A : Around} {env : Env} {s : Shared} {Q : Value → Shared → Prop} {E : Value → Shared → Prop} {P c bm : Addr} {ob : Obj} {xs : List Int} {fp : Str → List Addr} (B : BG K) (S : St K true (n + 2) lawSc X g sh ow A env s.heap) (O : Own K g X env sh ow fp s.heap)
    (hP : s.heap.get? P = some (tabObj #[])) (XP : X P) (gP : g P = none) (hcode : env.code = .ref c) (C : CodeHd K.h₀ c P) (hb1 : K.mg "__builtins__" = some (.ref bm)) (hb2 : bm ≠ builtinsNs) (hb3 : K.h₀.get? bm = some ob) (hb4 : ob.cls = .type "module") (hb5 : ob.dict = some builtinsNs) (hb6 : ob.data = .plain)
    (hsc : (ow ++ sh).lookup ("script" : Str) = some (.py (iL xs))) (htop : (ow ++ sh).lookup ("top" : Str) = some (.py (.int ((xs.length + 1 : Nat) : Int)))) (hxs : xs.length ≤ 63)
    (q : ∀ D h' tk its, (∃ ps, h'.get? P = some (tabObj ps)) → St K true (n + 2) lawSc X g sh ow A env h' → Own K g X env sh ow fp h' → Rd h' (.ref D) (iL its) [D] → ¬ ownX X env ow fp D → its.Perm ((List.range xs.length).map fun i => ((1 + i : Nat) : Int)) → Q (.ref D) { s with heap := h', toks := tk }) :
    wpAny (model K.prog K.w) A (eval iter5 env) Q E s := by
  obtain ⟨m, hns⟩ := S.frame.ns
  have I := S.inAll
  have hne : ¬ FrameAddr env P := fun w => by
    obtain ⟨o, ho, hn⟩ := S.frame.noSeq w
    rcases w with w | ⟨y, hy⟩
    · obtain ⟨o', es, ep, ho', hd, _⟩ := hns
      rw [← w, hP] at ho'; cases ho'; cases hd
    · obtain ⟨v, o', ho', hd⟩ := S.frame.cells y P hy
      rw [hP] at ho'; cases ho'; cases hd
  have ntP : NoTup s.heap P := fun xs m e => by rw [hP] at e; cases e
  have hcall : ∀ env, eval iter5 env = (do callWith ⟨26, 13, 26, 63⟩ (← eval (.Name "sorted" ⟨26, 13, 26, 19⟩) env) [] (backTo ⟨26, 13, 26, 63⟩ (starEach [rng5] env)) (backToKw ⟨26, 13, 26, 63⟩ (keywordEach [⟨some "key", lam5, ⟨26, 35, 26, 62⟩⟩] env))) := fun _ => rfl
  rw [hcall]
  refine wpAny_bind (name_global I B.sorted (by rfl) ?_ (by decide))
  refine callWith_kw (args_cons ?_ (by rfl)) (by rfl) (by rfl) (by rfl) (by rfl)
  -- the range
  show wpAny _ _ (eval (.Call (.Name "range" ⟨26, 20, 26, 25⟩) [.Constant (.int 1) 0 ⟨26, 26, 26, 27⟩, .Name "top" ⟨26, 29, 26, 32⟩] [] ⟨26, 20, 26, 33⟩) env) _ _ _
  refine Call_ (name_global I B.range (by rfl) ?_ (by decide)) (by rfl)
  refine PySem.callWith_type (by rfl) ?_
  have ev1 : Ev K (n + 2) lawSc (ow ++ sh) (.Constant (.int 1) 0 ⟨26, 26, 26, 27⟩) (.py (.int 1)) true := Ev.cInt
  have ev2 : Ev K (n + 2) lawSc (ow ++ sh) (.Name "top" ⟨26, 29, 26, 32⟩) (.py (.int ((xs.length + 1 : Nat) : Int))) false := Ev.name htop
  refine Calls.evalArgs_plain (Calls.spliced_cons (wpAny_mono (ev1.run I) (fun v s₁ t => ?_) fun _ _ x => x))
  obtain ⟨h₁, tk₁, as₁, rfl, g₁⟩ := t
  refine Calls.spliced_cons (wpAny_mono (ev2.run (s := { s with heap := h₁, toks := tk₁ }) (I.ext g₁.ext)) (fun v' s₂ t => ?_) fun _ _ x => x)
  obtain ⟨h₂, tk₂, as₂, rfl, g₂⟩ := t
  refine Calls.spliced_nil ?_
  have r : Rd h₁ v (.int 1) as₁ := g₁.rd
  have r' : Rd h₂ v' (.int ((xs.length + 1 : Nat) : Int)) as₂ := g₂.rd
  cases r with
  | int _ t1 =>
  cases r' with
  | int _ t2 =>
  refine call_range_2 (s := { s with heap := h₂, toks := tk₂ }) ?_
  have hr := IsRange.new h₂ 1 ((xs.length + 1 : Nat) : Int) 1 t1 t2 tk₂
  have x₃ : Ext s.heap (h₂.push { cls := .type "range", data := .fields #[.int 1 t1, .int ((xs.length + 1 : Nat) : Int) t2, .int 1 tk₂] }) := (g₁.ext.trans g₂.ext).trans (Ext.push _ _)
  refine args_nil ?_
  generalize hh3 : h₂.push { cls := .type "range", data := .fields #[.int 1 t1, .int ((xs.length + 1 : Nat) : Int) t2, .int 1 tk₂] } = h₃ at hr x₃
  generalize h₂.objs.size = rA at *
  -- the lambda
  refine kws_cons (wpAny_mono (Q := fun v s' => ∃ h' tk' c' ctv, v = .ref h'.objs.size ∧ s' = { s with heap := h'.push (kla_obj "<lambda>" (env.qual ++ "<lambda>") lamArgs lamBody lamSc [(("script" : Str), (env.cells.lookup ("script" : Str)).getD 0)] ((K.mg "__name__").getD .none) c' ctv), toks := tk' } ∧ Heap.ExtBut P h₃ h' ∧ h'.CodeRec (.ref c') (env.qual ++ "<lambda>") ∧ (∃ ps, h'.get? P = some (tabObj ps))) ?_ (fun v s' p => ?_) fun _ _ x => x)
  · show wpAny _ A (eval lam5 env) _ _ _
    rw [lam5_eq]
    refine kla_eval rfl ?_
    have S₃ := S.ext x₃
    have hP₃ := x₃ _ _ hP
    have hcl : closureFor lamSc env = pure [(("script" : Str), (env.cells.lookup ("script" : Str)).getD 0)] := by
      rw [closureFor_eq]
      · rfl
      · intro y hy
        have hl : lamSc.names = [(("k" : Str), NameKind.local), (("script" : Str), NameKind.free)] := rfl
        rw [hl] at hy
        have : y = "script" := by simpa using hy
        subst this
        exact S.henv.all _ (.inl (by unfold Env.kindOf; rw [S.hsc]; rfl))
    have hgP : mainGlobals ≠ P := fun w => by
      obtain ⟨o, es, ep, e, hd, _⟩ := S.ok.g
      have := S₃.ok.ext _ _ e
      rw [w, hP₃] at this; cases this; cases hd
    have hbP : bm ≠ P := fun w => by
      have := S₃.ok.ext _ _ hb3
      rw [w, hP₃] at this; cases this; cases hb4
    have hbG : bm ≠ mainGlobals := fun w => by
      obtain ⟨o, es, ep, e, hd, _⟩ := S.ok.g
      rw [w, e] at hb3; cases hb3; rw [hd] at hb6; cases hb6
    refine kla_makeFunction (s := { s with heap := h₃, toks := tk₂ + 1 }) (c := c) (P := P) (ps := #[]) (mg := K.mg) hcl S.henv.globals (S₃.ok.g.keeps S₃.ok.ext) hcode (C.keeps S₃.ok.ext) hP₃ trivial rfl hgP ⟨bm, ob, hb1, hb2, hbG, hbP, S₃.ok.ext _ _ hb3, hb4, hb5, hb6⟩ fun c' ctv h' tk hx hge hlt hrec htb => ?_
    exact ⟨h', tk, c', ctv, rfl, rfl, hx, hrec, _, htb⟩
  obtain ⟨h₄, tk₄, c', ctv, rfl, rfl, x₄, hrec, hP₄⟩ := p
  refine kws_nil ?_
  show wpAny _ A (call (.builtin "sorted") [.ref rA] [(Str.ofString "key", .ref h₄.objs.size)]) _ _ _
  generalize hh5 : h₄.push (kla_obj "<lambda>" (env.qual ++ "<lambda>") lamArgs lamBody lamSc [(("script" : Str), (env.cells.lookup ("script" : Str)).getD 0)] ((K.mg "__name__").getD .none) c' ctv) = h₅
  have x₅ : Ext h₄ h₅ := hh5 ▸ Ext.push _ _
  have hf : h₅.get? h₄.objs.size = some (kla_obj "<lambda>" (env.qual ++ "<lambda>") lamArgs lamBody lamSc [(("script" : Str), (env.cells.lookup ("script" : Str)).getD 0)] ((K.mg "__name__").getD .none) c' ctv) := hh5 ▸ Heap.get?_push_size _ rfl
  generalize h₄.objs.size = f at *
  have e₅ : Eff (fun a => a = P ∨ a = env.locals) s.heap h₅ := fun a o ha ho => x₅ a o (x₄ a o (fun w => ha (.inl w)) (x₃ a o ho))
  have hnL : ∀ {h : Heap}, Heap.ExtBut P s.heap h → h.Ns env.locals m := fun {h} x => by
    obtain ⟨o, es, ep, ho, r⟩ := hns
    exact ⟨o, es, ep, x _ _ (fun w => hne (w ▸ .inl rfl)) ho, r⟩
  have n₅ : h₅.Ns env.locals m := hnL fun b o hb ho => x₅ b o (x₄ b o hb (x₃ b o ho))
  obtain ⟨S₅, O₅⟩ := S.effL O hns n₅ e₅ XP gP hne ntP (by obtain ⟨o, ho⟩ := hP₄; exact ⟨_, x₅ _ _ ho⟩)
  have hrP : rA ≠ P := fun w => by
    have h1 : h₃.get? P = some (tabObj #[]) := x₃ _ _ hP
    rw [← w] at h1
    have h2 : h₃.get? rA = some _ := hr
    rw [h1] at h2; cases h2
  have hr₅ : IsRange h₅ rA 1 ((1 : Int) + (xs.length : Nat)) 1 t1 t2 tk₂ := by
    have e : ((xs.length + 1 : Nat) : Int) = 1 + (xs.length : Nat) := by omega
    rw [← e]
    exact x₅ _ _ (x₄ _ _ hrP hr)
  have hrec₅ : h₅.CodeRec (.ref c') (env.qual ++ "<lambda>") := hrec.keeps x₅
  -- the script's cell
  obtain ⟨vS, aS, vaS, rdS, offS⟩ := S₅.inAll.vars _ _ hsc
  obtain ⟨cs, hcs, hcell⟩ : ∃ cs, env.cells.lookup ("script" : Str) = some cs ∧ h₅.IsCell cs (some vS) := by
    rcases vaS with ⟨k, _⟩ | ⟨_, c, hc, hv⟩
    · unfold Env.kindOf at k; rw [S.hsc] at k; cases k
    · exact ⟨c, hc, hv⟩
  have hcsL : cs ≠ env.locals := fun w => ns_ne_cell n₅ hcell w.symm
  rw [hcs] at hf
  have rdS' : Rd h₅ vS (iL xs) aS := rdS
  refine sorted_keyX (s := { s with heap := h₅, toks := tk₄ }) (L := env.locals) (m := m) (lo := 1) (k := xs.length) (kz := xs) S.room.quiet n₅ hr₅ (by omega) (by omega) (by omega) rfl (fun i t h tk x hi hx hbut => ?_) fun D h' tk its vs cc hbut hD hDL hget hints hperm => ?_
  · have hko : K.Ok h := ⟨S.ok.g, S.ok.b, S.ok.lim, fun a o ha => hbut.eff a o (fun w => by have := S.bK a o ha; rw [w, S.new _ (.inl rfl)] at this; cases this) (S₅.ok.ext a o ha)⟩
    have hfL : f ≠ env.locals := fun w => by
      obtain ⟨o, es, ep, ho, hd, _⟩ := n₅
      rw [← w, hf] at ho; cases ho; cases hd
    have hcr : h.CodeRec (.ref c') (env.qual ++ "<lambda>") := by
      obtain ⟨c₂, oc, vs, tt, e1, e2, e3, e4⟩ := hrec₅
      refine ⟨c₂, oc, vs, tt, e1, hbut.eff _ _ (fun w => ?_) e2, e3, e4⟩
      obtain ⟨o, es, ep, ho, hd, _⟩ := n₅
      rw [← w, e2] at ho; cases ho; rw [e3] at hd; cases hd
    have hcell' : h.IsCell cs (some vS) := by
      obtain ⟨o, ho, hd⟩ := hcell
      exact ⟨o, hbut.eff _ _ hcsL ho, hd⟩
    have rdh : Rd h vS (iL xs) aS := Rd.off rdS' (hbut.eff.off (fun a ha w => offS a ha (.inr (w ▸ .inl rfl))) fun a w => w ▸ ns_noTup n₅)
    have hxi : xs.getD ((1 + i : Nat) - 1) 0 = x := by
      rw [Nat.add_sub_cancel_left, List.getD_eq_getElem?_getD, hx]; rfl
    have ro : Room A.in1.in1 (n + 1) := ⟨S.room.quiet, by have := S.room.depth; show A.depth + (n + 1) < recursionLimit; omega, by have := S.room.units; show A.units + 1 + 1 + 8 * (n + 1) + 200 < cLine; omega⟩
    have := lam_call (K := K) (A := A.in1.in1) (s := { s with heap := h, toks := tk }) (k := 1 + i) (t := t) ro hko (hbut.eff _ _ hfL hf) hcr hcell' rdh (by omega) (by omega) hxs
    rw [hxi] at this
    rw [show (1 : Int) + (i : Nat) = ((1 + i : Nat) : Int) by omega]
    exact this
  · have e' : Eff (fun a => a = P ∨ a = env.locals) h₅ h' := hbut.eff.mono fun a ha => .inr ha
    have hP' : ∃ ps, h'.get? P = some (tabObj ps) := by
      obtain ⟨o, ho⟩ := hP₄
      exact ⟨o, hbut.eff _ _ (fun w => hne (w ▸ .inl rfl)) (x₅ _ _ ho)⟩
    have ntP5 : NoTup h₅ P := by
      obtain ⟨o, ho⟩ := hP₄
      intro xs m e
      rw [x₅ _ _ ho] at e; cases e
    obtain ⟨S', O'⟩ := S₅.effL O₅ n₅ hbut.ns e' XP gP hne ntP5 (let ⟨_, h⟩ := hP'; ⟨_, h⟩)
    refine q D h' tk its hP' S' O' (Rd.list hget (rdAll_of_ints hints)) (fun w => ?_) ?_
    · rcases w with w | w | ⟨y, hy, w⟩
      · obtain ⟨o, ho⟩ := S₅.dom _ w; rw [hD] at ho; cases ho
      · obtain ⟨o, ho⟩ := S₅.frame.some w; rw [hD] at ho; cases ho
      · obtain ⟨d, hd⟩ := Option.isSome_iff_exists.mp hy
        obtain ⟨_, _, h2, _⟩ := O₅.own y d hd
        obtain ⟨o, ho⟩ := h2.dom _ w; rw [hD] at ho; cases ho
    · have : ((List.range xs.length).map fun i => (1 : Int) + (i : Nat)) = (List.range xs.length).map fun i => ((1 + i : Nat) : Int) := List.map_congr_left fun i _ => by omega
      rw [← this]; exact hperm
end Mine

namespace Mine

def body6 : List Stmt := match st5 6 with | .For _ _ b _ _ => b | _ => []
def try6 : Stmt := body6.getD 1 (.Pass ⟨0, 0, 0, 0⟩)

section
variable {K : Cx} {n : Nat} {sh ow : List (Str × D)} {Q : Out → Prop} {P R : List (List Int)} {cr : List Int} {k : Nat} {fa : Addr} {o : Obj} {pm cd doc : Value}
set_option maxHeartbeats 2000000 in
theorem try5 (B : BG K) (Fc : Fn K c3Rec fa o pm cd doc) (hx : ow.lookup ("orders" : Str) = some (.py (iLL P))) (hy : ow.lookup ("rows" : Str) = some (.py (iLL R))) (hcr : (ow ++ sh).lookup ("crossed" : Str) = some (.py (iL cr))) (hk : (ow ++ sh).lookup ("k" : Str) = some (.py (.int (k : Int))))
    (hP : P.length ≤ sizeLine) (hcl : cr.length ≤ sizeLine) (hsz : R.length ≤ sizeLine) (htot : tot R ≤ sizeLine)
    (ok : (m3 R).2.2 = true → Q (.next sh (put "orders" (.py (iLL (P ++ [(m3 R).1]))) (put "rows" (.py (iLL (m3 R).2.1)) ow))))
    (bad : (m3 R).2.2 = false → cr.take 1 = [(k : Int)] ∧ Q (.ret (.py (.bool true)) true)) : Ex1 K true (n + 1) lawSc sh ow try6 Q := Hide.mk fun {A env s X g E} S => by
  obtain ⟨fp, O⟩ := S.vars
  obtain ⟨t1, t2⟩ := S.top rfl
  have hfr : ([env].filterMap (·.frame)) = [env.locals] := by simp [t2]
  obtain ⟨v, o1, o2, o3, o4⟩ := O.own ("orders" : Str) _ hx
  have hmg := mg3_ints R
  have e1 : iLL R = .list ((R.map (List.map PyData.int)).map .list) := iLL_eq R
  refine wpAny_Try_except (wpAny_execs_cons (wpAny_Expr_any (wpAny_Call_method1_late (by rfl) (by rfl) (by rfl) (wpAny_Name (loadName_at S.henv o1 ?_ (by decide)) (by decide))) (interactive_false S.henv) (by rfl)))
  have o2' : Rd s.heap v (.list (P.map iL)) (fp ("orders" : Str)) := o2
  generalize hfp : fp ("orders" : Str) = fx at o2' o3 o4
  cases o2' with
  | @list l vs c _ as hl rs =>
  have hvl : vs.length = P.length := by rw [rs.length]; simp
  refine ⟨"list", "list.append", F.plainAttrs_list, F.slot_list_append, F.type_list_append, ⟨_, hl, rfl⟩, fun a ha => by cases ha; exact ⟨_, hl, rfl⟩, PySem.P.append_list (c3_own (rows := R.map (List.map PyData.int)) Fc B.rt S O (by rw [hy, e1]) (atoms_ints R) (by rw [List.length_map]; exact hsz) (by rw [tot_ints]; exact htot) (fun out rest run r h₁ tk S₁ e₁ rd hr => ?_) (fun run hb h₁ e tk dd S_b e₁ fl kb fm => ?_))⟩
  · rw [hmg] at run
    injection run with r1 r2
    injection r2 with r2 r3
    have lnY : ∀ a ∈ l :: as, a ∉ fp ("rows" : Str) := fun a ha => by
      have := O.apart ("orders" : Str) ("rows" : Str) (by decide) (by rw [hx]; rfl) (by rw [hy]; rfl) a (by rw [hfp]; exact ha)
      exact this
    have hl₁ : h₁.get? l = some { cls := .type "list", data := .seq vs.toArray c } := e₁ _ _ (lnY l (.head _)) hl
    refine ⟨vs.toArray, c, by rw [List.size_toArray, hvl]; exact hP, hl₁, ?_⟩
    have hs : Heap.SameBut l h₁ (h₁.update l (Obj.mapSeq fun xs => xs.push (Value.ref r))) := Heap.SameBut.update ..
    have eff := Eff.of_sameBut hs
    have nt : NoTup h₁ l := noTup_list hl₁
    have hup : (h₁.update l (Obj.mapSeq fun xs => xs.push (Value.ref r))).get? l = some { cls := .type "list", data := .seq (vs ++ [Value.ref r]).toArray (if ((vs ++ [Value.ref r]).toArray).size == vs.toArray.size then c else c + 1) } := by
      simpa using IsL.update (n := c) hl₁ (fun xs => xs.push (Value.ref r))
    obtain ⟨fp₁, O₁⟩ := S₁.vars
    have hx₁ : (put ("rows" : Str) (.py (.list (rest.map .list))) ow).lookup ("orders" : Str) = some (.py (iLL P)) := by rw [lookup_put, if_neg (by decide)]; exact hx
    obtain ⟨v₁, q1, q2, q3, q4⟩ := O₁.own _ _ hx₁
    -- the name still holds l
    have hv₁ : v₁ = .ref l := by
      have w1 : VarAt h₁ env ("orders" : Str) v₁ := q1
      have w0 : VarAt s.heap env ("orders" : Str) (.ref l) := o1
      rcases w0 with ⟨kk, m, hn, hm⟩ | ⟨kk, cc, hc, hv⟩
      · unfold Env.kindOf at kk; rw [S.hsc] at kk; cases kk
      · rcases w1 with ⟨kk', _⟩ | ⟨_, cc', hc', hv'⟩
        · unfold Env.kindOf at kk'; rw [S.hsc] at kk'; cases kk'
        · rw [hc] at hc'; cases hc'
          obtain ⟨oc, hoc, hdc⟩ := hv
          obtain ⟨oc', hoc', hdc'⟩ := hv'
          have hcc : cc ∉ fp ("rows" : Str) := fun hm => by
            obtain ⟨_, _, _, _, h4⟩ := O.own _ _ hy
            exact (h4 cc hm).2.1 (.inr ⟨_, hc⟩)
          rw [e₁ _ _ hcc hoc] at hoc'
          cases hoc'
          rw [hdc] at hdc'
          injection hdc' with e
          injection e with e
          exact e.symm
    subst hv₁
    have q2' : Rd h₁ (.ref l) (.list (P.map iL)) (fp₁ ("orders" : Str)) := q2
    generalize hfp₁ : fp₁ ("orders" : Str) = fx₁ at q2' q3 q4
    cases q2' with
    | @list _ vs₁ c₁ _ as₁ hl₁' rs₁ =>
    have : vs₁ = vs := by rw [hl₁] at hl₁'; injection hl₁' with i2; injection i2 with _ _ i2; injection i2 with i2; simpa using i2.symm
    subst this
    obtain ⟨lnd, and⟩ := List.nodup_cons.mp q3
    have rr : Rd h₁ (.ref r) (.list out) [r] := rd
    have rX : ∀ a ∈ l :: as₁, a ≠ r := fun a ha w => (q4 a ha).2.2 (.inr w)
    have nZr : ¬ X r := fun w => by obtain ⟨o, ho⟩ := S.dom r w; rw [hr] at ho; cases ho
    have gr : g r = none := by
      cases q : g r with
      | none => rfl
      | some o => have := S.base r o q; rw [hr] at this; cases this
    have nfr : ¬ FrameAddr env r := fun w => by obtain ⟨o, ho⟩ := S.frame.some w; rw [hr] at ho; cases ho
    have S₂ := S₁.takeX (Z' := X) O₁ hx₁ (a := l) (by rw [hfp₁]; exact .head _) eff nt q1 (d' := .py (.list (P.map iL ++ [.list out]))) (as := l :: (as₁ ++ [r])) (by
        refine Rd.list hup ?_
        refine RdAll.append (rs₁.off (eff.off (fun b hb q => lnd (q ▸ hb)) fun b q => q ▸ nt)) (RdAll.one (Rd.off rr (eff.off (fun b hb q => ?_) fun b q => q ▸ nt)))
        rw [List.mem_singleton.mp hb] at q
        exact rX l (.head _) q.symm)
      (by
        refine List.nodup_cons.mpr ⟨fun q => ?_, nodup_append and (by simp) fun b hb hb' => ?_⟩
        · rcases List.mem_append.mp q with q | q
          · exact lnd q
          · exact rX l (.head _) (List.mem_singleton.mp q)
        · exact rX b (.tail _ hb) (List.mem_singleton.mp hb'))
      (fun b hb => by
        rcases List.mem_cons.mp hb with rfl | hb
        · left; rw [hfp₁]; exact .head _
        · rcases List.mem_append.mp hb with hb | hb
          · left; rw [hfp₁]; exact .tail _ hb
          · right; exact List.mem_singleton.mp hb) (.inr rfl) (fun b hb => .inl hb) nZr gr nfr ⟨_, hup⟩
    refine wpAny_execs_nil (wpAny_execs_nil ⟨_, ok r3, _, tk, rfl, ?_⟩)
    have eo : (.list (P.map iL ++ [.list out]) : PyData) = iLL (P ++ [(m3 R).1]) := by rw [← r1]; simp [iLL, iL]
    have er : (.list (rest.map .list) : PyData) = iLL (m3 R).2.1 := by rw [← r2, iLL_eq]
    rw [eo, er] at S₂
    exact S₂
  · rw [hmg] at run
    obtain ⟨hk1, hq⟩ := bad run
    rw [← hfr] at kb
    refine note_left (s := { s with heap := h₁, toks := tk }) t1 fm t2 fl kb fun h₂ fl₂ kb₂ fm₂ => ?_
    refine flight_set (s := { s with heap := h₂, toks := tk }) (f' := none) fl₂ kb₂ fm₂ fun h₃ fl₃ kb₃ fm₃ => ?_
    have S₃ : St K true (n + 1) lawSc X g sh (put "rows" dd ow) A env h₃ := S_b.kept (by rw [← hfr]; exact kb₃)
    refine wpAny_handleBy_builtin_as (X := "RuntimeError") (T := "RuntimeError") (b := true) PySem.F.isExc_RuntimeError (by rw [isSubtype_type]; kernel_rfl) PySem.F.self_RuntimeError (nameG (s := { s with heap := h₃, toks := tk }) S₃ B.rt (by rfl) ⟨rfl, ?_, ?_⟩)
    · obtain ⟨t, u, xa, _⟩ := fl₃.exc; exact xa.typeIs
    rw [if_pos rfl]
    refine flight_set (s := { s with heap := h₃, toks := tk }) (f' := none) fl₃ kb₃ fm₃ fun h₄ fl₄ kb₄ fm₄ => ?_
    have S₄ : St K true (n + 1) lawSc X g sh (put "rows" dd ow) A env h₄ := S_b.kept (by rw [← hfr]; exact kb₄)
    obtain ⟨m₄, hn₄⟩ := S₄.frame.ns
    have kErr : env.kindOf ("error" : Str) = some .local := by unfold Env.kindOf; rw [S.hsc]; rfl
    refine wpAny_storeName_local (s := { s with heap := h₄, toks := tk }) kErr hn₄ (fun h₅ hn₅ hs₅ => ?_) (by rw [S.henv.kind]; rfl)
    obtain ⟨tx, ux, xa, xt⟩ := (fl₄.exc).off hn₄ hs₅
    have e₅ := Eff.of_sameBut hs₅
    have ntL : ∀ a, a = env.locals → NoTup h₄ a := fun a q => q ▸ ns_noTup hn₄
    have lk : ∀ z d, z ≠ ("rows" : Str) → (ow ++ sh).lookup z = some d → (put ("rows" : Str) dd ow ++ sh).lookup z = some d := fun z d hz h => by
      rw [lookup_append] at h ⊢
      rw [lookup_put, if_neg hz]; exact h
    obtain ⟨vc, ac, vac, rdc, offc⟩ := S₄.inAll.vars _ _ (lk _ _ (by decide) hcr)
    obtain ⟨vk, ak, vak, rdk, offk⟩ := S₄.inAll.vars _ _ (lk _ _ (by decide) hk)
    have va5 : ∀ {z : Str} {u : Value}, z ≠ ("error" : Str) → env.kindOf z = some .local → VarAt h₄ env z u → VarAt h₅ env z u := fun {z u} hz hkz r => by
      rcases r with ⟨_, m', hm', hmz⟩ | ⟨kk, _⟩
      · refine .inl ⟨hkz, _, hn₅, ?_⟩
        show (if z = ("error" : Str) then _ else m₄ z) = some u
        rw [if_neg hz]
        have : m₄ = m' := by rw [hn₄.eq_nsMap, ← hm'.eq_nsMap]
        rw [this]; exact hmz
      · rw [hkz] at kk; rcases kk with kk | kk <;> cases kk
    have vac5 := va5 (by decide) (by unfold Env.kindOf; rw [S.hsc]; rfl) vac
    have vak5 := va5 (by decide) (by unfold Env.kindOf; rw [S.hsc]; rfl) vak
    have rdc5 : Rd h₅ vc (iL cr) ac := Rd.off rdc (e₅.off (fun a ha q => offc a ha (.inr (q ▸ .inl rfl))) ntL)
    have rdk5 : Rd h₅ vk (.int (k : Int)) ak := Rd.off rdk (e₅.off (fun a ha q => offk a ha (.inr (q ▸ .inl rfl))) ntL)
    have okB : K.Ok h₄ := S₄.ok
    have g5 : ∀ {a : Addr} {m : Str → Option Value}, K.h₀.Ns a m → h₅.Ns a m := fun {a m} hn => by
      obtain ⟨oo, es, ep, ho, r⟩ := hn
      refine ⟨oo, es, ep, (hs₅.2 a (fun q => ?_)).trans (okB.ext _ _ ho), r⟩
      have := S.bK a oo ho
      rw [q, S.new _ (.inl rfl)] at this; cases this
    -- crossed[:1] == [k]
    refine wpAny_execs_cons (wpAny_Return_some (BoolOp_and (wpAny_Compare1 (Subscript_ (wpAny_Name (loadName_at (s := { s with heap := h₅, toks := tk + 1 }) S.henv vac5 ?_ (by decide)) (by decide))) (by rfl))))
    refine wpAny_Slice ?_
    rw [evalPart_none]
    refine wpAny_pure ?_
    rw [evalPart_some]
    refine wpAny_Constant_int ?_
    refine wpAny_pure ?_
    have rdc5' : Rd h₅ vc (.list (cr.map .int)) ac := rdc5
    cases rdc5' with
    | @list lc vcs cc _ acs hlc rcs =>
    have hcs : vcs.length = cr.length := by rw [rcs.length]; simp
    have ivcs : IntsAre vcs cr := rcs.intsAre
    generalize hh6 : h₅.push { cls := .type "slice", data := .fields #[.none, .int 1 (tk + 1), .none] } = h₆
    have x₆ : Ext h₅ h₆ := hh6 ▸ Ext.push _ _
    have hS : h₆.IsSliceOf h₅.objs.size .none (.int 1 (tk + 1)) .none := hh6 ▸ Heap.IsSliceOf.new ..
    have hL6 : ({ s with heap := h₆, toks := tk + 1 + 1 } : Shared).heap.IsList lc vcs.toArray := ⟨_, x₆ _ _ hlc, rfl, _, rfl⟩
    refine tail_any hL6.typeIs slot_list_getitem.lookup (wpAny_getItem_list_slice (lo := none) (hi := some 1) (st := none) hL6 hS .none (.int 1 _) .none (by simp) ?_ (by rw [List.size_toArray, hcs]; exact hcl)) rfl
    generalize hh7 : h₆.push { cls := .type "list", data := .seq (slicePick vcs.toArray none (some 1) none) } = h₇
    have x₇ : Ext h₆ h₇ := hh7 ▸ Ext.push _ _
    have hL7 : h₇.get? h₆.objs.size = some { cls := .type "list", data := .seq (slicePick vcs.toArray none (some 1) none) } := hh7 ▸ Heap.get?_push_size _ rfl
    generalize h₆.objs.size = lS at hL7
    have pick : (slicePick vcs.toArray none (some 1) none).toList = vcs.take 1 := by
      have := slicePick_upto' vcs.toArray 1
      show (slicePick vcs.toArray none (some ((1 : Nat) : Int)) none).toList = vcs.take 1
      rw [this]
    have rdS : Rd h₇ (.ref lS) (iL (cr.take 1)) [lS] := by
      have hi : IntsAre (vcs.take 1) (cr.take 1) := by
        cases vcs with
        | nil => cases cr with
          | nil => exact .nil
          | cons _ _ => simp at hcs
        | cons v0 vr => cases cr with
          | nil => simp at hcs
          | cons c0 crr => cases ivcs with
            | cons _ _ _ => exact .cons _ _ .nil
      have : h₇.get? lS = some { cls := .type "list", data := .seq (vcs.take 1).toArray 0 } := by rw [hL7, ← pick]
      exact Rd.list this (rdAll_of_ints hi)
    cases rdk5 with
    | int _ tkk =>
    refine List_ (args_cons (wpAny_Name (loadName_at (s := { s with heap := h₇, toks := tk + 1 + 1 }) S.henv (vak5.ext (x₆.trans x₇)) (args_nil ?_) (by decide)) (by decide)) (by rfl))
    refine wpAny_newObj_type ?_
    generalize hh8 : h₇.push { cls := .type "list", data := .seq [Value.int (k : Int) tkk].toArray } = h₈
    have x₈ : Ext h₇ h₈ := hh8 ▸ Ext.push _ _
    have rdL : Rd h₈ (.ref h₇.objs.size) (iL [(k : Int)]) [h₇.objs.size] := Rd.list (vs := [.int (k : Int) tkk]) (n := 0) (hh8 ▸ Heap.get?_push_size _ rfl) (RdAll.cons (as := []) (bs := []) (.int _ _) .nil)
    have hun : (A.mark (some (.ref e))).units + 64 < cLine := by have := S.room.units; show A.units + 64 < cLine; omega
    refine SeqAt.compareEq_shaped (s := { s with heap := h₈, toks := tk + 1 + 1 }) (Rd.reads (rdS.ext x₈)) (Rd.reads rdL) (shp_ints _) (shp_ints _) hun ?_
    rw [eqv_iL, hk1]
    rw [show ([(k : Int)] == [(k : Int)]) = true by simp]
    refine wpAny_truthy_bool ?_
    rw [if_pos rfl]
    -- str(error) == words
    have x58 : Ext h₅ h₈ := x₆.trans (x₇.trans x₈)
    have hErr : VarAt h₈ env ("error" : Str) (.ref e) := (VarAt.ext (.inl ⟨kErr, _, hn₅, by simp⟩) x58)
    refine BoolOp_one (wpAny_Compare1 (Call_ (globG (h := h₈) (s := { s with heap := h₈, toks := tk + 1 + 1 }) S.henv ((g5 okB.g).keeps x58) ((g5 okB.b).keeps x58) B.str (by rw [S.hsc]; rfl) ?_) rfl) (by rfl))
    refine PySem.callWith_type (by rfl) ?_
    refine Calls.evalArgs_plain (Calls.spliced_cons (wpAny_Name (loadName_at (v := .ref e) (s := { s with heap := h₈, toks := tk + 1 + 1 }) S.henv hErr (Calls.spliced_nil ?_) (by decide)) (by decide)))
    refine PySem.P.str_of_exc_one (s := { s with heap := h₈, toks := tk + 1 + 1 }) PySem.F.excStr_RuntimeError (by have := S.room.units; show A.units + _ < _; omega) (by obtain ⟨o1, vs1, i1, i2⟩ := xa; exact ⟨o1, vs1, x58 _ _ i1, i2⟩) (by obtain ⟨o1, n1, i1, i2⟩ := xt; exact ⟨o1, n1, x58 _ _ i1, i2⟩) ?_
    refine wpAny_mkText ?_
    refine SeqAt.compareEq_shaped (Rd.reads (Rd.str _ _)) (Rd.reads (Rd.str _ _)) shp_words shp_words hun ?_
    refine wpAny_nameGoes kErr (hn₅.keeps x58) (by rw [S.henv.kind]; rfl) fun h₉ m₉ hn₉ hs₉ => ?_
    refine ⟨_, hq, h₉, _, rfl, [], fun a oo ha => ?_, ?_, nofun, fun _ => ⟨.nil, nofun⟩⟩
    · have hne : a ≠ env.locals := fun q => by rw [q, S.new _ (.inl rfl)] at ha; cases ha
      exact (hs₉.2 a hne).trans (x58 _ _ ((hs₅.2 a hne).trans (S₄.base a oo ha)))
    · exact Rd.bool true
end
end Mine

namespace Mine

/-- a list of rows by place -/
def tab (n : Nat) (F : Nat → List Int) : List (List Int) := (List.range n).map F
theorem tab_len (n : Nat) (F : Nat → List Int) : (tab n F).length = n := by simp [tab]
theorem tab_get {n : Nat} {F : Nat → List Int} {j : Nat} (h : j < n) : (tab n F).getD j [] = F j := by
  unfold tab; rw [List.getD_eq_getElem?_getD, List.getElem?_map, List.getElem?_range h]; rfl
theorem tab_get? {n : Nat} {F : Nat → List Int} {j : Nat} (h : j < n) : (tab n F)[j]? = some (F j) := by
  unfold tab; rw [List.getElem?_map, List.getElem?_range h]; rfl
theorem tab_set {n : Nat} {F : Nat → List Int} {p : Nat} {v : List Int} : (tab n F).set p v = tab n fun j => if j = p then v else F j := by
  refine List.ext_getElem? fun j => ?_
  rw [List.getElem?_set]
  by_cases hj : j < n
  · rw [tab_get? hj, tab_get? hj]
    by_cases q : p = j
    · subst q; simp [tab_len, hj]
    · simp [q, Ne.symm q]
  · have h1 : (tab n F)[j]? = none := List.getElem?_eq_none (by rw [tab_len]; omega)
    have h2 : (tab n fun j => if j = p then v else F j)[j]? = none := List.getElem?_eq_none (by rw [tab_len]; omega)
    rw [h1, h2]
    by_cases q : p = j
    · subst q; simp [tab_len, hj]
    · simp [q]
theorem tab_congr {n : Nat} {F G : Nat → List Int} (h : ∀ j, j < n → F j = G j) : tab n F = tab n G := by
  unfold tab; exact List.map_congr_left fun j hj => h j (List.mem_range.mp hj)
theorem tab_snoc (n : Nat) (F : Nat → List Int) : tab n F ++ [F n] = tab (n + 1) F := by unfold tab; rw [List.range_succ, List.map_append]; rfl
theorem map_set_iL (L : List (List Int)) (p : Nat) (v : List Int) : (L.map iL).set p (iL v) = (L.set p v).map iL := by rw [List.map_set]

/-! ### what the law makes of a script -/
def place5 (xs : List Int) (k : Nat) : Nat := k + 1 + (xs.getD (k - 1) 0 % ((xs.length : Int) + 1 - k)).toNat
theorem place5_spec {xs : List Int} {k : Nat} (h1 : 1 ≤ k) (h2 : k ≤ xs.length) : k < place5 xs k ∧ place5 xs k ≤ xs.length + 1 ∧ ((place5 xs k : Nat) : Int) = k + 1 + xs.getD (k - 1) 0 % ((xs.length + 1 : Nat) - (k : Int)) := by
  have e1 := Int.emod_nonneg (xs.getD (k - 1) 0) (b := (xs.length : Int) + 1 - k) (by omega)
  have e2 := Int.emod_lt_of_pos (xs.getD (k - 1) 0) (b := (xs.length : Int) + 1 - k) (by omega)
  have e3 : ((xs.length + 1 : Nat) : Int) - (k : Int) = (xs.length : Int) + 1 - k := by omega
  unfold place5
  rw [e3]
  omega
/-- the bases of j, as they were put -/
def kids (xs : List Int) (ord : List Int) (j : Nat) : List Int := ord.filter fun k => place5 xs k.toNat == j
def mark5 (xs : List Int) (k : Nat) : Int := (xs ++ [0]).getD (k - 1) 0 / 64 % 64
def ends5 (xs : List Int) (ord : List Int) (k : Nat) : Bool := kids xs ord k == [] || mark5 xs k % 2 == 1
def cross5 (xs : List Int) (ord : List Int) (k : Nat) : Bool := !ends5 xs ord k && mark5 xs k == 2
def fin5 (xs : List Int) (ord : List Int) (k : Nat) : List Int := if ends5 xs ord k then kids xs ord k ++ [0] else if mark5 xs k == 2 then 0 :: kids xs ord k else kids xs ord k
def crossed5 (xs : List Int) (ord : List Int) (i : Nat) : List Int := (((List.range i).map fun j => 1 + j).filter (cross5 xs ord)).map fun (k : Nat) => (k : Int)
def rows5 (O : Nat → List Int) (b : List Int) (k : Nat) : List (List Int) := [[(k : Int)]] ++ b.map (fun x => O x.toNat) ++ [b]
structure Law05 (xs : List Int) (ord : List Int) (O T : Nat → List Int) : Prop where
  ordM : ∀ k ∈ ord, 1 ≤ k ∧ k ≤ xs.length
  ordL : ord.length ≤ 63
  O0 : O 0 = [0]
  Ol : ∀ k, (O k).length ≤ 70
  step : ∀ k, 1 ≤ k → k ≤ xs.length + 1 → (cross5 xs ord k = true → (m3 (rows5 O (fin5 xs ord k) k)).2.2 = false) ∧ (cross5 xs ord k = false → (m3 (rows5 O (fin5 xs ord k) k)).2.2 = true ∧ (m3 (rows5 O (fin5 xs ord k) k)).1 = O k)
  tree : ∀ k, 1 ≤ k → k ≤ xs.length + 1 → T k = (k : Int) :: (kids xs ord k).flatMap fun c => T c.toNat
  end_ : O (xs.length + 1) = T (xs.length + 1) ++ [0]

theorem kids_mem {xs ord : List Int} (h : ∀ k ∈ ord, 1 ≤ k ∧ k ≤ xs.length) {j : Nat} {c : Int} (hc : c ∈ kids xs ord j) : 1 ≤ c ∧ c < j ∧ c ≤ xs.length := by
  obtain ⟨h1, h2⟩ := List.mem_filter.mp hc
  have := h c h1
  have e : place5 xs c.toNat = j := by simpa using h2
  have := place5_spec (xs := xs) (k := c.toNat) (by omega) (by omega)
  omega
theorem fin5_mem {xs ord : List Int} (h : ∀ k ∈ ord, 1 ≤ k ∧ k ≤ xs.length) {j : Nat} (hj : 1 ≤ j) {c : Int} (hc : c ∈ fin5 xs ord j) : 0 ≤ c ∧ c < j := by
  have : c ∈ kids xs ord j ∨ c = 0 := by
    unfold fin5 at hc
    split at hc
    · rcases List.mem_append.mp hc with h | h
      · exact .inl h
      · exact .inr (List.mem_singleton.mp h)
    · split at hc
      · rcases List.mem_cons.mp hc with h | h
        · exact .inr h
        · exact .inl h
      · exact .inl hc
  rcases this with h' | rfl
  · have := kids_mem h h'; omega
  · omega
theorem kids_len {xs ord : List Int} (h : ord.length ≤ 63) (j : Nat) : (kids xs ord j).length ≤ 63 := Nat.le_trans (List.length_filter_le ..) h
theorem fin5_len {xs ord : List Int} (h : ord.length ≤ 63) (j : Nat) : (fin5 xs ord j).length ≤ 64 := by
  have := kids_len (xs := xs) h j
  unfold fin5
  split
  · simp; omega
  · split
    · simp; omega
    · omega

section
variable {K : Cx} {n : Nat} {xs ord : List Int} {O T : Nat → List Int} {sh ow : List (Str × D)} {Q : Out → Prop}
variable {fc : Addr} {oc : Obj} {pmc cdc docc : Value}
def env5 (xs : List Int) : List (Str × D) := [("top", .py (.int ((xs.length + 1 : Nat) : Int))), ("script", .py (iL xs))]
def body2 : List Stmt := match st5 2 with | .For _ _ b _ _ => b | _ => []

/-- one turn of the first loop -/
theorem turn2 (hxs : xs.length ≤ 63) (hO : ord.length ≤ 63) {F : Nat → List Int} (hF : ∀ j, (F j).length ≤ 63) {k : Nat} (h1 : 1 ≤ k) (h2 : k ≤ xs.length) (hs : Sub (("k", .py (.int (k : Int))) :: env5 xs) sh) (ho : Sub [("bases", .py (iLL (tab (xs.length + 2) F)))] ow)
    (hq : ∀ sh' ow', Sub (env5 xs) sh' → Sub [("bases", .py (iLL (tab (xs.length + 2) fun j => if j = place5 xs k then F j ++ [(k : Int)] else F j)))] ow' → Q (.next sh' ow')) : Ex K true n lawSc sh ow body2 Q := by
  obtain ⟨p1, p2, p3⟩ := place5_spec h1 h2
  refine Ex.subs2 hs ho ?_
  have hsz : ((tab (xs.length + 2) F).map iL).length ≤ sizeLine := by rw [List.length_map, tab_len, sizeLine_eq]; omega
  refine Ex.cons (Ex1.itemAppend (ds := (tab (xs.length + 2) F).map iL) (es := (F (place5 xs k)).map .int) (i := place5 xs k) (k := ((place5 xs k : Nat) : Int)) (d := .int (k : Int)) (by rfl)
    (Ev.cast (Ev.addI (Ev.addI (Ev.name (by rfl)) Ev.cInt) (Ev.modI (y := ((xs.length + 1 : Nat) : Int) - (k : Int)) (Ev.itemIL (xs := xs) (j := k - 1) (Ev.name (by rfl)) (Ev.cast (Ev.subI (Ev.name (by rfl)) Ev.cInt) (by rw [show ((k : Nat) : Int) - 1 = ((k - 1 : Nat) : Int) by omega])) (by omega) (le_size hxs)) (Ev.subI (Ev.name (by rfl)) (Ev.name (by rfl))) (by omega))) (by rw [p3])) (.inl ⟨by omega, by omega⟩) hsz (by rw [List.getElem?_map, tab_get? (by omega)]; rfl) (Ev.name (by rfl)) (fun r => r.flat trivial) (by rw [List.length_map]; exact le_size (hF _)) ?_)
  refine Ex.nil (hq _ _ (Sub.cons rfl (Sub.cons rfl Sub.nil)) (Sub.cons ?_ Sub.nil))
  show some (D.py (.list (((tab (xs.length + 2) F).map iL).set (place5 xs k) (.list ((F (place5 xs k)).map .int ++ [.int (k : Int)]))))) = _
  have e : (.list ((F (place5 xs k)).map .int ++ [.int (k : Int)]) : PyData) = iL (F (place5 xs k) ++ [(k : Int)]) := by simp [iL]
  rw [e, map_set_iL, tab_set]
  have : (fun j => if j = place5 xs k then F (place5 xs k) ++ [(k : Int)] else F j) = fun j => if j = place5 xs k then F j ++ [(k : Int)] else F j := by
    funext j; by_cases q : j = place5 xs k
    · rw [if_pos q, if_pos q, q]
    · rw [if_neg q, if_neg q]
  rw [this]; rfl

def F4 (xs ord : List Int) (i j : Nat) : List Int := if 1 ≤ j ∧ j ≤ i then fin5 xs ord j else kids xs ord j

theorem st5_4 (B : BG K) (hxs : xs.length ≤ 63) (hO : ord.length ≤ 63) (hs : Sub (env5 xs) sh) (ho : Sub [("crossed", .py (iL [])), ("bases", .py (iLL (tab (xs.length + 2) (kids xs ord))))] ow)
    (hq : ∀ sh' ow', Sub (env5 xs) sh' → Sub [("crossed", .py (iL (crossed5 xs ord (xs.length + 1)))), ("bases", .py (iLL (tab (xs.length + 2) (F4 xs ord (xs.length + 1)))))] ow' → Q (.next sh' ow')) : Ex1 K true n lawSc sh ow (st5 4) Q := by
  have hk0 : tab (xs.length + 2) (kids xs ord) = tab (xs.length + 2) (F4 xs ord 0) := tab_congr fun j _ => by unfold F4; rw [if_neg (by omega)]
  refine Ex1.for (its := (List.range (xs.length + 1)).map fun i => .int ((1 + i : Nat))) (EvIt.cast (EvIt.range2 (lo := 1) (hi := xs.length + 1 + 1) B Ev.cInt (Ev.cast (Ev.addI (Ev.name (hs ("top" : Str) _ rfl)) Ev.cInt) (by simp)) (by decide) (by rw [sizeLine_eq]; omega)) (by rw [Nat.add_sub_cancel]))
    (fun i sh' ow' => Sub (env5 xs) sh' ∧ Sub [("crossed", .py (iL (crossed5 xs ord i))), ("bases", .py (iLL (tab (xs.length + 2) (F4 xs ord i))))] ow') ⟨hs, by rw [← hk0]; exact ho⟩ (fun i di sh' ow' hi hI => ?_) (fun sh' ow' hI => ?_)
  · obtain ⟨hS, hB⟩ := hI
    have hil : i < xs.length + 1 := by
      have := (List.getElem?_eq_some_iff.mp hi).1
      simpa using this
    obtain rfl : PyData.int ((1 + i : Nat)) = di := by
      rw [List.getElem?_map, List.getElem?_range hil] at hi; simpa using hi
    have hkl := kids_len (xs := xs) hO (1 + i)
    have hFi : F4 xs ord i (1 + i) = kids xs ord (1 + i) := by unfold F4; rw [if_neg (by omega)]
    have hcl : (crossed5 xs ord i).length ≤ 64 := by
      unfold crossed5; rw [List.length_map]
      exact Nat.le_trans (List.length_filter_le ..) (by simp; omega)
    have hcs : crossed5 xs ord (i + 1) = crossed5 xs ord i ++ if cross5 xs ord (1 + i) then [((1 + i : Nat) : Int)] else [] := by
      unfold crossed5
      rw [List.range_succ, List.map_append, List.filter_append, List.map_append]
      congr 1
      cases q : cross5 xs ord (1 + i) <;> simp [q]
    have hF4 : ∀ v, v = fin5 xs ord (1 + i) → (tab (xs.length + 2) (F4 xs ord i)).set (1 + i) v = tab (xs.length + 2) (F4 xs ord (i + 1)) := fun v hv => by
      rw [tab_set]
      refine tab_congr fun j _ => ?_
      unfold F4
      by_cases q : j = 1 + i
      · rw [if_pos q, if_pos (by omega), hv, q]
      · rw [if_neg q]
        by_cases q2 : 1 ≤ j ∧ j ≤ i
        · rw [if_pos q2, if_pos (by omega)]
        · rw [if_neg q2, if_neg (by omega)]
    have hsame : fin5 xs ord (1 + i) = kids xs ord (1 + i) → tab (xs.length + 2) (F4 xs ord i) = tab (xs.length + 2) (F4 xs ord (i + 1)) := fun h => by
      rw [← hF4 _ rfl, h, tab_set]
      refine tab_congr fun j _ => ?_
      by_cases q : j = 1 + i
      · rw [if_pos q, q, hFi]
      · rw [if_neg q]
    have hsz : ((tab (xs.length + 2) (F4 xs ord i)).map iL).length ≤ sizeLine := by rw [List.length_map, tab_len, sizeLine_eq]; omega
    have hit : ((tab (xs.length + 2) (F4 xs ord i)).map iL)[1 + i]? = some (.list ((kids xs ord (1 + i)).map .int)) := by rw [List.getElem?_map, tab_get? (by omega), hFi]; rfl
    have hsl : (xs ++ [0]).length ≤ sizeLine := by rw [List.length_append, sizeLine_eq]; simp; omega
    refine ⟨_, _, AsgS.name, Ex.subs2 (Sub.pushC hS (by rfl)) (Sub.del hB (by rfl)) ?_⟩
    refine Ex.cons (Ex1.assign (d := .py (.int (mark5 xs (1 + i)))) (Ev.modI (Ev.divI (Ev.itemIL (xs := xs ++ [0]) (j := 1 + i - 1) (Ev.addLI (xs := xs) (ys := [0]) (Ev.name (by rfl)) (Ev.list (ds := [.int 0]) (EvAll.cons Ev.cInt EvAll.nil) (by show 1 ≤ sizeLine; decide)) (by rw [List.length_append] at hsl; exact hsl)) (Ev.cast (Ev.subI (Ev.name (by rfl)) Ev.cInt) (by rw [show ((1 + i : Nat) : Int) - 1 = ((1 + i - 1 : Nat) : Int) by omega])) (by rw [List.length_append]; simp; omega) hsl) Ev.cInt (by decide) (by decide)) Ev.cInt (by decide)) ?_)
    refine Ex.cons (Ex1.if (b := ends5 xs ord (1 + i)) (Tr.orCons (b := kids xs ord (1 + i) == []) (c := mark5 xs (1 + i) % 2 == 1) (Tr.cmp (Ev.item (ds := (tab (xs.length + 2) (F4 xs ord i)).map iL) (d := iL (kids xs ord (1 + i))) (Ev.name (by rfl)) (Ev.name (by rfl)) (Int.natCast_nonneg _) (by rw [Int.toNat_natCast]; exact hit) hsz) (Ev.list EvAll.nil) (CmpOk.eqIL (ys := []))) fun _ => Tr.cast (Tr.orCons (c := false) (Tr.cmp (Ev.modI (Ev.name (by rfl)) Ev.cInt (by decide)) Ev.cInt CmpOk.eqI) fun _ => Tr.orNil) (by simp)) (fun h => ?_) (fun h => ?_))
    · refine Ex.cons (Ex1.itemAppend (ds := (tab (xs.length + 2) (F4 xs ord i)).map iL) (es := (kids xs ord (1 + i)).map .int) (i := 1 + i) (k := ((1 + i : Nat) : Int)) (d := .int 0) (by rfl) (Ev.name (by rfl)) (.inl ⟨by omega, by omega⟩) hsz hit Ev.cInt (fun r => r.flat trivial) (by rw [List.length_map]; exact le_size hkl) ?_)
      have hc : cross5 xs ord (1 + i) = false := by unfold cross5; rw [h]; rfl
      refine Ex.nil (Ex.nil ⟨Sub.cons rfl (Sub.cons rfl Sub.nil), Sub.cons ?_ (Sub.cons ?_ Sub.nil)⟩)
      · rw [hcs, hc]; simp; rfl
      · show some (D.py (.list (((tab (xs.length + 2) (F4 xs ord i)).map iL).set (1 + i) (.list ((kids xs ord (1 + i)).map .int ++ [.int 0]))))) = _
        have e : (.list ((kids xs ord (1 + i)).map .int ++ [.int 0]) : PyData) = iL (kids xs ord (1 + i) ++ [0]) := by simp [iL]
        rw [e, map_set_iL, hF4 _ (by unfold fin5; rw [if_pos h])]; rfl
    · refine Ex.cons (Ex1.if (b := mark5 xs (1 + i) == 2) (Tr.cmp (Ev.name (by rfl)) Ev.cInt CmpOk.eqI) (fun h2 => ?_) (fun h2 => ?_))
      · have hc : cross5 xs ord (1 + i) = true := by unfold cross5; rw [h, h2]; rfl
        refine Ex.cons (Ex1.itemInsert (ds := (tab (xs.length + 2) (F4 xs ord i)).map iL) (es := (kids xs ord (1 + i)).map .int) (i := 1 + i) (k := ((1 + i : Nat) : Int)) (d := .int 0) (by rfl) (Ev.name (by rfl)) (Int.natCast_nonneg _) (by omega) hsz hit Ev.cInt Ev.cInt (fun r => r.flat trivial) (by rw [List.length_map]; exact le_size hkl) ?_)
        refine Ex.cons (Ex1.append (ds := (crossed5 xs ord i).map .int) (d := .int ((1 + i : Nat) : Int)) (by rfl) (Ev.nameFlat (by rfl) trivial) (by rw [List.length_map, sizeLine_eq]; omega) ?_)
        refine Ex.nil (Ex.nil (Ex.nil ⟨Sub.cons rfl (Sub.cons rfl Sub.nil), Sub.cons ?_ (Sub.cons ?_ Sub.nil)⟩))
        · rw [hcs, hc, if_pos rfl]
          show some (D.py (.list ((crossed5 xs ord i).map .int ++ [.int ((1 + i : Nat) : Int)]))) = some (D.py (iL (crossed5 xs ord i ++ [((1 + i : Nat) : Int)])))
          simp [iL]
        · show some (D.py (.list (((tab (xs.length + 2) (F4 xs ord i)).map iL).set (1 + i) (.list (.int 0 :: (kids xs ord (1 + i)).map .int))))) = _
          have e : (.list (.int 0 :: (kids xs ord (1 + i)).map .int) : PyData) = iL (0 :: kids xs ord (1 + i)) := by simp [iL]
          rw [e, map_set_iL, hF4 _ (by unfold fin5; rw [h, if_neg Bool.false_ne_true, if_pos h2])]; rfl
      · have hc : cross5 xs ord (1 + i) = false := by unfold cross5; rw [h, h2]; rfl
        refine Ex.nil (Ex.nil (Ex.nil ⟨Sub.cons rfl (Sub.cons rfl Sub.nil), Sub.cons ?_ (Sub.cons ?_ Sub.nil)⟩))
        · rw [hcs, hc]; simp; rfl
        · rw [← hsame (by unfold fin5; rw [h, if_neg Bool.false_ne_true, h2, if_neg Bool.false_ne_true])]; rfl
  · rw [List.length_map, List.length_range] at hI
    exact Ex.nil (hq sh' ow' hI.1 hI.2)
end
end Mine

namespace Mine

theorem crossed_nil {xs ord : List Int} {m : Nat} (h : ∀ j, 1 ≤ j → j ≤ m → cross5 xs ord j = false) : crossed5 xs ord m = [] := by
  unfold crossed5
  have : ((List.range m).map fun j => 1 + j).filter (cross5 xs ord) = [] := by
    refine List.filter_eq_nil_iff.mpr fun a ha => ?_
    obtain ⟨j, hj, rfl⟩ := List.mem_map.mp ha
    rw [h (1 + j) (by omega) (by have := List.mem_range.mp hj; omega)]; exact Bool.false_ne_true
  rw [this]; rfl
theorem crossed_take {xs ord : List Int} {m i : Nat} (h : ∀ j, 1 ≤ j → j ≤ i → cross5 xs ord j = false) (hi : cross5 xs ord (1 + i) = true) (hm : i < m) : (crossed5 xs ord m).take 1 = [((1 + i : Nat) : Int)] := by
  have e : m = i + (m - i) := by omega
  have e2 : m - i = (m - i - 1) + 1 := by omega
  have h0 := crossed_nil h
  unfold crossed5 at h0 ⊢
  rw [e, List.range_add, List.map_append, List.filter_append, List.map_append, h0, e2, List.range_succ_eq_map]
  simp [hi]

section
variable {K : Cx} {n : Nat} {xs ord : List Int} {O T : Nat → List Int} {sh ow : List (Str × D)} {Q : Out → Prop}
variable {fc : Addr} {oc : Obj} {pmc cdc docc : Value}

theorem rows5_len {b : List Int} {k : Nat} (hb : b.length ≤ 64) : (rows5 O b k).length ≤ 66 := by unfold rows5; simp; omega
theorem rows5_tot {b : List Int} {k : Nat} (hO : ∀ k, (O k).length ≤ 70) (hb : b.length ≤ 64) : tot (rows5 O b k) ≤ 4620 := by
  refine Nat.le_trans (tot_le (b := 70) fun r hr => ?_) (Nat.le_trans (Nat.mul_le_mul_right 70 (rows5_len (O := O) (k := k) hb)) (by decide))
  unfold rows5 at hr
  rcases List.mem_append.mp hr with hr | hr
  · rcases List.mem_append.mp hr with hr | hr
    · rw [List.mem_singleton.mp hr]; simp
    · obtain ⟨a, _, rfl⟩ := List.mem_map.mp hr; exact hO _
  · rw [List.mem_singleton.mp hr]; omega

/-- rows = [[k]] + [list(orders[base]) for base in bases[k]] + [list(bases[k])] -/
theorem rows_asg (B : BG K) (L : Law05 xs ord O T) (hxs : xs.length ≤ 63) {i : Nat} (hi : i < xs.length + 1) {cr : List Int}
    (hq : Q (.next (("k", .py (.int ((1 + i : Nat) : Int))) :: env5 xs) [("rows", .py (iLL (rows5 O (fin5 xs ord (1 + i)) (1 + i)))), ("orders", .py (iLL (tab (1 + i) O))), ("crossed", .py (iL cr)), ("bases", .py (iLL (tab (xs.length + 2) (F4 xs ord (xs.length + 1)))))])) :
    Ex1 K true n lawSc (("k", .py (.int ((1 + i : Nat) : Int))) :: env5 xs) [("orders", .py (iLL (tab (1 + i) O))), ("crossed", .py (iL cr)), ("bases", .py (iLL (tab (xs.length + 2) (F4 xs ord (xs.length + 1)))))] (body6.getD 0 (.Pass ⟨0, 0, 0, 0⟩)) Q := by
  have hF : F4 xs ord (xs.length + 1) (1 + i) = fin5 xs ord (1 + i) := by unfold F4; rw [if_pos (by omega)]
  have hfl := fin5_len (xs := xs) L.ordL (1 + i)
  have hfm : ∀ c ∈ fin5 xs ord (1 + i), 0 ≤ c ∧ c < ((1 + i : Nat) : Int) := fun c hc => fin5_mem L.ordM (by omega) hc
  have hbl : (tab (xs.length + 2) (F4 xs ord (xs.length + 1))).length ≤ sizeLine := by rw [tab_len, sizeLine_eq]; omega
  have hol : (tab (1 + i) O).length ≤ sizeLine := by rw [tab_len, sizeLine_eq]; omega
  have hget : (tab (xs.length + 2) (F4 xs ord (xs.length + 1))).getD (1 + i) [] = fin5 xs ord (1 + i) := by rw [tab_get (by omega), hF]
  refine Ex1.assignOwn (d := .py (iLL (rows5 O (fin5 xs ord (1 + i)) (1 + i)))) (Ev.cast (Ev.addLL (fa := true) (fb := true) (P := [[((1 + i : Nat) : Int)]] ++ (fin5 xs ord (1 + i)).map (fun x => O x.toNat)) (R := [fin5 xs ord (1 + i)])
    (Ev.addLL (fa := true) (fb := true) (P := [[((1 + i : Nat) : Int)]]) (R := (fin5 xs ord (1 + i)).map (fun x => O x.toNat))
      (Ev.list (ds := [iL [((1 + i : Nat) : Int)]]) (EvAll.cons (Ev.list (ds := [.int ((1 + i : Nat) : Int)]) (EvAll.cons (Ev.nameFlat (d := .int ((1 + i : Nat) : Int)) (by rfl) trivial) EvAll.nil)) EvAll.nil))
      (Ev.cast (Ev.ofCm (Cm.one (fr := true) (fin5 xs ord (1 + i)) .int (fun _ => true) (fun x => iL (O x.toNat)) (EvIt.cast (Ev.iter (ds := (fin5 xs ord (1 + i)).map .int) (Ev.cast (Ev.itemLL (P := tab (xs.length + 2) (F4 xs ord (xs.length + 1))) (k := 1 + i) (Ev.name (by rfl)) (Ev.name (by rfl)) (by rw [tab_len]; omega) hbl) (by rw [hget]; rfl))) rfl)
        (fun _ _ => TrAll.nil) (fun c hc _ => ?_) (by rw [sizeLine_eq]; omega))) ?_) ?_)
    (Ev.list (ds := [iL (fin5 xs ord (1 + i))]) (EvAll.cons (Ev.listIL (xs := fin5 xs ord (1 + i)) B (Ev.cast (Ev.itemLL (P := tab (xs.length + 2) (F4 xs ord (xs.length + 1))) (k := 1 + i) (Ev.name (by rfl)) (Ev.name (by rfl)) (by rw [tab_len]; omega) hbl) (by rw [hget])) (by rw [sizeLine_eq]; omega)) EvAll.nil)) ?_) rfl) hq
  · have := hfm c hc
    have hO := L.Ol c.toNat
    exact Ev.listIL (xs := O c.toNat) B (Ev.cast (Ev.itemLL (P := tab (1 + i) O) (k := c.toNat) (Ev.name (by rfl)) (Ev.cast (Ev.name (d := .py (.int c)) (by rfl)) (by rw [Int.toNat_of_nonneg this.1])) (by rw [tab_len]; omega) hol) (by rw [tab_get (by omega)])) (by rw [sizeLine_eq]; omega)
  · rw [List.filter_eq_self.mpr (by simp)]
    unfold iLL; rw [List.map_map]; rfl
  · rw [List.length_map, sizeLine_eq]; simp; omega
  · rw [List.length_append, List.length_map, sizeLine_eq]; simp; omega
end
end Mine

namespace Mine
section
variable {K : Cx} {n : Nat} {xs ord : List Int} {O T : Nat → List Int} {sh ow : List (Str × D)} {Q : Out → Prop}
variable {fc : Addr} {oc : Obj} {pmc cdc docc : Value}

theorem st5_6 (B : BG K) (Fc : Fn K c3Rec fc oc pmc cdc docc) (L : Law05 xs ord O T) (hxs : xs.length ≤ 63) (hs : Sub (env5 xs) sh) (ho : Sub [("orders", .py (iLL (tab 1 O))), ("crossed", .py (iL (crossed5 xs ord (xs.length + 1)))), ("bases", .py (iLL (tab (xs.length + 2) (F4 xs ord (xs.length + 1)))))] ow)
    (hr : Q (.ret (.py (.bool true)) true))
    (hq : ∀ sh' ow', (∀ j, 1 ≤ j → j ≤ xs.length + 1 → cross5 xs ord j = false) → Sub (env5 xs) sh' → Sub [("orders", .py (iLL (tab (xs.length + 2) O))), ("crossed", .py (iL (crossed5 xs ord (xs.length + 1)))), ("bases", .py (iLL (tab (xs.length + 2) (F4 xs ord (xs.length + 1)))))] ow' → Q (.next sh' ow')) : Ex1 K true (n + 1) lawSc sh ow (st5 6) Q := by
  refine Ex1.for (its := (List.range (xs.length + 1)).map fun i => .int ((1 + i : Nat))) (EvIt.cast (EvIt.range2 (lo := 1) (hi := xs.length + 1 + 1) B Ev.cInt (Ev.cast (Ev.addI (Ev.name (hs ("top" : Str) _ rfl)) Ev.cInt) (by simp)) (by decide) (by rw [sizeLine_eq]; omega)) (by rw [Nat.add_sub_cancel]))
    (fun i sh' ow' => (∀ j, 1 ≤ j → j ≤ i → cross5 xs ord j = false) ∧ Sub (env5 xs) sh' ∧ Sub [("orders", .py (iLL (tab (1 + i) O))), ("crossed", .py (iL (crossed5 xs ord (xs.length + 1)))), ("bases", .py (iLL (tab (xs.length + 2) (F4 xs ord (xs.length + 1)))))] ow') ⟨fun j h1 h2 => by omega, hs, ho⟩ (fun i di sh' ow' hi hI => ?_) (fun sh' ow' hI => ?_)
  · obtain ⟨hc, hS, hB⟩ := hI
    have hil : i < xs.length + 1 := by
      have := (List.getElem?_eq_some_iff.mp hi).1
      simpa using this
    obtain rfl : PyData.int ((1 + i : Nat)) = di := by
      rw [List.getElem?_map, List.getElem?_range hil] at hi; simpa using hi
    have hfl := fin5_len (xs := xs) L.ordL (1 + i)
    have hcl : (crossed5 xs ord (xs.length + 1)).length ≤ sizeLine := by
      unfold crossed5; rw [List.length_map, sizeLine_eq]
      exact Nat.le_trans (List.length_filter_le ..) (by simp; omega)
    obtain ⟨s1, s2⟩ := L.step (1 + i) (by omega) (by omega)
    refine ⟨_, _, AsgS.name, Ex.subs2 (Sub.pushC hS (by rfl)) (Sub.del hB (by rfl)) ?_⟩
    refine Ex.cons (rows_asg B L hxs hil ?_)
    refine Ex.cons (try5 (P := tab (1 + i) O) (R := rows5 O (fin5 xs ord (1 + i)) (1 + i)) (cr := crossed5 xs ord (xs.length + 1)) (k := 1 + i) B Fc (by rfl) (by rfl) (by rfl) (by rfl) (by rw [tab_len, sizeLine_eq]; omega) hcl (by have := rows5_len (O := O) (k := 1 + i) hfl; rw [sizeLine_eq]; omega) (by have := rows5_tot (k := 1 + i) L.Ol hfl; rw [sizeLine_eq]; omega) (fun r => ?_) (fun r => ?_))
    · have hcx : cross5 xs ord (1 + i) = false := by
        cases q : cross5 xs ord (1 + i) with
        | false => rfl
        | true => rw [s1 q] at r; cases r
      obtain ⟨_, e⟩ := s2 hcx
      refine Ex.nil ⟨fun j h1 h2 => ?_, Sub.cons rfl (Sub.cons rfl Sub.nil), Sub.cons ?_ (Sub.cons rfl (Sub.cons rfl Sub.nil))⟩
      · by_cases q : j = 1 + i
        · rw [q]; exact hcx
        · exact hc j h1 (by omega)
      · rw [e, tab_snoc]; rfl
    · have hcx : cross5 xs ord (1 + i) = true := by
        cases q : cross5 xs ord (1 + i) with
        | true => rfl
        | false => rw [(s2 q).1] at r; cases r
      exact ⟨crossed_take hc hcx hil, hr⟩
  · rw [List.length_map, List.length_range] at hI
    obtain ⟨hc, hS, hB⟩ := hI
    rw [show 1 + (xs.length + 1) = xs.length + 2 by omega] at hB
    exact Ex.nil (hq sh' ow' hc hS hB)
end
end Mine

namespace Mine

theorem fin5_rev {xs ord : List Int} (h : ∀ k ∈ ord, 1 ≤ k ∧ k ≤ xs.length) (j : Nat) : (fin5 xs ord j).reverse.filter (fun c => c != 0) = (kids xs ord j).reverse := by
  have hk : (kids xs ord j).reverse.filter (fun c => c != 0) = (kids xs ord j).reverse := List.filter_eq_self.mpr fun c hc => by
    have := kids_mem h (List.mem_reverse.mp hc)
    simp; omega
  unfold fin5
  split
  · rw [List.reverse_append, List.filter_append, hk]; rfl
  · split
    · rw [List.reverse_cons, List.filter_append, hk]; simp
    · exact hk
theorem len_flatMap {W : List Int} {T : Nat → List Int} (h : ∀ w ∈ W, 1 ≤ (T w.toNat).length) : W.length ≤ (W.flatMap fun w => T w.toNat).length := by
  induction W with
  | nil => simp
  | cons a l ih =>
    have := h a (.head _)
    have := ih fun w hw => h w (.tail _ hw)
    rw [List.flatMap_cons, List.length_append, List.length_cons]; omega

section
variable {K : Cx} {n : Nat} {xs ord : List Int} {O T : Nat → List Int} {sh ow : List (Str × D)} {Q : Out → Prop}
def own5 (xs ord : List Int) (O : Nat → List Int) : List (Str × D) := [("orders", .py (iLL (tab (xs.length + 2) O))), ("crossed", .py (iL (crossed5 xs ord (xs.length + 1)))), ("bases", .py (iLL (tab (xs.length + 2) (F4 xs ord (xs.length + 1)))))]

theorem st5_9 (B : BG K) (L : Law05 xs ord O T) (hxs : xs.length ≤ 63) (hs : Sub (env5 xs) sh) (ho : Sub (("waiting", .py (iL [((xs.length + 1 : Nat) : Int)])) :: ("due", .py (iL [])) :: own5 xs ord O) ow)
    (hq : ∀ sh' ow', Sub (env5 xs) sh' → Sub (("due", .py (iL (T (xs.length + 1)))) :: own5 xs ord O) ow' → Q (.next sh' ow')) : Ex1 K true n lawSc sh ow (st5 9) Q := by
  have hTl : (T (xs.length + 1)).length ≤ 69 := by
    have := L.Ol (xs.length + 1)
    rw [L.end_, List.length_append] at this
    simp at this; omega
  have hT1 : ∀ k, 1 ≤ k → k ≤ xs.length + 1 → 1 ≤ (T k).length := fun k h1 h2 => by rw [L.tree k h1 h2]; simp
  refine Ex1.while (m := (T (xs.length + 1)).length) (fun m sh' ow' => ∃ (due W : List Int), Sub (env5 xs) sh' ∧ Sub (("waiting", .py (iL W)) :: ("due", .py (iL due)) :: own5 xs ord O) ow' ∧ due ++ (W.reverse.flatMap fun w => T w.toNat) = T (xs.length + 1) ∧ m = (T (xs.length + 1)).length - due.length ∧ ∀ w ∈ W, 1 ≤ w ∧ w ≤ ((xs.length + 1 : Nat) : Int))
    ⟨[], [((xs.length + 1 : Nat) : Int)], hs, ho, by simp, by simp, fun w hw => by rw [List.mem_singleton.mp hw]; omega⟩ fun m sh' ow' hI => ?_
  obtain ⟨due, W, hS, hO, hdw, rfl, hW⟩ := hI
  have hlen : due.length + W.length ≤ (T (xs.length + 1)).length := by
    have := len_flatMap (W := W.reverse) (T := T) fun w hw => by
      have := hW w (List.mem_reverse.mp hw)
      exact hT1 _ (by omega) (by omega)
    rw [← hdw, List.length_append]; rw [List.length_reverse] at this; omega
  refine ⟨!(W == []), Tr.cmp (Ev.name (by rw [lookup_append, hO ("waiting" : Str) _ rfl]; rfl)) (Ev.list EvAll.nil) (CmpOk.neIL (ys := [])), fun hb => ?_, fun hb => ?_⟩
  · have hne : W ≠ [] := fun q => by rw [q] at hb; cases hb
    obtain ⟨W', w, rfl⟩ : ∃ W' w, W = W' ++ [w] := ⟨W.dropLast, W.getLast hne, (List.dropLast_concat_getLast hne).symm⟩
    have hw := hW w (by simp)
    have hwl : W'.length + 1 + due.length ≤ 69 := by simp at hlen; omega
    have hkl := kids_len (xs := xs) L.ordL w.toNat
    have hfl := fin5_len (xs := xs) L.ordL w.toNat
    have hbl : (tab (xs.length + 2) (F4 xs ord (xs.length + 1))).length ≤ sizeLine := by rw [tab_len, sizeLine_eq]; omega
    have hget : (tab (xs.length + 2) (F4 xs ord (xs.length + 1))).getD w.toNat [] = fin5 xs ord w.toNat := by
      rw [tab_get (by omega)]; unfold F4; rw [if_pos (by omega)]
    refine Ex.subs2 hS hO ?_
    refine Ex.cons (Ex1.assignPop (ds := W'.map .int) (d := .int w) (by show some (D.py (.list ((W' ++ [w]).map .int))) = _; simp) (fun d' hd => ?_) (by rw [List.length_map, sizeLine_eq]; omega) ?_)
    · rcases List.mem_append.mp hd with hd | hd
      · obtain ⟨i, _, rfl⟩ := List.mem_map.mp hd; exact Atom.int i
      · rw [List.mem_singleton.mp hd]; exact Atom.int w
    refine Ex.cons (Ex1.append (ds := due.map .int) (d := .int w) (by rfl) (Ev.nameFlat (by rfl) trivial) (by rw [List.length_map, sizeLine_eq]; omega) ?_)
    refine Ex.cons (Ex1.extendA (fr := false) (ds := W'.map .int) (es := (kids xs ord w.toNat).reverse.map .int) (by rfl) (Ev.cast (Ev.ofCm (Cm.one (fr := false) (fin5 xs ord w.toNat).reverse .int (fun c => c != 0) .int
      (Ev.iter (Ev.revIL (xs := fin5 xs ord w.toNat) (Ev.cast (Ev.itemLL (P := tab (xs.length + 2) (F4 xs ord (xs.length + 1))) (k := w.toNat) (Ev.name (by rfl)) (Ev.cast (Ev.name (d := .py (.int w)) (by rfl)) (by rw [Int.toNat_of_nonneg (by omega)])) (by rw [tab_len]; omega) hbl) (by rw [hget])) (Ev.negI Ev.cInt) (by rw [sizeLine_eq]; omega)))
      (fun c _ => TrAll.one (Tr.cmp (Ev.name (by rfl)) Ev.cInt CmpOk.neI)) (fun c _ _ => Ev.name (by rfl)) (by rw [List.length_reverse, sizeLine_eq]; omega))) (by rw [fin5_rev L.ordM])) (fun d hd => ?_) (by rw [List.length_map, List.length_map, List.length_reverse, sizeLine_eq]; omega) ?_)
    · obtain ⟨i, _, rfl⟩ := List.mem_map.mp hd; exact Atom.int i
    refine Ex.nil ⟨(T (xs.length + 1)).length - (due ++ [w]).length, by simp at hlen ⊢; omega, due ++ [w], W' ++ (kids xs ord w.toNat).reverse, Sub.cons rfl (Sub.cons rfl Sub.nil), Sub.cons ?_ (Sub.cons ?_ (Sub.cons rfl (Sub.cons rfl (Sub.cons rfl Sub.nil)))), ?_, rfl, fun u hu => ?_⟩
    · show some (D.py (.list (W'.map .int ++ (kids xs ord w.toNat).reverse.map .int))) = some (D.py (iL _))
      simp [iL]
    · show some (D.py (.list (due.map .int ++ [.int w]))) = some (D.py (iL _))
      simp [iL]
    · rw [← hdw, List.reverse_append, List.reverse_reverse, List.reverse_append, List.flatMap_append, List.flatMap_append]
      simp only [List.reverse_singleton, List.flatMap_singleton]
      rw [L.tree w.toNat (by omega) (by omega), Int.toNat_of_nonneg (by omega)]
      simp
    · rcases List.mem_append.mp hu with hu | hu
      · exact hW u (List.mem_append_left _ hu)
      · have := kids_mem L.ordM (List.mem_reverse.mp hu); omega
  · have hne : W = [] := by simpa using hb
    subst hne
    have : due = T (xs.length + 1) := by rw [← hdw]; simp
    subst this
    exact Ex.nil (hq sh' ow' hS fun x d hx => hO x d (by
      by_cases q : x = "waiting"
      · subst q; cases hx
      · rw [List.lookup_cons, show (x == ("waiting" : Str)) = false by simpa using q]; exact hx))

/-- the last statements -/
theorem tail5 (B : BG K) {fc : Addr} {oc : Obj} {pmc cdc docc : Value} (Fc : Fn K c3Rec fc oc pmc cdc docc) (L : Law05 xs ord O T) (hxs : xs.length ≤ 63) (hs : Sub (env5 xs) sh) (ho : Sub [("bases", .py (iLL (tab (xs.length + 2) (kids xs ord))))] ow) :
    Ex K true (n + 1) lawSc sh ow [st5 3, st5 4, st5 5, st5 6, st5 7, st5 8, st5 9, st5 10] fun o => o = .ret (.py (.bool true)) true := by
  refine Ex.subs2 hs ho ?_
  refine Ex.cons (Ex1.assignOwn (Ev.list EvAll.nil) ?_)
  refine Ex.cons (st5_4 B hxs L.ordL (Sub.cons rfl (Sub.cons rfl Sub.nil)) (Sub.cons rfl (Sub.cons rfl Sub.nil)) fun sh₁ ow₁ hs₁ ho₁ => Ex.subs2 hs₁ ho₁ ?_)
  refine Ex.cons (Ex1.assignOwn (Ev.list (ds := [iL [0]]) (EvAll.cons (Ev.list (ds := [.int 0]) (EvAll.cons Ev.cInt EvAll.nil)) EvAll.nil)) ?_)
  refine Ex.cons (st5_6 B Fc L hxs (Sub.cons rfl (Sub.cons rfl Sub.nil)) (Sub.cons (by unfold tab; simp [L.O0, iLL]) (Sub.cons rfl (Sub.cons rfl Sub.nil))) rfl fun sh₂ ow₂ hc hs₂ ho₂ => Ex.subs2 hs₂ ho₂ ?_)
  refine Ex.cons (Ex1.assignOwn (Ev.list EvAll.nil) ?_)
  refine Ex.cons (Ex1.assignOwn (Ev.list (ds := [.int ((xs.length + 1 : Nat) : Int)]) (EvAll.cons (Ev.nameFlat (d := .int ((xs.length + 1 : Nat) : Int)) (by rfl) trivial) EvAll.nil)) ?_)
  refine Ex.cons (st5_9 B L hxs (Sub.cons rfl (Sub.cons rfl Sub.nil)) (Sub.cons rfl (Sub.cons rfl (Sub.cons rfl (Sub.cons rfl (Sub.cons rfl Sub.nil))))) fun sh₃ ow₃ hs₃ ho₃ => Ex.subs2 hs₃ ho₃ ?_)
  have hTl : (T (xs.length + 1)).length ≤ 69 := by
    have := L.Ol (xs.length + 1)
    rw [L.end_, List.length_append] at this
    simp at this; omega
  refine Ex.cons (Ex1.ret (d := .py (.bool true)) (Ev.cast (Ev.and (p := crossed5 xs ord (xs.length + 1) == []) (q := O (xs.length + 1) == T (xs.length + 1) ++ [0]) (Ev.cmp (Ev.name (by rfl)) (Ev.list EvAll.nil) (CmpOk.eqIL (ys := []))) fun _ => Ev.cmp
    (Ev.cast (Ev.itemLL (P := tab (xs.length + 2) O) (k := xs.length + 1) (Ev.name (by rfl)) (Ev.name (by rfl)) (by rw [tab_len]; omega) (by rw [tab_len, sizeLine_eq]; omega)) (by rw [tab_get (by omega)]))
    (Ev.addLI (xs := T (xs.length + 1)) (ys := [0]) (Ev.name (by rfl)) (Ev.list (ds := [.int 0]) (EvAll.cons Ev.cInt EvAll.nil)) (by rw [sizeLine_eq]; simp; omega)) CmpOk.eqIL) (by rw [crossed_nil hc, L.end_]; simp)) rfl)
end
end Mine

namespace Mine

theorem Own.pin {K : Cx} {X : Addr → Prop} {g : Addr → Option Obj} {sh ow : List (Str × D)} {env : Env} {h : Heap} {fp : Str → List Addr} {c : Addr} (O : Own K g X env sh ow fp h) (hX : X c) : Own K (fun a => if a = c then h.get? c else g a) X env sh ow fp h := by
  refine ⟨fun x d hx => ?_, O.apart, O.shared⟩
  obtain ⟨v, h1, h2, h3, h4⟩ := O.own x d hx
  refine ⟨v, h1, h2, h3, fun a ha => ⟨?_, (h4 a ha).2⟩⟩
  by_cases q : a = c
  · exact absurd (q ▸ hX) (h4 a ha).2.2
  · simp only [q, if_false]; exact (h4 a ha).1

section
variable {K : Cx} {n : Nat} {xs ord : List Int} {Q : Out → Prop}
theorem st5_0 (B : BG K) (hxs : xs.length ≤ 63) (hq : Q (.next (env5 xs) [])) : Ex1 K true n lawSc [("script", .py (iL xs))] [] (st5 0) Q :=
  Ex1.assign (d := .py (.int ((xs.length + 1 : Nat) : Int))) (Ev.cast (Ev.addI (Ev.lenIL (xs := xs) B (Ev.name (by rfl)) (le_size hxs)) Ev.cInt) (by simp)) hq
theorem st5_1 (B : BG K) (hxs : xs.length ≤ 63) (hq : Q (.next (env5 xs) [("bases", .py (iLL (tab (xs.length + 2) (kids xs []))))])) : Ex1 K true n lawSc (env5 xs) [] (st5 1) Q := by
  refine Ex1.assignCmOwn (x := "bases") (out := (tab (xs.length + 2) (kids xs [])).map iL) (Cm.cast (Cm.one (List.range (xs.length + 2)) (fun (k : Nat) => .int (k : Int)) (fun _ => true) (fun _ => iL []) (EvIt.cast (EvIt.range1 (k := xs.length + 2) B (Ev.cast (Ev.addI (Ev.name (by rfl)) Ev.cInt) (by congr 1)) (by rw [sizeLine_eq]; omega)) rfl)
    (fun _ _ => TrAll.nil) (fun k _ _ => Ev.list (ds := []) EvAll.nil) (by rw [List.length_range, sizeLine_eq]; omega)) ?_) hq (by rfl) (swap_true (by rfl) (by rfl) (by rfl) (by rfl))
  rw [List.filter_eq_self.mpr (by simp)]
  unfold tab; rw [List.map_map]
  exact List.map_congr_left fun j _ => rfl

theorem kids_step {k : Int} {l : List Int} (h : 0 ≤ k) : kids xs (l ++ [k]) = fun j => if j = place5 xs k.toNat then kids xs l j ++ [((k.toNat : Nat) : Int)] else kids xs l j := by
  funext j
  unfold kids
  rw [List.filter_append]
  by_cases q : j = place5 xs k.toNat
  · rw [if_pos q]; simp [q, Int.toNat_of_nonneg h]
  · rw [if_neg q]; simp [Ne.symm q]
end

/-- the law is called -/
theorem law05_top {K : Cx} {fa l P c bm fc : Addr} {o ob oc : Obj} {pm doc pmc cdc docc : Value} {xs : List Int} {s : Shared} {R : Result → Shared → Prop} {n : Nat} (hn : n + 2 ≤ 30) (hK2 : ∀ a o, s.heap.get? a = some o → a ≠ P → K.h₀.get? a = some o) (hKP : K.h₀.get? P = none) (hP : s.heap.get? P = some (tabObj #[]))
    (ok : K.Ok s.heap) (B : BG K) (Fd : Fn K lawRec fa o pm (.ref c) doc) (C : CodeHd K.h₀ c P) (Fc : Fn K c3Rec fc oc pmc cdc docc)
    (hb1 : K.mg "__builtins__" = some (.ref bm)) (hb2 : bm ≠ builtinsNs) (hb3 : K.h₀.get? bm = some ob) (hb4 : ob.cls = .type "module") (hb5 : ob.dict = some builtinsNs) (hb6 : ob.data = .plain)
    (rd : Rd s.heap (.ref l) (iL xs) [l]) (hxs : xs.length ≤ 63) (plain : ∀ ord : List Int, ord.Perm ((List.range xs.length).map fun i => ((1 + i : Nat) : Int)) → ∃ O T, Law05 xs ord O T)
    (k : ∀ h' tk, (∀ a o, s.heap.get? a = some o → a ≠ P → h'.get? a = some o) → (∃ ps, h'.get? P = some (tabObj ps)) → R (.ok (.ret (.bool true))) { s with heap := h', toks := tk }) : codeAny (model K.prog K.w) callerA (.call (.ref fa) ⟨[.ref l], []⟩) R s := by
  have To : TopOk lawRec.scope ["script"] := TopOk.of (by decide)
  have hb : ∀ v : Value, bindArgs (Calls.docDef lawRec.name lawRec.params lawRec.body lawRec.scope pm (.ref c) doc) ⟨[v], []⟩ = pure [(("script" : Str), v)] := fun v => by rfl
  have hdep : callerA.depth + 1 + (n + 2) < recursionLimit := by
    have : callerA.depth = 301 := by decide +kernel
    have : recursionLimit = 1000 := by decide +kernel
    omega
  have hlP : l ≠ P := fun q => by
    have rd' : Rd s.heap (.ref l) (.list (xs.map .int)) [l] := rd
    cases rd' with
    | list hl _ => rw [q, hP] at hl; cases hl
  refine call_cells (binds := [(("script" : Str), .ref l)]) (by omega) (ok.ext _ _ Fd.get) Fd.data (ok.lim.keeps ok.ext) (Fd.code.keeps ok.ext) (hb _) (fun x hx => ?_) (fun h₁ tk₁ F Cl => ?_) To.co To.gen To.kind
  · obtain rfl := List.mem_singleton.mp hx
    rcases To.binds "script" (.head _) with q | q
    · exact .inl q
    · obtain ⟨c, hc⟩ := cellsFrom_has lawRec.scope.names (s.heap.objs.size + 1) (mem_of_lookup q)
      obtain ⟨c', hc'⟩ := lookup_isSome_of_mem hc
      exact .inr ⟨q, by rw [hc']; rfl⟩
  have ro : Room (callerA.deeper (envOfC lawRec.name lawRec.scope s.heap.objs.size fa (.ref c))) (n + 2) := ⟨rfl, hdep, by
    show 4 + 3 + 8 * (n + 2) + 200 < cLine
    have : cLine = 9900 := by decide +kernel
    omega⟩
  have S : St K true (n + 2) lawRec.scope (fun a => a = P) (fun a => s.heap.get? a) [("script", .py (iL xs))] [] (callerA.deeper (envOfC lawRec.name lawRec.scope s.heap.objs.size fa (.ref c))) (envOfC lawRec.name lawRec.scope s.heap.objs.size fa (.ref c)) h₁ :=
    St.enter (names := ["script"]) (vs := [.ref l]) (ds := [.py (iL xs)]) (as := [l] ++ []) To ro ok rfl F Cl (.cons rd .nil) rfl (fun a ha => ⟨_, ha ▸ hP⟩) (fun a ha q => by
      rcases List.mem_append.mp ha with ha | ha
      · exact hlP ((List.mem_singleton.mp ha).symm.trans q)
      · cases ha) fun _ => rfl
  have hcode : (envOfC lawRec.name lawRec.scope s.heap.objs.size fa (.ref c)).code = .ref c := rfl
  generalize envOfC lawRec.name lawRec.scope s.heap.objs.size fa (.ref c) = env at S hcode ⊢
  have S : St K true (n + 2) lawSc (fun a => a = P) (fun a => s.heap.get? a) [("script", .py (iL xs))] [] (callerA.deeper env) env h₁ := S
  generalize callerA.deeper env = A at S ⊢
  have hbody : lawRec.body = [st5 0, st5 1, st5 2, st5 3, st5 4, st5 5, st5 6, st5 7, st5 8, st5 9, st5 10] := rfl
  rw [hbody]
  refine wpAny_execs_cons (wpAny_mono ((st5_0 (n := n + 2) (Q := fun o => o = .next (env5 xs) []) B hxs rfl).run (s := { s with heap := h₁, toks := tk₁ }) (E := fun _ _ => False) S) (fun f s' p => ?_) fun _ _ q => q.elim)
  obtain ⟨_, rfl, h₂, tk₂, rfl, S₂⟩ := p
  cases f <;> first | exact S₂.elim | skip
  refine wpAny_execs_cons (wpAny_mono ((st5_1 (n := n + 2) (Q := fun o => o = .next (env5 xs) [("bases", .py (iLL (tab (xs.length + 2) (kids xs []))))]) B hxs rfl).run (s := { s with heap := h₂, toks := tk₂ }) (E := fun _ _ => False) S₂) (fun f s' p => ?_) fun _ _ q => q.elim)
  obtain ⟨_, rfl, h₃, tk₃, rfl, S₃⟩ := p
  cases f <;> first | exact S₃.elim | skip
  have S₃ : St K true (n + 2) lawSc (fun a => a = P) (fun a => s.heap.get? a) (env5 xs) [("bases", .py (iLL (tab (xs.length + 2) (kids xs []))))] A env h₃ := S₃
  have hP₃ : h₃.get? P = some (tabObj #[]) := S₃.base _ _ hP
  have nfP : ¬ FrameAddr env P := fun w => by have := S₃.new _ w; rw [hP] at this; cases this
  -- P is let go
  have S₄ : St K true (n + 2) lawSc (fun a => a = P) (fun a => if a = P then none else s.heap.get? a) (env5 xs) [("bases", .py (iLL (tab (xs.length + 2) (kids xs []))))] A env h₃ := S₃.lessG (fun a o ha => by
      by_cases q : a = P
      · simp [q] at ha
      · simpa [q] using ha) (fun a o ha => by
      by_cases q : a = P
      · rw [q, hKP] at ha; cases ha
      · simp only [q, if_false]; exact ok.ext a o ha)
  obtain ⟨fp, O⟩ := S₄.vars
  refine wpAny_execs_cons ?_
  have h2eq : st5 2 = .For (.Name "k" ⟨26, 8, 26, 9⟩) iter5 body2 [] ⟨26, 4, 27, 58⟩ := rfl
  rw [h2eq]
  refine wpAny_For (eval_sorted (s := { s with heap := h₃, toks := tk₃ }) B S₄ O hP₃ rfl (by simp) hcode C hb1 hb2 hb3 hb4 hb5 hb6 (by rfl) (by rfl) hxs fun D h₄ tk₄ ord hps S₅ O₅ rdD offD perm => ?_)
  obtain ⟨O_, T_, L⟩ := plain ord perm
  have S₆ := S₅.pin (c := P) rfl nfP
  have O₆ := O₅.pin (c := P) rfl
  generalize hgg : (fun a => if a = P then h₄.get? P else (fun a => if a = P then none else s.heap.get? a) a) = g₆ at S₆ O₆
  have g₆P : g₆ P = h₄.get? P := by rw [← hgg]; simp
  have g₆o : ∀ a, a ≠ P → g₆ a = s.heap.get? a := fun a ha => by rw [← hgg]; simp [ha]
  have hkl : ∀ (l : List Int), l.length ≤ 63 → ∀ j, (kids xs l j).length ≤ 63 := fun l hl j => kids_len hl j
  refine wpAny_mono (for_val (its := ord.map .int) (Q := fun o => match o with | .next sh' ow' => Sub (env5 xs) sh' ∧ Sub [("bases", .py (iLL (tab (xs.length + 2) (kids xs ord))))] ow' | _ => False) (s := { s with heap := h₄, toks := tk₄ }) (orelse := []) (body := body2) (tgt := .Name "k" ⟨26, 8, 26, 9⟩) (E := fun _ _ => False) S₆ O₆ rdD (fun b hb => by rw [List.mem_singleton.mp hb]; exact offD)
    (fun i sh' ow' => Sub (env5 xs) sh' ∧ Sub [("bases", .py (iLL (tab (xs.length + 2) (kids xs (ord.take i)))))] ow') ⟨Sub.refl, by rw [List.take_zero]; exact Sub.refl⟩ (fun i di sh' ow' hi hI => ?_) (fun sh' ow' hI => ?_)) (fun it s₂ p => ?_) fun _ _ q => q.elim
  · obtain ⟨hS, hB⟩ := hI
    obtain ⟨z, hz, rfl⟩ : ∃ x, ord[i]? = some x ∧ PyData.int x = di := by
      rw [List.getElem?_map] at hi
      cases q : ord[i]? with
      | none => rw [q] at hi; cases hi
      | some x => rw [q] at hi; exact ⟨x, rfl, by simpa using hi⟩
    have hil : i < ord.length := (List.getElem?_eq_some_iff.mp hz).1
    have hzm := L.ordM z (List.mem_of_getElem? hz)
    have hz2 : (PyData.int z) = .int ((z.toNat : Nat) : Int) := by rw [Int.toNat_of_nonneg (by omega)]
    refine ⟨_, _, AsgS.name, ?_⟩
    rw [hz2]
    refine turn2 (F := kids xs (ord.take i)) hxs L.ordL (hkl _ (by rw [List.length_take]; have := L.ordL; omega)) (k := z.toNat) (by omega) (by omega) (Sub.pushC hS (by rfl)) (Sub.del hB (by rfl)) fun sh₁ ow₁ hs₁ ho₁ => ⟨hs₁, ?_⟩
    rw [List.take_succ_eq_append_getElem hil, (List.getElem?_eq_some_iff.mp hz).2, kids_step (by omega)]
    exact ho₁
  · rw [List.length_map, List.take_length] at hI
    exact Ex.nil hI
  · refine codeAny_mono p fun r s' hr => ?_
    cases r with
    | error e =>
      exact wpAny_mono hr (fun _ _ q => q.elim) fun _ _ q => q.elim
    | ok f =>
    obtain ⟨o₁, hq, h₅, tk₅, rfl, r⟩ := hr
    cases o₁ with
    | next sh' ow' =>
      cases f with
      | next =>
        refine wpAny_mono ((tail5 (n := n + 1) B Fc L hxs hq.1 hq.2).run (s := { s with heap := h₅, toks := tk₅ }) (E := fun _ _ => False) r) (fun f s' p => ?_) fun _ _ q => q.elim
        obtain ⟨o', rfl, h', tk', rfl, ok'⟩ := p
        cases f with
        | ret v =>
          obtain ⟨bs, b1, b2, b3, b4⟩ := ok'
          have b2' : Rd h' v (.bool true) bs := b2
          cases b2'
          refine k h' tk' (fun a o ha hne => b1 a o ((g₆o a hne).trans ha)) ?_
          obtain ⟨ps, hps⟩ := hps
          exact ⟨ps, b1 _ _ (g₆P.trans hps)⟩
        | next => exact ok'.elim
        | brk => exact ok'.elim
        | cont => exact ok'.elim
      | _ => exact r.elim
    | _ => exact hq.elim
end Mine

namespace Mine

/-! ### the merge of a class, its bases' orders and its bases -/
theorem nodup_len5 {a b : List Int} (h : a.Nodup) (s : ∀ x ∈ a, x ∈ b) : a.length ≤ b.length := by
  induction a generalizing b with
  | nil => simp
  | cons x t ih =>
    obtain ⟨h1, h2⟩ := List.nodup_cons.mp h
    have hx := s x (.head _)
    have := ih (b := b.erase x) h2 fun y hy => (List.mem_erase_of_ne (fun (q : y = x) => h1 (q ▸ hy))).mpr (s y (.tail _ hy))
    rw [List.length_erase_of_mem hx] at this
    have : 0 < b.length := List.length_pos_of_mem hx
    rw [List.length_cons]; omega
theorem flatMap_congr5 {f g : Int → List Int} : ∀ {l : List Int}, (∀ c ∈ l, f c = g c) → l.flatMap f = l.flatMap g
  | [], _ => rfl
  | a :: l, h => by rw [List.flatMap_cons, List.flatMap_cons, h a (.head _), flatMap_congr5 fun c hc => h c (.tail _ hc)]
theorem pair_anti5 {α : Type} [DecidableEq α] {a b : α} {o : List α} (nd : o.Nodup) (h1 : [a, b].Sublist o) (h2 : [b, a].Sublist o) : False := by
  obtain ⟨u, v, rfl⟩ := List.append_of_mem (h1.mem (by simp : b ∈ [a, b]))
  have ha := pair_split nd h1
  obtain ⟨u1, u2, rfl⟩ := List.append_of_mem ha
  have hb := pair_split (a := u1) (b := u2 ++ b :: v) (by simpa using nd) (by simpa using h2)
  rw [List.nodup_append] at nd
  exact nd.2.2 b (by simp [hb]) b (by simp) rfl
theorem Next.of5 {R A B : List (List Int)} {row q : List Int} {c : Int} (e : R = A ++ row :: B) (h1 : c ∈ row) (h2 : c ∉ q) (h3 : ¬ Blk q R c) (h4 : ∀ r' ∈ A, ∀ y ∈ r', y ∉ q → Blk q R y) : Next q R c := by
  refine ⟨A.length, row, by rw [e]; simp, h1, h2, h3, fun j r' hj hr' => h4 r' ?_⟩
  rw [e, List.getElem?_append_left hj] at hr'
  exact List.mem_of_getElem? hr'
theorem flatMap_split {t : Int → List Int} {c : Int} {r : List Int} : ∀ {cs q : List Int}, cs.flatMap t = q ++ c :: r → ∃ cs1 c0 cs2 u v, cs = cs1 ++ c0 :: cs2 ∧ t c0 = u ++ c :: v ∧ q = cs1.flatMap t ++ u
  | [], q, h => by simp at h
  | a :: cs, q, h => by
    rw [List.flatMap_cons] at h
    rcases List.append_eq_append_iff.mp h with ⟨s, h1, h2⟩ | ⟨s, h1, h2⟩
    · obtain ⟨cs1, c0, cs2, u, v, e1, e2, e3⟩ := flatMap_split h2
      exact ⟨a :: cs1, c0, cs2, u, v, by rw [e1]; rfl, e2, by rw [h1, e3, List.flatMap_cons, List.append_assoc]⟩
    · cases s with
      | nil =>
        simp at h1 h2
        obtain ⟨cs1, c0, cs2, u, v, e1, e2, e3⟩ := flatMap_split (q := []) h2.symm
        exact ⟨a :: cs1, c0, cs2, u, v, by rw [e1]; rfl, e2, by rw [List.flatMap_cons, List.append_assoc, ← e3, List.append_nil, h1]⟩
      | cons x s =>
        simp at h2
        obtain ⟨rfl, h2⟩ := h2
        exact ⟨[], a, cs, q, s, rfl, h1, by simp⟩
theorem sub_flatMap {t : Int → List Int} : ∀ {cs : List Int}, (∀ c ∈ cs, ∃ u, t c = c :: u) → cs.Sublist (cs.flatMap t)
  | [], _ => List.Sublist.refl _
  | a :: cs, h => by
    obtain ⟨u, hu⟩ := h a (.head _)
    rw [List.flatMap_cons, hu, List.cons_append]
    exact (List.Sublist.trans (sub_flatMap fun c hc => h c (.tail _ hc)) (List.sublist_append_right _ _)).cons_cons a
theorem sub_one {t : Int → List Int} {cs : List Int} {c : Int} (h : c ∈ cs) : (t c).Sublist (cs.flatMap t) := by
  obtain ⟨a, b, rfl⟩ := List.append_of_mem h
  rw [List.flatMap_append, List.flatMap_cons]
  exact (List.sublist_append_left _ _).trans (List.sublist_append_right _ _)

theorem tellTree {k : Int} {cs e : List Int} {t O : Int → List Int} (hO : ∀ c ∈ cs, O c = t c ++ [0]) (he : e = [] ∨ e = [0]) (hO0 : O 0 = [0]) (hcs : e = [] → cs ≠ []) (ht : ∀ c ∈ cs, ∃ u, t c = c :: u) (nd : (k :: cs.flatMap t ++ [0]).Nodup) :
    (m3 ([[k]] ++ (cs ++ e).map O ++ [cs ++ e])).2.2 = true ∧ (m3 ([[k]] ++ (cs ++ e).map O ++ [cs ++ e])).1 = k :: cs.flatMap t ++ [0] := by
  generalize hR : [[k]] ++ (cs ++ e).map O ++ [cs ++ e] = R
  have h0e : ∀ x ∈ e, x = 0 := fun x hx => by
    rcases he with rfl | rfl
    · cases hx
    · simpa using hx
  have esub : e.Sublist [0] := by
    rcases he with rfl | rfl
    · exact List.nil_sublist _
    · exact List.Sublist.refl _
  have rows : ∀ r ∈ R, r = [k] ∨ (∃ c ∈ cs, r = t c ++ [0]) ∨ r = [0] ∨ r = cs ++ e := fun r hr => by
    rw [← hR] at hr
    rcases List.mem_append.mp hr with hr | hr
    · rcases List.mem_append.mp hr with hr | hr
      · exact .inl (List.mem_singleton.mp hr)
      · obtain ⟨c, hc, rfl⟩ := List.mem_map.mp hr
        rcases List.mem_append.mp hc with hc | hc
        · exact .inr (.inl ⟨c, hc, hO c hc⟩)
        · rw [h0e c hc, hO0]; exact .inr (.inr (.inl rfl))
    · exact .inr (.inr (.inr (List.mem_singleton.mp hr)))
  have subs : ∀ r ∈ R, r.Sublist (k :: cs.flatMap t ++ [0]) := fun r hr => by
    rcases rows r hr with rfl | ⟨c, hc, rfl⟩ | rfl | rfl
    · exact ((List.nil_sublist _).cons_cons k)
    · exact ((sub_one hc).cons k).append (List.Sublist.refl _)
    · exact List.sublist_append_right _ _
    · exact ((sub_flatMap ht).cons k).append esub
  have rowO : ∀ c ∈ cs, t c ++ [0] ∈ R := fun c hc => by
    rw [← hR, ← hO c hc]
    exact List.mem_append_left _ (List.mem_append_right _ (List.mem_map_of_mem (List.mem_append_left _ hc)))
  have ok : (m3 R).2.2 = true := m3_order nd _ R (Nat.le_refl _) subs
  refine ⟨ok, ?_⟩
  have nd' : (k :: cs.flatMap t).Nodup := (List.nodup_append.mp nd).1
  have n0 : (0 : Int) ∉ k :: cs.flatMap t := fun h => (List.nodup_append.mp nd).2.2 0 h 0 (by simp) rfl
  have run : Runs R (k :: cs.flatMap t) := fun q c r e0 => by
    have spl : k :: cs.flatMap t ++ [0] = q ++ c :: (r ++ [0]) := by rw [e0]; simp
    have hcq : c ∉ q := fun h => by
      rw [e0] at nd'
      exact (List.nodup_append.mp nd').2.2 c h c (by simp) rfl
    have nb : ¬ Blk q R c := fun ⟨row, hr, z, hz, hs⟩ => hz (pair_split (c := c) (a := q) (b := r ++ [0]) (spl ▸ nd) (spl ▸ hs.trans (subs row hr)))
    cases q with
    | nil =>
      have : k = c := by simp at e0; exact e0.1
      subst this
      exact Next.of5 (A := []) (row := [k]) (B := (cs ++ e).map O ++ [cs ++ e]) (by rw [← hR]; simp) (by simp) (by simp) nb (fun _ h => by cases h)
    | cons k' q =>
      simp only [List.cons_append, List.cons.injEq] at e0
      obtain ⟨rfl, e0⟩ := e0
      obtain ⟨cs1, c0, cs2, u, v, e1, e2, e3⟩ := flatMap_split e0
      have hc0 : c0 ∈ cs := by rw [e1]; simp
      have hcc : c ∈ t c0 := by rw [e2]; simp
      refine Next.of5 (A := [k] :: cs1.map O) (row := t c0 ++ [0]) (B := (cs2 ++ e).map O ++ [cs ++ e]) ?_ (List.mem_append_left _ hcc) hcq nb fun r' hr' y hy hyq => ?_
      · rw [← hR, ← hO c0 hc0]; conv => lhs; rw [show (cs ++ e).map O = cs1.map O ++ O c0 :: (cs2 ++ e).map O by rw [e1]; simp]
        simp
      · rcases List.mem_cons.mp hr' with rfl | hr'
        · rw [List.mem_singleton.mp hy] at hyq
          exact absurd (.head _) hyq
        · obtain ⟨c1, hc1, rfl⟩ := List.mem_map.mp hr'
          have hc1' : c1 ∈ cs := by rw [e1]; simp [hc1]
          rw [hO c1 hc1'] at hy
          rcases List.mem_append.mp hy with hy | hy
          · refine absurd ?_ hyq
            rw [e3]
            exact List.mem_cons_of_mem _ (List.mem_append_left _ (List.mem_flatMap.mpr ⟨c1, hc1, hy⟩))
          · rw [List.mem_singleton.mp hy]
            exact ⟨_, rowO c0 hc0, c, hcq, pair_append' hcc (by simp)⟩
  obtain ⟨m1, m2, m3', _⟩ := m3_ok _ R (Nat.le_refl _) ok
  have e := congrArg (·.1) (m3_runs run)
  simp only at e
  generalize (m3 (rem (k :: cs.flatMap t) R)).1 = l at e
  rw [e] at m1 m2 m3' ⊢
  congr 1
  have hl : ∀ x ∈ l, x = 0 := fun x hx => by
    obtain ⟨r, hr, hxr⟩ := m3' x (List.mem_append_right _ hx)
    rcases List.mem_append.mp ((subs r hr).mem hxr) with h | h
    · exact absurd rfl ((List.nodup_append.mp m1).2.2 x h x hx)
    · exact List.mem_singleton.mp h
  have h0 : (0 : Int) ∈ l := by
    have : ∃ r ∈ R, (0 : Int) ∈ r := by
      rcases he with rfl | rfl
      · cases cs with
        | nil => exact absurd rfl (hcs rfl)
        | cons c1 cs => exact ⟨_, rowO c1 (.head _), by simp⟩
      · exact ⟨_, by rw [← hR]; exact List.mem_append_right _ (.head _), by simp⟩
    obtain ⟨r, hr, h⟩ := this
    rcases List.mem_append.mp ((m2 r hr).mem h) with h | h
    · exact absurd h n0
    · exact h
  cases l with
  | nil => cases h0
  | cons a l =>
    have ha := hl a (.head _)
    subst ha
    cases l with
    | nil => rfl
    | cons b l =>
      have hb := hl b (by simp)
      subst hb
      have := (List.nodup_append.mp m1).2.1
      simp at this
theorem crossTree {R : List (List Int)} {c : Int} {a b : List Int} (h1 : 0 :: c :: a ∈ R) (h2 : c :: b ++ [0] ∈ R) : (m3 R).2.2 = false := by
  cases q : (m3 R).2.2 with
  | false => rfl
  | true =>
    obtain ⟨nd, s, _⟩ := m3_ok _ R (Nat.le_refl _) q
    refine (pair_anti5 (a := 0) (b := c) nd (List.Sublist.trans ?_ (s _ h1)) (List.Sublist.trans ?_ (s _ h2))).elim
    · exact ((List.nil_sublist _).cons_cons _).cons_cons _
    · exact (List.sublist_append_right b [0]).cons_cons c

/-! ### the tree -/
def Tf (xs ord : List Int) : Nat → Nat → List Int
  | 0, _ => []
  | f + 1, k => (k : Int) :: (kids xs ord k).flatMap fun c => Tf xs ord f c.toNat
section
variable {xs ord : List Int}
theorem Tf_eq (h : ∀ k ∈ ord, 1 ≤ k ∧ k ≤ xs.length) : ∀ (f g k : Nat), 1 ≤ k → k ≤ f → k ≤ g → Tf xs ord f k = Tf xs ord g k
  | 0, _, k, h1, h2, _ => by omega
  | _ + 1, 0, k, h1, _, h3 => by omega
  | f + 1, g + 1, k, h1, h2, h3 => by
    unfold Tf
    have : ∀ c ∈ kids xs ord k, Tf xs ord f c.toNat = Tf xs ord g c.toNat := fun c hc => by
      have := kids_mem h hc
      exact Tf_eq h f g c.toNat (by omega) (by omega) (by omega)
    rw [flatMap_congr5 this]
def Tt (xs ord : List Int) (k : Nat) : List Int := Tf xs ord k k
theorem Tt_eq (h : ∀ k ∈ ord, 1 ≤ k ∧ k ≤ xs.length) {k : Nat} (hk : 1 ≤ k) : Tt xs ord k = (k : Int) :: (kids xs ord k).flatMap fun c => Tt xs ord c.toNat := by
  obtain ⟨k, rfl⟩ : ∃ j, k = j + 1 := ⟨k - 1, by omega⟩
  unfold Tt
  conv => lhs; unfold Tf
  have : ∀ c ∈ kids xs ord (k + 1), Tf xs ord k c.toNat = Tf xs ord c.toNat c.toNat := fun c hc => by
    have := kids_mem h hc
    exact Tf_eq h _ _ c.toNat (by omega) (by omega) (by omega)
  rw [flatMap_congr5 this]
theorem Tt_mem (h : ∀ k ∈ ord, 1 ≤ k ∧ k ≤ xs.length) {k : Nat} (hk : 1 ≤ k) {a : Int} : a ∈ Tt xs ord k ↔ a = k ∨ ∃ c ∈ kids xs ord k, a ∈ Tt xs ord c.toNat := by
  rw [Tt_eq h hk, List.mem_cons, List.mem_flatMap]
theorem Tt_bound (h : ∀ k ∈ ord, 1 ≤ k ∧ k ≤ xs.length) : ∀ (f k : Nat), k ≤ f → 1 ≤ k → ∀ a ∈ Tt xs ord k, 1 ≤ a ∧ a ≤ k ∧ (a = k ∨ a ≤ xs.length)
  | 0, k, h1, h2, _, _ => by omega
  | f + 1, k, h1, h2, a, ha => by
    rcases (Tt_mem h h2).mp ha with rfl | ⟨c, hc, hac⟩
    · omega
    · have := kids_mem h hc
      have := Tt_bound h f c.toNat (by omega) (by omega) a hac
      omega
theorem Tt_parent (h : ∀ k ∈ ord, 1 ≤ k ∧ k ≤ xs.length) : ∀ (f k : Nat), k ≤ f → 1 ≤ k → ∀ a ∈ Tt xs ord k, a ≠ k → ((place5 xs a.toNat : Nat) : Int) ∈ Tt xs ord k
  | 0, k, h1, h2, _, _, _ => by omega
  | f + 1, k, h1, h2, a, ha, hne => by
    rcases (Tt_mem h h2).mp ha with rfl | ⟨c, hc, hac⟩
    · exact absurd rfl hne
    · have hcm := kids_mem h hc
      by_cases q : a = c
      · subst q
        have : place5 xs a.toNat = k := by simpa using (List.mem_filter.mp hc).2
        rw [this]; exact (Tt_mem h h2).mpr (.inl rfl)
      · exact (Tt_mem h h2).mpr (.inr ⟨c, hc, Tt_parent h f c.toNat (by omega) (by omega) a hac (by omega)⟩)
theorem Tt_up (h : ∀ k ∈ ord, 1 ≤ k ∧ k ≤ xs.length) {k k' : Nat} (h1 : 1 ≤ k) (hk : k < k') : ∀ (f : Nat) (a : Int), (k : Int) - a ≤ f → a ∈ Tt xs ord k → a ∈ Tt xs ord k' → (k : Int) ∈ Tt xs ord k' := by
  intro f
  induction f with
  | zero =>
    intro a hf ha ha'
    have := Tt_bound h k k (Nat.le_refl _) h1 a ha
    rw [show (k : Int) = a by omega]; exact ha'
  | succ f ih =>
    intro a hf ha ha'
    have b := Tt_bound h k k (Nat.le_refl _) h1 a ha
    by_cases q : a = k
    · rw [← q]; exact ha'
    · have p1 := Tt_parent h k k (Nat.le_refl _) h1 a ha q
      have p2 := Tt_parent h k' k' (Nat.le_refl _) (by omega) a ha' (by omega)
      have := place5_spec (xs := xs) (k := a.toNat) (by omega) (by omega)
      exact ih _ (by omega) p1 p2
theorem Tt_apart (h : ∀ k ∈ ord, 1 ≤ k ∧ k ≤ xs.length) {k : Nat} {c c' : Int} (hc : c ∈ kids xs ord k) (hc' : c' ∈ kids xs ord k) (hlt : c < c') {a : Int} (ha : a ∈ Tt xs ord c.toNat) (ha' : a ∈ Tt xs ord c'.toNat) : False := by
  have m1 := kids_mem h hc
  have m2 := kids_mem h hc'
  have u := Tt_up h (k := c.toNat) (k' := c'.toNat) (by omega) (by omega) (((c.toNat : Nat) : Int) - a).toNat a (by omega) ha ha'
  have p := Tt_parent h c'.toNat c'.toNat (Nat.le_refl _) (by omega) _ u (by omega)
  have e : place5 xs c.toNat = k := by simpa using (List.mem_filter.mp hc).2
  rw [Int.toNat_natCast, e] at p
  have := Tt_bound h c'.toNat c'.toNat (Nat.le_refl _) (by omega) _ p
  omega
theorem Tt_nodup (h : ∀ k ∈ ord, 1 ≤ k ∧ k ≤ xs.length) (nd : ord.Nodup) : ∀ (f k : Nat), k ≤ f → 1 ≤ k → (Tt xs ord k).Nodup
  | 0, k, h1, h2 => by omega
  | f + 1, k, h1, h2 => by
    rw [Tt_eq h h2]
    refine List.nodup_cons.mpr ⟨fun q => ?_, ?_⟩
    · obtain ⟨c, hc, hk⟩ := List.mem_flatMap.mp q
      have := kids_mem h hc
      have := Tt_bound h c.toNat c.toNat (Nat.le_refl _) (by omega) _ hk
      omega
    · refine List.pairwise_flatMap.mpr ⟨fun c hc => ?_, ?_⟩
      · have := kids_mem h hc
        exact Tt_nodup h nd f c.toNat (by omega) (by omega)
      · have hn : (kids xs ord k).Nodup := nd.filter _
        refine List.Pairwise.imp_of_mem (fun {c c'} hc hc' hne x hx y hy q => ?_) hn
        subst q
        rcases Int.lt_trichotomy c c' with q | q | q
        · exact Tt_apart h hc hc' q hx hy
        · exact hne q
        · exact Tt_apart h hc' hc q hy hx
theorem Tt_len (h : ∀ k ∈ ord, 1 ≤ k ∧ k ≤ xs.length) (nd : ord.Nodup) (hxs : xs.length ≤ 63) {k : Nat} (hk : 1 ≤ k) : (Tt xs ord k).length ≤ 64 := by
  have := nodup_len5 (b := (k : Int) :: (List.range xs.length).map fun i => ((1 + i : Nat) : Int)) (Tt_nodup h nd k k (Nat.le_refl _) hk) fun a ha => by
    have := Tt_bound h k k (Nat.le_refl _) hk a ha
    rcases this.2.2 with q | q
    · rw [q]; exact .head _
    · refine List.mem_cons_of_mem _ (List.mem_map.mpr ⟨a.toNat - 1, List.mem_range.mpr (by omega), by omega⟩)
  simp at this; omega

def Ot (xs ord : List Int) (k : Nat) : List Int := if k = 0 then [0] else Tt xs ord k ++ [0]

theorem law05 (hxs : xs.length ≤ 63) (hp : ord.Perm ((List.range xs.length).map fun i => ((1 + i : Nat) : Int))) : Law05 xs ord (Ot xs ord) (Tt xs ord) := by
  have hM : ∀ k ∈ ord, 1 ≤ k ∧ k ≤ xs.length := fun k hk => by
    obtain ⟨i, hi, rfl⟩ := List.mem_map.mp (hp.mem_iff.mp hk)
    have := List.mem_range.mp hi
    omega
  have nd : ord.Nodup := hp.nodup_iff.mpr (by
    refine List.Pairwise.map _ (fun a b h => ?_) List.nodup_range
    omega)
  have hOk : ∀ k, 1 ≤ k → Ot xs ord k = Tt xs ord k ++ [0] := fun k hk => by unfold Ot; rw [if_neg (by omega)]
  refine ⟨hM, by rw [hp.length_eq]; simpa using hxs, rfl, fun k => ?_, fun k h1 h2 => ?_, fun k h1 _ => Tt_eq hM h1, hOk _ (by omega)⟩
  · by_cases q : k = 0
    · subst q; simp [Ot]
    · have := Tt_len hM nd hxs (k := k) (by omega)
      rw [hOk k (by omega), List.length_append]; simp; omega
  · have hOc : ∀ c ∈ kids xs ord k, Ot xs ord c.toNat = Tt xs ord c.toNat ++ [0] := fun c hc => hOk _ (by have := kids_mem hM hc; omega)
    have htc : ∀ c ∈ kids xs ord k, ∃ u, Tt xs ord c.toNat = c :: u := fun c hc => by
      have := kids_mem hM hc
      exact ⟨_, by rw [Tt_eq hM (by omega), Int.toNat_of_nonneg (by omega)]⟩
    have hne : ends5 xs ord k = false → kids xs ord k ≠ [] := fun h q => by
      unfold ends5 at h; rw [q] at h; simp at h
    refine ⟨fun hc => ?_, fun hc => ?_⟩
    · unfold cross5 at hc
      simp at hc
      have hk := hne hc.1
      have hf : fin5 xs ord k = 0 :: kids xs ord k := by unfold fin5; rw [hc.1, if_neg Bool.false_ne_true, if_pos (by simpa using hc.2)]
      rw [hf]
      cases hks : kids xs ord k with
      | nil => exact absurd hks hk
      | cons c cs =>
        have hm : c ∈ kids xs ord k := by rw [hks]; exact .head _
        obtain ⟨u, hu⟩ := htc c hm
        refine crossTree (c := c) (a := cs) (b := u) ?_ ?_
        · unfold rows5; simp
        · rw [← hu, ← hOc c hm]; unfold rows5; simp
    · have hnd : ((k : Int) :: (kids xs ord k).flatMap (fun (c : Int) => Tt xs ord c.toNat) ++ [0]).Nodup := by
        rw [← Tt_eq hM h1]
        refine List.nodup_append.mpr ⟨Tt_nodup hM nd k k (Nat.le_refl _) h1, by simp, fun a ha b hb q => ?_⟩
        have := Tt_bound hM k k (Nat.le_refl _) h1 a ha
        have : b = 0 := by simpa using hb
        omega
      have key : ∀ e, (e = [] ∨ e = [0]) → (e = [] → kids xs ord k ≠ []) → fin5 xs ord k = kids xs ord k ++ e → (m3 (rows5 (Ot xs ord) (fin5 xs ord k) k)).2.2 = true ∧ (m3 (rows5 (Ot xs ord) (fin5 xs ord k) k)).1 = Ot xs ord k := fun e he hen hf => by
        have := tellTree (k := (k : Int)) (cs := kids xs ord k) (e := e) (t := fun (c : Int) => Tt xs ord c.toNat) (O := fun (c : Int) => Ot xs ord c.toNat) hOc he rfl hen htc hnd
        unfold rows5
        rw [hf, hOk k h1, Tt_eq hM h1]
        exact this
      cases q : ends5 xs ord k with
      | true => exact key [0] (.inr rfl) (fun h => by cases h) (by unfold fin5; rw [q, if_pos rfl])
      | false =>
        have hm : (mark5 xs k == 2) = false := by unfold cross5 at hc; rw [q] at hc; simpa using hc
        exact key [] (.inl rfl) (fun _ => hne q) (by unfold fin5; rw [q, if_neg Bool.false_ne_true, hm, if_neg Bool.false_ne_true, List.append_nil])
end
end Mine

set_option maxHeartbeats 8000000
namespace Mine
theorem BG.hide {p : Program} {w : World} {h h' : Heap} {mg mb : Str → Option Value} (B : BG ⟨p, w, h, mg, mb⟩) : BG ⟨p, w, h', mg, mb⟩ := ⟨B.rt, B.len, B.set, B.list, B.divmod, B.range, B.sorted, B.sum, B.min, B.max, B.str, B.bool, B.isinstance⟩
theorem ghost_rec {tabs : List (Addr × Addr)} {h : Heap} {cd : Value} {q : Str} (hT : TabsAt tabs h) (x : h.CodeRec cd q) : (ghostOf h tabs).CodeRec cd q := by
  obtain ⟨c, o, vs, t, e1, e2, e3, e4⟩ := x
  exact ⟨c, o, vs, t, e1, ghost_get hT e2 (fun q => by rw [q] at e3; cases e3; simp at e4), e3, e4⟩
theorem ghost_fnc {tabs : List (Addr × Addr)} {h : Heap} {f : Addr} {o : Obj} {fd : FuncData} (hT : TabsAt tabs h) (e : h.get? f = some o) (hd : o.data = .func fd) : (ghostOf h tabs).get? f = some o :=
  ghost_get hT e fun q => by rw [q] at hd; cases hd
open_top hd for PySem.Challenge.rw_dn0018_05
end Mine
theorem PySem.Challenge.cw_dn0018_05_holds : PySem.Challenge.rw_dn0018_05.Holds := by
  refine Mine.hd ?_
  k_fill
  intro w s₀ s₁ mg mb G Y fa o pm cd doc dV kV ho hd hcd hD hmg hg args vals as hpre hlay hrd hwl hlo
  refine Ground.open G ?_
  intro T B D TE TW
  wrow_args hpre hlay hrd hwl hlo
  rename_i xs _ _ _ _ _ _ _ l vs _ hl _ hw _ hi _ hlen _
  first | refine callC_kw (enter_call ?_) | refine enter_call ?_
  obtain ⟨fa', o', pm', cd', doc', hn', ho', hd', hc'⟩ := T.fn Mine.lawRec (by exact List.mem_cons_of_mem _ (List.mem_cons_self))
  obtain ⟨ft, ot, fdt, c, P, hnt, hot, hdt, hct, hIC, hTA⟩ := T.tab Mine.lawRec (by exact List.mem_cons_of_mem _ (List.mem_cons_self))
  obtain ⟨fc3Rec, oc3Rec, pmc3Rec, cdc3Rec, docc3Rec, hnc3Rec, hoc3Rec, hdc3Rec, hcc3Rec⟩ := T.fn Mine.c3Rec (by exact List.mem_cons_self)
  obtain rfl : ft = fa' := by
    rw [hn'] at hnt; cases hnt; rfl
  obtain rfl : ot = o' := by
    rw [ho'] at hot; cases hot; rfl
  obtain rfl : cd' = .ref c := by
    rw [hd'] at hdt
    injection hdt with hdt
    rw [← hdt] at hct
    exact hct
  obtain rfl : ft = fa := by
    have : mg Mine.lawRec.name = some (.ref fa) := hmg
    rw [this] at hn'; cases hn'; rfl
  have hlen' : xs.length ≤ 63 := by omega
  have hP : s₁.heap.get? P = some (tabObj #[]) := hTA.2
  have hT : TabsAt [(c, P)] s₁.heap := fun q hq => by
    rw [List.mem_singleton.mp hq]; exact ⟨.of hIC hTA, hP⟩
  have TT := ghost_top hT T
  obtain ⟨bm, ob, b1, b2, b3, b4, b5, b6⟩ := TT.bmain
  have BB : Mine.BG ⟨PySem.Challenge.rw_dn0018_05.row.prog, w, s₁.heap, mg, mb⟩ := Mine.BG.of T _ w fun x hx => by
    refine T.free x ?_ ?_ ?_ ?_ ?_ <;> (revert x hx; decide +kernel)
  refine Mine.law05_top (K := ⟨_, w, ghostOf s₁.heap [(c, P)], mg, mb⟩) (n := 4) (xs := xs) (P := P) (c := c) (by decide) (fun a o e hne => ghost_ne e (by simpa using hne)) (hideAll_none _ (by simp)) hP ⟨TT.g, TT.b, TT.nolimit, fun a o e => of_hideAll _ e⟩ BB.hide
    ⟨hn', Mine.ghost_fnc hT ho' hd', hd', Mine.ghost_rec hT hc'⟩ (ghost_code hT).1 ⟨hnc3Rec, Mine.ghost_fnc hT hoc3Rec hdc3Rec, hdc3Rec, Mine.ghost_rec hT hcc3Rec⟩ b1 b2 b3 b4 b5 b6 (Mine.rd_script hw hl hi) hlen' (fun ord hp => ⟨_, _, Mine.law05 hlen' hp⟩) (fun h' tk x hps => ?_)
  obtain ⟨ps, hps⟩ := hps
  refine ⟨.inl ⟨_, .bool true, [], rfl, fun _ => rfl, .bool true, postW_of (by wrow_shape) (by wtm_val) (by first | rfl | (str_meet; first | done | w_fin)), fun _ => ⟨.nil, nofun⟩⟩, ⟨fun b o e => ?_, fun b o e => ?_⟩, rfl, .of_eq hg⟩
  · by_cases q : b = P
    · subst q
      rw [hP] at e; cases e
      exact .inr (.inl ⟨hTA.isCodeTable, rfl, #[], ps, rfl, by simpa using hps⟩)
    · exact .inl (x b o e q)
  · by_cases q : b = P
    · subst q; exact ⟨_, hps⟩
    · exact ⟨_, x b o e q⟩
