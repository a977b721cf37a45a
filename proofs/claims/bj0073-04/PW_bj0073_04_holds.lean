import PyProof.Rows.All
import Wide.All
import OpenK.AllK
import Wide.FinOn
import KE.KSuper
import PyProof.IsiBase
import PyProof.IsiTupleOf
import Lean
import PySem.Challenge.RW_bj0073_04
set_option Elab.async false
section
open PySem PySem.W PyProof.Rows
set_option Elab.async false
set_option maxRecDepth 20000
namespace Mine

abbrev Hd := Nat × Nat

inductive AV where
  | none
  | bool (b : Bool)
  | int (i : Int)
  | str (x : Str)
  | tup (l : List AV)
  | lst (l : List AV)
  | dct (l : List (Str × AV))
  | ref (n : Hd)
  | mc (v : Value)
  | inst (C : Addr) (n : Hd)
  | clo (k : Nat)
  | bm (f : Addr) (self : AV)
  | rng (a b c : Int)
  | view (k : Nat) (a : AV)

def viewName : Nat → String
  | 0 => "dict_keys"
  | 1 => "dict_items"
  | _ => "dict_values"

inductive AO where
  | list (l : List AV)
  | dictI (l : List (Int × AV))
  | dictS (l : List (Str × AV))
  | ctr (C : Addr) (l : List (Str × AV))
  | sset (l : List Str)
  | ns (l : List (Str × AV))

inductive Tag where
  | z | pin | tab
  | loc (lvl : Nat)
  | cel (lvl i : Nat)
  | obj (n : Hd)

structure GF where
  names : List (Str × NameKind)
  L : Addr
  cs : List (Str × Addr)

structure Gh where
  kn : Addr → Option (Tag × Obj)
  mu : Hd → Option Addr
  fr : List GF

/-- a closure's skeleton -/
structure Sk where
  name : Str
  qual : Str
  params : Arguments
  body : List Stmt
  scope : Scope

namespace Gh
def z (G : Gh) (a : Addr) : Option Obj := match G.kn a with
  | some (.z, o) => some o
  | _ => none
theorem z_iff {G : Gh} {a : Addr} {o : Obj} : G.z a = some o ↔ G.kn a = some (.z, o) := by
  unfold z
  split
  · rename_i o' h; rw [h]; simp
  · rename_i h
    constructor
    · intro e; cases e
    · intro e; exact absurd e (h o)

structure Le (G G' : Gh) : Prop where
  z : ∀ a o, G.kn a = some (.z, o) → G'.kn a = some (.z, o)
  pin : ∀ a o, G.kn a = some (.pin, o) → G'.kn a = some (.pin, o)
  mu : ∀ n a, G.mu n = some a → G'.mu n = some a
  fr : G'.fr = G.fr
theorem Le.refl (G : Gh) : G.Le G := ⟨fun _ _ h => h, fun _ _ h => h, fun _ _ h => h, rfl⟩
theorem Le.trans {G G' G'' : Gh} (a : G.Le G') (b : G'.Le G'') : G.Le G'' :=
  ⟨fun x o h => b.z x o (a.z x o h), fun x o h => b.pin x o (a.pin x o h), fun n x h => b.mu n x (a.mu n x h), b.fr.trans a.fr⟩
end Gh

/-- what Rep may look at -/
structure Vw where
  z : Addr → Option Obj
  mu : Hd → Option Addr
  clo : Nat → Obj → Prop
  dob : Obj → List (Str × Value) → Prop

structure Vw.Le (V V' : Vw) : Prop where
  z : ∀ a o, V.z a = some o → V'.z a = some o
  mu : ∀ n a, V.mu n = some a → V'.mu n = some a
  clo : ∀ k o, V.clo k o → V'.clo k o
  dob : ∀ o l, V.dob o l → V'.dob o l

mutual
def RepV (V : Vw) : AV → Value → Prop
  | .none, v => v = .none
  | .bool b, v => v = .bool b
  | .int i, v => ∃ t, v = .int i t
  | .str x, v => ∃ t, v = .str x t
  | .tup l, v => ∃ (a : Addr) (vs : Array Value) (_ : Unit), v = .ref a ∧ V.z a = some ⟨.type "tuple", none, .seq vs 0, #[]⟩ ∧ RepVs V l vs.toList
  | .lst l, v => ∃ a vs n, v = .ref a ∧ V.z a = some ⟨.type "list", none, .seq vs n, #[]⟩ ∧ RepVs V l vs.toList
  | .dct l, v => ∃ a o kvs, v = .ref a ∧ (a == sysModules) = false ∧ V.z a = some o ∧ V.dob o kvs ∧ RepVd V l kvs
  | .ref n, v => ∃ a, v = .ref a ∧ V.mu n = some a
  | .mc w, v => v = w
  | .inst C n, v => ∃ a d, v = .ref a ∧ V.mu n = some d ∧ V.z a = some ⟨.ref C, some d, .plain, #[]⟩
  | .clo k, v => ∃ a o, v = .ref a ∧ V.z a = some o ∧ V.clo k o
  | .bm f self, v => ∃ a sv, v = .ref a ∧ V.z a = some ⟨.type "method", none, .fields #[.ref f, sv], #[]⟩ ∧ RepV V self sv
  | .rng a b c, v => ∃ x t u w, v = .ref x ∧ V.z x = some ⟨.type "range", none, .fields #[.int a t, .int b u, .int c w], #[]⟩
  | .view k a, v => ∃ x dv, v = .ref x ∧ V.z x = some ⟨.type (viewName k), none, .fields #[dv], #[]⟩ ∧ RepV V a dv
def RepVs (V : Vw) : List AV → List Value → Prop
  | [], vs => vs = []
  | a :: l, vs => ∃ v r, vs = v :: r ∧ RepV V a v ∧ RepVs V l r
def RepVd (V : Vw) : List (Str × AV) → List (Str × Value) → Prop
  | [], es => es = []
  | (x, a) :: l, es => ∃ v r, es = (x, v) :: r ∧ RepV V a v ∧ RepVd V l r
end

mutual
theorem RepV.mono {V V' : Vw} (h : V.Le V') : ∀ (a : AV) (v : Value), RepV V a v → RepV V' a v
  | .none, _, r => r
  | .bool _, _, r => r
  | .int _, _, r => r
  | .str _, _, r => r
  | .tup l, _, ⟨a, vs, n, e, hz, hr⟩ => ⟨a, vs, n, e, h.z _ _ hz, RepVs.mono h l _ hr⟩
  | .lst l, _, ⟨a, vs, n, e, hz, hr⟩ => ⟨a, vs, n, e, h.z _ _ hz, RepVs.mono h l _ hr⟩
  | .dct l, _, ⟨a, o, kvs, e, hs, hz, hd, hr⟩ => ⟨a, o, kvs, e, hs, h.z _ _ hz, h.dob _ _ hd, RepVd.mono h l _ hr⟩
  | .ref _, _, ⟨a, e, hm⟩ => ⟨a, e, h.mu _ _ hm⟩
  | .mc _, _, r => r
  | .inst _ _, _, ⟨a, d, e, hm, hz⟩ => ⟨a, d, e, h.mu _ _ hm, h.z _ _ hz⟩
  | .clo _, _, ⟨a, o, e, hz, hc⟩ => ⟨a, o, e, h.z _ _ hz, h.clo _ _ hc⟩
  | .bm _ s, _, ⟨a, sv, e, hz, hr⟩ => ⟨a, sv, e, h.z _ _ hz, RepV.mono h s _ hr⟩
  | .rng _ _ _, _, ⟨x, t, u, w, e, hz⟩ => ⟨x, t, u, w, e, h.z _ _ hz⟩
  | .view k a, _, ⟨x, dv, e, hz, hr⟩ => ⟨x, dv, e, h.z _ _ hz, RepV.mono h a _ hr⟩
theorem RepVs.mono {V V' : Vw} (h : V.Le V') : ∀ (l : List AV) (vs : List Value), RepVs V l vs → RepVs V' l vs
  | [], _, r => r
  | a :: l, _, ⟨v, r, e, h1, h2⟩ => ⟨v, r, e, RepV.mono h a _ h1, RepVs.mono h l _ h2⟩
theorem RepVd.mono {V V' : Vw} (h : V.Le V') : ∀ (l : List (Str × AV)) (es : List (Str × Value)), RepVd V l es → RepVd V' l es
  | [], _, r => r
  | (_, a) :: l, _, ⟨v, r, e, h1, h2⟩ => ⟨v, r, e, RepV.mono h a _ h1, RepVd.mono h l _ h2⟩
end

abbrev Frm := List (Option AV)

structure St where
  fs : List Frm
  st : Hd → Option AO
  cnt : Nat

abbrev M (α : Type) := St → Option (α × St)
def M.pure {α} (a : α) : M α := fun σ => some (a, σ)
def M.bind {α β} (f : M α) (g : α → M β) : M β := fun σ => match f σ with
  | none => none
  | some (a, σ') => g a σ'
def M.fail {α} : M α := fun _ => none

inductive AFl where
  | next | brk | cont
  | ret (v : AV)

/-- the fixed surroundings -/
structure Wd where
  prog : Program
  w : World
  H0 : Heap
  TB : List Addr
  K : Frag
  mg : Str → Option Value
  mb : Str → Option Value
  os : OsState
  clos : Nat → Option Sk
  bnames : List (Str × NameKind)

abbrev Wd.M (W : Wd) : Model := model W.prog W.w


def NsOb (o : Obj) (m : Str → Option Value) : Prop := ∃ es ep, o.data = .dict es ep ∧ StrKeys es ∧ ∀ name, nsFind es name = m name
theorem NsOb.ns {h : Heap} {a : Addr} {o : Obj} {m} (x : NsOb o m) (e : h.get? a = some o) : h.Ns a m :=
  let ⟨es, ep, a1, a2, a3⟩ := x; ⟨o, es, ep, e, a1, a2, a3⟩
theorem NsOb.of {h : Heap} {a : Addr} {m} (x : h.Ns a m) : ∃ o, h.get? a = some o ∧ NsOb o m :=
  let ⟨o, es, ep, e, a1, a2, a3⟩ := x; ⟨o, e, es, ep, a1, a2, a3⟩

structure Wd.Ok (W : Wd) : Prop where
  kin : ∀ a o, W.K.lookup a = some o → a ∉ W.TB ∧ W.H0.get? a = some o
  lim : ∃ mc o, W.H0.get? cStatics = some o ∧ cStatics ∉ W.TB ∧ NsOb o mc ∧ mc "sys.recursionlimit" = none
  glob : ∃ o, W.H0.get? mainGlobals = some o ∧ mainGlobals ∉ W.TB ∧ NsOb o W.mg
  bui : ∃ o, W.H0.get? builtinsNs = some o ∧ builtinsNs ∉ W.TB ∧ NsOb o W.mb

def DictOb {prog : Program} {w : World} {κ : Type} [DecidableEq κ] (knd : KeyKind prog w κ) (o : Obj) (kvs : List (κ × Value)) : Prop :=
  ∃ es ep, o.ExactDict ∧ o.data = .dict es ep ∧ KeysOf knd es ∧ Pairs knd es.toList kvs ∧ (kvs.map (·.1)).Nodup
theorem DictOb.dictOf {prog : Program} {w : World} {κ : Type} [DecidableEq κ] {knd : KeyKind prog w κ} {o : Obj} {kvs : List (κ × Value)} {h : Heap} {a : Addr} (x : DictOb knd o kvs) (e : h.get? a = some o) : h.DictOf knd a kvs := by
  obtain ⟨es, ep, a1, a2, a3, a4, a5⟩ := x
  exact ⟨o, es, ep, e, a1, a2, a3, a4, a5⟩
theorem DictOb.of {prog : Program} {w : World} {κ : Type} [DecidableEq κ] {knd : KeyKind prog w κ} {kvs : List (κ × Value)} {h : Heap} {a : Addr} (x : h.DictOf knd a kvs) : ∃ o, h.get? a = some o ∧ DictOb knd o kvs := by
  obtain ⟨o, es, ep, e, a1, a2, a3, a4, a5⟩ := x
  exact ⟨o, e, es, ep, a1, a2, a3, a4, a5⟩

/-- closures made by the bottom frame -/
def cloAt (W : Wd) (z : Addr → Option Obj) (fr : List GF) (k : Nat) (o : Obj) : Prop :=
  ∃ (sk : Sk) (fd : FuncData), W.clos k = some sk ∧ o.cls = .type "function" ∧ o.data = .func fd ∧ True ∧ fd.params = sk.params ∧ fd.body = .stmts sk.body ∧ fd.scope = sk.scope ∧
    fd.globals = mainGlobals ∧ fd.defaults = .none ∧ fd.kwdefaults = .none ∧ fd.builtins = builtinsNs ∧
    (∃ c oc vs t, fd.code = .ref c ∧ z c = some oc ∧ oc.data = .fields vs ∧ vs[1]? = some (.str fd.qualname t)) ∧
    (∃ gf, fr.getLast? = some gf ∧ gf.names = W.bnames ∧ ∀ x, (x, NameKind.free) ∈ sk.scope.names → ∃ c, fd.closure.lookup x = some c ∧ gf.cs.lookup x = some c)

theorem cloAt.mono {W : Wd} {z z' : Addr → Option Obj} {fr : List GF} {k : Nat} {o : Obj} (h : cloAt W z fr k o) (hz : ∀ a o, z a = some o → z' a = some o) : cloAt W z' fr k o := by
  obtain ⟨sk, fd, h1, h2, h3, h4, h5, h6, h7, h8, h9, h10, h11, ⟨c, oc, vs, t, i1, i2, i3, i4⟩, h13⟩ := h
  exact ⟨sk, fd, h1, h2, h3, h4, h5, h6, h7, h8, h9, h10, h11, ⟨c, oc, vs, t, i1, hz _ _ i2, i3, i4⟩, h13⟩

def Gh.vw (G : Gh) (W : Wd) : Vw := ⟨G.z, G.mu, fun k o => cloAt W G.z G.fr k o, fun o l => DictOb (strKind W.prog W.w) o l⟩

theorem Gh.Le.zz {G G' : Gh} (h : G.Le G') {a : Addr} {o : Obj} (e : G.z a = some o) : G'.z a = some o := z_iff.mpr (h.z _ _ (z_iff.mp e))
theorem Gh.Le.vw {G G' : Gh} (h : G.Le G') (W : Wd) : (G.vw W).Le (G'.vw W) :=
  ⟨fun _ _ e => h.zz e, h.mu, fun k o c => by
    show cloAt W G'.z G'.fr k o
    rw [h.fr]; exact c.mono fun _ _ e => h.zz e, fun _ _ e => e⟩

abbrev Rep (W : Wd) (G : Gh) : AV → Value → Prop := RepV (G.vw W)
abbrev Reps (W : Wd) (G : Gh) : List AV → List Value → Prop := RepVs (G.vw W)
theorem Rep.le {W : Wd} {G G' : Gh} {a : AV} {v : Value} (r : Rep W G a v) (h : G.Le G') : Rep W G' a v := RepV.mono (h.vw W) a v r
theorem Reps.le {W : Wd} {G G' : Gh} {a : List AV} {v : List Value} (r : Reps W G a v) (h : G.Le G') : Reps W G' a v := RepVs.mono (h.vw W) a v r

def slotRep (V : Vw) (fv : Option (Option AV)) (mv : Option Value) : Prop := ∀ v, fv = some (some v) → ∃ x, mv = some x ∧ RepV V v x
theorem slotRep.mono {V V' : Vw} {fv mv} (h : slotRep V fv mv) (l : V.Le V') : slotRep V' fv mv := fun v e => let ⟨x, a, b⟩ := h v e; ⟨x, a, RepV.mono l _ _ b⟩

structure FrameOK (V : Vw) (kn : Addr → Option (Tag × Obj)) (lvl : Nat) (gf : GF) (f : Frm) : Prop where
  nd : (gf.names.map (·.1)).Nodup
  len : f.length = gf.names.length
  loc : ∃ o m, kn gf.L = some (.loc lvl, o) ∧ NsOb o m ∧ ∀ (i : Nat) x, gf.names[i]? = some (x, .local) → slotRep V f[i]? (m x)
  cel : ∀ (i : Nat) x, gf.names[i]? = some (x, .cell) → ∃ c o cv, gf.cs.lookup x = some c ∧ kn c = some (.cel lvl i, o) ∧ o.data = .cell cv ∧ slotRep V f[i]? cv

theorem FrameOK.mono {V V' : Vw} {kn kn' : Addr → Option (Tag × Obj)} {lvl : Nat} {gf : GF} {f : Frm} (h : FrameOK V kn lvl gf f) (l : V.Le V')
    (hk : ∀ a t o, kn a = some (t, o) → (t = .loc lvl ∨ ∃ i, t = .cel lvl i) → kn' a = some (t, o)) : FrameOK V' kn' lvl gf f := by
  obtain ⟨nd, ln, ⟨o, m, h1, h2, h3⟩, h4⟩ := h
  refine ⟨nd, ln, ⟨o, m, hk _ _ _ h1 (.inl rfl), h2, fun i x e => (h3 i x e).mono l⟩, fun i x e => ?_⟩
  obtain ⟨c, o, cv, a1, a2, a3, a4⟩ := h4 i x e
  exact ⟨c, o, cv, a1, hk _ _ _ a2 (.inr ⟨i, rfl⟩), a3, a4.mono l⟩

def FramesOK (V : Vw) (kn : Addr → Option (Tag × Obj)) : List GF → List Frm → Prop
  | [], fs => fs = []
  | gf :: gs, fs => ∃ f r, fs = f :: r ∧ FrameOK V kn gs.length gf f ∧ FramesOK V kn gs r
theorem FramesOK.mono {V V' : Vw} {kn kn' : Addr → Option (Tag × Obj)} (l : V.Le V') : ∀ {gs : List GF} {fs : List Frm}, FramesOK V kn gs fs →
    (∀ a t o, kn a = some (t, o) → (∃ lvl, lvl < gs.length ∧ (t = .loc lvl ∨ ∃ i, t = .cel lvl i)) → kn' a = some (t, o)) → FramesOK V' kn' gs fs
  | [], _, h, _ => h
  | gf :: gs, _, ⟨f, r, e, h1, h2⟩, hk => ⟨f, r, e, h1.mono l fun a t o q w => hk a t o q ⟨gs.length, by simp, w⟩, FramesOK.mono l h2 fun a t o q ⟨lv, w1, w2⟩ => hk a t o q ⟨lv, by simp; omega, w2⟩⟩

def RepKV {κ : Type} (V : Vw) : List (κ × AV) → List (κ × Value) → Prop
  | [], kvs => kvs = []
  | (k, a) :: l, kvs => ∃ v r, kvs = (k, v) :: r ∧ RepV V a v ∧ RepKV V l r
theorem RepKV.mono {κ : Type} {V V' : Vw} (h : V.Le V') : ∀ {l : List (κ × AV)} {kvs}, RepKV V l kvs → RepKV V' l kvs
  | [], _, r => r
  | (_, a) :: _, _, ⟨v, r, e, h1, h2⟩ => ⟨v, r, e, RepV.mono h a _ h1, RepKV.mono h h2⟩

/-- an instance's own dict, entry by entry -/
def NsE (V : Vw) : List (Str × AV) → List DictEntry → Prop
  | [], es => es = []
  | (x, a) :: l, es => ∃ h t v r, es = ⟨h, .str x t, v⟩ :: r ∧ RepV V a v ∧ NsE V l r
theorem NsE.mono {V V' : Vw} (h : V.Le V') : ∀ {l : List (Str × AV)} {es}, NsE V l es → NsE V' l es
  | [], _, r => r
  | (_, a) :: _, _, ⟨x, t, v, r, e, h1, h2⟩ => ⟨x, t, v, r, e, RepV.mono h a _ h1, NsE.mono h h2⟩

def CtrOb (W : Wd) (V : Vw) (C : Addr) (ob : Obj) (kvs : List (Str × Value)) : Prop :=
  ∃ dx od es ep m, ob = ⟨.ref C, some dx, .dict es ep, #[]⟩ ∧ V.z dx = some od ∧ NsOb od m ∧ (∀ x, m x = none) ∧ KeysOf (strKind W.prog W.w) es ∧ Pairs (strKind W.prog W.w) es.toList kvs ∧ (kvs.map (·.1)).Nodup
theorem CtrOb.mono {W : Wd} {V V' : Vw} (h : V.Le V') {C ob kvs} (r : CtrOb W V C ob kvs) : CtrOb W V' C ob kvs :=
  let ⟨dx, od, es, ep, m, h1, h2, h3⟩ := r; ⟨dx, od, es, ep, m, h1, h.z _ _ h2, h3⟩

def ObjOK (W : Wd) (V : Vw) : AO → Obj → Prop
  | .list l, ob => ∃ vs n, ob = ⟨.type "list", none, .seq vs n, #[]⟩ ∧ RepVs V l vs.toList
  | .dictI l, ob => ∃ kvs, DictOb (intKind W.prog W.w) ob kvs ∧ RepKV V l kvs
  | .dictS l, ob => ∃ kvs, DictOb (strKind W.prog W.w) ob kvs ∧ RepKV V l kvs
  | .ctr C l, ob => ∃ kvs, CtrOb W V C ob kvs ∧ RepKV V l kvs
  | .sset _, _ => False
  | .ns l, ob => ∃ es n, ob = dictOf es n ∧ NsE V l es
theorem ObjOK.mono {W : Wd} {V V' : Vw} (h : V.Le V') : ∀ {o : AO} {ob : Obj}, ObjOK W V o ob → ObjOK W V' o ob
  | .list _, _, ⟨vs, n, e, r⟩ => ⟨vs, n, e, RepVs.mono h _ _ r⟩
  | .dictI _, _, ⟨kvs, e, r⟩ => ⟨kvs, e, r.mono h⟩
  | .dictS _, _, ⟨kvs, e, r⟩ => ⟨kvs, e, r.mono h⟩
  | .ctr _ _, _, ⟨kvs, e, r⟩ => ⟨kvs, e.mono h, r.mono h⟩
  | .sset _, _, h => h.elim
  | .ns _, _, ⟨es, n, e, r⟩ => ⟨es, n, e, r.mono h⟩

def SysK (kn : Addr → Option (Tag × Obj)) : Prop := (∃ o, kn cStatics = some (.z, o)) ∧ ∀ t o, kn sysModules = some (t, o) → t = .z
structure Inv (W : Wd) (G : Gh) (σ : St) : Prop where
  base : ∀ b o, b ∉ W.TB → W.H0.get? b = some o → G.kn b = some (.z, o)
  frames : FramesOK (G.vw W) G.kn G.fr σ.fs
  objs : ∀ n o, σ.st n = some o → ∃ a ob, G.mu n = some a ∧ G.kn a = some (.obj n, ob) ∧ ObjOK W (G.vw W) o ob
  cnt : ∀ n a, G.mu n = some a → n.2 < σ.cnt
  sys : SysK G.kn

structure R (W : Wd) (G : Gh) (σ : St) (s : Shared) : Prop where
  inv : Inv W G σ
  sub : ∀ a t o, G.kn a = some (t, o) → s.heap.get? a = some o
  os : s.os = W.os
  gens : s.gens = #[]

def Gh.set (G : Gh) (a : Addr) (t : Tag) (o : Obj) : Gh := { G with kn := fun b => if b = a then some (t, o) else G.kn b }
theorem Gh.set_fr {G : Gh} {a t o} : (G.set a t o).fr = G.fr := rfl
theorem Gh.set_mu {G : Gh} {a t o} : (G.set a t o).mu = G.mu := rfl
theorem Gh.set_self {G : Gh} {a t o} : (G.set a t o).kn a = some (t, o) := if_pos rfl
theorem Gh.set_ne {G : Gh} {a b t o} (h : b ≠ a) : (G.set a t o).kn b = G.kn b := if_neg h
theorem Gh.set_keep {G : Gh} {a t o b t' o'} (e : G.kn b = some (t', o')) (h : ∀ t₀ o₀, G.kn a = some (t₀, o₀) → t₀ ≠ t') : (G.set a t o).kn b = some (t', o') := by
  rw [Gh.set_ne, e]
  rintro rfl
  exact h _ _ e rfl
theorem Gh.le_set {G : Gh} {a t o} (h : ∀ t₀ o₀, G.kn a = some (t₀, o₀) → t₀ ≠ .z ∧ t₀ ≠ .pin) : G.Le (G.set a t o) :=
  ⟨fun _ _ e => Gh.set_keep e fun t₀ o₀ q => (h t₀ o₀ q).1, fun _ _ e => Gh.set_keep e fun t₀ o₀ q => (h t₀ o₀ q).2, fun _ _ e => e, rfl⟩

theorem SysK.turn {G : Gh} {a : Addr} {t t₀ : Tag} {o o₀ : Obj} (h : SysK G.kn) (hk : G.kn a = some (t₀, o₀)) (h0 : t₀ ≠ .z) : SysK (G.set a t o).kn := by
  obtain ⟨⟨oc, hc⟩, hs⟩ := h
  refine ⟨⟨oc, Gh.set_keep hc fun t₁ o₁ e => by rw [hk] at e; cases e; exact h0⟩, fun t' o' e => ?_⟩
  by_cases ha : sysModules = a
  · subst ha; exact absurd (hs _ _ hk) h0
  · rw [Gh.set_ne ha] at e; exact hs _ _ e
theorem SysK.new {G : Gh} {a : Addr} {t : Tag} {o : Obj} (h : SysK G.kn) (hk : G.kn a = none) (hn : a ≠ sysModules ∨ t = .z) : SysK (G.set a t o).kn := by
  obtain ⟨⟨oc, hc⟩, hs⟩ := h
  refine ⟨⟨oc, Gh.set_keep hc fun t₁ o₁ e => by rw [hk] at e; cases e⟩, fun t' o' e => ?_⟩
  by_cases ha : sysModules = a
  · subst ha
    rw [Gh.set_self] at e; cases e
    exact hn.elim (fun q => absurd rfl q) id
  · rw [Gh.set_ne ha] at e; exact hs _ _ e
theorem R.big {W : Wd} {G : Gh} {σ : St} {s : Shared} (r : R W G σ s) : s.heap.objs.size ≠ sysModules := by
  obtain ⟨oc, hc⟩ := r.inv.sys.1
  have := Heap.lt_size (r.sub _ _ _ hc)
  intro e
  rw [e] at this
  exact absurd this (by decide)
/-- the heap turned where the ghost knows of nothing -/
theorem R.keep {W : Wd} {G : Gh} {σ : St} {s : Shared} (r : R W G σ s) {h' : Heap} {tk : Nat} (hk : ∀ b o, s.heap.get? b = some o → h'.get? b = some o) : R W G σ { s with heap := h', toks := tk } :=
  ⟨r.inv, fun a t o e => hk _ _ (r.sub a t o e), r.os, r.gens⟩
theorem R.tok {W : Wd} {G : Gh} {σ : St} {s : Shared} (r : R W G σ s) {tk : Nat} : R W G σ { s with toks := tk } := ⟨r.inv, r.sub, r.os, r.gens⟩
theorem R.fresh {W : Wd} {G : Gh} {σ : St} {s : Shared} (r : R W G σ s) : G.kn s.heap.objs.size = none := by
  cases e : G.kn s.heap.objs.size with
  | none => rfl
  | some p => exact absurd (Heap.lt_size (r.sub _ p.1 p.2 e)) (Nat.lt_irrefl _)

theorem Inv.set {W : Wd} {G : Gh} {σ : St} {a : Addr} {t : Tag} {o : Obj} (i : Inv W G σ) (h : ∀ t₀ o₀, G.kn a = some (t₀, o₀) → t₀ = .tab) (hn : a ≠ sysModules ∨ t = .z) : Inv W (G.set a t o) σ := by
  have le : G.Le (G.set a t o) := Gh.le_set fun t₀ o₀ e => by rw [h _ _ e]; exact ⟨Tag.noConfusion, Tag.noConfusion⟩
  refine ⟨fun b o hb e => le.z _ _ (i.base b o hb e), ?_, fun n o e => ?_, i.cnt, by
    cases e : G.kn a with
    | none => exact i.sys.new e hn
    | some p => exact i.sys.turn (t₀ := p.1) (o₀ := p.2) e (by rw [h _ _ e]; exact Tag.noConfusion)⟩
  · exact i.frames.mono (le.vw W) fun b t' o' e ⟨_, _, q⟩ => Gh.set_keep e fun t₀ o₀ w => by
      rw [h _ _ w]; rcases q with rfl | ⟨_, rfl⟩ <;> exact Tag.noConfusion
  · obtain ⟨b, ob, h1, h2, h3⟩ := i.objs n o e
    exact ⟨b, ob, h1, Gh.set_keep h2 fun t₀ o₀ w => by rw [h _ _ w]; exact Tag.noConfusion, h3.mono (le.vw W)⟩

/-- a new object at the heap's end -/
theorem R.alloc {W : Wd} {G : Gh} {σ : St} {s : Shared} (r : R W G σ s) (t : Tag) {o : Obj} (hf : o.isFreed = false) {tk : Nat} :
    R W (G.set s.heap.objs.size t o) σ { s with heap := s.heap.push o, toks := tk } ∧ G.Le (G.set s.heap.objs.size t o) := by
  have hn := r.fresh
  refine ⟨⟨r.inv.set (fun t₀ o₀ e => by rw [hn] at e; cases e) (.inl r.big), fun b t' o' e => ?_, r.os, r.gens⟩, Gh.le_set (fun t₀ o₀ e => by rw [hn] at e; cases e)⟩
  by_cases hb : b = s.heap.objs.size
  · subst hb
    rw [Gh.set_self] at e
    cases e
    exact Heap.get?_push_size _ hf
  · rw [Gh.set_ne hb] at e
    exact Heap.get?_push_of_some _ (r.sub _ _ _ e)

structure AOK (n : Nat) (A : Around) : Prop where
  hd : A.handled = none
  dep : A.depth + 8 * n ≤ 900
  un : A.units + 100 * n ≤ 9000

/-- what stands behind a step -/
def Post (W : Wd) {α β : Type} (rep : Gh → β → α → Prop) (G : Gh) (σ' : St) (b : β) : α → Shared → Prop := fun a s' => ∃ G', G.Le G' ∧ R W G' σ' s' ∧ rep G' b a

/-- facts that stay -/
structure Fa where
  p : Env → Gh → Prop
  mono : ∀ {env G G'}, p env G → G.Le G' → p env G'

def Sim (W : Wd) {α β : Type} (rep : Gh → β → α → Prop) (P : Fa) (n : Nat) (t : Env → Sem α) (f : M β) : Prop :=
  ∀ env A σ b σ' G s, P.p env G → AOK n A → R W G σ s → f σ = some (b, σ') → wpAny W.M A (t env) (Post W rep G σ' b) (fun _ _ => False) s

theorem Post.le {W : Wd} {α β : Type} {rep : Gh → β → α → Prop} {G G' : Gh} {σ' : St} {b : β} {a : α} {s' : Shared} (l : G.Le G') (h : Post W rep G' σ' b a s') : Post W rep G σ' b a s' :=
  let ⟨G'', a1, a2, a3⟩ := h; ⟨G'', l.trans a1, a2, a3⟩

end Mine
end

section
open PySem PySem.W PySem.Calls PyProof.Rows
set_option Elab.async false
set_option maxRecDepth 20000
namespace Mine

/-- a block's static scope -/
structure Sc where
  scope : Scope
  names : List (Str × NameKind)
  up : List (Str × (Nat × Nat))
  bot : List (Str × Nat)

structure EnvOK (X : Sc) (env : Env) (G : Gh) : Prop where
  scope : env.scope = X.scope
  kind : X.scope.kind = .function
  glob : env.globals = mainGlobals
  bui : env.builtins = builtinsNs
  frame : ∃ f, env.frame = some f
  own : ∃ gf rest, G.fr = gf :: rest ∧ gf.names = X.names ∧ gf.L = env.locals ∧ ∀ x, (x, NameKind.cell) ∈ X.names → env.cells.lookup x = gf.cs.lookup x
  up : ∀ x k i, (x, (k, i)) ∈ X.up → ∃ gk, G.fr[k]? = some gk ∧ gk.names[i]? = some (x, .cell) ∧ env.cells.lookup x = gk.cs.lookup x
  bot : ∀ x i, (x, i) ∈ X.bot → ∃ gk, G.fr.getLast? = some gk ∧ gk.names[i]? = some (x, .cell) ∧ env.cells.lookup x = gk.cs.lookup x

theorem EnvOK.mono {X : Sc} {env : Env} {G G' : Gh} (h : EnvOK X env G) (l : G.Le G') : EnvOK X env G' := by
  obtain ⟨a, b, c, d, e0, e, f, g⟩ := h
  refine ⟨a, b, c, d, e0, ?_, ?_, ?_⟩
  · rw [l.fr]; exact e
  · rw [l.fr]; exact f
  · rw [l.fr]; exact g

def ldv (k i : Nat) : M AV := fun σ => match σ.fs[k]? with
  | some f => (match f[i]? with
    | some (some v) => some (v, σ)
    | _ => none)
  | none => none
def ldb (i : Nat) : M AV := fun σ => match σ.fs.getLast? with
  | some f => (match f[i]? with
    | some (some v) => some (v, σ)
    | _ => none)
  | none => none
def stv (i : Nat) (v : AV) : M Unit := fun σ => match σ.fs with
  | f :: r => some ((), { σ with fs := f.set i (some v) :: r })
  | [] => none

theorem FramesOK.length {V : Vw} {kn : Addr → Option (Tag × Obj)} : ∀ {gs : List GF} {fs : List Frm}, FramesOK V kn gs fs → fs.length = gs.length
  | [], _, h => by cases h; rfl
  | _ :: _, _, ⟨_, _, e, _, h⟩ => by subst e; simp [FramesOK.length h]
theorem FramesOK.get {V : Vw} {kn : Addr → Option (Tag × Obj)} : ∀ {gs : List GF} {fs : List Frm}, FramesOK V kn gs fs → ∀ {k : Nat} {gk}, gs[k]? = some gk → ∃ f lvl, fs[k]? = some f ∧ FrameOK V kn lvl gk f
  | [], _, _, k, _, h => by simp at h
  | g :: gs, _, ⟨f, r, e, h1, h2⟩, 0, gk, h => by subst e; simp at h; subst h; exact ⟨f, _, rfl, h1⟩
  | g :: gs, _, ⟨f, r, e, h1, h2⟩, k + 1, gk, h => by subst e; simp at h; simpa using FramesOK.get h2 h

theorem R.ns {W : Wd} {G : Gh} {σ : St} {s : Shared} (r : R W G σ s) {a : Addr} {t : Tag} {o : Obj} {m : Str → Option Value} (h : G.kn a = some (t, o)) (x : NsOb o m) : s.heap.Ns a m := x.ns (r.sub _ _ _ h)
theorem R.z {W : Wd} {G : Gh} {σ : St} {s : Shared} (r : R W G σ s) {a : Addr} {o : Obj} (h : G.z a = some o) : s.heap.get? a = some o := r.sub _ _ _ (Gh.z_iff.mp h)
theorem R.old {W : Wd} {G : Gh} {σ : St} {s : Shared} (r : R W G σ s) {b : Addr} {o : Obj} (hb : b ∉ W.TB) (e : W.H0.get? b = some o) : s.heap.get? b = some o := r.sub _ _ _ (r.inv.base b o hb e)
theorem R.kin {W : Wd} {G : Gh} {σ : St} {s : Shared} (r : R W G σ s) (ok : W.Ok) : W.K.In s.heap := fun a o e => r.old (ok.kin a o e).1 (ok.kin a o e).2
theorem R.lim {W : Wd} {G : Gh} {σ : St} {s : Shared} (r : R W G σ s) (ok : W.Ok) : s.heap.NoLimit := by
  obtain ⟨mc, o, h1, h2, h3, h4⟩ := ok.lim
  exact ⟨mc, h3.ns (r.old h2 h1), h4⟩
theorem R.gl {W : Wd} {G : Gh} {σ : St} {s : Shared} (r : R W G σ s) (ok : W.Ok) : s.heap.Ns mainGlobals W.mg := by
  obtain ⟨o, h1, h2, h3⟩ := ok.glob
  exact h3.ns (r.old h2 h1)
theorem R.bu {W : Wd} {G : Gh} {σ : St} {s : Shared} (r : R W G σ s) (ok : W.Ok) : s.heap.Ns builtinsNs W.mb := by
  obtain ⟨o, h1, h2, h3⟩ := ok.bui
  exact h3.ns (r.old h2 h1)

def EF (X : Sc) : Fa := ⟨fun env G => EnvOK X env G, fun h l => h.mono l⟩

theorem Post.now {W : Wd} {α β : Type} {rep : Gh → β → α → Prop} {G : Gh} {σ' : St} {b : β} {a : α} {s' : Shared} (r : R W G σ' s') (h : rep G b a) : Post W rep G σ' b a s' := ⟨G, .refl _, r, h⟩

section
variable {W : Wd} {X : Sc} {n : Nat}

theorem Sim.load_local {x : Str} {i : Nat} (hi : X.names[i]? = some (x, .local)) (hl : X.scope.names.lookup x = some .local) :
    Sim W (Rep W) (EF X) n (fun env => loadName env x) (ldv 0 i) := by
  intro env A σ b σ' G s P hA r hf
  obtain ⟨gf, rest, hfr, hn, hL, hc⟩ := P.own
  obtain ⟨f, lvl, h1, h2⟩ := r.inv.frames.get (k := 0) (gk := gf) (by rw [hfr]; rfl)
  obtain ⟨o, m, k1, k2, k3⟩ := h2.loc
  unfold ldv at hf
  rw [h1] at hf
  dsimp only at hf
  split at hf
  · rename_i v hv
    cases hf
    obtain ⟨mv, e1, e2⟩ := k3 i x (by rw [hn]; exact hi) _ hv
    refine wpAny_loadName_local (m := m) (by rw [P.scope]; exact P.kind) (by unfold Env.kindOf; rw [P.scope]; exact hl) ?_ e1 (.now r e2)
    rw [← hL]; exact r.ns k1 k2
  · cases hf

theorem Sim.load_cell {x : Str} {i : Nat} (hi : X.names[i]? = some (x, .cell)) (hl : X.scope.names.lookup x = some .cell) :
    Sim W (Rep W) (EF X) n (fun env => loadName env x) (ldv 0 i) := by
  intro env A σ b σ' G s P hA r hf
  obtain ⟨gf, rest, hfr, hn, hL, hc⟩ := P.own
  obtain ⟨f, lvl, h1, h2⟩ := r.inv.frames.get (k := 0) (gk := gf) (by rw [hfr]; rfl)
  obtain ⟨c, o, cv, k1, k2, k3, k4⟩ := h2.cel i x (by rw [hn]; exact hi)
  unfold ldv at hf
  rw [h1] at hf
  dsimp only at hf
  split at hf
  · rename_i v hv
    cases hf
    obtain ⟨mv, e1, e2⟩ := k4 _ hv
    refine wpAny_loadName_cell (c := c) (v := mv) (by rw [P.scope]; exact P.kind) (by unfold Env.kindOf; rw [P.scope]; exact hl) ?_ ⟨o, r.sub _ _ _ k2, by rw [k3, e1]⟩ (.now r e2)
    rw [hc x (List.mem_of_getElem? hi)]; exact k1
  · cases hf

theorem load_free_aux {env : Env} {A : Around} {σ : St} {G : Gh} {s : Shared} {x : Str} {i : Nat} {gk : GF} {f : Frm} {lvl : Nat} {v : AV} (P : EnvOK X env G) (r : R W G σ s) (hg : gk.names[i]? = some (x, .cell)) (he : env.cells.lookup x = gk.cs.lookup x)
    (h2 : FrameOK (G.vw W) G.kn lvl gk f) (hv : f[i]? = some (some v)) (hl : X.scope.names.lookup x = some .free ∨ X.scope.names.lookup x = some .cell) (hx : (x == ("__classdict__" : Str)) = false) :
    wpAny W.M A (loadName env x) (Post W (Rep W) G σ v) (fun _ _ => False) s := by
  obtain ⟨c, o, cv, k1, k2, k3, k4⟩ := h2.cel i x hg
  obtain ⟨mv, e1, e2⟩ := k4 _ hv
  rcases hl with hl | hl
  · exact wpAny_loadName_free (c := c) (v := mv) (by rw [P.scope]; exact P.kind) (by unfold Env.kindOf; rw [P.scope]; exact hl) (he.trans k1) ⟨o, r.sub _ _ _ k2, by rw [k3, e1]⟩ (.now r e2) hx
  · exact wpAny_loadName_cell (c := c) (v := mv) (by rw [P.scope]; exact P.kind) (by unfold Env.kindOf; rw [P.scope]; exact hl) (he.trans k1) ⟨o, r.sub _ _ _ k2, by rw [k3, e1]⟩ (.now r e2)

theorem Sim.load_up {x : Str} {k i : Nat} (hi : (x, (k, i)) ∈ X.up) (hl : X.scope.names.lookup x = some .free ∨ X.scope.names.lookup x = some .cell) (hx : (x == ("__classdict__" : Str)) = false) :
    Sim W (Rep W) (EF X) n (fun env => loadName env x) (ldv k i) := by
  intro env A σ b σ' G s P hA r hf
  obtain ⟨gk, g1, g2, g3⟩ := P.up x k i hi
  obtain ⟨f, lvl, h1, h2⟩ := r.inv.frames.get g1
  unfold ldv at hf
  rw [h1] at hf
  dsimp only at hf
  split at hf
  · rename_i v hv
    cases hf
    exact load_free_aux P r g2 g3 h2 hv hl hx
  · cases hf

theorem getLast_get {α : Type} : ∀ {l : List α} {a : α}, l.getLast? = some a → l[l.length - 1]? = some a := by
  intro l a h
  rw [← List.getLast?_eq_getElem?]; exact h

theorem Sim.load_bot {x : Str} {i : Nat} (hi : (x, i) ∈ X.bot) (hl : X.scope.names.lookup x = some .free ∨ X.scope.names.lookup x = some .cell) (hx : (x == ("__classdict__" : Str)) = false) :
    Sim W (Rep W) (EF X) n (fun env => loadName env x) (ldb i) := by
  intro env A σ b σ' G s P hA r hf
  obtain ⟨gk, g1, g2, g3⟩ := P.bot x i hi
  obtain ⟨f, lvl, h1, h2⟩ := r.inv.frames.get (getLast_get g1)
  rw [← r.inv.frames.length, ← List.getLast?_eq_getElem?] at h1
  unfold ldb at hf
  rw [h1] at hf
  dsimp only at hf
  split at hf
  · rename_i v hv
    cases hf
    exact load_free_aux P r g2 g3 h2 hv hl hx
  · cases hf

theorem Sim.name {x : Str} {pos : Pos} {f : M AV} (h : Sim W (Rep W) (EF X) n (fun env => loadName env x) f) (hd : (x == ("__debug__" : Str)) = false) :
    Sim W (Rep W) (EF X) n (fun env => eval (.Name x pos) env) f :=
  fun env A σ b σ' G s P hA r hf => wpAny_Name (h env A σ b σ' G s P hA r hf) hd

theorem Sim.load_glob (ok : W.Ok) {x : Str} {v : Value} (hl : X.scope.names.lookup x = some .globalImplicit) (hv : W.mg x = some v) :
    Sim W (Rep W) (EF X) n (fun env => loadName env x) (M.pure (.mc v)) := by
  intro env A σ b σ' G s P hA r hf
  cases hf
  have : wpAny W.M A (loadGlobal env x) (Post W (Rep W) G σ (.mc v)) (fun _ _ => False) s := loadGlobal_global (mg := W.mg) (by rw [P.glob]; exact r.gl ok) hv (.now r rfl)
  unfold loadName
  simp only [Env.blockKind, Env.kindOf, P.scope, P.kind, hl, ScopeKind.isAnnotationScope, Bool.false_and, Bool.false_eq_true, if_false]
  exact this
theorem Sim.load_bui (ok : W.Ok) {x : Str} {v : Value} (hl : X.scope.names.lookup x = some .globalImplicit) (hg : W.mg x = none) (hv : W.mb x = some v) :
    Sim W (Rep W) (EF X) n (fun env => loadName env x) (M.pure (.mc v)) := by
  intro env A σ b σ' G s P hA r hf
  cases hf
  have : wpAny W.M A (loadGlobal env x) (Post W (Rep W) G σ (.mc v)) (fun _ _ => False) s :=
    loadGlobal_builtin (mg := W.mg) (mb := W.mb) (by rw [P.glob]; exact r.gl ok) hg (by rw [P.bui]; exact r.bu ok) hv (.now r rfl)
  unfold loadName
  simp only [Env.blockKind, Env.kindOf, P.scope, P.kind, hl, ScopeKind.isAnnotationScope, Bool.false_and, Bool.false_eq_true, if_false]
  exact this
end

/-- turning an object under its tag -/
theorem Gh.vw_set {G : Gh} {W : Wd} {a : Addr} {t t₀ : Tag} {o o₀ : Obj} (h : G.kn a = some (t₀, o₀)) (h0 : t₀ ≠ .z) (ht : t ≠ .z) : (G.set a t o).vw W = G.vw W := by
  have : (G.set a t o).z = G.z := by
    funext b
    by_cases hb : b = a
    · subst hb
      unfold Gh.z
      rw [Gh.set_self, h]
      cases t <;> cases t₀ <;> first | rfl | contradiction
    · unfold Gh.z
      rw [Gh.set_ne hb]
  unfold Gh.vw
  rw [this, Gh.set_fr, Gh.set_mu]

theorem R.turn {W : Wd} {G : Gh} {σ σ' : St} {s : Shared} (r : R W G σ s) {a : Addr} {t : Tag} {o o₀ : Obj} {h' : Heap} {tk : Nat} (hk : G.kn a = some (t, o₀)) (hz : t ≠ .z) (hp : t ≠ .pin) (he : h'.get? a = some o) (hs : Heap.SameBut a s.heap h')
    (hfr : FramesOK (G.vw W) (G.set a t o).kn G.fr σ'.fs) (hob : ∀ n o', σ'.st n = some o' → ∃ b ob, G.mu n = some b ∧ (G.set a t o).kn b = some (.obj n, ob) ∧ ObjOK W (G.vw W) o' ob) (hc : σ.cnt ≤ σ'.cnt) :
    R W (G.set a t o) σ' { s with heap := h', toks := tk } ∧ G.Le (G.set a t o) := by
  have hv := Gh.vw_set (W := W) (o := o) hk hz hz
  have le : G.Le (G.set a t o) := Gh.le_set fun t₀ o₀' e => by rw [hk] at e; cases e; exact ⟨hz, hp⟩
  refine ⟨⟨⟨fun b o hb e => le.z _ _ (r.inv.base b o hb e), ?_, ?_, fun n b e => Nat.lt_of_lt_of_le (r.inv.cnt n b e) hc, r.inv.sys.turn hk hz⟩, ?_, r.os, r.gens⟩, le⟩
  · rw [hv]; exact hfr
  · intro n o' e
    rw [hv]; exact hob n o' e
  · intro b t' o' e
    by_cases hb : b = a
    · subst hb
      rw [Gh.set_self] at e; cases e; exact he
    · rw [Gh.set_ne hb] at e
      exact (hs.2 b hb).trans (r.sub _ _ _ e)

theorem slot_set {V : Vw} {f : Frm} {i j : Nat} {v : AV} {mv : Option Value} {nm : Value} (hi : i < f.length) (h : slotRep V f[j]? mv) (hn : RepV V v nm) : slotRep V (f.set i (some v))[j]? (if j = i then some nm else mv) := by
  intro u e
  by_cases hj : j = i
  · subst hj
    rw [List.getElem?_set_self hi] at e
    cases e
    exact ⟨nm, if_pos rfl, hn⟩
  · rw [List.getElem?_set_ne (Ne.symm hj)] at e
    rw [if_neg hj]
    exact h u e
theorem nodup_at {l : List (Str × NameKind)} (nd : (l.map (·.1)).Nodup) {i j : Nat} {x : Str} {a b : NameKind} (hi : l[i]? = some (x, a)) (hj : l[j]? = some (x, b)) : i = j := by
  have h1 : (l.map (·.1))[i]? = some x := by rw [List.getElem?_map, hi]; rfl
  have h2 : (l.map (·.1))[j]? = some x := by rw [List.getElem?_map, hj]; rfl
  obtain ⟨l1, e1⟩ := List.getElem?_eq_some_iff.mp h1
  obtain ⟨l2, e2⟩ := List.getElem?_eq_some_iff.mp h2
  exact (List.getElem_inj nd).mp (e1.trans e2.symm)

section
variable {W : Wd} {X : Sc} {n : Nat}

theorem store_local {env : Env} {A : Around} {σ σ' : St} {G : Gh} {s : Shared} {x : Str} {i : Nat} {v : AV} {mv : Value} (hi : X.names[i]? = some (x, .local)) (hl : X.scope.names.lookup x = some .local) (P : EnvOK X env G) (r : R W G σ s) (hv : Rep W G v mv)
    (hf : stv i v σ = some ((), σ')) : wpAny W.M A (storeName env x mv) (Post W (fun _ _ _ => True) G σ' ()) (fun _ _ => False) s := by
  obtain ⟨gf, rest, hfr, hn, hL, hc⟩ := P.own
  have FF := r.inv.frames
  rw [hfr] at FF
  obtain ⟨f, fr, hfs, h2, h3⟩ := FF
  obtain ⟨o, m, k1, k2, k3⟩ := h2.loc
  unfold stv at hf
  rw [hfs] at hf
  cases hf
  refine wpAny_storeName_local (m := m) (by unfold Env.kindOf; rw [P.scope]; exact hl) (hL ▸ r.ns k1 k2) (fun h' hn' hs' => ?_) (by rw [P.scope, P.kind]; rfl)
  obtain ⟨o', e', q'⟩ := NsOb.of hn'
  rw [← hL] at e' hs'
  have hlt : i < f.length := by
    rw [h2.len, hn]
    exact (List.getElem?_eq_some_iff.mp hi).1
  have hfx : FramesOK (G.vw W) (G.set gf.L (.loc rest.length) o').kn G.fr (f.set i (some v) :: fr) := by
    rw [hfr]
    refine ⟨_, _, rfl, ⟨h2.nd, by rw [List.length_set]; exact h2.len, ⟨o', _, Gh.set_self, q', fun j y hj => ?_⟩, fun j y hj => ?_⟩, ?_⟩
    · have := slot_set (V := G.vw W) (nm := mv) hlt (k3 j y hj) hv
      by_cases hji : j = i
      · subst hji
        rw [hn, hi] at hj
        cases hj
        simpa using this
      · have hyx : y ≠ x := by
          rintro rfl
          exact hji (nodup_at h2.nd hj (by rw [hn]; exact hi))
        simpa [hji, hyx] using this
    · obtain ⟨c, oc, cv, a1, a2, a3, a4⟩ := h2.cel j y hj
      have hji : j ≠ i := by
        rintro rfl
        rw [hn, hi] at hj; cases hj
      refine ⟨c, oc, cv, a1, Gh.set_keep a2 fun t₀ o₀ e => by rw [k1] at e; cases e; exact Tag.noConfusion, a3, ?_⟩
      have := slot_set (V := G.vw W) (nm := mv) hlt a4 hv
      rwa [if_neg hji] at this
    · refine h3.mono ⟨fun _ _ e => e, fun _ _ e => e, fun _ _ e => e, fun _ _ e => e⟩ fun a t o e ⟨lvl, hlt', q⟩ => Gh.set_keep e fun t₀ o₀ w => ?_
      rw [k1] at w; cases w
      rcases q with rfl | ⟨_, rfl⟩
      · intro e; cases e; omega
      · exact Tag.noConfusion
  obtain ⟨r', le⟩ := r.turn (σ' := { σ with fs := f.set i (some v) :: fr }) (h' := h') (tk := s.toks + 1) k1 (by exact Tag.noConfusion) (by exact Tag.noConfusion) e' hs' hfx (fun nn o'' e => by
    obtain ⟨b, ob, b1, b2, b3⟩ := r.inv.objs nn o'' e
    exact ⟨b, ob, b1, Gh.set_keep b2 fun t₀ o₀ w => by rw [k1] at w; cases w; exact Tag.noConfusion, b3⟩) (Nat.le_refl _)
  exact ⟨_, le, r', trivial⟩

theorem store_cell {env : Env} {A : Around} {σ σ' : St} {G : Gh} {s : Shared} {x : Str} {i : Nat} {v : AV} {mv : Value} (hi : X.names[i]? = some (x, .cell)) (hl : X.scope.names.lookup x = some .cell) (P : EnvOK X env G) (r : R W G σ s) (hv : Rep W G v mv)
    (hf : stv i v σ = some ((), σ')) : wpAny W.M A (storeName env x mv) (Post W (fun _ _ _ => True) G σ' ()) (fun _ _ => False) s := by
  obtain ⟨gf, rest, hfr, hn, hL, hc⟩ := P.own
  have FF := r.inv.frames
  rw [hfr] at FF
  obtain ⟨f, fr, hfs, h2, h3⟩ := FF
  obtain ⟨c, oc, cv, k1, k2, k3, k4⟩ := h2.cel i x (by rw [hn]; exact hi)
  unfold stv at hf
  rw [hfs] at hf
  cases hf
  refine wpAny_storeName_cell (c := c) (v₀ := cv) (by rw [P.scope]; exact P.kind) (by unfold Env.kindOf; rw [P.scope]; exact hl) (by rw [hc x (List.mem_of_getElem? hi)]; exact k1) ⟨oc, r.sub _ _ _ k2, k3⟩ (fun h' hn' hs' => ?_)
  obtain ⟨o', e', q'⟩ := hn'
  have hlt : i < f.length := by
    rw [h2.len, hn]
    exact (List.getElem?_eq_some_iff.mp hi).1
  have hfx : FramesOK (G.vw W) (G.set c (.cel rest.length i) o').kn G.fr (f.set i (some v) :: fr) := by
    rw [hfr]
    refine ⟨_, _, rfl, ⟨h2.nd, by rw [List.length_set]; exact h2.len, ?_, fun j y hj => ?_⟩, ?_⟩
    · obtain ⟨o, m, a1, a2, a3⟩ := h2.loc
      refine ⟨o, m, Gh.set_keep a1 fun t₀ o₀ e => by rw [k2] at e; cases e; exact Tag.noConfusion, a2, fun j y hj => ?_⟩
      have hji : j ≠ i := by
        rintro rfl
        rw [hn, hi] at hj; cases hj
      have := slot_set (V := G.vw W) (nm := mv) hlt (a3 j y hj) hv
      rwa [if_neg hji] at this
    · by_cases hji : j = i
      · subst hji
        rw [hn, hi] at hj
        cases hj
        exact ⟨c, o', _, k1, Gh.set_self, q', by simpa using slot_set (V := G.vw W) (nm := mv) hlt k4 hv⟩
      · obtain ⟨c', oc', cv', a1, a2, a3, a4⟩ := h2.cel j y hj
        refine ⟨c', oc', cv', a1, Gh.set_keep a2 fun t₀ o₀ e => by rw [k2] at e; cases e; intro z; cases z; exact hji rfl, a3, ?_⟩
        have := slot_set (V := G.vw W) (nm := mv) hlt a4 hv
        rwa [if_neg hji] at this
    · refine h3.mono ⟨fun _ _ e => e, fun _ _ e => e, fun _ _ e => e, fun _ _ e => e⟩ fun a t o e ⟨lvl, hlt', q⟩ => Gh.set_keep e fun t₀ o₀ w => ?_
      rw [k2] at w; cases w
      rcases q with rfl | ⟨_, rfl⟩
      · exact Tag.noConfusion
      · intro e; cases e; omega
  obtain ⟨r', le⟩ := r.turn (σ' := { σ with fs := f.set i (some v) :: fr }) (h' := h') (tk := s.toks) k2 (by exact Tag.noConfusion) (by exact Tag.noConfusion) e' hs' hfx (fun nn o'' e => by
    obtain ⟨b, ob, b1, b2, b3⟩ := r.inv.objs nn o'' e
    exact ⟨b, ob, b1, Gh.set_keep b2 fun t₀ o₀ w => by rw [k2] at w; cases w; exact Tag.noConfusion, b3⟩) (Nat.le_refl _)
  exact ⟨_, le, r', trivial⟩
end
end Mine
end

section
open PySem PySem.W PySem.Calls PyProof.Rows
set_option Elab.async false
set_option maxRecDepth 20000
namespace Mine

abbrev SimE (W : Wd) (X : Sc) (n : Nat) (e : Expr) (f : M AV) : Prop := Sim W (Rep W) (EF X) n (fun env => eval e env) f
abbrev SimB (W : Wd) (X : Sc) (n : Nat) (e : Expr) (f : M Bool) : Prop := Sim W (fun _ b a => a = b) (EF X) n (fun env => isTrue e env (eval e env)) f
abbrev SimEs (W : Wd) (X : Sc) (n : Nat) (es : List Expr) (f : M (List AV)) : Prop := Sim W (Reps W) (EF X) n (fun env => evalAll (evalEach es env)) f

/-- an operation upon values -/
def Op1 (W : Wd) {α β : Type} (rep : Gh → β → α → Prop) (n : Nat) (t : Value → Sem α) (f : AV → M β) : Prop :=
  ∀ A σ σ' G s a c ma, AOK n A → R W G σ s → Rep W G a ma → f a σ = some (c, σ') → wpAny W.M A (t ma) (Post W rep G σ' c) (fun _ _ => False) s
def Op2 (W : Wd) {α β : Type} (rep : Gh → β → α → Prop) (n : Nat) (t : Value → Value → Sem α) (f : AV → AV → M β) : Prop :=
  ∀ A σ σ' G s a b c ma mb, AOK n A → R W G σ s → Rep W G a ma → Rep W G b mb → f a b σ = some (c, σ') → wpAny W.M A (t ma mb) (Post W rep G σ' c) (fun _ _ => False) s

theorem M.bind_some {α β : Type} {f : M α} {g : α → M β} {σ : St} {r : β × St} (h : M.bind f g σ = some r) : ∃ a σ', f σ = some (a, σ') ∧ g a σ' = some r := by
  unfold M.bind at h
  split at h
  · cases h
  · rename_i a σ' e; exact ⟨a, σ', e, h⟩

section
variable {W : Wd} {X : Sc} {n : Nat}

theorem SimE.int {i : Int} {k : Nat} {pos : Pos} : SimE W X n (.Constant (.int i) k pos) (M.pure (.int i)) := fun env A σ b σ' G s P hA r hf => by
  cases hf; exact wpAny_Constant_int (.now r.tok ⟨_, rfl⟩)
theorem SimE.str {x : Str} {k : Nat} {pos : Pos} : SimE W X n (.Constant (.str x) k pos) (M.pure (.str x)) := fun env A σ b σ' G s P hA r hf => by
  cases hf; exact wpAny_Constant_str (.now r.tok ⟨_, rfl⟩)
theorem SimE.bool {x : Bool} {k : Nat} {pos : Pos} : SimE W X n (.Constant (.bool x) k pos) (M.pure (.bool x)) := fun env A σ b σ' G s P hA r hf => by
  cases hf; exact wpAny_Constant_bool (.now r rfl)
theorem SimE.none {k : Nat} {pos : Pos} : SimE W X n (.Constant .none k pos) (M.pure .none) := fun env A σ b σ' G s P hA r hf => by
  cases hf; exact wpAny_Constant_none (.now r rfl)

theorem SimE.binop {l r : Expr} {op : Operator} {pos : Pos} {f g : M AV} {h : AV → AV → M AV} (h1 : SimE W X n l f) (h2 : SimE W X n r g) (h3 : Op2 W (Rep W) n (binaryOp op) h) :
    SimE W X n (.BinOp l op r pos) (M.bind f fun a => M.bind g fun b => h a b) := by
  intro env A σ b σ' G s P hA r hf
  obtain ⟨a, σ1, e1, hf⟩ := M.bind_some hf
  obtain ⟨c, σ2, e2, hf⟩ := M.bind_some hf
  refine wpAny_BinOp (wpAny_mono (h1 env A _ _ _ G s P hA r e1) (fun ma s1 ⟨G1, l1, r1, p1⟩ => wpAny_mono (h2 env A _ _ _ G1 s1 (P.mono l1) hA r1 e2) (fun mb s2 ⟨G2, l2, r2, p2⟩ => ?_) fun _ _ e => e) fun _ _ e => e)
  exact wpAny_mono (h3 A _ _ G2 s2 _ _ _ _ _ hA r2 (p1.le l2) p2 hf) (fun _ _ q => q.le (l1.trans l2)) fun _ _ e => e

theorem SimE.unop {x : Expr} {op : UnaryOp} {pos : Pos} {f : M AV} {h : AV → M AV} (h1 : SimE W X n x f) (h3 : Op1 W (Rep W) n (unaryOp op) h) :
    SimE W X n (.UnaryOp op x pos) (M.bind f fun a => h a) := by
  intro env A σ b σ' G s P hA r hf
  obtain ⟨a, σ1, e1, hf⟩ := M.bind_some hf
  refine wpAny_UnaryOp (wpAny_mono (h1 env A _ _ _ G s P hA r e1) (fun ma s1 ⟨G1, l1, r1, p1⟩ => ?_) fun _ _ e => e)
  exact wpAny_mono (h3 A _ _ G1 s1 _ _ _ hA r1 p1 hf) (fun _ _ q => q.le l1) fun _ _ e => e

/-- one comparison as a value -/
theorem SimE.cmp {l r : Expr} {op : CmpOp} {pos : Pos} {f g : M AV} {h : AV → AV → M AV} (h1 : SimE W X n l f) (h2 : SimE W X n r g) (h3 : Op2 W (Rep W) n (compareOp op) h) (hm : behindInMarks op r = false) :
    SimE W X n (.Compare l [op] [r] pos) (M.bind f fun a => M.bind g fun b => h a b) := by
  intro env A σ b σ' G s P hA r hf
  obtain ⟨a, σ1, e1, hf⟩ := M.bind_some hf
  obtain ⟨c, σ2, e2, hf⟩ := M.bind_some hf
  refine wpAny_Compare1 (wpAny_mono (h1 env A _ _ _ G s P hA r e1) (fun ma s1 ⟨G1, l1, r1, p1⟩ => wpAny_mono (h2 env A _ _ _ G1 s1 (P.mono l1) hA r1 e2) (fun mb s2 ⟨G2, l2, r2, p2⟩ => ?_) fun _ _ e => e) fun _ _ e => e) hm
  exact wpAny_mono (h3 A _ _ G2 s2 _ _ _ _ _ hA r2 (p1.le l2) p2 hf) (fun _ _ q => q.le (l1.trans l2)) fun _ _ e => e

/-- truth -/
def trA : AV → M Bool
  | .none => M.pure false
  | .bool b => M.pure b
  | .int i => M.pure (i != 0)
  | .str x => if x.length ≤ 2 ^ 40 then M.pure ((x.length : Int) != 0) else M.fail
  | .lst l => if l.length ≤ 2 ^ 40 then M.pure (l.length != 0) else M.fail
  | .clo _ => M.pure true
  | .ref n => fun σ => match σ.st n with
    | some (.list l) => if l.length ≤ 2 ^ 40 then some (l.length != 0, σ) else none
    | some (.dictI l) => if l.length ≤ 2 ^ 40 then some (l.length != 0, σ) else none
    | some (.dictS l) => if l.length ≤ 2 ^ 40 then some (l.length != 0, σ) else none
    | _ => none
  | .dct l => if l.length ≤ 2 ^ 40 then M.pure (l.length != 0) else M.fail
  | _ => M.fail

theorem RepVs.length {V : Vw} : ∀ {l : List AV} {vs : List Value}, RepVs V l vs → vs.length = l.length
  | [], _, h => by cases h; rfl
  | _ :: _, _, ⟨_, _, e, _, h⟩ => by subst e; simp [RepVs.length h]
theorem RepKV.length {κ : Type} {V : Vw} : ∀ {l : List (κ × AV)} {vs}, RepKV V l vs → vs.length = l.length
  | [], _, h => by cases h; rfl
  | _ :: _, _, ⟨_, _, e, _, h⟩ => by subst e; simp [RepKV.length h]
theorem RepVd.length {V : Vw} : ∀ {l : List (Str × AV)} {vs}, RepVd V l vs → vs.length = l.length
  | [], _, h => by cases h; rfl
  | _ :: _, _, ⟨_, _, e, _, h⟩ => by subst e; simp [RepVd.length h]
theorem RepVs.get {V : Vw} : ∀ {l : List AV} {vs : List Value}, RepVs V l vs → ∀ {i : Nat} {a : AV}, l[i]? = some a → ∃ v, vs[i]? = some v ∧ RepV V a v
  | [], _, _, i, a, e => by simp at e
  | b :: l, _, ⟨v, r, q, h1, h2⟩, 0, a, e => by subst q; simp at e; subst e; exact ⟨v, rfl, h1⟩
  | b :: l, _, ⟨v, r, q, h1, h2⟩, i + 1, a, e => by subst q; simp at e; simpa using RepVs.get h2 e
theorem RepVs.append {V : Vw} : ∀ {l l' : List AV} {vs vs' : List Value}, RepVs V l vs → RepVs V l' vs' → RepVs V (l ++ l') (vs ++ vs')
  | [], _, _, _, h, h' => by cases h; exact h'
  | _ :: _, _, _, _, ⟨v, r, e, h1, h2⟩, h' => by subst e; exact ⟨v, _, rfl, h1, RepVs.append h2 h'⟩
theorem RepVs.take {V : Vw} : ∀ {l : List AV} {vs : List Value}, RepVs V l vs → ∀ k, RepVs V (l.take k) (vs.take k)
  | [], _, h, k => by cases h; simp [RepVs]
  | _ :: _, _, _, 0 => by simp [RepVs]
  | _ :: _, _, ⟨v, r, e, h1, h2⟩, k + 1 => by subst e; exact ⟨v, _, rfl, h1, RepVs.take h2 k⟩
theorem RepVs.drop {V : Vw} : ∀ {l : List AV} {vs : List Value}, RepVs V l vs → ∀ k, RepVs V (l.drop k) (vs.drop k)
  | [], _, h, k => by cases h; simp [RepVs]
  | _ :: _, _, h, 0 => h
  | _ :: _, _, ⟨v, r, e, h1, h2⟩, k + 1 => by subst e; exact RepVs.drop h2 k
theorem RepVs.reverse {V : Vw} : ∀ {l : List AV} {vs : List Value}, RepVs V l vs → RepVs V l.reverse vs.reverse
  | [], _, h => by cases h; simp [RepVs]
  | _ :: _, _, ⟨v, r, e, h1, h2⟩ => by subst e; simp only [List.reverse_cons]; exact RepVs.append (RepVs.reverse h2) ⟨v, [], rfl, h1, rfl⟩

/-- the list that a value shows -/
def viewL (σ : St) : AV → Option (List AV)
  | .lst l => some l
  | .ref n => match σ.st n with
    | some (.list l) => some l
    | _ => none
  | _ => none
theorem R.view {G : Gh} {σ : St} {s : Shared} (r : R W G σ s) {a : AV} {v : Value} {l : List AV} (p : Rep W G a v) (h : viewL σ a = some l) :
    ∃ x vs n, v = .ref x ∧ s.heap.get? x = some ⟨.type "list", none, .seq vs n, #[]⟩ ∧ Reps W G l vs.toList := by
  unfold viewL at h
  split at h
  · cases h
    obtain ⟨x, vs, n, e, hz, hr⟩ := p
    exact ⟨x, vs, n, e, r.z hz, hr⟩
  · obtain ⟨x, e, hm⟩ := p
    split at h
    · rename_i n l' hs
      cases h
      obtain ⟨y, ob, h1, h2, vs, k, h3, h4⟩ := r.inv.objs _ _ hs
      rw [show (G.vw W).mu = G.mu from rfl, h1] at hm
      cases hm
      exact ⟨x, vs, k, e, h3 ▸ r.sub _ _ _ h2, h4⟩
    · cases h
  · cases h
theorem isList_of {h : Heap} {x : Addr} {vs : Array Value} {n : Nat} (e : h.get? x = some ⟨.type "list", none, .seq vs n, #[]⟩) : h.IsList x vs := ⟨_, e, rfl, n, rfl⟩
theorem isTup_of {h : Heap} {x : Addr} {vs : Array Value} {n : Nat} (e : h.get? x = some ⟨.type "tuple", none, .seq vs n, #[]⟩) : IsTup h x vs := ⟨_, e, rfl, n, rfl⟩

theorem notSys {G : Gh} {σ : St} {s : Shared} (r : R W G σ s) (ok : W.Ok) {x : Addr} {t : Tag} {o : Obj} (hk : G.kn x = some (t, o)) (ht : t ≠ .z) : (x == sysModules) = false := by
  cases e : x == sysModules with
  | false => rfl
  | true =>
    rw [beq_iff_eq.mp e] at hk
    exact absurd (r.inv.sys.2 _ _ hk) ht
end

section
variable {W : Wd} {X : Sc} {n : Nat}

theorem Op1.truth (ok : W.Ok) : Op1 W (fun _ b a => a = b) n truthy trA := by
  intro A σ σ' G s a c ma hA r p hf
  cases a with
  | none => cases hf; cases p; exact truthy_none (.now r rfl)
  | bool b => cases hf; cases p; exact wpAny_truthy_bool (.now r rfl)
  | int i => cases hf; obtain ⟨t, rfl⟩ := p; exact PySem.P.truthy_int (.now r rfl)
  | str x =>
    obtain ⟨t, rfl⟩ := p
    simp only [trA] at hf
    split at hf
    · cases hf
      exact PySem.P.truthy_str (by omega) (.now r.tok rfl)
    · cases hf
  | lst l =>
    simp only [trA] at hf
    split at hf
    · rename_i hl
      cases hf
      obtain ⟨x, vs, m, e, hz, hr⟩ := p
      subst e
      have hlen := hr.length
      rw [Array.length_toList] at hlen
      refine wpAny_truthy_list (isList_of (r.z hz)) (by omega) (.now r.tok ?_)
      rw [← hlen]
      rfl
    · cases hf
  | dct l =>
    simp only [trA] at hf
    split at hf
    · rename_i hl
      cases hf
      obtain ⟨x, o, kvs, e, hsy, hz, hd, hr⟩ := p
      subst e
      have hlen := hr.length
      refine wpAny_truthy_dict (knd := strKind W.prog W.w) hsy (DictOb.dictOf hd (r.z hz)) (by omega) (.now r.tok ?_)
      · cases l <;> cases kvs <;> simp_all
    · cases hf
  | clo k =>
    cases hf
    obtain ⟨x, o, e, hz, sk, fd, h1, h2, h3, _⟩ := p
    subst e
    have hT : s.TypeIs (.ref x) "function" := ⟨o, r.z hz, h2⟩
    unfold truthy
    first
      | refine wpAny_bind (wpAny_callSpecial?_none (name := Str.ofString "__bool__") hT (by rw [typeLookup_type, builtinLookup_eq_fast]; kernel_rfl) ?_)
      | refine wpAny_bind (wpAny_pure (wpAny_bind (wpAny_callSpecial?_none (name := Str.ofString "__bool__") hT (by rw [typeLookup_type, builtinLookup_eq_fast]; kernel_rfl) ?_)))
    first
      | refine wpAny_bind (wpAny_specialOf (name := Str.ofString "__len__") hT (r := none) (by rw [typeLookup_type, builtinLookup_eq_fast]; kernel_rfl) ?_)
      | refine wpAny_bind (wpAny_pure (wpAny_bind (wpAny_specialOf (name := Str.ofString "__len__") hT (r := none) (by rw [typeLookup_type, builtinLookup_eq_fast]; kernel_rfl) ?_)))
    first
      | exact wpAny_pure (.now r rfl)
      | exact wpAny_bind (wpAny_pure (.now r rfl))
  | ref h =>
    simp only [trA] at hf
    obtain ⟨x, e, hm⟩ := p
    subst e
    split at hf
    · rename_i l hs
      split at hf
      · cases hf
        obtain ⟨y, ob, h1, h2, vs, k, h3, h4⟩ := r.inv.objs _ _ hs
        rw [show (G.vw W).mu = G.mu from rfl, h1] at hm
        cases hm
        have hlen := h4.length
        rw [Array.length_toList] at hlen
        refine wpAny_truthy_list (isList_of (h3 ▸ r.sub _ _ _ h2)) (by omega) (.now r.tok ?_)
        rw [← hlen]
        rfl
      · cases hf
    · rename_i l hs
      split at hf
      · cases hf
        obtain ⟨y, ob, h1, h2, kvs, h3, h4⟩ := r.inv.objs _ _ hs
        rw [show (G.vw W).mu = G.mu from rfl, h1] at hm
        cases hm
        have hlen := h4.length
        refine wpAny_truthy_dict (knd := intKind W.prog W.w) (notSys r ok h2 Tag.noConfusion) (DictOb.dictOf h3 (r.sub _ _ _ h2)) (by omega) (.now r.tok ?_)
        cases l <;> cases kvs <;> simp_all
      · cases hf
    · rename_i l hs
      split at hf
      · cases hf
        obtain ⟨y, ob, h1, h2, kvs, h3, h4⟩ := r.inv.objs _ _ hs
        rw [show (G.vw W).mu = G.mu from rfl, h1] at hm
        cases hm
        have hlen := h4.length
        refine wpAny_truthy_dict (knd := strKind W.prog W.w) (notSys r ok h2 Tag.noConfusion) (DictOb.dictOf h3 (r.sub _ _ _ h2)) (by omega) (.now r.tok ?_)
        cases l <;> cases kvs <;> simp_all
      · cases hf
    · cases hf
  | _ => cases hf
end
end Mine
end

section
open PySem PySem.W PySem.Calls PyProof.Rows
set_option Elab.async false
set_option maxRecDepth 20000
namespace Mine

mutual
def toD : AV → Option PyData
  | .none => some .none
  | .bool b => some (.bool b)
  | .int i => some (.int i)
  | .str x => some (.str x)
  | .tup l => (toDs l).map .tuple
  | .lst l => (toDs l).map .list
  | _ => Option.none
def toDs : List AV → Option (List PyData)
  | [] => some []
  | a :: l => match toD a, toDs l with
    | some d, some ds => some (d :: ds)
    | _, _ => Option.none
end
def viewD (σ : St) (a : AV) : Option PyData := match viewL σ a with
  | some l => (toDs l).map .list
  | none => toD a

mutual
theorem reads_of {V : Vw} {h : Heap} (hz : ∀ a o, V.z a = some o → h.get? a = some o) : ∀ (a : AV) (v : Value) (d : PyData), RepV V a v → toD a = some d → ∃ as, Reads h v d as
  | .none, _, _, r, e => by cases e; cases r; exact ⟨_, .none⟩
  | .bool b, _, _, r, e => by cases e; cases r; exact ⟨_, .bool b⟩
  | .int i, _, _, ⟨t, r⟩, e => by cases e; cases r; exact ⟨_, .int i t⟩
  | .str i, _, _, ⟨t, r⟩, e => by cases e; cases r; exact ⟨_, .str i t⟩
  | .tup l, _, d, ⟨a, vs, n, r, z, q⟩, e => by
    obtain ⟨ds, e1, e2⟩ := Option.map_eq_some_iff.mp (show (toDs l).map PyData.tuple = some d from e)
    subst r e2
    obtain ⟨as, w⟩ := reads_ofs hz l _ _ q e1
    exact ⟨_, .tuple (hz _ _ z) rfl rfl w⟩
  | .lst l, _, d, ⟨a, vs, n, r, z, q⟩, e => by
    obtain ⟨ds, e1, e2⟩ := Option.map_eq_some_iff.mp (show (toDs l).map PyData.list = some d from e)
    subst r e2
    obtain ⟨as, w⟩ := reads_ofs hz l _ _ q e1
    exact ⟨_, .list (hz _ _ z) rfl rfl w⟩
  | .dct _, _, _, _, e => by cases e
  | .ref _, _, _, _, e => by cases e
  | .mc _, _, _, _, e => by cases e
  | .inst _ _, _, _, _, e => by cases e
  | .clo _, _, _, _, e => by cases e
  | .bm _ _, _, _, _, e => by cases e
  | .rng _ _ _, _, _, _, e => by cases e
  | .view _ _, _, _, _, e => by cases e
theorem reads_ofs {V : Vw} {h : Heap} (hz : ∀ a o, V.z a = some o → h.get? a = some o) : ∀ (l : List AV) (vs : List Value) (ds : List PyData), RepVs V l vs → toDs l = some ds → ∃ as, ReadsAll h vs ds as
  | [], _, _, r, e => by cases e; cases r; exact ⟨_, .nil⟩
  | a :: l, _, ds, ⟨v, r, q, h1, h2⟩, e => by
    subst q
    unfold toDs at e
    split at e
    · rename_i d ds' e1 e2
      cases e
      obtain ⟨as, w1⟩ := reads_of hz a _ _ h1 e1
      obtain ⟨bs, w2⟩ := reads_ofs hz l _ _ h2 e2
      exact ⟨_, .cons w1 w2⟩
    · cases e
end
theorem R.reads {W : Wd} {G : Gh} {σ : St} {s : Shared} (r : R W G σ s) {a : AV} {v : Value} {d : PyData} (p : Rep W G a v) (e : viewD σ a = some d) : ∃ as, Reads s.heap v d as := by
  unfold viewD at e
  split at e
  · rename_i l hl
    obtain ⟨x, vs, n, e1, e2, e3⟩ := r.view p hl
    obtain ⟨ds, f1, f2⟩ := Option.map_eq_some_iff.mp e
    subst e1 f2
    obtain ⟨as, w⟩ := reads_ofs (h := s.heap) (fun _ _ q => r.z q) l _ _ e3 f1
    exact ⟨_, .list e2 rfl rfl w⟩
  · exact reads_of (fun _ _ q => r.z q) a v d p e

def dOk (d : PyData) : Bool := d.canLay0 && decide (d.depth ≤ 60)

section
variable {W : Wd} {X : Sc} {n : Nat}

def smallI (a : Int) : Bool := decide (-(2 ^ 62) < a) && decide (a < 2 ^ 62)
theorem smallI_bits {a : Int} (h : smallI a = true) : Builtin.Int.intBits a ≤ 64 := by
  unfold smallI at h
  rw [Bool.and_eq_true, decide_eq_true_eq, decide_eq_true_eq] at h
  exact intBits_le_64 (by omega) (by omega)

def arA : Operator → AV → AV → M AV
  | .Add, .int a, .int b => M.pure (.int (a + b))
  | .Sub, .int a, .int b => M.pure (.int (a - b))
  | .Mult, .int a, .int b => if smallI a || smallI b then M.pure (.int (a * b)) else M.fail
  | .FloorDiv, .int a, .int b => if b ≠ 0 ∧ b.natAbs < 1073741824 then M.pure (.int (a.fdiv b)) else M.fail
  | .Mod, .int a, .int b => if b ≠ 0 then M.pure (.int (a.fmod b)) else M.fail
  | .Pow, .int a, .int b => if smallI a = true ∧ 0 ≤ b ∧ b < 1000 then M.pure (.int (a ^ b.toNat)) else M.fail
  | .Add, .str x, .str y => if x.length + y.length ≤ 2 ^ 20 then M.pure (.str (x ++ y)) else M.fail
  | _, _, _ => M.fail

theorem Op2.ar {op : Operator} : Op2 W (Rep W) n (binaryOp op) (arA op) := by
  intro A σ σ' G s a b c ma mb hA r pa pb hf
  unfold arA at hf
  split at hf
  · cases hf
    obtain ⟨t, rfl⟩ := pa; obtain ⟨u, rfl⟩ := pb
    exact PySem.P.add_int (.now r.tok ⟨_, rfl⟩)
  · cases hf
    obtain ⟨t, rfl⟩ := pa; obtain ⟨u, rfl⟩ := pb
    exact PySem.P.sub_int (.now r.tok ⟨_, rfl⟩)
  · rename_i x y
    obtain ⟨t, rfl⟩ := pa; obtain ⟨u, rfl⟩ := pb
    split at hf
    · rename_i hs
      cases hf
      rw [Bool.or_eq_true] at hs
      exact PySem.P.mul_int (.now r.tok ⟨_, rfl⟩) (hs.elim (fun h => IntMulOk.of_left (smallI_bits h)) fun h => IntMulOk.of_right (smallI_bits h))
    · cases hf
  · obtain ⟨t, rfl⟩ := pa; obtain ⟨u, rfl⟩ := pb
    split at hf
    · rename_i hs
      cases hf
      exact PyProof.Rows.floordiv_int hs.1 (.now r.tok ⟨_, rfl⟩) (.inl (PyProof.noPylong_small hs.2))
    · cases hf
  · obtain ⟨t, rfl⟩ := pa; obtain ⟨u, rfl⟩ := pb
    split at hf
    · rename_i hs
      cases hf
      exact PyProof.Rows.mod_int' hs (.now r.tok ⟨_, rfl⟩)
    · cases hf
  · obtain ⟨t, rfl⟩ := pa; obtain ⟨u, rfl⟩ := pb
    split at hf
    · rename_i x y hs
      cases hf
      refine PyProof.Rows.pow_int hs.2.1 ?_ (.now r.tok ⟨_, rfl⟩)
      have h1 := smallI_bits hs.1
      have h2 := hs.2.2
      have h3 := hs.2.1
      calc (Builtin.Int.intBits x : Int) * y ≤ 64 * y := Int.mul_le_mul_of_nonneg_right (by omega) h3
        _ ≤ 2 ^ 27 := by omega
    · cases hf
  · obtain ⟨t, rfl⟩ := pa; obtain ⟨u, rfl⟩ := pb
    split at hf
    · rename_i hs
      cases hf
      exact PyProof.Rows.add_str (fun t' tk => .now r.tok ⟨_, rfl⟩) (by rw [sizeLine_eq]; omega)
    · cases hf
  · cases hf

def unA : UnaryOp → AV → M AV
  | .USub, .int a => M.pure (.int (-a))
  | _, _ => M.fail
theorem Op1.un {op : UnaryOp} : Op1 W (Rep W) n (unaryOp op) (unA op) := by
  intro A σ σ' G s a c ma hA r pa hf
  unfold unA at hf
  split at hf
  · cases hf
    obtain ⟨t, rfl⟩ := pa
    exact PySem.P.neg_int (.now r.tok ⟨_, rfl⟩)
  · cases hf
theorem Op1.not (ok : W.Ok) : Op1 W (Rep W) n (unaryOp .Not) (fun a => M.bind (trA a) fun b => M.pure (.bool (!b))) := by
  intro A σ σ' G s a c ma hA r pa hf
  obtain ⟨b, σ1, e1, hf⟩ := M.bind_some hf
  cases hf
  exact not_value (wpAny_mono (Op1.truth ok A _ _ G s a b ma hA r pa e1) (fun b' s' ⟨G', l, r', q⟩ => by subst q; exact ⟨G', l, r', rfl⟩) fun _ _ e => e)

def eqA (a b : AV) : M AV := fun σ => match viewD σ a, viewD σ b with
  | some x, some y => if dOk x && dOk y then some (.bool (PyData.eqv x y), σ) else none
  | _, _ => none
def neA (a b : AV) : M AV := fun σ => match viewD σ a, viewD σ b with
  | some x, some y => if dOk x && dOk y then some (.bool (!PyData.eqv x y), σ) else none
  | _, _ => none
theorem AOK.room {A : Around} {d d' : PyData} (hA : AOK n A) (h : dOk d = true) : A.units + min d.depth d'.depth < cLine := by
  unfold dOk at h
  rw [Bool.and_eq_true, decide_eq_true_eq] at h
  have := hA.un
  unfold cLine
  omega
theorem dOk.can {d : PyData} (h : dOk d = true) : d.canLay0 = true := by
  unfold dOk at h
  rw [Bool.and_eq_true] at h
  exact h.1

theorem Op2.eq : Op2 W (Rep W) n (compareOp .Eq) eqA := by
  intro A σ σ' G s a b c ma mb hA r pa pb hf
  unfold eqA at hf
  split at hf
  · rename_i x y h1 h2
    split at hf
    · rename_i h3
      rw [Bool.and_eq_true] at h3
      cases hf
      obtain ⟨as, ra⟩ := r.reads pa h1
      obtain ⟨bs, rb⟩ := r.reads pb h2
      exact PySem.SeqAt.rcAt_reads ra rb (dOk.can h3.1) (dOk.can h3.2) (hA.room h3.1) W.prog W.w _ _ (.now r rfl)
    · cases hf
  · cases hf
theorem Op2.ne : Op2 W (Rep W) n (compareOp .NotEq) neA := by
  intro A σ σ' G s a b c ma mb hA r pa pb hf
  unfold neA at hf
  split at hf
  · rename_i x y h1 h2
    split at hf
    · rename_i h3
      rw [Bool.and_eq_true] at h3
      cases hf
      obtain ⟨as, ra⟩ := r.reads pa h1
      obtain ⟨bs, rb⟩ := r.reads pb h2
      exact PySem.SeqAt.rcNeAt_reads ra rb (dOk.can h3.1) (dOk.can h3.2) (hA.room h3.1) W.prog W.w _ _ (.now r rfl)
    · cases hf
  · cases hf

def ordA : CmpOp → AV → AV → M AV
  | .Lt, .int a, .int b => M.pure (.bool (decide (a < b)))
  | .LtE, .int a, .int b => M.pure (.bool (decide (a ≤ b)))
  | .Gt, .int a, .int b => M.pure (.bool (decide (b < a)))
  | .GtE, .int a, .int b => M.pure (.bool (decide (b ≤ a)))
  | .Is, a, .none => match a with
    | .none => M.pure (.bool true)
    | .int _ | .str _ | .bool _ | .clo _ | .lst _ | .ref _ | .dct _ => M.pure (.bool false)
    | _ => M.fail
  | _, _, _ => M.fail
theorem Op2.ord {op : CmpOp} : Op2 W (Rep W) n (compareOp op) (ordA op) := by
  intro A σ σ' G s a b c ma mb hA r pa pb hf
  unfold ordA at hf
  split at hf
  · cases hf
    obtain ⟨t, rfl⟩ := pa; obtain ⟨u, rfl⟩ := pb
    exact PySem.P.lt_int (.now r rfl)
  · cases hf
    obtain ⟨t, rfl⟩ := pa; obtain ⟨u, rfl⟩ := pb
    exact PySem.P.le_int (.now r rfl)
  · cases hf
    obtain ⟨t, rfl⟩ := pa; obtain ⟨u, rfl⟩ := pb
    exact PySem.P.gt_int (.now r rfl)
  · cases hf
    obtain ⟨t, rfl⟩ := pa; obtain ⟨u, rfl⟩ := pb
    exact PySem.P.ge_int (.now r rfl)
  · cases pb
    split at hf
    · cases hf; cases pa; exact is_none (.now r rfl)
    · cases hf; obtain ⟨t, rfl⟩ := pa; exact is_none (.now r rfl)
    · cases hf; obtain ⟨t, rfl⟩ := pa; exact is_none (.now r rfl)
    · cases hf; cases pa; exact is_none (.now r rfl)
    · cases hf; obtain ⟨x, o, e, _⟩ := pa; subst e; exact is_none (.now r rfl)
    · cases hf; obtain ⟨x, vs, k, e, _⟩ := pa; subst e; exact is_none (.now r rfl)
    · cases hf; obtain ⟨x, e, _⟩ := pa; subst e; exact is_none (.now r rfl)
    · cases hf; obtain ⟨x, o, kvs, e, _⟩ := pa; subst e; exact is_none (.now r rfl)
    · cases hf
  · cases hf

/-! tests -/
theorem SimB.cmp (ok : W.Ok) {l r : Expr} {op : CmpOp} {pos : Pos} {f g : M AV} {h : AV → AV → M AV} (h1 : SimE W X n l f) (h2 : SimE W X n r g) (h3 : Op2 W (Rep W) n (compareOp op) h) (hm : behindInMarks op r = false) :
    SimB W X n (.Compare l [op] [r] pos) (M.bind f fun a => M.bind g fun b => M.bind (h a b) trA) := by
  intro env A σ b σ' G s P hA r hf
  obtain ⟨a, σ1, e1, hf⟩ := M.bind_some hf
  obtain ⟨c, σ2, e2, hf⟩ := M.bind_some hf
  obtain ⟨d, σ3, e3, hf⟩ := M.bind_some hf
  refine wpAny_isTrue_Compare1 (wpAny_mono (h1 env A _ _ _ G s P hA r e1) (fun ma s1 ⟨G1, l1, r1, p1⟩ => wpAny_mono (h2 env A _ _ _ G1 s1 (P.mono l1) hA r1 e2) (fun mb s2 ⟨G2, l2, r2, p2⟩ => ?_) fun _ _ e => e) fun _ _ e => e) hm
  refine wpAny_mono (h3 A _ _ G2 s2 _ _ _ _ _ hA r2 (p1.le l2) p2 e3) (fun mc s3 ⟨G3, l3, r3, p3⟩ => ?_) fun _ _ e => e
  exact wpAny_mono (Op1.truth ok A _ _ G3 s3 _ _ _ hA r3 p3 hf) (fun _ _ q => q.le (l1.trans (l2.trans l3))) fun _ _ e => e
theorem SimB.not {x : Expr} {pos : Pos} {f : M Bool} (h1 : SimB W X n x f) : SimB W X n (.UnaryOp .Not x pos) (M.bind f fun b => M.pure (!b)) := by
  intro env A σ b σ' G s P hA r hf
  obtain ⟨a, σ1, e1, hf⟩ := M.bind_some hf
  cases hf
  exact wpAny_isTrue_Not (wpAny_mono (h1 env A _ _ _ G s P hA r e1) (fun b' s' ⟨G', l, r', q⟩ => by subst q; exact ⟨G', l, r', rfl⟩) fun _ _ e => e)
theorem SimB.val (ok : W.Ok) {x : Expr} {f : M AV} (h1 : SimE W X n x f) (he : ∀ env, isTrue x env (eval x env) = (do let v ← eval x env; standAt x.pos; holding [v] (truthy v))) : SimB W X n x (M.bind f trA) := by
  intro env A σ b σ' G s P hA r hf
  obtain ⟨a, σ1, e1, hf⟩ := M.bind_some hf
  exact wpAny_isTrue_value (wpAny_mono (h1 env A _ _ _ G s P hA r e1) (fun ma s1 ⟨G1, l1, r1, p1⟩ => wpAny_mono (Op1.truth ok A _ _ G1 s1 _ _ _ hA r1 p1 hf) (fun _ _ q => q.le l1) fun _ _ e => e) fun _ _ e => e) (he env)

def SimAll (W : Wd) (X : Sc) (n : Nat) (op : BoolOp) (es : List Expr) (f : M Bool) : Prop := Sim W (fun _ b a => a = b) (EF X) n (fun env => allTrue op es env) f
theorem SimAll.andNil : SimAll W X n .And [] (M.pure true) := fun env A σ b σ' G s P hA r hf => by cases hf; exact wpAny_allTrue_And_nil (.now r rfl)
theorem SimAll.orNil : SimAll W X n .Or [] (M.pure false) := fun env A σ b σ' G s P hA r hf => by cases hf; exact wpAny_allTrue_Or_nil (.now r rfl)
theorem SimAll.and {x : Expr} {rest : List Expr} {f g : M Bool} (h1 : SimB W X n x f) (h2 : SimAll W X n .And rest g) : SimAll W X n .And (x :: rest) (M.bind f fun b => bif b then g else M.pure false) := by
  intro env A σ b σ' G s P hA r hf
  obtain ⟨a, σ1, e1, hf⟩ := M.bind_some hf
  refine wpAny_allTrue_And_cons (wpAny_mono (h1 env A _ _ _ G s P hA r e1) (fun b' s' ⟨G', l, r', q⟩ => ?_) fun _ _ e => e)
  subst q
  cases b' with
  | true => exact wpAny_mono (h2 env A _ _ _ G' s' (P.mono l) hA r' hf) (fun _ _ q => q.le l) fun _ _ e => e
  | false => cases hf; exact ⟨G', l, r', rfl⟩
theorem SimAll.or {x : Expr} {rest : List Expr} {f g : M Bool} (h1 : SimB W X n x f) (h2 : SimAll W X n .Or rest g) : SimAll W X n .Or (x :: rest) (M.bind f fun b => bif b then M.pure true else g) := by
  intro env A σ b σ' G s P hA r hf
  obtain ⟨a, σ1, e1, hf⟩ := M.bind_some hf
  refine wpAny_allTrue_Or_cons (wpAny_mono (h1 env A _ _ _ G s P hA r e1) (fun b' s' ⟨G', l, r', q⟩ => ?_) fun _ _ e => e)
  subst q
  cases b' with
  | false => exact wpAny_mono (h2 env A _ _ _ G' s' (P.mono l) hA r' hf) (fun _ _ q => q.le l) fun _ _ e => e
  | true => cases hf; exact ⟨G', l, r', rfl⟩
theorem SimB.boolop {op : BoolOp} {es : List Expr} {pos : Pos} {f : M Bool} (h : SimAll W X n op es f) : SimB W X n (.BoolOp op es pos) f :=
  fun env A σ b σ' G s P hA r hf => wpAny_isTrue_BoolOp (h env A σ b σ' G s P hA r hf)

theorem SimE.ifexp {t x y : Expr} {pos : Pos} {c : M Bool} {f g : M AV} (h1 : SimB W X n t c) (h2 : SimE W X n x f) (h3 : SimE W X n y g) : SimE W X n (.IfExp t x y pos) (M.bind c fun b => bif b then f else g) := by
  intro env A σ b σ' G s P hA r hf
  obtain ⟨a, σ1, e1, hf⟩ := M.bind_some hf
  refine wpAny_IfExp (wpAny_mono (h1 env A _ _ _ G s P hA r e1) (fun b' s' ⟨G', l, r', q⟩ => ?_) fun _ _ e => e)
  subst q
  cases b' with
  | true => exact wpAny_mono (h2 env A _ _ _ G' s' (P.mono l) hA r' hf) (fun _ _ q => q.le l) fun _ _ e => e
  | false => exact wpAny_mono (h3 env A _ _ _ G' s' (P.mono l) hA r' hf) (fun _ _ q => q.le l) fun _ _ e => e
theorem SimB.ifexp {t x y : Expr} {pos : Pos} {c f g : M Bool} (h1 : SimB W X n t c) (h2 : SimB W X n x f) (h3 : SimB W X n y g) : SimB W X n (.IfExp t x y pos) (M.bind c fun b => bif b then f else g) := by
  intro env A σ b σ' G s P hA r hf
  obtain ⟨a, σ1, e1, hf⟩ := M.bind_some hf
  show wpAny W.M A (isTrue (.IfExp t x y pos) env (eval (.IfExp t x y pos) env)) _ _ s
  rw [arm_isTrue_IfExp]
  refine wpAny_bind (wpAny_mono (h1 env A _ _ _ G s P hA r e1) (fun b' s' ⟨G', l, r', q⟩ => ?_) fun _ _ e => e)
  subst q
  cases b' with
  | true => exact wpAny_mono (h2 env A _ _ _ G' s' (P.mono l) hA r' hf) (fun _ _ q => q.le l) fun _ _ e => e
  | false => exact wpAny_mono (h3 env A _ _ _ G' s' (P.mono l) hA r' hf) (fun _ _ q => q.le l) fun _ _ e => e
theorem SimE.and2 (ok : W.Ok) {x y : Expr} {pos : Pos} {f g : M AV} (h1 : SimE W X n x f) (h2 : SimE W X n y g) : SimE W X n (.BoolOp .And [x, y] pos) (M.bind f fun a => M.bind (trA a) fun b => bif b then g else M.pure a) := by
  intro env A σ b σ' G s P hA r hf
  obtain ⟨a, σ1, e1, hf⟩ := M.bind_some hf
  obtain ⟨c, σ2, e2, hf⟩ := M.bind_some hf
  refine wpAny_And2 (wpAny_mono (h1 env A _ _ _ G s P hA r e1) (fun ma s1 ⟨G1, l1, r1, p1⟩ => ?_) fun _ _ e => e)
  refine wpAny_mono (Op1.truth ok A _ _ G1 s1 _ _ _ hA r1 p1 e2) (fun b' s2 ⟨G2, l2, r2, q⟩ => ?_) fun _ _ e => e
  subst q
  cases b' with
  | true => exact wpAny_mono (h2 env A _ _ _ G2 s2 (P.mono (l1.trans l2)) hA r2 hf) (fun _ _ q => q.le (l1.trans l2)) fun _ _ e => e
  | false => cases hf; exact ⟨G2, l1.trans l2, r2, p1.le l2⟩
theorem SimE.or2 (ok : W.Ok) {x y : Expr} {pos : Pos} {f g : M AV} (h1 : SimE W X n x f) (h2 : SimE W X n y g) : SimE W X n (.BoolOp .Or [x, y] pos) (M.bind f fun a => M.bind (trA a) fun b => bif b then M.pure a else g) := by
  intro env A σ b σ' G s P hA r hf
  obtain ⟨a, σ1, e1, hf⟩ := M.bind_some hf
  obtain ⟨c, σ2, e2, hf⟩ := M.bind_some hf
  refine wpAny_Or2 (wpAny_mono (h1 env A _ _ _ G s P hA r e1) (fun ma s1 ⟨G1, l1, r1, p1⟩ => ?_) fun _ _ e => e)
  refine wpAny_mono (Op1.truth ok A _ _ G1 s1 _ _ _ hA r1 p1 e2) (fun b' s2 ⟨G2, l2, r2, q⟩ => ?_) fun _ _ e => e
  subst q
  cases b' with
  | false => exact wpAny_mono (h2 env A _ _ _ G2 s2 (P.mono (l1.trans l2)) hA r2 hf) (fun _ _ q => q.le (l1.trans l2)) fun _ _ e => e
  | true => cases hf; exact ⟨G2, l1.trans l2, r2, p1.le l2⟩

/-! displays -/
abbrev SimI (W : Wd) (X : Sc) (n : Nat) (es : List Expr) (f : M (List AV)) : Prop := ∀ pos, Sim W (Reps W) (EF X) n (fun env => spliced (backTo pos (starEach es env))) f
theorem SimI.nil : SimI W X n [] (M.pure []) := fun pos env A σ b σ' G s P hA r hf => by cases hf; exact wpAny_items_nil (.now r rfl)
theorem SimI.cons {e : Expr} {es : List Expr} {f : M AV} {g : M (List AV)} (h1 : SimE W X n e f) (h2 : SimI W X n es g) (he : ∀ env, starEach (e :: es) env = (false, eval e env) :: starEach es env) :
    SimI W X n (e :: es) (M.bind f fun a => M.bind g fun l => M.pure (a :: l)) := by
  intro pos env A σ b σ' G s P hA r hf
  obtain ⟨a, σ1, e1, hf⟩ := M.bind_some hf
  obtain ⟨c, σ2, e2, hf⟩ := M.bind_some hf
  cases hf
  refine wpAny_items_cons (wpAny_mono (h1 env A _ _ _ G s P hA r e1) (fun ma s1 ⟨G1, l1, r1, p1⟩ => ?_) fun _ _ e => e) (he env)
  exact wpAny_mono (h2 pos env A _ _ _ G1 s1 (P.mono l1) hA r1 e2) (fun vs s2 ⟨G2, l2, r2, p2⟩ => ⟨G2, l1.trans l2, r2, _, _, rfl, p1.le l2, p2⟩) fun _ _ e => e

def mkT (l : List AV) : M AV := if l.length ≤ 1000 then M.pure (.tup l) else M.fail
def mkL (l : List AV) : M AV := if l.length ≤ 1000 then M.pure (.lst l) else M.fail
theorem SimE.tuple {es : List Expr} {k : Nat} {pos : Pos} {f : M (List AV)} (h : SimI W X n es f) : SimE W X n (.Tuple es k pos) (M.bind f mkT) := by
  intro env A σ b σ' G s P hA r hf
  obtain ⟨a, σ1, e1, hf⟩ := M.bind_some hf
  unfold mkT at hf
  split at hf
  · rename_i hk
    cases hf
    refine wpAny_Tuple (wpAny_mono (h pos env A _ _ _ G s P hA r e1) (fun vs s1 ⟨G1, l1, r1, p1⟩ => ?_) fun _ _ e => e)
    have hlen := p1.length
    obtain ⟨r2, l2⟩ := r1.alloc .z (o := { cls := .type "tuple", data := .seq vs.toArray }) rfl (tk := s1.toks)
    exact ⟨by rw [sizeLine_eq]; omega, _, l1.trans l2, r2, _, vs.toArray, (), rfl, Gh.z_iff.mpr Gh.set_self, by simpa using Reps.le p1 l2⟩
  · cases hf
/-- a list that nobody will change -/
theorem SimE.listz {es : List Expr} {pos : Pos} {f : M (List AV)} (h : SimI W X n es f) : SimE W X n (.List es pos) (M.bind f mkL) := by
  intro env A σ b σ' G s P hA r hf
  obtain ⟨a, σ1, e1, hf⟩ := M.bind_some hf
  unfold mkL at hf
  split at hf
  · rename_i hk
    cases hf
    refine wpAny_List (wpAny_mono (h pos env A _ _ _ G s P hA r e1) (fun vs s1 ⟨G1, l1, r1, p1⟩ => ?_) fun _ _ e => e)
    have hlen := p1.length
    obtain ⟨r2, l2⟩ := r1.alloc .z (o := { cls := .type "list", data := .seq vs.toArray }) rfl (tk := s1.toks)
    exact ⟨by rw [sizeLine_eq]; omega, _, l1.trans l2, r2, _, vs.toArray, 0, rfl, Gh.z_iff.mpr Gh.set_self, by simpa using Reps.le p1 l2⟩
  · cases hf
end

/-! objects that may change -/
structure Fresh (G : Gh) (σ : St) (n : Hd) : Prop where
  mu : G.mu n = none
  cn : n.2 = σ.cnt

def allocA (site : Nat) (o : AO) : M Hd := fun σ => some ((site, σ.cnt), { σ with st := fun m => if m = (site, σ.cnt) then some o else σ.st m, cnt := σ.cnt + 1 })

def Gh.newObj (G : Gh) (a : Addr) (n : Hd) (o : Obj) : Gh := { G.set a (.obj n) o with mu := fun m => if m = n then some a else G.mu m }

theorem R.allocObj {W : Wd} {G : Gh} {σ : St} {s : Shared} (r : R W G σ s) {ob : Obj} {o : AO} (hf : ob.isFreed = false) (site : Nat) (ho : ∀ G', G.Le G' → ObjOK W (G'.vw W) o ob) {tk : Nat} :
    ∃ G', G.Le G' ∧ R W G' { σ with st := fun m => if m = (site, σ.cnt) then some o else σ.st m, cnt := σ.cnt + 1 } { s with heap := s.heap.push ob, toks := tk } ∧ G'.mu (site, σ.cnt) = some s.heap.objs.size := by
  have hn := r.fresh
  have hm : G.mu (site, σ.cnt) = none := by
    cases e : G.mu (site, σ.cnt) with
    | none => rfl
    | some a => exact absurd (r.inv.cnt _ _ e) (Nat.lt_irrefl _)
  have hl : G.Le (G.set s.heap.objs.size (.obj (site, σ.cnt)) ob) := Gh.le_set fun t₀ o₀ e => by rw [hn] at e; cases e
  have le : G.Le (G.newObj s.heap.objs.size (site, σ.cnt) ob) := ⟨hl.z, hl.pin, fun m a e => by
    show (if m = (site, σ.cnt) then _ else _) = _
    rw [if_neg]
    · exact e
    · rintro rfl
      rw [hm] at e
      exact absurd e (by simp), rfl⟩
  have keep : ∀ b t o', G.kn b = some (t, o') → (G.newObj s.heap.objs.size (site, σ.cnt) ob).kn b = some (t, o') := fun b t o' e => Gh.set_keep e fun t₀ o₀ w => by rw [hn] at w; cases w
  refine ⟨_, le, ⟨⟨fun b o' hb e => keep _ _ _ (r.inv.base b o' hb e), ?_, ?_, ?_, r.inv.sys.new hn (.inl r.big)⟩, ?_, r.os, r.gens⟩, if_pos rfl⟩
  · exact r.inv.frames.mono (le.vw W) fun b t o' e _ => keep _ _ _ e
  · intro m o' e
    dsimp only at e
    split at e
    · rename_i hm'
      subst hm'
      cases e
      exact ⟨_, ob, if_pos rfl, Gh.set_self, ho _ le⟩
    · rename_i hm'
      obtain ⟨b, ob', h1, h2, h3⟩ := r.inv.objs m o' e
      exact ⟨b, ob', (if_neg hm').trans h1, keep _ _ _ h2, h3.mono (le.vw W)⟩
  · intro m a e
    have e : (if m = (site, σ.cnt) then some s.heap.objs.size else G.mu m) = some a := e
    split at e
    · rename_i hm'; subst hm'; exact Nat.lt_succ_self _
    · exact Nat.lt_succ_of_lt (r.inv.cnt m a e)
  · intro b t o' e
    by_cases hb : b = s.heap.objs.size
    · subst hb
      have e : (G.set s.heap.objs.size (.obj (site, σ.cnt)) ob).kn s.heap.objs.size = some (t, o') := e
      rw [Gh.set_self] at e
      cases e
      exact Heap.get?_push_size _ hf
    · have e : (G.set s.heap.objs.size (.obj (site, σ.cnt)) ob).kn b = some (t, o') := e
      rw [Gh.set_ne hb] at e
      exact Heap.get?_push_of_some _ (r.sub _ _ _ e)

def setA (n : Hd) (o : AO) : M Unit := fun σ => some ((), { σ with st := fun m => if m = n then some o else σ.st m })

theorem R.setObj {W : Wd} {G : Gh} {σ : St} {s : Shared} (r : R W G σ s) {n : Hd} {a : Addr} {o₀ ob : Obj} {o : AO} {h' : Heap} {tk : Nat} (hm : G.mu n = some a) (hk : G.kn a = some (.obj n, o₀)) (he : h'.get? a = some ob) (hs : Heap.SameBut a s.heap h')
    (ho : ObjOK W (G.vw W) o ob) : ∃ G', G.Le G' ∧ R W G' { σ with st := fun m => if m = n then some o else σ.st m } { s with heap := h', toks := tk } ∧ G'.vw W = G.vw W ∧ G'.mu = G.mu := by
  have hv := Gh.vw_set (W := W) (t := .obj n) (o := ob) hk Tag.noConfusion Tag.noConfusion
  obtain ⟨r', le⟩ := r.turn (σ' := { σ with st := fun m => if m = n then some o else σ.st m }) (tk := tk) hk Tag.noConfusion Tag.noConfusion he hs
    (r.inv.frames.mono ⟨fun _ _ e => e, fun _ _ e => e, fun _ _ e => e, fun _ _ e => e⟩ fun b t o' e ⟨_, _, q⟩ => Gh.set_keep e fun t₀ o₀' w => by
      rw [hk] at w; cases w
      rcases q with rfl | ⟨_, rfl⟩ <;> exact Tag.noConfusion)
    (fun m o' e => by
      dsimp only at e
      split at e
      · rename_i hm'; subst hm'; cases e
        exact ⟨a, ob, hm, Gh.set_self, ho⟩
      · rename_i hm'
        obtain ⟨b, ob', h1, h2, h3⟩ := r.inv.objs m o' e
        exact ⟨b, ob', h1, Gh.set_keep h2 fun t₀ o₀' w => by rw [hk] at w; cases w; intro q; cases q; exact hm' rfl, h3⟩) (Nat.le_refl _)
  exact ⟨_, le, r', hv, rfl⟩

section
variable {W : Wd} {X : Sc} {n : Nat}
theorem SimE.list (site : Nat) {es : List Expr} {pos : Pos} {f : M (List AV)} (h : SimI W X n es f) :
    SimE W X n (.List es pos) (M.bind f fun l => if l.length ≤ 1000 then M.bind (allocA site (.list l)) fun h => M.pure (.ref h) else M.fail) := by
  intro env A σ b σ' G s P hA r hf
  obtain ⟨a, σ1, e1, hf⟩ := M.bind_some hf
  split at hf
  · rename_i hk
    cases hf
    refine wpAny_List (wpAny_mono (h pos env A _ _ _ G s P hA r e1) (fun vs s1 ⟨G1, l1, r1, p1⟩ => ?_) fun _ _ e => e)
    have hlen := p1.length
    obtain ⟨G2, l2, r2, m2⟩ := r1.allocObj (ob := { cls := .type "list", data := .seq vs.toArray }) (o := .list a) rfl site (fun G' l' => ⟨_, 0, rfl, by simpa using Reps.le p1 l'⟩) (tk := s1.toks)
    exact ⟨by rw [sizeLine_eq]; omega, G2, l1.trans l2, r2, _, rfl, m2⟩
  · cases hf
end
end Mine
end

section
open PySem PySem.W PySem.Calls PyProof.Rows
set_option Elab.async false
set_option maxRecDepth 20000
namespace Mine

structure LeX (I : Addr → Prop) (G G' : Gh) : Prop where
  z : ∀ a o, G.kn a = some (.z, o) → G'.kn a = some (.z, o)
  pin : ∀ a o, ¬ I a → G.kn a = some (.pin, o) → G'.kn a = some (.pin, o)
  mu : ∀ n a, G.mu n = some a → G'.mu n = some a
  fr : G'.fr = G.fr
theorem LeX.refl {I : Addr → Prop} (G : Gh) : LeX I G G := ⟨fun _ _ h => h, fun _ _ _ h => h, fun _ _ h => h, rfl⟩
theorem LeX.le {I : Addr → Prop} {G₀ G G' : Gh} (h : G₀.Le G) (x : LeX I G G') (hi : ∀ a, I a → ∀ o, G₀.kn a ≠ some (.pin, o)) : G₀.Le G' :=
  ⟨fun a o e => x.z a o (h.z a o e), fun a o e => x.pin a o (fun q => hi a q o e) (h.pin a o e), fun n a e => x.mu n a (h.mu n a e), x.fr.trans h.fr⟩
theorem LeX.vw {I : Addr → Prop} {G G' : Gh} (h : LeX I G G') (W : Wd) : (G.vw W).Le (G'.vw W) :=
  ⟨fun _ _ e => Gh.z_iff.mpr (h.z _ _ (Gh.z_iff.mp e)), h.mu, fun k o c => by
    show cloAt W G'.z G'.fr k o
    rw [h.fr]; exact c.mono fun _ _ e => Gh.z_iff.mpr (h.z _ _ (Gh.z_iff.mp e)), fun _ _ e => e⟩

/-- what an iterator asks of a turn of the others -/
structure LeI (W : Wd) (I : Addr → Prop) (G G' : Gh) : Prop where
  z : ∀ a o, G.kn a = some (.z, o) → G'.kn a = some (.z, o)
  pin : ∀ a o, I a → G.kn a = some (.pin, o) → G'.kn a = some (.pin, o)
  mu : ∀ n a, G.mu n = some a → G'.mu n = some a
  vw : (G.vw W).Le (G'.vw W)
theorem Gh.Le.toI {W : Wd} {I : Addr → Prop} {G G' : Gh} (h : G.Le G') : LeI W I G G' := ⟨h.z, fun a o _ e => h.pin a o e, h.mu, h.vw W⟩
theorem LeX.toZ {W : Wd} {I I' : Addr → Prop} {G G' : Gh} (h : LeX I G G') (hi : ∀ a, I' a → ¬ I a) : LeI W I' G G' := ⟨h.z, fun a o q e => h.pin a o (hi a q) e, h.mu, h.vw W⟩

/-- an iterator at work -/
structure It (W : Wd) (it : Value) where
  C : St → Prop
  I : Addr → Prop
  K : Addr → Prop
  T : Expr → Prop
  J : List AV → Gh → Prop
  J1 : List AV → Value → Gh → Prop
  mono : ∀ {l G G'}, J l G → LeI W (fun a => I a ∨ K a) G G' → J l G'
  known : ∀ {l G} a, J l G → I a ∨ K a → ∃ o, G.kn a = some (.pin, o)
  next : ∀ {x l G σ s A}, A.handled = none → C σ → J (x :: l) G → R W G σ s →
    wpAny W.M A (pyNext it) (fun r s' => ∃ mv G', r = some mv ∧ LeX I G G' ∧ R W G' σ s' ∧ Rep W G' x mv ∧ J1 l mv G') (fun _ _ => False) s
  go : ∀ {l G σ s A mv} (target : Expr), T target → J1 l mv G → R W G σ s → wpAny W.M A (letOwnedTupleGo target it mv) (fun _ s' => ∃ G', LeX I G G' ∧ R W G' σ s' ∧ J l G') (fun _ _ => False) s
  stop : ∀ {G σ s A}, A.handled = none → C σ → J [] G → R W G σ s → wpAny W.M A (pyNext it) (fun r s' => r = none ∧ ∃ G', LeX I G G' ∧ R W G' σ s') (fun _ _ => False) s
  self : ∀ {l G σ s A}, J l G → R W G σ s → wpAny W.M A (pyIter it) (fun v s' => v = it ∧ s' = s) (fun _ _ => False) s

/-- the start of an iteration -/
def ItPost (W : Wd) (tg : Expr) (G : Gh) (σ' : St) (l : List AV) (C : St → Prop) : Value → Shared → Prop :=
  fun it s' => ∃ (S : It W it) (G' : Gh), G.Le G' ∧ R W G' σ' s' ∧ S.C = C ∧ S.T tg ∧ S.J l G' ∧ ∀ a, S.I a → ∀ o, G.kn a ≠ some (.pin, o)

def SimIt (W : Wd) (X : Sc) (n : Nat) (e tg : Expr) (f : M (List AV × (St → Prop))) : Prop :=
  ∀ env A σ l C σ' G s, EnvOK X env G → AOK n A → R W G σ s → f σ = some ((l, C), σ') → wpAny W.M A (eval e env) (fun x s₁ => wpAny W.M A (pyIter x) (ItPost W tg G σ' l C) (fun _ _ => False) s₁) (fun _ _ => False) s

theorem Inv.pin {W : Wd} {G : Gh} {σ : St} {a : Addr} {o o' : Obj} (i : Inv W G σ) (h : G.kn a = some (.pin, o)) : Inv W (G.set a .pin o') σ := by
  have hv := Gh.vw_set (W := W) (t := .pin) (o := o') h Tag.noConfusion Tag.noConfusion
  have k : ∀ b t x, G.kn b = some (t, x) → t ≠ .pin → (G.set a .pin o').kn b = some (t, x) := fun b t x e ht => Gh.set_keep e fun t₀ o₀ w => by rw [h] at w; cases w; exact Ne.symm ht
  refine ⟨fun b o hb e => k _ _ _ (i.base b o hb e) Tag.noConfusion, ?_, fun n o e => ?_, i.cnt, i.sys.turn h Tag.noConfusion⟩
  · rw [hv]
    exact i.frames.mono ⟨fun _ _ e => e, fun _ _ e => e, fun _ _ e => e, fun _ _ e => e⟩ fun b t' o' e ⟨_, _, q⟩ => k _ _ _ e (by rcases q with rfl | ⟨_, rfl⟩ <;> exact Tag.noConfusion)
  · obtain ⟨b, ob, h1, h2, h3⟩ := i.objs n o e
    rw [hv]
    exact ⟨b, ob, h1, k _ _ _ h2 Tag.noConfusion, h3⟩
theorem R.pin {W : Wd} {G : Gh} {σ : St} {s : Shared} (r : R W G σ s) {a : Addr} {o o' : Obj} {h' : Heap} {tk : Nat} (h : G.kn a = some (.pin, o)) (he : h'.get? a = some o') (hs : ∀ b x, b ≠ a → s.heap.get? b = some x → h'.get? b = some x) :
    R W (G.set a .pin o') σ { s with heap := h', toks := tk } ∧ LeX (· = a) G (G.set a .pin o') := by
  have k : ∀ b t x, G.kn b = some (t, x) → b ≠ a → (G.set a .pin o').kn b = some (t, x) := fun b t x e hb => by rw [Gh.set_ne hb]; exact e
  refine ⟨⟨r.inv.pin h, fun b t x e => ?_, r.os, r.gens⟩, ⟨fun b x e => ?_, fun b x hb e => k _ _ _ e hb, fun _ _ e => e, rfl⟩⟩
  · by_cases hb : b = a
    · subst hb; rw [Gh.set_self] at e; cases e; exact he
    · rw [Gh.set_ne hb] at e; exact hs b x hb (r.sub _ _ _ e)
  · exact k _ _ _ e (by rintro rfl; rw [h] at e; cases e)
theorem LeX.more {I I' : Addr → Prop} {G G' : Gh} (h : LeX I G G') (hi : ∀ a, I a → I' a) : LeX I' G G' := ⟨h.z, fun a o q e => h.pin a o (fun w => q (hi a w)) e, h.mu, h.fr⟩


structure Src (W : Wd) (a : Addr) (l : List AV) (C : St → Prop) (Fx : Gh → Prop) : Prop where
  mono : ∀ {G G' I}, Fx G → LeI W I G G' → Fx G'
  at_ : ∀ {G σ s}, Fx G → C σ → R W G σ s → ∃ vs, s.heap.IsList a vs ∧ Reps W G l vs.toList

def LIter (o : Obj) (a : Addr) (i : Nat) : Prop := o.cls = .type "list_iterator" ∧ o.data = .fields #[.ref a, .int i 0]

theorem repsX {W : Wd} {G G' : Gh} {I} {l : List AV} {vs} (r : Reps W G l vs) (h : LeX I G G') : Reps W G' l vs := RepVs.mono (h.vw W) l vs r
theorem repX {W : Wd} {G G' : Gh} {I} {l : AV} {vs} (r : Rep W G l vs) (h : LeX I G G') : Rep W G' l vs := RepV.mono (h.vw W) l vs r

theorem letGo_notTuple {it v : Value} {target : Expr} (h : ∀ es k p, target ≠ .Tuple es k p) (h' : ∀ es p, target ≠ .List es p) : letOwnedTupleGo target it v = pure () := by
  unfold letOwnedTupleGo
  split
  · rename_i es k p; exact absurd rfl (h es k p)
  · rename_i es p; exact absurd rfl (h' es p)
  · rfl

/-- for an iterator whose object owns no tuple -/
theorem letGo_plain {M : Model} {A : Around} {E : Value → Shared → Prop} {s : Shared} {I : Addr} {v : Value} {o : Obj} {target : Expr} {Q : Unit → Shared → Prop} {nm : String} (ho : s.heap.get? I = some o) (hc : o.cls = .type nm)
    (hn : (["enumerate", "zip", "dict_itemiterator", "dict_reverseitemiterator", "odict_iterator", "itertools.zip_longest", "itertools.pairwise"].contains nm) = false) (h : Q () s) : wpAny M A (letOwnedTupleGo target (.ref I) v) Q E s := by
  have key : wpAny M A (do
      let (.ref r, .ref a) := ((Value.ref I), v) | return
      let o ← load r
      match o.cls, o.data with
      | .type n, .fields vs =>
        if ["enumerate", "zip", "dict_itemiterator", "dict_reverseitemiterator", "odict_iterator", "itertools.zip_longest", "itertools.pairwise"].contains n && vs[0]? == some (rawInt a) then
          rule "for.unpacks-the-owned-tuple"
          updateField r 0 .none
      | _, _ => pure ()) Q E s := by
    cases v
    case ref a =>
      refine wpAny_bind (wpAny_load ho ?_)
      rw [hc]
      cases o.data
      case fields vs => simp only [hn, Bool.false_and, Bool.false_eq_true, if_false]; exact wpAny_pure h
      all_goals exact wpAny_pure h
    all_goals exact wpAny_pure h
  unfold letOwnedTupleGo
  split
  · exact key
  · exact key
  · exact wpAny_pure h

def Gh.del (G : Gh) (a : Addr) : Gh := { G with kn := fun b => if b = a then none else G.kn b }
theorem SysK.dl {G : Gh} {a : Addr} {t₀ : Tag} {o₀ : Obj} (h : SysK G.kn) (hk : G.kn a = some (t₀, o₀)) (h0 : t₀ ≠ .z) : SysK (G.del a).kn := by
  obtain ⟨⟨oc, hc⟩, hs⟩ := h
  refine ⟨⟨oc, ?_⟩, fun t' o' e => ?_⟩
  · show (if cStatics = a then none else G.kn cStatics) = _
    rw [if_neg]
    · exact hc
    · rintro rfl; rw [hk] at hc; cases hc; exact h0 rfl
  · by_cases ha : sysModules = a
    · have e : (if sysModules = a then none else G.kn sysModules) = some (t', o') := e
      rw [if_pos ha] at e; cases e
    · have e : (if sysModules = a then none else G.kn sysModules) = some (t', o') := e
      rw [if_neg ha] at e; exact hs _ _ e
theorem R.drop {W : Wd} {G : Gh} {σ : St} {s : Shared} (r : R W G σ s) {a : Addr} {o : Obj} {h' : Heap} {tk : Nat} (h : G.kn a = some (.pin, o)) (hs : ∀ b x, b ≠ a → s.heap.get? b = some x → h'.get? b = some x) :
    R W (G.del a) σ { s with heap := h', toks := tk } ∧ LeX (· = a) G (G.del a) := by
  have k : ∀ b t x, G.kn b = some (t, x) → b ≠ a → (G.del a).kn b = some (t, x) := fun b t x e hb => by
    show (if b = a then none else G.kn b) = _
    rw [if_neg hb]; exact e
  have k' : ∀ b t x, G.kn b = some (t, x) → t ≠ .pin → (G.del a).kn b = some (t, x) := fun b t x e ht => k b t x e (by rintro rfl; rw [h] at e; cases e; exact ht rfl)
  have lx : LeX (· = a) G (G.del a) := ⟨fun b x e => k' _ _ _ e Tag.noConfusion, fun b x hb e => k _ _ _ e hb, fun _ _ e => e, rfl⟩
  refine ⟨⟨⟨fun b o hb e => k' _ _ _ (r.inv.base b o hb e) Tag.noConfusion, ?_, fun n o e => ?_, r.inv.cnt, r.inv.sys.dl h Tag.noConfusion⟩, fun b t x e => ?_, r.os, r.gens⟩, lx⟩
  · exact r.inv.frames.mono (lx.vw W) fun b t' o' e ⟨_, _, q⟩ => k' _ _ _ e (by rcases q with rfl | ⟨_, rfl⟩ <;> exact Tag.noConfusion)
  · obtain ⟨b, ob, h1, h2, h3⟩ := r.inv.objs n o e
    exact ⟨b, ob, h1, k' _ _ _ h2 Tag.noConfusion, h3.mono (lx.vw W)⟩
  · have e : (if b = a then none else G.kn b) = some (t, x) := e
    split at e
    · cases e
    · rename_i hb; exact hs b x hb (r.sub _ _ _ e)

/-- a list's iterator -/
def itList (W : Wd) (I a : Addr) (l₀ : List AV) (C : St → Prop) (Fx : Gh → Prop) (S : Src W a l₀ C Fx) : It W (.ref I) where
  C := C
  I := (· = I)
  K := fun _ => False
  T := fun _ => True
  J := fun l G => ∃ o i, G.kn I = some (.pin, o) ∧ LIter o a i ∧ l = l₀.drop i ∧ Fx G ∧ i ≤ l₀.length
  J1 := fun l _ G => ∃ o i, G.kn I = some (.pin, o) ∧ LIter o a i ∧ l = l₀.drop i ∧ Fx G ∧ i ≤ l₀.length
  mono := fun ⟨o, i, h1, h2, h3, h4, h5⟩ l => ⟨o, i, l.pin _ _ (.inl rfl) h1, h2, h3, S.mono h4 l, h5⟩
  known := fun a ⟨o, _, h1, _⟩ e => by rcases e with e | e; (cases e; exact ⟨o, h1⟩); exact e.elim
  next := by
    rintro x l G σ s A hh hC ⟨o, i, h1, h2, h3, h4, h5⟩ r
    obtain ⟨vs, v1, v2⟩ := S.at_ h4 hC r
    have hi : l₀[i]? = some x := by
      have := congrArg (·[0]?) h3
      simpa using this.symm
    obtain ⟨mv, m1, m2⟩ := RepVs.get v2 hi
    rw [Array.getElem?_toList] at m1
    refine wpAny_pyNext_list_item ⟨o, r.sub _ _ _ h1, h2.1, h2.2⟩ v1 m1 fun h' hit hs => ?_
    obtain ⟨o', e1, e2, e3⟩ := hit
    obtain ⟨r', lx⟩ := r.pin (tk := s.toks) h1 e1 fun b x hb e => (hs.2 b hb).trans e
    refine ⟨mv, _, rfl, lx, r', repX m2 lx, o', i + 1, Gh.set_self, ⟨e2, e3⟩, ?_, S.mono (I := fun _ => False) h4 (lx.toZ fun _ h => h.elim), ?_⟩
    · have : l₀.drop (i + 1) = (l₀.drop i).drop 1 := by rw [List.drop_drop]
      rw [this, ← h3]; rfl
    · have := (List.getElem?_eq_some_iff.mp hi).1; omega
  go := by
    rintro l G σ s A mv target - ⟨o, i, h1, h2, h3, h4, h5⟩ r
    exact letGo_plain (r.sub _ _ _ h1) h2.1 (by decide) ⟨G, .refl _, r, o, i, h1, h2, h3, h4, h5⟩
  stop := by
    rintro G σ s A hh hC ⟨o, i, h1, h2, h3, h4, h5⟩ r
    obtain ⟨vs, v1, v2⟩ := S.at_ h4 hC r
    have hlen := v2.length
    rw [Array.length_toList] at hlen
    have hi : vs[i]? = none := by
      have : l₀.length ≤ i := List.drop_eq_nil_iff.mp h3.symm
      simp; omega
    refine wpAny_pyNext_list_end hh ⟨o, r.sub _ _ _ h1, h2.1, h2.2⟩ v1 hi fun h' hs => ?_
    obtain ⟨r', lx⟩ := r.drop (tk := s.toks) h1 fun b x hb e => hs b x hb e
    exact ⟨rfl, _, lx, r'⟩
  self := by
    rintro l G σ s A ⟨o, i, h1, h2, h3, h4, h5⟩ r
    exact wpAny_pyIter_listiter ⟨o, r.sub _ _ _ h1, h2.1, h2.2⟩ ⟨rfl, rfl⟩

theorem srcZ (W : Wd) (a : Addr) (l : List AV) (C : St → Prop) : Src W a l C (fun G => ∃ vs n, G.kn a = some (.z, ⟨.type "list", none, .seq vs n, #[]⟩) ∧ Reps W G l vs.toList) where
  mono := fun ⟨vs, n, h1, h2⟩ l => ⟨vs, n, l.z _ _ h1, RepVs.mono l.vw _ _ h2⟩
  at_ := fun ⟨vs, n, h1, h2⟩ _ r => ⟨vs, isList_of (r.sub _ _ _ h1), h2⟩
theorem srcL (W : Wd) (a : Addr) (l : List AV) (m : Hd) : Src W a l (fun σ => σ.st m = some (.list l)) (fun G => G.mu m = some a) where
  mono := fun h l => l.mu _ _ h
  at_ := fun h hC r => by
    obtain ⟨a', ob, h1, h2, vs, n, h3, h4⟩ := r.inv.objs _ _ hC
    rw [h] at h1; cases h1
    exact ⟨vs, isList_of (h3 ▸ r.sub _ _ _ h2), h4⟩

/-- ints as values -/
def intsL (l : List Int) : List AV := l.map .int
def rangeL (a c : Int) : Nat → List Int
  | 0 => []
  | n + 1 => a :: rangeL (a + c) c n
theorem rangeL_length (c : Int) : ∀ (n : Nat) (a : Int), (rangeL a c n).length = n
  | 0, _ => rfl
  | n + 1, a => by simp [rangeL, rangeL_length c n]

/-- a range's iterator -/
def itRange (W : Wd) (I : Addr) (c : Int) : It W (.ref I) where
  C := fun _ => True
  I := (· = I)
  K := fun _ => False
  T := fun _ => True
  J := fun l G => ∃ (x : Int) (n : Nat), G.kn I = some (.pin, { cls := .type "range_iterator", data := .fields #[rawInt x, rawInt n, rawInt c] }) ∧ l = intsL (rangeL x c n) ∧ True
  J1 := fun l _ G => ∃ (x : Int) (n : Nat), G.kn I = some (.pin, { cls := .type "range_iterator", data := .fields #[rawInt x, rawInt n, rawInt c] }) ∧ l = intsL (rangeL x c n) ∧ True
  mono := fun ⟨x, n, h1, h2, h3⟩ l => ⟨x, n, l.pin _ _ (.inl rfl) h1, h2, h3⟩
  known := fun a ⟨_, _, h1, _⟩ e => by rcases e with e | e; (cases e; exact ⟨_, h1⟩); exact e.elim
  next := by
    rintro y l G σ s A hh hC ⟨x, n, h1, h2, h3⟩ r
    cases n with
    | zero => cases h2
    | succ n =>
      cases h2
      refine wpAny_pyNext_range_item (r.sub _ _ _ h1) (by omega) fun h' hit hs => ?_
      obtain ⟨r', lx⟩ := r.pin (tk := s.toks + 1) h1 hit fun b x hb e => (hs.2 b hb).trans e
      refine ⟨_, _, rfl, lx, r', ⟨_, rfl⟩, x + c, n, ?_, rfl, trivial⟩
      rw [Gh.set_self, show ((n + 1 : Nat) : Int) - 1 = n by omega]
  go := by
    rintro l G σ s A mv target - ⟨x, n, h1, h2, h3⟩ r
    exact letGo_plain (r.sub _ _ _ h1) (nm := "range_iterator") rfl (by decide) ⟨G, .refl _, r, x, n, h1, h2, h3⟩
  stop := by
    rintro G σ s A hh hC ⟨x, n, h1, h2, h3⟩ r
    cases n with
    | succ n => cases h2
    | zero =>
      refine wpAny_pyNext_range_end hh (r.sub _ _ _ h1) (by omega) fun h' hs => ?_
      obtain ⟨r', lx⟩ := r.drop (tk := s.toks) h1 fun b x hb e => hs b x hb e
      exact ⟨rfl, _, lx, r'⟩
  self := by
    rintro l G σ s A ⟨x, n, h1, h2, h3⟩ r
    exact wpAny_pyIter_rangeiter (r.sub _ _ _ h1) ⟨rfl, rfl⟩

def itA : AV → M (List AV × (St → Prop))
  | .lst l => M.pure (l, fun _ => True)
  | .ref n => fun σ => match σ.st n with
    | some (.list l) => some ((l, fun σ' => σ'.st n = some (.list l)), σ)
    | _ => none
  | .rng a b c => if Builtin.Range.small a b c = true ∧ 0 ≤ Builtin.Range.rangeSize a b c then M.pure (intsL (rangeL a c (Builtin.Range.rangeSize a b c).toNat), fun _ => True) else M.fail
  | _ => M.fail

section
variable {W : Wd} {X : Sc} {n : Nat}

theorem pyIter_A {A : Around} {σ σ' : St} {G : Gh} {s : Shared} {a : AV} {mv : Value} {l : List AV} {C : St → Prop} {tg : Expr} (r : R W G σ s) (p : Rep W G a mv) (hf : itA a σ = some ((l, C), σ')) :
    wpAny W.M A (pyIter mv) (ItPost W tg G σ' l C) (fun _ _ => False) s := by
  unfold itA at hf
  split at hf
  · cases hf
    obtain ⟨x, vs, m, e, hz, hr⟩ := p
    subst e
    have hk := Gh.z_iff.mp hz
    obtain ⟨r', le⟩ := r.alloc .pin (o := { cls := .type "list_iterator", data := .fields #[.ref x, .int 0 0] }) rfl (tk := s.toks)
    exact wpAny_pyIter_list (isList_of (r.z hz)) ⟨itList W _ x _ _ _ (srcZ W x _ _), _, le, r', rfl, trivial, ⟨_, 0, Gh.set_self, ⟨rfl, rfl⟩, rfl, ⟨vs, m, le.z _ _ hk, Reps.le hr le⟩, Nat.zero_le _⟩, fun a e o q => by cases e; rw [r.fresh] at q; cases q⟩
  · split at hf
    · rename_i m _ l' hs
      cases hf
      obtain ⟨x, e, hm⟩ := p
      subst e
      obtain ⟨x', ob, h1, h2, vs, k, h3, h4⟩ := r.inv.objs _ _ hs
      rw [show (G.vw W).mu = G.mu from rfl, h1] at hm
      cases hm
      obtain ⟨r', le⟩ := r.alloc .pin (o := { cls := .type "list_iterator", data := .fields #[.ref x, .int 0 0] }) rfl (tk := s.toks)
      exact wpAny_pyIter_list (isList_of (h3 ▸ r.sub _ _ _ h2)) ⟨itList W _ x _ _ _ (srcL W x _ _), _, le, r', rfl, trivial, ⟨_, 0, Gh.set_self, ⟨rfl, rfl⟩, rfl, h1, Nat.zero_le _⟩, fun a e o q => by cases e; rw [r.fresh] at q; cases q⟩
    · cases hf
  · split at hf
    · rename_i a b c hs
      cases hf
      obtain ⟨x, t, u, w, e, hz⟩ := p
      subst e
      obtain ⟨r', le⟩ := r.alloc .pin (o := { cls := .type "range_iterator", data := .fields #[rawInt a, rawInt (Builtin.Range.rangeSize a b c), rawInt c] }) rfl (tk := s.toks)
      refine wpAny_pyIter_range (r.z hz) hs.1 ⟨itRange W _ c, _, le, r', rfl, trivial, ⟨a, (Builtin.Range.rangeSize a b c).toNat, ?_, rfl, trivial⟩, fun a e o q => by cases e; rw [r.fresh] at q; cases q⟩
      rw [Gh.set_self, Int.toNat_of_nonneg hs.2]
    · cases hf
  · cases hf

theorem SimIt.of {e tg : Expr} {f : M AV} (h : SimE W X n e f) : SimIt W X n e tg (M.bind f itA) := by
  intro env A σ l C σ' G s P hA r hf
  obtain ⟨a, σ1, e1, hf⟩ := M.bind_some hf
  refine wpAny_mono (h env A _ _ _ G s P hA r e1) (fun mv s1 ⟨G1, l1, r1, p1⟩ => ?_) fun _ _ e => e
  refine wpAny_mono (pyIter_A r1 p1 hf) (fun it s2 ⟨S, G2, l2, r2, c2, t2, j2, i2⟩ => ⟨S, G2, l1.trans l2, r2, c2, t2, j2, fun a ha o q => i2 a ha o (l1.pin _ _ q)⟩) fun _ _ e => e
end

/-! loops -/
def RepFl (W : Wd) (G : Gh) : AFl → Flow → Prop
  | .next, .next => True
  | .brk, .brk => True
  | .cont, .cont => True
  | .ret a, .ret v => Rep W G a v
  | _, _ => False
abbrev SimX (W : Wd) (X : Sc) (n : Nat) (b : List Stmt) (f : M AFl) : Prop := Sim W (RepFl W) (EF X) n (fun env => execs b env) f
abbrev SimS (W : Wd) (X : Sc) (n : Nat) (b : Stmt) (f : M AFl) : Prop := Sim W (RepFl W) (EF X) n (fun env => exec b env) f
def SimT (W : Wd) (X : Sc) (n : Nat) (t : Expr) (f : AV → M Unit) : Prop :=
  ∀ env A σ σ' G s v mv, EnvOK X env G → AOK n A → R W G σ s → Rep W G v mv → f v σ = some ((), σ') → wpAny W.M A (assign t env mv) (Post W (fun _ _ _ => True) G σ' ()) (fun _ _ => False) s

inductive LRes where
  | done | brk
  | ret (v : AV)

open Classical in
noncomputable def forA (C : St → Prop) (tgt : AV → M Unit) (body : M AFl) : List AV → M LRes
  | [] => fun σ => if C σ then some (.done, σ) else none
  | x :: l => fun σ => if C σ then (match M.bind (tgt x) (fun _ => body) σ with
      | some (.next, σ') => forA C tgt body l σ'
      | some (.cont, σ') => forA C tgt body l σ'
      | some (.brk, σ') => some (.brk, σ')
      | some (.ret v, σ') => some (.ret v, σ')
      | none => none) else none

noncomputable def forS (it : M (List AV × (St → Prop))) (tgt : AV → M Unit) (body orelse : M AFl) : M AFl :=
  M.bind it fun p => M.bind (forA p.2 tgt body p.1) fun
    | .done => orelse
    | .brk => M.pure .next
    | .ret v => M.pure (.ret v)

section
variable {W : Wd} {X : Sc} {n : Nat}

theorem for_loop {env : Env} {A : Around} {target : Expr} {body orelse : List Stmt} {tgt : AV → M Unit} {fb fo : M AFl} (hT : SimT W X n target tgt) (hB : SimX W X n body fb) (hO : SimX W X n orelse fo) (hA : AOK n A)
    {it : Value} (S : It W it) {G₀ : Gh} {σ σ' : St} {s : Shared} {l : List AV} {fl : AFl} {G : Gh} (le : G₀.Le G) (hi : ∀ a, S.I a → ∀ o, G₀.kn a ≠ some (.pin, o)) (P : EnvOK X env G₀) (r : R W G σ s) (hTt : S.T target) (hJ : S.J l G)
    (hf : M.bind (forA S.C tgt fb l) (fun | .done => fo | .brk => M.pure .next | .ret v => M.pure (.ret v)) σ = some (fl, σ')) :
    codeAny W.M A (.forLoop target it body orelse env) (fun res s' => match res with | .ok f => Post W (RepFl W) G₀ σ' fl f s' | .error _ => False) s := by
  refine codeAny_forLoop_any (fun k s' => ∃ G σ l, k = l.length ∧ G₀.Le G ∧ R W G σ s' ∧ S.J l G ∧
    M.bind (forA S.C tgt fb l) (fun | .done => fo | .brk => M.pure .next | .ret v => M.pure (.ret v)) σ = some (fl, σ')) ?_ l.length ⟨G, σ, l, rfl, le, r, hJ, hf⟩
  rintro k s1 ⟨G1, σ1, l1, rfl, le1, r1, j1, f1⟩
  cases l1 with
  | nil =>
    have hC : S.C σ1 ∧ fo σ1 = some (fl, σ') := by
      simp only [M.bind, forA] at f1
      split at f1
      · cases f1
      · rename_i a σ2 e
        split at e
        · rename_i hc; cases e; exact ⟨hc, f1⟩
        · cases e
    refine wpAny_mono (S.stop hA.hd hC.1 j1 r1) (fun v s2 ⟨hv, G2, lx, r2⟩ => ?_) fun _ _ e => e.elim
    subst hv
    dsimp only
    have le2 := LeX.le le1 lx hi
    exact wpAny_mono (hO env A _ _ _ G2 s2 (P.mono le2) hA r2 hC.2) (fun f s3 q => q.le le2) fun _ _ e => e.elim
  | cons x l1 =>
    have hC : S.C σ1 := by
      simp only [M.bind, forA] at f1
      split at f1
      · cases f1
      · rename_i a σ2 e
        split at e
        · rename_i hc; exact hc
        · cases e
    have hF : ∃ r2, M.bind (tgt x) (fun _ => fb) σ1 = some r2 ∧ (match r2 with
        | (.next, σ2) => M.bind (forA S.C tgt fb l1) (fun | .done => fo | .brk => M.pure .next | .ret v => M.pure (.ret v)) σ2 = some (fl, σ')
        | (.cont, σ2) => M.bind (forA S.C tgt fb l1) (fun | .done => fo | .brk => M.pure .next | .ret v => M.pure (.ret v)) σ2 = some (fl, σ')
        | (.brk, σ2) => fl = .next ∧ σ2 = σ'
        | (.ret v, σ2) => fl = .ret v ∧ σ2 = σ') := by
      simp only [M.bind, forA, if_pos hC] at f1 ⊢
      split at f1
      · cases f1
      · rename_i a σ2 e
        split at e
        · rename_i σ3 e3; exact ⟨_, e3, by simp only [e]; exact f1⟩
        · rename_i σ3 e3; exact ⟨_, e3, by simp only [e]; exact f1⟩
        · rename_i σ3 e3; cases e; cases f1; exact ⟨_, e3, rfl, rfl⟩
        · rename_i v σ3 e3; cases e; cases f1; exact ⟨_, e3, rfl, rfl⟩
        · cases e
    obtain ⟨⟨af, σ2⟩, hF1, hF2⟩ := hF
    obtain ⟨⟨⟩, σ1', t1, t2⟩ := M.bind_some hF1
    refine wpAny_mono (S.next hA.hd hC j1 r1) (fun v s2 ⟨mv, G2, hv, lx, r2, p2, j2⟩ => ?_) fun _ _ e => e.elim
    subst hv
    dsimp only
    have le2 := LeX.le le1 lx hi
    refine wpAny_mono (S.go target hTt j2 r2) (fun _ s3 ⟨G3, lx3, r3, j3⟩ => ?_) fun _ _ e => e.elim
    have le3 := LeX.le le2 lx3 hi
    refine wpAny_mono (hT env A _ _ G3 s3 x mv (P.mono le3) hA r3 (repX p2 lx3) t1) (fun _ s4 ⟨G4, le4, r4, _⟩ => ?_) fun _ _ e => e.elim
    refine wpAny_mono (hB env A _ _ _ G4 s4 (P.mono (le3.trans le4)) hA r4 t2) (fun f s5 ⟨G5, le5, r5, p5⟩ => ?_) fun _ _ e => e.elim
    have leA := (le3.trans le4).trans le5
    have jA := S.mono j3 (le4.trans le5).toI
    cases af <;> cases f <;> first | exact p5.elim | skip
    · exact ⟨l1.length, Nat.lt_succ_self _, G5, σ2, l1, rfl, leA, r5, jA, hF2⟩
    · obtain ⟨rfl, rfl⟩ := hF2
      exact ⟨G5, leA, r5, trivial⟩
    · exact ⟨l1.length, Nat.lt_succ_self _, G5, σ2, l1, rfl, leA, r5, jA, hF2⟩
    · obtain ⟨rfl, rfl⟩ := hF2
      exact ⟨G5, leA, r5, p5⟩

theorem SimS.for {target iter : Expr} {body orelse : List Stmt} {pos : Pos} {fi : M (List AV × (St → Prop))} {tgt : AV → M Unit} {fb fo : M AFl} (hI : SimIt W X n iter target fi) (hT : SimT W X n target tgt) (hB : SimX W X n body fb) (hO : SimX W X n orelse fo)
    (hs : ∀ env x, foldedSetIterable iter env x = pure x) : SimS W X n (.For target iter body orelse pos) (forS fi tgt fb fo) := by
  intro env A σ fl σ' G s P hA r hf
  obtain ⟨⟨l, C⟩, σ1, e1, hf⟩ := M.bind_some hf
  refine wpAny_For (wpAny_mono (hI env A σ l C σ1 G s P hA r e1) (fun x s1 h1 => wpAny_mono h1 (fun it s2 ⟨S, G2, le2, r2, hc, t2, j2, i2⟩ => ?_) fun _ _ e => e.elim) fun _ _ e => e.elim) (hs env)
  subst hc
  refine codeAny_mono (for_loop hT hB hO hA S (G₀ := G) le2 i2 P r2 t2 j2 hf) fun res s3 h3 => ?_
  cases res with
  | ok f => exact h3
  | error e => exact h3.elim

theorem SimX.nil : SimX W X n [] (M.pure .next) := fun env A σ b σ' G s P hA r hf => by cases hf; exact wpAny_execs_nil (.now r trivial)
def seqA (f g : M AFl) : M AFl := M.bind f fun
  | .next => g
  | x => M.pure x
theorem SimX.cons {st : Stmt} {rest : List Stmt} {f g : M AFl} (h1 : SimS W X n st f) (h2 : SimX W X n rest g) : SimX W X n (st :: rest) (seqA f g) := by
  intro env A σ b σ' G s P hA r hf
  obtain ⟨a, σ1, e1, hf⟩ := M.bind_some hf
  refine wpAny_execs_cons (wpAny_mono (h1 env A _ _ _ G s P hA r e1) (fun fl s1 ⟨G1, l1, r1, p1⟩ => ?_) fun _ _ e => e)
  cases a <;> cases fl <;> first | exact p1.elim | skip
  · exact wpAny_mono (h2 env A _ _ _ G1 s1 (P.mono l1) hA r1 hf) (fun _ _ q => q.le l1) fun _ _ e => e
  · cases hf; exact ⟨G1, l1, r1, trivial⟩
  · cases hf; exact ⟨G1, l1, r1, trivial⟩
  · cases hf; exact ⟨G1, l1, r1, p1⟩
theorem SimS.if {t : Expr} {b o : List Stmt} {pos : Pos} {c : M Bool} {f g : M AFl} (h1 : SimB W X n t c) (h2 : SimX W X n b f) (h3 : SimX W X n o g) : SimS W X n (.If t b o pos) (M.bind c fun b => bif b then f else g) := by
  intro env A σ b σ' G s P hA r hf
  obtain ⟨a, σ1, e1, hf⟩ := M.bind_some hf
  refine wpAny_If (wpAny_mono (h1 env A _ _ _ G s P hA r e1) (fun b' s' ⟨G', l, r', q⟩ => ?_) fun _ _ e => e)
  subst q
  cases b' with
  | true => exact wpAny_mono (h2 env A _ _ _ G' s' (P.mono l) hA r' hf) (fun _ _ q => q.le l) fun _ _ e => e
  | false => exact wpAny_mono (h3 env A _ _ _ G' s' (P.mono l) hA r' hf) (fun _ _ q => q.le l) fun _ _ e => e
theorem SimS.ret {e : Expr} {pos : Pos} {f : M AV} (h : SimE W X n e f) : SimS W X n (.Return (some e) pos) (M.bind f fun v => M.pure (.ret v)) := by
  intro env A σ b σ' G s P hA r hf
  obtain ⟨a, σ1, e1, hf⟩ := M.bind_some hf
  cases hf
  exact wpAny_Return_some (wpAny_mono (h env A _ _ _ G s P hA r e1) (fun mv s1 ⟨G1, l1, r1, p1⟩ => ⟨G1, l1, r1, p1⟩) fun _ _ e => e)
theorem SimS.cont {pos : Pos} : SimS W X n (.Continue pos) (M.pure .cont) := fun env A σ b σ' G s P hA r hf => by cases hf; exact wpAny_Continue (.now r trivial)
theorem SimS.brk {pos : Pos} : SimS W X n (.Break pos) (M.pure .brk) := fun env A σ b σ' G s P hA r hf => by cases hf; exact wpAny_Break (.now r trivial)

theorem SimT.local {x : Str} {i : Nat} {pos : Pos} (hi : X.names[i]? = some (x, .local)) (hl : X.scope.names.lookup x = some .local) : SimT W X n (.Name x pos) (stv i) :=
  fun _ _ _ _ _ _ _ _ P _ r p hf => wpAny_assign_Name (store_local hi hl P r p hf)
theorem SimT.cell {x : Str} {i : Nat} {pos : Pos} (hi : X.names[i]? = some (x, .cell)) (hl : X.scope.names.lookup x = some .cell) : SimT W X n (.Name x pos) (stv i) :=
  fun _ _ _ _ _ _ _ _ P _ r p hf => wpAny_assign_Name (store_cell hi hl P r p hf)
end
end Mine
end

section
open PySem PySem.W PySem.Calls PyProof.Rows
set_option Elab.async false
set_option maxRecDepth 20000
namespace Mine

theorem vw_le_fr {W : Wd} {G G' : Gh} (hz : ∀ a o, G.kn a = some (.z, o) → G'.kn a = some (.z, o)) (hm : ∀ n a, G.mu n = some a → G'.mu n = some a) (hl : G'.fr.getLast? = G.fr.getLast?) : (G.vw W).Le (G'.vw W) :=
  ⟨fun _ _ e => Gh.z_iff.mpr (hz _ _ (Gh.z_iff.mp e)), hm, fun k o c => by
    obtain ⟨sk, fd, h1, h2, h3, h4, h5, h6, h7, h8, h9, h10, h11, ⟨c', oc, vs, t, i1, i2, i3, i4⟩, h13⟩ := c
    exact ⟨sk, fd, h1, h2, h3, h4, h5, h6, h7, h8, h9, h10, h11, ⟨c', oc, vs, t, i1, Gh.z_iff.mpr (hz _ _ (Gh.z_iff.mp i2)), i3, i4⟩, by rw [hl]; exact h13⟩, fun _ _ e => e⟩

def Gh.pop (G : Gh) (fr : List GF) : Gh := { G with fr := fr }

theorem R.push {W : Wd} {G G' : Gh} {σ : St} {s s' : Shared} {gf : GF} {f : Frm} (r : R W G σ s) (hk : ∀ a t o, G.kn a = some (t, o) → G'.kn a = some (t, o)) (hfr : G'.fr = gf :: G.fr) (hmu : G'.mu = G.mu) (hne : G.fr ≠ [])
    (hF : FrameOK (G'.vw W) G'.kn G.fr.length gf f) (hs : ∀ a t o, G'.kn a = some (t, o) → s'.heap.get? a = some o) (hos : s'.os = s.os) (hg : s'.gens = s.gens) (hsy : SysK G'.kn) : R W G' { σ with fs := f :: σ.fs } s' := by
  have hl : G'.fr.getLast? = G.fr.getLast? := by
    rw [hfr]
    cases h : G.fr with
    | nil => exact absurd h hne
    | cons a l => rfl
  have hv : (G.vw W).Le (G'.vw W) := vw_le_fr (fun a o e => hk _ _ _ e) (fun n a e => by rw [hmu]; exact e) hl
  refine ⟨⟨fun b o hb e => hk _ _ _ (r.inv.base b o hb e), ?_, fun n o e => ?_, fun n a e => r.inv.cnt n a (by rw [← hmu]; exact e), hsy⟩, hs, hos.trans r.os, hg.trans r.gens⟩
  · rw [hfr]
    exact ⟨f, σ.fs, rfl, hF, r.inv.frames.mono hv fun a t o e _ => hk _ _ _ e⟩
  · obtain ⟨a, ob, h1, h2, h3⟩ := r.inv.objs n o e
    exact ⟨a, ob, by rw [hmu]; exact h1, hk _ _ _ h2, h3.mono hv⟩

theorem R.popF {W : Wd} {G : Gh} {σ : St} {s : Shared} {gf : GF} {fr : List GF} (r : R W G σ s) (hfr : G.fr = gf :: fr) (hne : fr ≠ []) : R W (G.pop fr) { σ with fs := σ.fs.tail } s := by
  have hl : (G.pop fr).fr.getLast? = G.fr.getLast? := by
    rw [hfr]
    cases h : fr with
    | nil => exact absurd h hne
    | cons a l => rfl
  have hv : (G.vw W).Le ((G.pop fr).vw W) := vw_le_fr (fun a o e => e) (fun n a e => e) hl
  have F := r.inv.frames
  rw [hfr] at F
  obtain ⟨f, fs, e, h1, h2⟩ := F
  refine ⟨⟨r.inv.base, ?_, fun n o e => ?_, r.inv.cnt, r.inv.sys⟩, r.sub, r.os, r.gens⟩
  · show FramesOK _ G.kn fr σ.fs.tail
    rw [e]
    exact h2.mono hv fun a t o e _ => e
  · obtain ⟨a, ob, h1, h2, h3⟩ := r.inv.objs n o e
    exact ⟨a, ob, h1, h2, h3.mono hv⟩

theorem Rep.popF {W : Wd} {G : Gh} {gf : GF} {fr : List GF} {a : AV} {v : Value} (p : Rep W G a v) (hfr : G.fr = gf :: fr) (hne : fr ≠ []) : Rep W (G.pop fr) a v :=
  RepV.mono (vw_le_fr (G := G) (G' := G.pop fr) (fun a o e => e) (fun n a e => e) (by
    rw [hfr]
    show fr.getLast? = _
    cases h : fr with
    | nil => exact absurd h hne
    | cons a l => rfl)) a v p

/-! a comprehension's block -/
def relS (xs scope : Scope) : Scope :=
  { scope with names := scope.names.map fun (n, k) => if (k == .free && xs.kind == .function && xs.names.lookup n == some .cell) then (n, .cell) else (n, k) }
theorem relabel_eq (scope : Scope) (env : Env) : relabel scope env = relS env.scope scope := rfl

theorem closure_loop (env : Env) : ∀ (names : List (Str × NameKind)) (acc : List (Str × Addr)), (∀ x, (x, NameKind.free) ∈ names → ∃ a, env.cells.lookup x = some a) →
    ∃ cl, (forIn names acc fun (x : Str × NameKind) (r : List (Str × Addr)) => match x with
      | (name, kind) => if (kind == NameKind.free) = true then (do let y ← cellOf env name; pure (ForInStep.yield ((name, y) :: r))) else pure (ForInStep.yield r) : Sem (List (Str × Addr))) = pure cl ∧
    (∀ x a, (x, a) ∈ cl → (x, a) ∈ acc ∨ env.cells.lookup x = some a) ∧ (∀ x, (x, NameKind.free) ∈ names → ∃ a, (x, a) ∈ cl) ∧ (∀ p, p ∈ acc → p ∈ cl)
  | [], acc, _ => ⟨acc, rfl, fun _ _ h => .inl h, fun _ h => by simp at h, fun _ h => h⟩
  | (n, k) :: r, acc, h => by
    by_cases hk : (k == NameKind.free) = true
    · have hk' : k = NameKind.free := by cases k <;> first | rfl | exact absurd hk (by decide)
      subst hk'
      obtain ⟨a, ha⟩ := h n (List.mem_cons_self ..)
      obtain ⟨cl, e1, e2, e3, e4⟩ := closure_loop env r ((n, a) :: acc) fun x hx => h x (List.mem_cons_of_mem _ hx)
      refine ⟨cl, ?_, fun x b hb => ?_, fun x hx => ?_, fun p hp => e4 p (List.mem_cons_of_mem _ hp)⟩
      · rw [List.forIn_cons]
        simp only [if_pos hk]
        have : cellOf env n = pure a := by unfold cellOf; rw [ha]
        rw [this]
        exact e1
      · rcases e2 x b hb with q | q
        · rcases List.mem_cons.mp q with q | q
          · cases q; exact .inr ha
          · exact .inl q
        · exact .inr q
      · rcases List.mem_cons.mp hx with q | q
        · cases q; exact ⟨a, e4 _ (List.mem_cons_self ..)⟩
        · exact e3 x q
    · obtain ⟨cl, e1, e2, e3, e4⟩ := closure_loop env r acc fun x hx => h x (List.mem_cons_of_mem _ hx)
      refine ⟨cl, ?_, e2, fun x hx => ?_, e4⟩
      · rw [List.forIn_cons]
        simp only [if_neg hk]
        exact e1
      · rcases List.mem_cons.mp hx with q | q
        · cases q; exact absurd (by decide : (NameKind.free == NameKind.free) = true) hk
        · exact e3 x q

theorem lookup_of_all {cl : List (Str × Addr)} {env : Env} {x : Str} (h : ∀ x a, (x, a) ∈ cl → env.cells.lookup x = some a) (hx : ∃ a, (x, a) ∈ cl) : cl.lookup x = env.cells.lookup x := by
  obtain ⟨a, ha⟩ := hx
  rw [h x a ha]
  induction cl with
  | nil => simp at ha
  | cons p r ih =>
    obtain ⟨y, b⟩ := p
    rw [List.lookup_cons]
    cases e : x == y with
    | true =>
      have := beq_iff_eq.mp e
      subst this
      have := h x b (List.mem_cons_self ..)
      rw [h x a ha] at this
      exact this.symm
    | false =>
      refine ih (fun x a q => h x a (List.mem_cons_of_mem _ q)) ?_
      rcases List.mem_cons.mp ha with q | q
      · cases q; simp at e
      · exact q

theorem closureFor_is {scope : Scope} {env : Env} (h : ∀ x, (x, NameKind.free) ∈ scope.names → ∃ a, env.cells.lookup x = some a) :
    ∃ cl, closureFor scope env = pure cl ∧ ∀ x, (x, NameKind.free) ∈ scope.names → cl.lookup x = env.cells.lookup x := by
  obtain ⟨cl, e1, e2, e3, e4⟩ := closure_loop env scope.names [] h
  refine ⟨cl, ?_, fun x hx => lookup_of_all (fun x a q => ?_) (e3 x hx)⟩
  · unfold closureFor
    exact (congrArg (fun t => t >>= fun cs => (pure cs : Sem _)) e1 : _)
  · rcases e2 x a q with q | q
    · simp at q
    · exact q

structure SubSc (X : Sc) (scope : Scope) (Xi : Sc) : Prop where
  rel : Xi.scope = relS X.scope scope
  kind : scope.kind = .function
  nocell : ∀ y ∈ scope.names, y.2 ≠ .cell
  loc : ∀ y ∈ scope.names, y.2 = .local → scope.names.lookup y.1 = some .local
  names : ∀ y ∈ Xi.names, y.2 = .local
  nd : (Xi.names.map (·.1)).Nodup
  up : ∀ x k i, (x, (k, i)) ∈ Xi.up → (x, NameKind.free) ∈ scope.names ∧ 1 ≤ k ∧ ((k = 1 ∧ X.names[i]? = some (x, NameKind.cell)) ∨ (x, (k - 1, i)) ∈ X.up)
  bot : ∀ x i, (x, i) ∈ Xi.bot → (x, NameKind.free) ∈ scope.names ∧ (x, i) ∈ X.bot
  free : ∀ x, (x, NameKind.free) ∈ scope.names → (x, NameKind.cell) ∈ X.names ∨ (∃ k i, (x, (k, i)) ∈ X.up) ∨ ∃ i, (x, i) ∈ X.bot

theorem EnvOK.cells {W : Wd} {X : Sc} {env : Env} {G : Gh} {σ : St} {s : Shared} (P : EnvOK X env G) (r : R W G σ s) {x : Str} (h : (x, NameKind.cell) ∈ X.names ∨ (∃ k i, (x, (k, i)) ∈ X.up) ∨ ∃ i, (x, i) ∈ X.bot) : ∃ a, env.cells.lookup x = some a := by
  rcases h with h | ⟨k, i, h⟩ | ⟨i, h⟩
  · obtain ⟨gf, rest, hfr, hn, hL, hc⟩ := P.own
    obtain ⟨f, lvl, h1, h2⟩ := r.inv.frames.get (k := 0) (gk := gf) (by rw [hfr]; rfl)
    obtain ⟨i, hi, e⟩ := List.getElem_of_mem h
    obtain ⟨c, o, cv, k1, _⟩ := h2.cel i x (by rw [hn, List.getElem?_eq_getElem hi, e])
    exact ⟨c, (hc x h).trans k1⟩
  · obtain ⟨gk, g1, g2, g3⟩ := P.up x k i h
    obtain ⟨f, lvl, h1, h2⟩ := r.inv.frames.get g1
    obtain ⟨c, o, cv, k1, _⟩ := h2.cel i x g2
    exact ⟨c, g3.trans k1⟩
  · obtain ⟨gk, g1, g2, g3⟩ := P.bot x i h
    obtain ⟨f, lvl, h1, h2⟩ := r.inv.frames.get (getLast_get g1)
    obtain ⟨c, o, cv, k1, _⟩ := h2.cel i x g2
    exact ⟨c, g3.trans k1⟩

theorem EnvOK.comp {X Xi : Sc} {scope : Scope} {env : Env} {G G' : Gh} (P : EnvOK X env G) (S : SubSc X scope Xi) {cl : List (Str × Addr)} (hcl : ∀ x, (x, NameKind.free) ∈ scope.names → cl.lookup x = env.cells.lookup x) {C : Addr}
    (hfr : G'.fr = ⟨Xi.names, C, []⟩ :: G.fr) : EnvOK Xi (compEnvC scope cl C env) G' := by
  obtain ⟨gf, rest, hfr0, hn, hL, hc⟩ := P.own
  refine ⟨?_, ?_, P.glob, P.bui, P.frame, ⟨_, _, hfr, rfl, rfl, fun x hx => ?_⟩, fun x k i h => ?_, fun x i h => ?_⟩
  · show relabel scope env = _
    rw [relabel_eq, P.scope, S.rel]
  · rw [S.rel]; exact S.kind
  · have := S.names _ hx; cases this
  · obtain ⟨h1, h2, h3⟩ := S.up x k i h
    have he : (compEnvC scope cl C env).cells.lookup x = env.cells.lookup x := hcl x h1
    rcases h3 with ⟨h3, h4⟩ | h3
    · subst h3
      refine ⟨gf, by rw [hfr, hfr0]; rfl, by rw [hn]; exact h4, ?_⟩
      rw [he]; exact hc x (List.mem_of_getElem? h4)
    · obtain ⟨gk, g1, g2, g3⟩ := P.up x _ i h3
      refine ⟨gk, ?_, g2, he.trans g3⟩
      rw [hfr]
      obtain ⟨k', rfl⟩ : ∃ k', k = k' + 1 := ⟨k - 1, by omega⟩
      exact g1
  · obtain ⟨h1, h2⟩ := S.bot x i h
    obtain ⟨gk, g1, g2, g3⟩ := P.bot x i h2
    refine ⟨gk, ?_, g2, (hcl x h1 : _).trans g3⟩
    rw [hfr, hfr0]
    rw [hfr0] at g1
    exact g1

theorem EnvOK.of_fr {X : Sc} {env : Env} {G G' : Gh} (h : EnvOK X env G) (l : G'.fr = G.fr) : EnvOK X env G' := by
  obtain ⟨a, b, c, d, e0, e, f, g⟩ := h
  refine ⟨a, b, c, d, e0, ?_, ?_, ?_⟩
  · rw [l]; exact e
  · rw [l]; exact f
  · rw [l]; exact g
theorem LeX.trans {I : Addr → Prop} {G G' G'' : Gh} (a : LeX I G G') (b : LeX I G' G'') : LeX I G G'' :=
  ⟨fun x o h => b.z x o (a.z x o h), fun x o q h => b.pin x o q (a.pin x o q h), fun n x h => b.mu n x (a.mu n x h), b.fr.trans a.fr⟩
theorem Gh.Le.toX {I : Addr → Prop} {G G' : Gh} (h : G.Le G') : LeX I G G' := ⟨h.z, fun a o _ e => h.pin a o e, h.mu, h.fr⟩

theorem R.popDrop {W : Wd} {G : Gh} {σ : St} {s : Shared} {gf : GF} {fr : List GF} (r : R W G σ s) (hfr : G.fr = gf :: fr) (hne : fr ≠ []) {h' : Heap} {tk : Nat} (hs : ∀ b x, b ≠ gf.L → s.heap.get? b = some x → h'.get? b = some x) :
    R W ((G.del gf.L).pop fr) { σ with fs := σ.fs.tail } { s with heap := h', toks := tk } ∧ (∀ a o, G.kn a = some (.z, o) → ((G.del gf.L).pop fr).kn a = some (.z, o)) ∧ (∀ a o, G.kn a = some (.pin, o) → ((G.del gf.L).pop fr).kn a = some (.pin, o)) ∧
      (G.vw W).Le (((G.del gf.L).pop fr).vw W) := by
  have r1 := r.popF hfr hne
  have F := r.inv.frames
  rw [hfr] at F
  obtain ⟨f, fs, e, h1, h2⟩ := F
  obtain ⟨o, m, k1, k2, k3⟩ := h1.loc
  have k : ∀ b t x, G.kn b = some (t, x) → t ≠ .loc fr.length → ((G.del gf.L).pop fr).kn b = some (t, x) := fun b t x e' ht => by
    show (if b = gf.L then none else G.kn b) = _
    rw [if_neg]
    · exact e'
    · rintro rfl; rw [k1] at e'; cases e'; exact ht rfl
  have hv : (G.vw W).Le (((G.del gf.L).pop fr).vw W) := vw_le_fr (fun a o e => k _ _ _ e Tag.noConfusion) (fun n a e => e) (by
    show fr.getLast? = _
    rw [hfr]
    cases h : fr with
    | nil => exact absurd h hne
    | cons a l => rfl)
  refine ⟨⟨⟨fun b o hb e => k _ _ _ (r.inv.base b o hb e) Tag.noConfusion, ?_, fun n o e => ?_, r.inv.cnt, r.inv.sys.dl k1 Tag.noConfusion⟩, fun b t x e' => ?_, r.os, r.gens⟩, fun a o e => k _ _ _ e Tag.noConfusion, fun a o e => k _ _ _ e Tag.noConfusion, hv⟩
  · show FramesOK _ _ fr σ.fs.tail
    rw [e]
    exact h2.mono hv fun a t o e ⟨lv, hl, q⟩ => k _ _ _ e (by
      rcases q with rfl | ⟨_, rfl⟩
      · intro z; cases z; omega
      · exact Tag.noConfusion)
  · obtain ⟨a, ob, h1, h2, h3⟩ := r.inv.objs n o e
    exact ⟨a, ob, h1, k _ _ _ h2 Tag.noConfusion, h3.mono hv⟩
  · have e' : (if b = gf.L then none else G.kn b) = some (t, x) := e'
    split at e'
    · cases e'
    · rename_i hb; exact hs b x hb (r.sub _ _ _ e')

theorem R.popPin {W : Wd} {G : Gh} {σ : St} {s : Shared} {gf : GF} {fr : List GF} {o : Obj} (r : R W G σ s) (hfr : G.fr = gf :: fr) (hne : fr ≠ []) (k1 : G.kn gf.L = some (.loc fr.length, o)) :
    R W ((G.set gf.L .pin o).pop fr) { σ with fs := σ.fs.tail } s ∧ (∀ a o', G.kn a = some (.z, o') → ((G.set gf.L .pin o).pop fr).kn a = some (.z, o')) ∧ (∀ a o', G.kn a = some (.pin, o') → ((G.set gf.L .pin o).pop fr).kn a = some (.pin, o')) ∧
      (G.vw W).Le (((G.set gf.L .pin o).pop fr).vw W) := by
  have F := r.inv.frames
  rw [hfr] at F
  obtain ⟨f, fs, e, h1, h2⟩ := F
  have k : ∀ b t x, G.kn b = some (t, x) → t ≠ .loc fr.length → ((G.set gf.L .pin o).pop fr).kn b = some (t, x) := fun b t x e' ht => Gh.set_keep e' fun t₀ o₀ w => by
    rw [k1] at w; cases w; exact Ne.symm ht
  have hv : (G.vw W).Le (((G.set gf.L .pin o).pop fr).vw W) := vw_le_fr (fun a o e => k _ _ _ e Tag.noConfusion) (fun n a e => e) (by
    show fr.getLast? = _
    rw [hfr]
    cases h : fr with
    | nil => exact absurd h hne
    | cons a l => rfl)
  refine ⟨⟨⟨fun b o hb e => k _ _ _ (r.inv.base b o hb e) Tag.noConfusion, ?_, fun n o e => ?_, r.inv.cnt, r.inv.sys.turn k1 Tag.noConfusion⟩, fun b t x e' => ?_, r.os, r.gens⟩, fun a o e => k _ _ _ e Tag.noConfusion, fun a o e => k _ _ _ e Tag.noConfusion, hv⟩
  · show FramesOK _ _ fr σ.fs.tail
    rw [e]
    exact h2.mono hv fun a t o e ⟨lv, hl, q⟩ => k _ _ _ e (by
      rcases q with rfl | ⟨_, rfl⟩
      · intro z; cases z; omega
      · exact Tag.noConfusion)
  · obtain ⟨a, ob, h1, h2, h3⟩ := r.inv.objs n o e
    exact ⟨a, ob, h1, k _ _ _ h2 Tag.noConfusion, h3.mono hv⟩
  · have e' : (G.set gf.L .pin o).kn b = some (t, x) := e'
    by_cases hb : b = gf.L
    · subst hb; rw [Gh.set_self] at e'; cases e'; exact r.sub _ _ _ k1
    · rw [Gh.set_ne hb] at e'; exact r.sub _ _ _ e'

/-- a watched object that will not change any more -/
theorem R.still {W : Wd} {G : Gh} {σ : St} {s : Shared} (r : R W G σ s) {a : Addr} {o : Obj} (h : G.kn a = some (.pin, o)) : R W (G.set a .z o) σ s ∧ LeX (· = a) G (G.set a .z o) := by
  have k : ∀ b t x, G.kn b = some (t, x) → t ≠ .pin → (G.set a .z o).kn b = some (t, x) := fun b t x e ht => Gh.set_keep e fun t₀ o₀ w => by rw [h] at w; cases w; exact Ne.symm ht
  have lx : LeX (· = a) G (G.set a .z o) := ⟨fun b x e => k _ _ _ e Tag.noConfusion, fun b x hb e => by rw [Gh.set_ne hb]; exact e, fun _ _ e => e, rfl⟩
  refine ⟨⟨⟨fun b o hb e => k _ _ _ (r.inv.base b o hb e) Tag.noConfusion, ?_, fun n o' e => ?_, r.inv.cnt, r.inv.sys.turn h Tag.noConfusion⟩, fun b t x e => ?_, r.os, r.gens⟩, lx⟩
  · exact r.inv.frames.mono (lx.vw W) fun b t' o' e ⟨_, _, q⟩ => k _ _ _ e (by rcases q with rfl | ⟨_, rfl⟩ <;> exact Tag.noConfusion)
  · obtain ⟨b, ob, h1, h2, h3⟩ := r.inv.objs n o' e
    exact ⟨b, ob, h1, k _ _ _ h2 Tag.noConfusion, h3.mono (lx.vw W)⟩
  · by_cases hb : b = a
    · subst hb; rw [Gh.set_self] at e; cases e; exact r.sub _ _ _ h
    · rw [Gh.set_ne hb] at e; exact r.sub _ _ _ e

open Classical in
noncomputable def compA (C : St → Prop) (tgt : AV → M Unit) (tests : M Bool) (elt : M AV) : List AV → List AV → M (List AV)
  | [], acc => fun σ => if C σ then some (acc, σ) else none
  | x :: l, acc => fun σ => if C σ ∧ acc.length ≤ 2 ^ 20 then M.bind (tgt x) (fun _ => M.bind tests fun ok => match ok with
      | true => M.bind elt fun y => compA C tgt tests elt l (acc ++ [y])
      | false => compA C tgt tests elt l acc) σ else none

def pushA (k : Nat) : M Unit := fun σ => some ((), { σ with fs := List.replicate k none :: σ.fs })
def popA : M Unit := fun σ => some ((), { σ with fs := σ.fs.tail })

noncomputable def compM (k : Nat) (it : M (List AV × (St → Prop))) (tgt : AV → M Unit) (tests : M Bool) (elt : M AV) : M (List AV) :=
  M.bind it fun p => M.bind (pushA k) fun _ => M.bind (compA p.2 tgt tests elt p.1 []) fun acc => M.bind popA fun _ => M.pure acc

def SimC (W : Wd) (X : Sc) (n : Nat) (ifs : List Expr) (f : M Bool) : Prop :=
  Sim W (fun _ b a => a = b) (EF X) n (fun env => (forIn ifs true fun c r => if r = true then do let ok ← isTrue c env (eval c env); pure (ForInStep.yield ok) else pure (ForInStep.yield r) : Sem Bool)) f

section
variable {W : Wd} {X Xi : Sc} {n : Nat}
theorem SimC.nil : SimC W X n [] (M.pure true) := fun env A σ b σ' G s P hA r hf => by cases hf; exact wpAny_pure (.now r rfl)
theorem forIn_false {env : Env} : ∀ ifs : List Expr, (forIn ifs false fun c r => if r = true then do let ok ← isTrue c env (eval c env); pure (ForInStep.yield ok) else pure (ForInStep.yield r) : Sem Bool) = pure false
  | [] => rfl
  | c :: l => by
    rw [List.forIn_cons]
    simp only [Bool.false_eq_true, if_false]
    exact forIn_false l
theorem SimC.cons {c : Expr} {ifs : List Expr} {f g : M Bool} (h1 : SimB W X n c f) (h2 : SimC W X n ifs g) : SimC W X n (c :: ifs) (M.bind f fun b => bif b then g else M.pure false) := by
  intro env A σ b σ' G s P hA r hf
  obtain ⟨a, σ1, e1, hf⟩ := M.bind_some hf
  show wpAny W.M A (forIn (c :: ifs) true _) _ _ s
  rw [List.forIn_cons]
  simp only [if_true]
  refine wpAny_bind (wpAny_bind (wpAny_mono (h1 env A _ _ _ G s P hA r e1) (fun b' s' ⟨G', l, r', q⟩ => wpAny_pure ?_) fun _ _ e => e))
  subst q
  cases b' with
  | true => exact wpAny_mono (h2 env A _ _ _ G' s' (P.mono l) hA r' hf) (fun _ _ q => q.le l) fun _ _ e => e
  | false =>
    cases hf
    dsimp only
    rw [forIn_false]
    exact wpAny_pure ⟨G', l, r', rfl⟩

theorem comp_loop {env : Env} {A : Around} {target iter elt : Expr} {ifs : List Expr} {scope : Scope} {pos : Pos} {tgt : AV → M Unit} {ft : M Bool} {fe : M AV} (hT : SimT W Xi n target tgt) (hC : SimC W Xi n ifs ft) (hE : SimE W Xi n elt fe) (hA : AOK n A)
    {it : Value} (S : It W it) {D : Addr} {Rz : Result → Shared → Prop} {G₀ : Gh} (P : EnvOK Xi env G₀) {σ σ' : St} {s : Shared} {l acc res : List AV} {ys : Array Value} {k : Nat} {G : Gh} (hD : ¬ (S.I D ∨ S.K D)) (le : LeX (fun a => S.I a ∨ a = D) G₀ G) (r : R W G σ s) (hTt : S.T target) (hJ : S.J l G)
    (hd : G.kn D = some (.pin, { cls := .type "list", data := .seq ys k })) (ha : Reps W G acc ys.toList)
    (hf : compA S.C tgt ft fe l acc σ = some (res, σ'))
    (hR : ∀ G' s' ys k, LeX (fun a => S.I a ∨ a = D) G₀ G' → R W G' σ' s' → G'.kn D = some (.pin, { cls := .type "list", data := .seq ys k }) → Reps W G' res ys.toList → Rz (.ok .next) s') :
    codeAny W.M A (.compLoop (.ListComp elt [⟨target, iter, ifs, 0⟩] scope pos) 0 it (.ref D) env) Rz s := by
  refine codeAny_loop rfl (fun m s' => ∃ G σ l acc ys k, m = l.length ∧ LeX (fun a => S.I a ∨ a = D) G₀ G ∧ R W G σ s' ∧ S.J l G ∧ G.kn D = some (.pin, { cls := .type "list", data := .seq ys k }) ∧ Reps W G acc ys.toList ∧
    compA S.C tgt ft fe l acc σ = some (res, σ')) ?_ l.length ⟨G, σ, l, acc, ys, k, rfl, le, r, hJ, hd, ha, hf⟩
  rintro m s1 ⟨G1, σ1, l1, acc1, ys1, k1, rfl, le1, r1, j1, d1, a1, f1⟩
  show wpAny W.M A ((compTurn (.ListComp elt [⟨target, iter, ifs, 0⟩] scope pos) 0 it (.ref D) env).onRaise (fun x => do noteFrame x env; theTreesLotGoes x)) _ _ s1
  refine wpAny_noted ?_
  rw [compTurn_list]
  refine wpAny_bind (wpAny_standAt (wpAny_bind ?_))
  cases l1 with
  | nil =>
    simp only [compA] at f1
    split at f1
    · rename_i hC1
      cases f1
      refine wpAny_mono (S.stop hA.hd hC1 j1 r1) (fun v s2 ⟨hv, G2, lx, r2⟩ => ?_) fun _ _ e => e.elim
      subst hv
      refine wpAny_pure (hR G2 s2 ys1 k1 (le1.trans (lx.more fun _ h => .inl h)) r2 (lx.pin _ _ (fun h => hD (.inl h)) d1) (repsX a1 lx))
    · cases f1
  | cons x l1 =>
    simp only [compA] at f1
    split at f1
    · rename_i hC1
      obtain ⟨⟨⟩, σ2, t1, f1⟩ := M.bind_some f1
      obtain ⟨ok, σ3, t2, f1⟩ := M.bind_some f1
      refine wpAny_mono (S.next hA.hd hC1.1 j1 r1) (fun v s2 ⟨mv, G2, hv, lx, r2, p2, j2⟩ => ?_) fun _ _ e => e.elim
      subst hv
      have le2 := le1.trans (lx.more fun _ h => .inl h)
      have d2 := lx.pin _ _ (fun h => hD (.inl h)) d1
      refine wpAny_bind (wpAny_mono (S.go target hTt j2 r2) (fun _ s3 ⟨G3, lx3, r3, j3⟩ => ?_) fun _ _ e => e.elim)
      have le3 := le2.trans (lx3.more fun _ h => .inl h)
      have d3 := lx3.pin _ _ (fun h => hD (.inl h)) d2
      have a3 := repsX (repsX a1 lx) lx3
      refine wpAny_bind (wpAny_mono (hT env A _ _ G3 s3 x mv (P.of_fr le3.fr) hA r3 (repX p2 lx3) t1) (fun _ s4 ⟨G4, le4, r4, _⟩ => ?_) fun _ _ e => e.elim)
      have P4 : EnvOK Xi env G4 := P.of_fr (le4.fr.trans le3.fr)
      refine wpAny_bind (wpAny_mono (hC env A _ _ _ G4 s4 P4 hA r4 t2) (fun ok' s5 ⟨G5, le5, r5, q5⟩ => ?_) fun _ _ e => e.elim)
      subst q5
      have P5 : EnvOK Xi env G5 := P4.of_fr le5.fr
      have le45 := le4.trans le5
      cases ok' with
      | false =>
        dsimp only at f1
        refine wpAny_pure ⟨rfl, l1.length, Nat.lt_succ_self _, G5, σ3, l1, acc1, ys1, k1, rfl, le3.trans le45.toX, r5, S.mono j3 le45.toI, le45.pin _ _ d3, Reps.le a3 le45, f1⟩
      | true =>
        dsimp only at f1
        obtain ⟨y, σ4, t3, f1⟩ := M.bind_some f1
        refine wpAny_bind (wpAny_bind (wpAny_mono (hE env A _ _ _ G5 s5 P5 hA r5 t3) (fun my s6 ⟨G6, le6, r6, p6⟩ => ?_) fun _ _ e => e.elim))
        have le46 := le45.trans le6
        have d6 := le46.pin _ _ d3
        have a6 := Reps.le a3 le46
        have hlen := a6.length
        rw [Array.length_toList] at hlen
        refine wpAny_bind (wpAny_list_append_plain (l := D) (items := ys1) ⟨k1, r6.sub _ _ _ d6⟩ (fun h' hp hs => ?_) (by rw [sizeLine_eq]; omega))
        obtain ⟨k7, hp⟩ := hp
        obtain ⟨r7, lx7⟩ := r6.pin (tk := s6.toks) d6 hp fun b x hb e => (hs.2 b hb).trans e
        refine wpAny_pure (wpAny_pure ⟨rfl, l1.length, Nat.lt_succ_self _, _, σ4, l1, acc1 ++ [y], ys1.push my, k7, rfl, (le3.trans le46.toX).trans (lx7.more fun _ h => .inr h), r7,
          S.mono (S.mono j3 le46.toI) (lx7.toZ fun a ha e => hD (e ▸ ha)), Gh.set_self, ?_, f1⟩)
        rw [Array.toList_push]
        exact RepVs.append (repsX a6 lx7) ⟨my, [], rfl, repX p6 lx7, rfl⟩
    · cases f1

theorem FrameOK.fresh {V : Vw} {kn : Addr → Option (Tag × Obj)} {lvl : Nat} {names : List (Str × NameKind)} {C : Addr} {o : Obj} (nd : (names.map (·.1)).Nodup) (hl : ∀ y ∈ names, y.2 = .local) (hk : kn C = some (.loc lvl, o)) (ho : ∃ m, NsOb o m) :
    FrameOK V kn lvl ⟨names, C, []⟩ (List.replicate names.length none) := by
  obtain ⟨m, hm⟩ := ho
  refine ⟨nd, List.length_replicate, ⟨o, m, hk, hm, fun i x _ v e => ?_⟩, fun i x e => ?_⟩
  · rw [List.getElem?_replicate] at e
    split at e <;> cases e
  · have := hl _ (List.mem_of_getElem? e); cases this

theorem comp_block {env : Env} {A : Around} {target iter elt : Expr} {ifs : List Expr} {scope : Scope} {pos : Pos} {tgt : AV → M Unit} {ft : M Bool} {fe : M AV} (Sx : SubSc X scope Xi) (hT : SimT W Xi n target tgt) (hC : SimC W Xi n ifs ft) (hE : SimE W Xi n elt fe) (hA : AOK n A)
    {it : Value} (S : It W it) {G₀ G : Gh} (P : EnvOK X env G₀) {σ σ' : St} {s : Shared} {l res : List AV} (le : G₀.Le G) (hi : ∀ a, S.I a → ∀ o, G₀.kn a ≠ some (.pin, o)) (r : R W G σ s) (hTt : S.T target) (hJ : S.J l G) {cl : List (Str × Addr)} (hcl : ∀ x, (x, NameKind.free) ∈ scope.names → cl.lookup x = env.cells.lookup x)
    (hf : M.bind (pushA Xi.names.length) (fun _ => compA S.C tgt ft fe l []) σ = some (res, σ')) {RR : Value → Addr → Result → Shared → Prop}
    (hR : ∀ D C s' m oC G', NsOb oC m → G₀.Le G' → R W G' { σ' with fs := σ'.fs.tail } s' → (∃ ys k, G'.kn D = some (.pin, { cls := .type "list", data := .seq ys k }) ∧ Reps W G' res ys.toList) → (∀ o, G₀.kn D ≠ some (.pin, o)) → D ≠ C → G'.kn C = some (.pin, oC) → (∀ o, G₀.kn C ≠ some (.pin, o)) → RR (.ref D) C (.ok .next) s') :
    wpAny W.M A (newList []) (fun acc s₃ => wpAny W.M A (newFunctionEnv scope env.globals cl [] env.qual none .none (some env)) (fun cenv s₄ =>
      codeAny W.M A (.compStart (.ListComp elt [⟨target, iter, ifs, 0⟩] scope pos) 0 it acc { cenv with scope := relabel scope env }) (RR acc cenv.locals) s₄) (fun _ _ => False) s₃) (fun _ _ => False) s := by
  obtain ⟨⟨⟩, σ1, e1, hf⟩ := M.bind_some hf
  cases e1
  obtain ⟨r1, le1⟩ := r.alloc .pin (o := { cls := .type "list", data := .seq ([] : List Value).toArray }) rfl (tk := s.toks)
  have hDI : ¬ (S.I s.heap.objs.size ∨ S.K s.heap.objs.size) := fun h => by
    obtain ⟨o, e⟩ := S.known _ hJ h
    rw [r.fresh] at e; cases e
  refine wpAny_newObj_type (wpAny_newFunctionEnv Sx.nocell (by intro y hy; simp at hy) (fun h₁ hns₁ hsb₁ => ?_) Sx.kind)
  dsimp only at hns₁ hsb₁ ⊢
  generalize hD : s.heap.objs.size = D at *
  generalize hH2 : s.heap.push { cls := .type "list", dict := none, data := .seq ([] : List Value).toArray } = H2 at *
  obtain ⟨oC, hoC, hnC⟩ := NsOb.of hns₁
  have hne : G₀.fr ≠ [] := by obtain ⟨gf, rest, h, _⟩ := P.own; rw [h]; simp
  have hfrs : (G.set D .pin { cls := .type "list", data := .seq ([] : List Value).toArray }).fr = G₀.fr := le.fr
  have hfresh := r1.fresh
  dsimp only at hfresh
  have hbig := r1.big
  dsimp only at hbig
  have r2 := r1.push (hsy := r1.inv.sys.new hfresh (.inl hbig)) (G' := { (G.set D .pin { cls := .type "list", data := .seq ([] : List Value).toArray }).set H2.objs.size (.loc G₀.fr.length) oC with fr := ⟨Xi.names, H2.objs.size, []⟩ :: G₀.fr })
    (gf := ⟨Xi.names, H2.objs.size, []⟩) (f := List.replicate Xi.names.length none) (s' := { s with heap := h₁, toks := s.toks + ([] : List (Str × Value)).length })
    (fun a t o e => Gh.set_keep e fun t₀ o₀ w => by rw [hfresh] at w; cases w) (by rw [hfrs]) rfl (by rw [hfrs]; exact hne)
    (by rw [hfrs]; exact FrameOK.fresh Sx.nd Sx.names Gh.set_self ⟨_, hnC⟩)
    (fun a t o e => by
      by_cases ha : a = H2.objs.size
      · subst ha
        have e : ((G.set D .pin { cls := .type "list", data := .seq ([] : List Value).toArray }).set H2.objs.size (.loc G₀.fr.length) oC).kn H2.objs.size = some (t, o) := e
        rw [Gh.set_self] at e
        cases e; exact hoC
      · have e : ((G.set D .pin { cls := .type "list", data := .seq ([] : List Value).toArray }).set H2.objs.size (.loc G₀.fr.length) oC).kn a = some (t, o) := e
        rw [Gh.set_ne ha] at e
        exact hsb₁.extBut a o ha (Heap.get?_push_of_some _ (r1.sub _ _ _ e))) rfl rfl
  generalize hG2 : ({ (G.set D .pin { cls := .type "list", data := .seq ([] : List Value).toArray }).set H2.objs.size (.loc G₀.fr.length) oC with fr := ⟨Xi.names, H2.objs.size, []⟩ :: G₀.fr } : Gh) = G2 at r2
  have k2 : ∀ a t o, (G.set D .pin { cls := .type "list", data := .seq ([] : List Value).toArray }).kn a = some (t, o) → G2.kn a = some (t, o) := fun a t o e => by
    rw [← hG2]; exact Gh.set_keep e fun t₀ o₀ w => by rw [hfresh] at w; cases w
  have fr2 : G2.fr = ⟨Xi.names, H2.objs.size, []⟩ :: G₀.fr := by rw [← hG2]
  have mu2 : G2.mu = G.mu := by rw [← hG2]; rfl
  have hl2 : G2.fr.getLast? = G.fr.getLast? := by
    rw [fr2, le.fr]
    cases h : G₀.fr with
    | nil => exact absurd h hne
    | cons a l => rfl
  have kG : ∀ a t o, G.kn a = some (t, o) → G2.kn a = some (t, o) := fun a t o e => k2 _ _ _ (Gh.set_keep e fun t₀ o₀ w => by rw [← hD, r.fresh] at w; cases w)
  have liG : LeI W (fun a => S.I a ∨ S.K a) G G2 := ⟨fun a o e => kG _ _ _ e, fun a o _ e => kG _ _ _ e, fun n a e => by rw [mu2]; exact e, vw_le_fr (fun a o e => kG _ _ _ e) (fun n a e => by rw [mu2]; exact e) hl2⟩
  have P2 : EnvOK Xi (compEnvC scope cl H2.objs.size env) G2 := EnvOK.comp (P.of_fr le.fr) Sx hcl (by rw [fr2, le.fr])
  have loop : ∀ s₃ : Shared, R W G2 { σ with fs := List.replicate Xi.names.length none :: σ.fs } s₃ → codeAny W.M A (.compLoop (.ListComp elt [⟨target, iter, ifs, 0⟩] scope pos) 0 it (.ref D) (compEnvC scope cl H2.objs.size env)) (RR (.ref D) H2.objs.size) s₃ := by
    intro s₃ r3
    refine comp_loop hT hC hE hA S P2 hDI (.refl _) r3 hTt (S.mono hJ liG) (k := 0) (ys := #[]) (k2 _ _ _ Gh.set_self) (show RepVs _ [] [] from rfl) hf ?_
    intro G' s' ys k lx r' d' a'
    have fr' : G'.fr = ⟨Xi.names, H2.objs.size, []⟩ :: G₀.fr := lx.fr.trans fr2
    have F := r'.inv.frames
    rw [fr'] at F
    obtain ⟨f, fs, ef, g1, g2⟩ := F
    obtain ⟨o', m', k1', k2', _⟩ := g1.loc
    obtain ⟨r4, z4, p4, v4⟩ := r'.popPin fr' hne k1'
    have hCD : H2.objs.size ≠ D := by
      intro e
      rw [e] at k1'
      rw [d'] at k1'
      cases k1'
    have hD0 : ∀ o, G₀.kn D ≠ some (.pin, o) := fun o e => by
      have := le.pin _ _ e
      rw [← hD, r.fresh] at this; cases this
    refine hR D _ s' m' o' _ k2' ?_ r4 ⟨ys, k, p4 _ _ d', RepVs.mono v4 _ _ a'⟩ hD0 (Ne.symm hCD) (if_pos rfl) ?_
    · refine ⟨fun a o e => z4 _ _ (lx.z _ _ (kG _ _ _ (le.z _ _ e))), fun a o e => ?_, fun n a e => ?_, rfl⟩
      · have hna : a ≠ D := by
          rintro rfl
          exact hD0 _ e
        exact p4 _ _ (lx.pin _ _ (by rintro (q | q); exact hi a q o e; exact hna q) (kG _ _ _ (le.pin _ _ e)))
      · exact lx.mu _ _ (by rw [mu2]; exact le.mu _ _ e)
    · intro o e
      have := k2 _ _ _ (Gh.set_keep (t := .pin) (a := D) (o := { cls := .type "list", data := .seq ([] : List Value).toArray }) (le.pin _ _ e) fun t₀ o₀ w => by rw [← hD, r.fresh] at w; cases w)
      have hh : (G.set D .pin { cls := .type "list", data := .seq ([] : List Value).toArray }).kn H2.objs.size = some (.pin, o) := Gh.set_keep (le.pin _ _ e) fun t₀ o₀ w => by rw [← hD, r.fresh] at w; cases w
      rw [hfresh] at hh; cases hh
  have hst : ({ newEnv scope H2.objs.size env.globals cl env.qual none .none (some env) env.builtins with scope := relabel scope env } : Env) = compEnvC scope cl H2.objs.size env := rfl
  refine codeAny_compStart_list (loop _ r2) ?_
  refine wpAny_mono (S.self (S.mono hJ liG) r2) (fun v s' ⟨e1, e2⟩ => ?_) fun _ _ e => e.elim
  subst e1 e2
  exact loop _ r2

theorem SimE.comp {target iter elt : Expr} {ifs : List Expr} {scope : Scope} {pos : Pos} {fi : M (List AV × (St → Prop))} {tgt : AV → M Unit} {ft : M Bool} {fe : M AV} (Sx : SubSc X scope Xi) (hI : SimIt W X n iter target fi) (hT : SimT W Xi n target tgt) (hC : SimC W Xi n ifs ft) (hE : SimE W Xi n elt fe)
    (hs : ∀ env x, foldedSetIterable iter env x = pure x) :
    SimE W X n (.ListComp elt [⟨target, iter, ifs, 0⟩] scope pos) (M.bind (compM Xi.names.length fi tgt ft fe) fun l => M.pure (.lst l)) := by
  intro env A σ b σ' G s P hA r hf
  obtain ⟨res, σ1, e1, hf⟩ := M.bind_some hf
  cases hf
  obtain ⟨⟨l, C⟩, σ2, e2, e1⟩ := M.bind_some e1
  obtain ⟨cl, hcl1, hcl2⟩ := closureFor_is (scope := scope) (env := env) fun x hx => P.cells r (Sx.free x hx)
  show wpAny W.M A (eval (.ListComp elt [⟨target, iter, ifs, 0⟩] scope pos) env) _ _ s
  rw [eval_ListComp]
  refine wpAny_comprehension_free (use := Option.none) rfl (hs env) hcl1 Sx.kind Sx.loc ?_
  refine wpAny_mono (hI env A σ l C σ2 G s P hA r e2) (fun x s1 h1 => wpAny_mono h1 (fun it s2 ⟨S, G2, le2, r2, hc, t2, j2, i2⟩ => ?_) fun _ _ e => e.elim) fun _ _ e => e.elim
  subst hc
  have hf' : ∃ σ3, M.bind (pushA Xi.names.length) (fun _ => compA S.C tgt ft fe l []) σ2 = some (res, σ3) ∧ { σ3 with fs := σ3.fs.tail } = σ' := by
    obtain ⟨⟨⟩, σ4, q1, q2⟩ := M.bind_some e1
    obtain ⟨acc, σ5, q3, q4⟩ := M.bind_some q2
    obtain ⟨⟨⟩, σ6, q5, q6⟩ := M.bind_some q4
    cases q5; cases q6
    refine ⟨σ5, ?_, rfl⟩
    unfold M.bind
    rw [q1]
    exact q3
  obtain ⟨σ3, h3, h4⟩ := hf'
  subst h4
  refine comp_block (RR := fun acc C => compPost W.M A (fun _ _ => False) Option.none (Post W (Rep W) G { σ3 with fs := σ3.fs.tail } (.lst res)) acc C) Sx hT hC hE hA S P le2 i2 r2 t2 j2 hcl2 h3 ?_
  intro D C s' m oC G' hn le' r' ⟨ys, k, hD, hy⟩ hD0 hDC hC hC0
  refine ⟨m, hn.ns (r'.sub _ _ _ hC), fun h' hs' => ?_⟩
  obtain ⟨r6, lx6⟩ := r'.drop (h' := h') (tk := s'.toks) hC fun b x hb e => (hs'.2 b hb).trans e
  obtain ⟨r7, lx7⟩ := r6.still (lx6.pin _ _ hDC hD)
  exact ⟨_, LeX.le (LeX.le le' lx6 (fun a ha o => by subst ha; exact hC0 o)) lx7 (fun a ha o => by subst ha; exact hD0 o), r7, D, ys, k, rfl, Gh.z_iff.mpr Gh.set_self, repsX (repsX hy lx6) lx7⟩

/-- a watched object that is handed out -/
theorem R.wake {W : Wd} {G : Gh} {σ : St} {s : Shared} (r : R W G σ s) {a : Addr} {ob : Obj} {o : AO} (h : G.kn a = some (.pin, ob)) (site : Nat) (ho : ObjOK W (G.vw W) o ob) :
    ∃ G', LeX (· = a) G G' ∧ R W G' { σ with st := fun m => if m = (site, σ.cnt) then some o else σ.st m, cnt := σ.cnt + 1 } s ∧ G'.mu (site, σ.cnt) = some a := by
  have hm : G.mu (site, σ.cnt) = Option.none := by
    cases e : G.mu (site, σ.cnt) with
    | none => rfl
    | some a => exact absurd (r.inv.cnt _ _ e) (Nat.lt_irrefl _)
  have keep : ∀ b t o', G.kn b = some (t, o') → t ≠ .pin → (G.newObj a (site, σ.cnt) ob).kn b = some (t, o') := fun b t o' e ht => Gh.set_keep e fun t₀ o₀ w => by rw [h] at w; cases w; exact Ne.symm ht
  have lx : LeX (· = a) G (G.newObj a (site, σ.cnt) ob) := ⟨fun b o e => keep _ _ _ e Tag.noConfusion, fun b o hb e => by
    show (G.set a _ ob).kn b = _
    rw [Gh.set_ne hb]; exact e, fun m a e => by
    show (if m = (site, σ.cnt) then _ else _) = _
    rw [if_neg]
    · exact e
    · rintro rfl
      rw [hm] at e
      exact absurd e (by simp), rfl⟩
  refine ⟨_, lx, ⟨⟨fun b o' hb e => keep _ _ _ (r.inv.base b o' hb e) Tag.noConfusion, ?_, ?_, ?_, r.inv.sys.turn h Tag.noConfusion⟩, ?_, r.os, r.gens⟩, if_pos rfl⟩
  · exact r.inv.frames.mono (lx.vw W) fun b t o' e ⟨_, _, q⟩ => keep _ _ _ e (by rcases q with rfl | ⟨_, rfl⟩ <;> exact Tag.noConfusion)
  · intro m o' e
    dsimp only at e
    split at e
    · rename_i hm'
      subst hm'
      cases e
      exact ⟨_, ob, if_pos rfl, Gh.set_self, ho.mono (lx.vw W)⟩
    · rename_i hm'
      obtain ⟨b, ob', h1, h2, h3⟩ := r.inv.objs m o' e
      exact ⟨b, ob', (if_neg hm').trans h1, keep _ _ _ h2 Tag.noConfusion, h3.mono (lx.vw W)⟩
  · intro m b e
    have e : (if m = (site, σ.cnt) then some a else G.mu m) = some b := e
    split at e
    · rename_i hm'; subst hm'; exact Nat.lt_succ_self _
    · exact Nat.lt_succ_of_lt (r.inv.cnt m b e)
  · intro b t o' e
    by_cases hb : b = a
    · subst hb
      have e : (G.set b (.obj (site, σ.cnt)) ob).kn b = some (t, o') := e
      rw [Gh.set_self] at e
      cases e
      exact r.sub _ _ _ h
    · have e : (G.set a (.obj (site, σ.cnt)) ob).kn b = some (t, o') := e
      rw [Gh.set_ne hb] at e
      exact r.sub _ _ _ e

/-- the same, where the list will change -/
theorem SimE.compLive (site : Nat) {target iter elt : Expr} {ifs : List Expr} {scope : Scope} {pos : Pos} {fi : M (List AV × (St → Prop))} {tgt : AV → M Unit} {ft : M Bool} {fe : M AV} (Sx : SubSc X scope Xi) (hI : SimIt W X n iter target fi) (hT : SimT W Xi n target tgt) (hC : SimC W Xi n ifs ft) (hE : SimE W Xi n elt fe)
    (hs : ∀ env x, foldedSetIterable iter env x = pure x) :
    SimE W X n (.ListComp elt [⟨target, iter, ifs, 0⟩] scope pos) (M.bind (compM Xi.names.length fi tgt ft fe) fun l => M.bind (allocA site (.list l)) fun h => M.pure (.ref h)) := by
  intro env A σ b σ' G s P hA r hf
  obtain ⟨res, σ1, e1, hf⟩ := M.bind_some hf
  cases hf
  obtain ⟨⟨l, C⟩, σ2, e2, e1⟩ := M.bind_some e1
  obtain ⟨cl, hcl1, hcl2⟩ := closureFor_is (scope := scope) (env := env) fun x hx => P.cells r (Sx.free x hx)
  show wpAny W.M A (eval (.ListComp elt [⟨target, iter, ifs, 0⟩] scope pos) env) _ _ s
  rw [eval_ListComp]
  refine wpAny_comprehension_free (use := Option.none) rfl (hs env) hcl1 Sx.kind Sx.loc ?_
  refine wpAny_mono (hI env A σ l C σ2 G s P hA r e2) (fun x s1 h1 => wpAny_mono h1 (fun it s2 ⟨S, G2, le2, r2, hc, t2, j2, i2⟩ => ?_) fun _ _ e => e.elim) fun _ _ e => e.elim
  subst hc
  have hf' : ∃ σ3, M.bind (pushA Xi.names.length) (fun _ => compA S.C tgt ft fe l []) σ2 = some (res, σ3) ∧ { σ3 with fs := σ3.fs.tail } = σ1 := by
    obtain ⟨⟨⟩, σ4, q1, q2⟩ := M.bind_some e1
    obtain ⟨acc, σ5, q3, q4⟩ := M.bind_some q2
    obtain ⟨⟨⟩, σ6, q5, q6⟩ := M.bind_some q4
    cases q5; cases q6
    refine ⟨σ5, ?_, rfl⟩
    unfold M.bind
    rw [q1]
    exact q3
  obtain ⟨σ3, h3, h4⟩ := hf'
  subst h4
  refine comp_block (RR := fun acc C => compPost W.M A (fun _ _ => False) Option.none (Post W (Rep W) G _ _) acc C) Sx hT hC hE hA S P le2 i2 r2 t2 j2 hcl2 h3 ?_
  intro D C s' m oC G' hn le' r' ⟨ys, k, hD, hy⟩ hD0 hDC hC hC0
  refine ⟨m, hn.ns (r'.sub _ _ _ hC), fun h' hs' => ?_⟩
  obtain ⟨r6, lx6⟩ := r'.drop (h' := h') (tk := s'.toks) hC fun b x hb e => (hs'.2 b hb).trans e
  obtain ⟨G7, lx7, r7, m7⟩ := r6.wake (o := .list res) (lx6.pin _ _ hDC hD) site ⟨ys, k, rfl, repsX hy lx6⟩
  exact ⟨_, LeX.le (LeX.le le' lx6 (fun a ha o => by subst ha; exact hC0 o)) lx7 (fun a ha o => by subst ha; exact hD0 o), r7, D, rfl, m7⟩

/-- a list comprehension whose value goes into a local of the same line -/
theorem SimS.compUse {target iter elt : Expr} {ifs : List Expr} {scope : Scope} {pos ypos spos : Pos} {y : Str} {i : Nat} {fi : M (List AV × (St → Prop))} {tgt : AV → M Unit} {ft : M Bool} {fe : M AV} (Sx : SubSc X scope Xi) (hI : SimIt W X n iter target fi) (hT : SimT W Xi n target tgt) (hC : SimC W Xi n ifs ft) (hE : SimE W Xi n elt fe)
    (hs : ∀ env x, foldedSetIterable iter env x = pure x) (hi : X.names[i]? = some (y, .local)) (hl : X.scope.names.lookup y = some .local)
    (hsw : ∀ env : Env, env.scope = X.scope → swapsWith (.ListComp elt [⟨target, iter, ifs, 0⟩] scope pos) (some (.Name y ypos)) spos.line env = pure true) :
    SimS W X n (.Assign [.Name y ypos] (.ListComp elt [⟨target, iter, ifs, 0⟩] scope pos) spos) (M.bind (M.bind (compM Xi.names.length fi tgt ft fe) fun l => M.pure (.lst l)) fun v => M.bind (stv i v) fun _ => M.pure .next) := by
  intro env A σ b σ' G s P hA r hf
  obtain ⟨v, σ0, hf, hst'⟩ := M.bind_some hf
  obtain ⟨⟨⟩, σx, hst, hf2⟩ := M.bind_some hst'
  obtain ⟨res, σ1, e1, hf⟩ := M.bind_some hf
  injection hf with hf
  injection hf with hf hf'
  subst hf hf'
  injection hf2 with hf2
  injection hf2 with hf2 hf2'
  subst hf2 hf2'
  obtain ⟨⟨l, C⟩, σ2, e2, e1⟩ := M.bind_some e1
  obtain ⟨cl, hcl1, hcl2⟩ := closureFor_is (scope := scope) (env := env) fun x hx => P.cells r (Sx.free x hx)
  show wpAny W.M A (exec (.Assign [.Name y ypos] (.ListComp elt [⟨target, iter, ifs, 0⟩] scope pos) spos) env) _ _ s
  rw [exec_Assign_Name_used _ _ _ _ (hsw env P.scope)]
  refine wpAny_bind (wpAny_standAt ?_)
  refine wpAny_bind ?_
  show wpAny W.M A (do
    let _ ← comprehension (.ListComp elt [⟨target, iter, ifs, 0⟩] scope pos) scope env (firstIterPos [⟨target, iter, ifs, 0⟩] pos) (newList []) (firstAsync [⟨target, iter, ifs, 0⟩]) (firstIter [⟨target, iter, ifs, 0⟩] env) (some (assign (.Name y ypos) env))) _ _ s
  refine wpAny_bind (wpAny_comprehension_free (use := some (assign (.Name y ypos) env)) rfl (hs env) hcl1 Sx.kind Sx.loc ?_)
  refine wpAny_mono (hI env A σ l C σ2 G s P hA r e2) (fun x s1 h1 => wpAny_mono h1 (fun it s2 ⟨S, G2, le2, r2, hc, t2, j2, i2⟩ => ?_) fun _ _ e => e.elim) fun _ _ e => e.elim
  subst hc
  have hf' : ∃ σ3, M.bind (pushA Xi.names.length) (fun _ => compA S.C tgt ft fe l []) σ2 = some (res, σ3) ∧ { σ3 with fs := σ3.fs.tail } = σ1 := by
    obtain ⟨⟨⟩, σ4, q1, q2⟩ := M.bind_some e1
    obtain ⟨acc, σ5, q3, q4⟩ := M.bind_some q2
    obtain ⟨⟨⟩, σ6, q5, q6⟩ := M.bind_some q4
    cases q5; cases q6
    refine ⟨σ5, ?_, rfl⟩
    unfold M.bind
    rw [q1]
    exact q3
  obtain ⟨σ3, h3, h4⟩ := hf'
  subst h4
  refine comp_block (RR := fun acc C => compPost W.M A (fun _ _ => False) (some (assign (.Name y ypos) env)) _ acc C) Sx hT hC hE hA S P le2 i2 r2 t2 j2 hcl2 h3 ?_
  intro D C s' m oC G' hn le' r' ⟨ys, k, hD, hy⟩ hD0 hDC hC hC0
  show wpAny W.M A (assign (.Name y ypos) env (.ref D)) _ _ s'
  obtain ⟨r7, lx7⟩ := r'.still hD
  have le7 := LeX.le le' lx7 (fun a ha o => by subst ha; exact hD0 o)
  have p7 : Rep W _ (.lst res) (.ref D) := ⟨D, ys, k, rfl, Gh.z_iff.mpr Gh.set_self, repsX hy lx7⟩
  refine wpAny_assign_Name (wpAny_mono (store_local hi hl (P.mono le7) r7 p7 hst) (fun _ s'' ⟨G'', le'', r'', _⟩ => ?_) fun _ _ e => e.elim)
  have hC'' := le''.pin _ _ (lx7.pin _ _ (Ne.symm hDC) hC)
  refine ⟨m, hn.ns (r''.sub _ _ _ hC''), fun h' hs' => ?_⟩
  obtain ⟨r6, lx6⟩ := r''.drop (h' := h') (tk := s''.toks) hC'' fun b x hb e => (hs'.2 b hb).trans e
  exact wpAny_pure (wpAny_pure ⟨_, LeX.le (le7.trans le'') lx6 (fun a ha o => by subst ha; exact hC0 o), r6, trivial⟩)
end
end Mine
end

section
open PySem PySem.W PySem.Calls PyProof.Rows
set_option Elab.async false
set_option maxRecDepth 20000
namespace Mine

theorem bindL_lookup (kd : Str → Option NameKind) : ∀ (b : List (Str × Value)) (m : Str → Option Value) (x : Str), (b.map (·.1)).Nodup → bindL kd b m x = if kd x = some .local then (b.lookup x).or (m x) else m x
  | [], m, x, _ => by simp [bindL]
  | (y, v) :: r, m, x, nd => by
    rw [List.map_cons, List.nodup_cons] at nd
    unfold bindL
    rw [bindL_lookup kd r _ x nd.2]
    by_cases hx : x = y
    · subst hx
      have hn : r.lookup x = none := by
        rw [List.lookup_eq_none_iff]
        intro p hp
        have : p.1 ≠ x := fun e => nd.1 (by rw [← e]; exact List.mem_map_of_mem (f := (·.1)) hp)
        simpa using fun e => this e.symm
      by_cases hk : kd x = some .local
      · simp [hk, hn]
      · simp [hk]
    · have hb : (x == y) = false := by simpa using hx
      rw [List.lookup_cons, hb]
      by_cases hy : kd y = some .local
      · simp [hy, hx]
      · simp [hy]
theorem bindC_lookup (kd : Str → Option NameKind) : ∀ (b : List (Str × Value)) (m : Str → Option Value) (x : Str), (b.map (·.1)).Nodup → bindC kd b m x = if kd x = some .local then m x else (b.lookup x).or (m x)
  | [], m, x, _ => by simp [bindC]
  | (y, v) :: r, m, x, nd => by
    rw [List.map_cons, List.nodup_cons] at nd
    unfold bindC
    rw [bindC_lookup kd r _ x nd.2]
    by_cases hx : x = y
    · subst hx
      have hn : r.lookup x = none := by
        rw [List.lookup_eq_none_iff]
        intro p hp
        have : p.1 ≠ x := fun e => nd.1 (by rw [← e]; exact List.mem_map_of_mem (f := (·.1)) hp)
        simpa using fun e => this e.symm
      by_cases hk : kd x = some .local
      · simp [hk]
      · simp [hk, hn]
    · have hb : (x == y) = false := by simpa using hx
      rw [List.lookup_cons, hb]
      by_cases hy : kd y = some .local
      · simp [hy]
      · simp [hy, hx]

/-- a frame's slots at the start -/
def initF (names : List (Str × NameKind)) (b : List (Str × AV)) : Frm := names.map fun p => b.lookup p.1

theorem zip_lookup {V : Vw} : ∀ (ps : List Str) (vals : List AV) (ms : List Value), RepVs V vals ms → ∀ x v, (ps.zip vals).lookup x = some v → ∃ mv, (ps.zip ms).lookup x = some mv ∧ RepV V v mv
  | [], _, _, _, x, v, e => by simp at e
  | p :: ps, [], _, _, x, v, e => by simp at e
  | p :: ps, a :: vals, _, ⟨mv, r, q, h1, h2⟩, x, v, e => by
    subst q
    simp only [List.zip_cons_cons, List.lookup_cons] at e ⊢
    cases hx : x == p with
    | true => rw [hx] at e; cases e; exact ⟨mv, rfl, h1⟩
    | false => rw [hx] at e; exact zip_lookup ps vals r h2 x v e

structure FnSc (X : Sc) (ps : List Str) : Prop where
  kind : X.scope.kind = .function
  nd : (X.names.map (·.1)).Nodup
  pnd : ps.Nodup
  loc : ∀ y ∈ X.names, y.2 = .local ∨ y.2 = .cell
  sc : ∀ y ∈ X.names, X.scope.names.lookup y.1 = some y.2
  mem : ∀ y ∈ X.names, y ∈ X.scope.names
  up : X.up = []
  bot : X.bot = []
  ps : ∀ p ∈ ps, (p, NameKind.local) ∈ X.names ∨ (p, NameKind.cell) ∈ X.names

theorem cellsFrom_mem : ∀ (names : List (Str × NameKind)) (n : Nat) (acc : List (Str × Addr)) (x : Str), ((x, NameKind.cell) ∈ names ∨ ∃ c, (x, c) ∈ acc) → ∃ c, (x, c) ∈ cellsFrom n names acc
  | [], n, acc, x, h => by rcases h with h | h; simp at h; exact h
  | (y, k) :: r, n, acc, x, h => by
    unfold cellsFrom
    split
    · rename_i hk
      refine cellsFrom_mem r _ _ x ?_
      rcases h with h | ⟨c, h⟩
      · rcases List.mem_cons.mp h with h | h
        · cases h; exact .inr ⟨_, List.mem_cons_self ..⟩
        · exact .inl h
      · exact .inr ⟨c, List.mem_cons_of_mem _ h⟩
    · rename_i hk
      refine cellsFrom_mem r _ _ x ?_
      rcases h with h | h
      · rcases List.mem_cons.mp h with h | h
        · cases h; exact absurd (by decide) hk
        · exact .inl h
      · exact .inr h
theorem mem_lookup_isSome {cs : List (Str × Addr)} {x : Str} (h : ∃ c, (x, c) ∈ cs) : ∃ c, cs.lookup x = some c := by
  obtain ⟨c, h⟩ := h
  induction cs with
  | nil => simp at h
  | cons p r ih =>
    obtain ⟨y, b⟩ := p
    rw [List.lookup_cons]
    cases e : x == y with
    | true => exact ⟨b, rfl⟩
    | false =>
      rcases List.mem_cons.mp h with q | q
      · cases q; simp at e
      · exact ih q

def cellSlot (names : List (Str × NameKind)) (cs : List (Str × Addr)) (b : Addr) : Option Nat := names.findIdx? fun p => p.2 == .cell && cs.lookup p.1 == some b

def Gh.enter (G : Gh) (X : Sc) (L : Addr) (cs : List (Str × Addr)) (h : Heap) : Gh :=
  { kn := fun b => if b = L then (h.get? b).map (Tag.loc G.fr.length, ·) else match cellSlot X.names cs b with
      | some i => (h.get? b).map (Tag.cel G.fr.length i, ·)
      | none => G.kn b
    mu := G.mu
    fr := ⟨X.names, L, cs⟩ :: G.fr }

theorem R.enter {W : Wd} {X : Sc} {ps : List Str} {G : Gh} {σ : St} {s s' : Shared} {vals : List AV} {ms : List Value} {env : Env} (r : R W G σ s) (F : FnSc X ps) (hne : G.fr ≠ []) (hv : Reps W G vals ms) (hlen : ps.length = vals.length)
    (hsc : env.scope = X.scope) (hcs : env.cells = cellsFrom (env.locals + 1) X.scope.names [])
    (x : InCallC s env.locals (bindL env.kindOf (ps.zip ms) fun _ => none) env.cells (bindC env.kindOf (ps.zip ms) fun _ => none) s') :
    R W (G.enter X env.locals env.cells s'.heap) { σ with fs := initF X.names (ps.zip vals) :: σ.fs } s' ∧ (∀ a t o, G.kn a = some (t, o) → (G.enter X env.locals env.cells s'.heap).kn a = some (t, o)) := by
  obtain ⟨hh, tk, hs⟩ := x.toInCall.same
  have hfresh := x.toInCall.fresh
  have hzip : ((ps.zip ms).map (·.1)).Nodup := by
    rw [List.map_fst_zip (by have := hv.length; omega)]
    exact F.pnd
  have hkd : ∀ y, env.kindOf y = X.scope.names.lookup y := fun y => by unfold Env.kindOf; rw [hsc]
  obtain ⟨oL, hoL, hnL⟩ := NsOb.of x.toInCall.ns
  have hcell : ∀ (i : Nat) y, X.names[i]? = some (y, NameKind.cell) → ∃ c, env.cells.lookup y = some c := fun i y hi => by
    rw [hcs]
    exact mem_lookup_isSome (cellsFrom_mem _ _ _ _ (.inl (F.mem _ (List.mem_of_getElem? hi))))
  have hslot : ∀ (i : Nat) y c, X.names[i]? = some (y, NameKind.cell) → env.cells.lookup y = some c → cellSlot X.names env.cells c = some i := fun i y c hi hc => by
    unfold cellSlot
    obtain ⟨hl, he⟩ := List.getElem?_eq_some_iff.mp hi
    rw [List.findIdx?_eq_some_iff_getElem]
    refine ⟨hl, by rw [he]; simp [hc], fun j hj => ?_⟩
    simp only [Bool.and_eq_true, beq_iff_eq, not_and]
    intro hk hc'
    have e : X.names[j].1 = y := name_of_addr x.apart (mem_of_lookup hc') (mem_of_lookup hc)
    have : j = i := nodup_at F.nd (i := j) (j := i) (x := y) (a := X.names[j].2) (b := NameKind.cell) (by rw [List.getElem?_eq_getElem (by omega)]; rw [← e]) hi
    omega
  have hold : ∀ b, b < s.heap.objs.size → b ≠ env.locals ∧ cellSlot X.names env.cells b = none := fun b hb => by
    refine ⟨fun e => by omega, ?_⟩
    unfold cellSlot
    rw [List.findIdx?_eq_none_iff]
    intro p _
    simp only [Bool.and_eq_false_iff, beq_eq_false_iff_ne]
    right
    intro e
    exact Nat.lt_irrefl _ (Nat.lt_of_lt_of_le (Nat.lt_of_lt_of_le hb hfresh) (Nat.le_of_lt (x.above _ _ (mem_of_lookup e))))
  have hk : ∀ a t o, G.kn a = some (t, o) → (G.enter X env.locals env.cells s'.heap).kn a = some (t, o) := fun a t o e => by
    obtain ⟨h1, h2⟩ := hold a (Heap.lt_size (r.sub _ _ _ e))
    show (if a = env.locals then _ else _) = _
    rw [if_neg h1, h2]; exact e
  have hvw : (G.vw W).Le ((G.enter X env.locals env.cells s'.heap).vw W) := vw_le_fr (fun a o e => hk _ _ _ e) (fun n a e => e) (by
    show (_ :: G.fr).getLast? = _
    cases h : G.fr with
    | nil => exact absurd h hne
    | cons a l => rfl)
  have hv' := RepVs.mono hvw _ _ hv
  have hF : FrameOK ((G.enter X env.locals env.cells s'.heap).vw W) (G.enter X env.locals env.cells s'.heap).kn G.fr.length ⟨X.names, env.locals, env.cells⟩ (initF X.names (ps.zip vals)) := by
    refine ⟨F.nd, by simp [initF], ⟨oL, _, ?_, hnL, fun i y hi v e => ?_⟩, fun i y hi => ?_⟩
    · show (if env.locals = env.locals then _ else _) = _
      rw [if_pos rfl, hoL]; rfl
    · have e : (initF X.names (ps.zip vals))[i]? = some (some v) := e
      unfold initF at e
      rw [List.getElem?_map, hi] at e
      have e : (ps.zip vals).lookup y = some v := Option.some.inj e
      obtain ⟨mv, e1, e2⟩ := zip_lookup ps vals ms hv' y v e
      refine ⟨mv, ?_, e2⟩
      rw [bindL_lookup _ _ _ _ hzip, hkd, F.sc _ (List.mem_of_getElem? hi), e1]
      simp
    · obtain ⟨c, hc⟩ := hcell i y hi
      obtain ⟨oc, ho, hd⟩ := x.cell y c hc
      refine ⟨c, oc, _, hc, ?_, hd, fun v e => ?_⟩
      · have hcl : c ≠ env.locals := Nat.ne_of_gt (x.above _ _ (mem_of_lookup hc))
        show (if c = env.locals then _ else _) = _
        rw [if_neg hcl, hslot i y c hi hc, ho]; rfl
      · unfold initF at e
        rw [List.getElem?_map, hi] at e
        have e : (ps.zip vals).lookup y = some v := Option.some.inj e
        obtain ⟨mv, e1, e2⟩ := zip_lookup ps vals ms hv' y v e
        refine ⟨mv, ?_, e2⟩
        rw [bindC_lookup _ _ _ _ hzip, hkd, F.sc _ (List.mem_of_getElem? hi), e1]
        simp
  have hsy : SysK (G.enter X env.locals env.cells s'.heap).kn := by
    obtain ⟨⟨oc, hc⟩, hz⟩ := r.inv.sys
    refine ⟨⟨oc, hk _ _ _ hc⟩, fun t o e => ?_⟩
    have hlt : sysModules < s.heap.objs.size := Nat.lt_trans (show sysModules < cStatics by decide) (Heap.lt_size (r.sub _ _ _ hc))
    obtain ⟨h1, h2⟩ := hold _ hlt
    have e : (if sysModules = env.locals then _ else _) = some (t, o) := e
    rw [if_neg h1, h2] at e
    exact hz _ _ e
  refine ⟨r.push hk rfl rfl hne hF (fun a t o e => ?_) (by rw [hs]) (by rw [hs]) hsy, hk⟩
  have e : (if a = env.locals then (s'.heap.get? a).map (Tag.loc G.fr.length, ·) else match cellSlot X.names env.cells a with
      | some i => (s'.heap.get? a).map (Tag.cel G.fr.length i, ·)
      | none => G.kn a) = some (t, o) := e
  split at e
  · obtain ⟨o', e1, e2⟩ := Option.map_eq_some_iff.mp e
    cases e2; exact e1
  · split at e
    · obtain ⟨o', e1, e2⟩ := Option.map_eq_some_iff.mp e
      cases e2; exact e1
    · exact x.toInCall.keep _ _ (r.sub _ _ _ e)

theorem R.enterEnv {W : Wd} {X : Sc} {ps : List Str} {G : Gh} {s' : Shared} {env : Env} (F : FnSc X ps) (hsc : env.scope = X.scope) (hg : env.globals = mainGlobals) (hb : env.builtins = builtinsNs) (hf : ∃ f, env.frame = some f) :
    EnvOK X env (G.enter X env.locals env.cells s'.heap) :=
  ⟨hsc, F.kind, hg, hb, hf, ⟨_, _, rfl, rfl, rfl, fun _ _ => rfl⟩, fun x k i h => by rw [F.up] at h; simp at h, fun x i h => by rw [F.bot] at h; simp at h⟩

structure FnOK (W : Wd) (a : Addr) (X : Sc) (ps : List Str) (body : List Stmt) (fd : FuncData) : Prop where
  at_ : ∃ o, W.K.lookup a = some o ∧ o.data = .func fd
  body : fd.body = .stmts body
  clo : fd.closure = []
  sc : fd.scope = X.scope
  glob : fd.globals = mainGlobals
  bui : fd.builtins = builtinsNs
  co : fd.scope.isCoroutine = false
  gen : fd.scope.isGenerator = false
  code : ∃ c o vs t, fd.code = .ref c ∧ W.K.lookup c = some o ∧ o.data = .fields vs ∧ vs[1]? = some (.str fd.qualname t)
  F : FnSc X ps

def SimBind (W : Wd) (fd : FuncData) (ps : List Str) (ks : List Str) (f : List AV → List AV → Option (List AV)) : Prop :=
  ∀ (A : Around) (σ : St) (G : Gh) (s : Shared) (args kws : List AV) (ms ks' : List Value) (vals : List AV), AOK 0 A → R W G σ s → Reps W G args ms → Reps W G kws ks' → f args kws = some vals →
    wpAny W.M A (bindArgs fd ⟨ms, ks.zip ks'⟩) (fun binds s' => ∃ vs G', binds = ps.zip vs ∧ G.Le G' ∧ R W G' σ s' ∧ Reps W G' vals vs ∧ ps.length = vals.length) (fun _ _ => False) s

def fnA (names : List (Str × NameKind)) (ps : List Str) (fb : M AFl) (vals : List AV) : M AV := fun σ => match fb { σ with fs := initF names (ps.zip vals) :: σ.fs } with
  | some (fl, σ') => some (match fl with
    | .ret v => v
    | _ => .none, { σ' with fs := σ'.fs.tail })
  | none => none

def CP (Q : Value → Shared → Prop) : Result → Shared → Prop := fun r s' => match r with
  | .ok (.ret v) => Q v s'
  | .ok _ => False
  | .error _ => False
theorem CP.call {M : Model} {A : Around} {f : Value} {pos : List Value} {kw : List (Str × Value)} {Q : Value → Shared → Prop} {s : Shared} (h : codeAny M A (.call f ⟨pos, kw⟩) (CP Q) s) : wpAny M A (call f pos kw) Q (fun _ _ => False) s :=
  wpAny_call (codeAny_mono h fun r s' q => by rcases r with e | (v | _ | _ | _) <;> exact q)
theorem CP.mono {M : Model} {A : Around} {c : Code} {Q Q' : Value → Shared → Prop} {s : Shared} (h : codeAny M A c (CP Q) s) (hq : ∀ v s', Q v s' → Q' v s') : codeAny M A c (CP Q') s :=
  codeAny_mono h fun r s' q => by rcases r with e | (v | _ | _ | _) <;> first | exact hq _ _ q | exact q

def SimCall (W : Wd) (n : Nat) (f : Value) (ks : List Str) (g : List AV → List AV → M AV) : Prop :=
  ∀ A σ σ' G s args kws ms ks' v, AOK n A → R W G σ s → G.fr ≠ [] → Reps W G args ms → Reps W G kws ks' → g args kws σ = some (v, σ') → codeAny W.M A (.call f ⟨ms, ks.zip ks'⟩) (CP (Post W (Rep W) G σ' v)) s

theorem AOK.deeper {n : Nat} {A : Around} {env : Env} (h : AOK (n + 1) A) : AOK n (A.deeper env) :=
  ⟨h.hd, by show A.depth + 1 + 8 * n ≤ 900; have := h.dep; omega, by show A.units + 3 + 100 * n ≤ 9000; have := h.un; omega⟩
theorem AOK.in1 {n : Nat} {A : Around} (h : AOK (n + 1) A) : AOK n A.in1 :=
  ⟨h.hd, by show A.depth + 8 * n ≤ 900; have := h.dep; omega, by show A.units + 1 + 100 * n ≤ 9000; have := h.un; omega⟩
theorem AOK.less {n m : Nat} {A : Around} (h : AOK n A) (hm : m ≤ n) : AOK m A :=
  ⟨h.hd, by have := h.dep; omega, by have := h.un; omega⟩
theorem AOK.room1 {n : Nat} {A : Around} (h : AOK n A) : A.depth < recursionLimit := by
  have := h.dep; unfold recursionLimit; omega
theorem AOK.units1 {n : Nat} {A : Around} (h : AOK n A) : A.units < cLine := by
  have := h.un; unfold cLine; omega

section
variable {W : Wd} {X : Sc} {n : Nat}

theorem SimCall.fn (ok : W.Ok) {a : Addr} {ps ks : List Str} {body : List Stmt} {fd : FuncData} {fb : M AFl} {fbind : List AV → List AV → Option (List AV)} (F : FnOK W a X ps body fd) (hb : SimBind W fd ps ks fbind) (hB : SimX W X n body fb) :
    SimCall W (n + 1) (.ref a) ks (fun args kws => match fbind args kws with
      | some vals => fnA X.names ps fb vals
      | none => M.fail) := by
  intro A σ σ' G s args kws ms ks' v hA r hne hm hk hf
  obtain ⟨o, ho, hd⟩ := F.at_
  cases hvals : fbind args kws with
  | none => simp only [hvals] at hf; cases hf
  | some vals =>
    simp only [hvals] at hf
    refine codeAny_call_function hA.room1 (r.kin ok _ _ ho) hd F.co F.gen F.body ?_ ?_
    · obtain ⟨c, oc, vs, t, h1, h2, h3, h4⟩ := F.code
      exact ⟨c, oc, vs, t, h1, r.kin ok _ _ h2, h3, h4⟩
    · refine wpAny_mono (hb A.in1 σ G s args kws ms ks' vals (hA.in1.less (Nat.zero_le _)) r hm hk hvals) (fun binds s1 ⟨vs, G1, e1, l1, r1, p1, len1⟩ => ?_) fun _ _ e => e.elim
      subst e1
      rw [F.clo]
      have hlen := p1.length
      refine wpAny_newFunctionEnv_cells (by rw [F.sc]; exact F.F.kind) (fun x hx => ?_) fun env he s2 x => ?_
      · have hx1 : x.1 ∈ ps := (List.of_mem_zip hx).1
        rw [F.sc]
        rcases F.F.ps _ hx1 with h | h
        · exact .inl (F.F.sc _ h)
        · exact .inr ⟨F.F.sc _ h, by
            obtain ⟨c, hc⟩ := mem_lookup_isSome (cellsFrom_mem X.scope.names (s1.heap.objs.size + 1) [] x.1 (.inl (F.F.mem _ h)))
            rw [hc]; rfl⟩
      · have hsc : env.scope = X.scope := by rw [he]; exact F.sc
        have hloc : env.locals = s1.heap.objs.size := by rw [he]; rfl
        have hcs : env.cells = cellsFrom (env.locals + 1) X.scope.names [] := by rw [hloc, he, ← F.sc]; rfl
        have hne1 : G1.fr ≠ [] := by rw [l1.fr]; exact hne
        obtain ⟨r2, k2⟩ := r1.enter F.F hne1 p1 len1 hsc hcs x
        have P2 : EnvOK X env (G1.enter X env.locals env.cells s2.heap) := R.enterEnv (W := W) F.F hsc (by rw [he]; exact F.glob) (by rw [he]; exact F.bui) (by rw [he]; exact ⟨_, rfl⟩)
        refine ⟨r2.lim ok, codeAny_func ?_⟩
        unfold fnA at hf
        split at hf
        · rename_i fl σ2 hfb
          cases hf
          refine wpAny_mono (hB env (A.deeper env) _ _ _ _ s2 P2 hA.deeper r2 hfb) (fun f s3 ⟨G3, l3, r3, p3⟩ => ?_) fun _ _ e => e.elim
          have fr3 : G3.fr = ⟨X.names, env.locals, env.cells⟩ :: G.fr := by rw [l3.fr]; show _ :: G1.fr = _; rw [l1.fr]
          refine ⟨G3.pop G.fr, ⟨fun b o e => l3.z _ _ (k2 _ _ _ (l1.z _ _ e)), fun b o e => l3.pin _ _ (k2 _ _ _ (l1.pin _ _ e)), fun m b e => l3.mu _ _ (l1.mu _ _ e), rfl⟩, r3.popF fr3 hne, ?_⟩
          cases fl <;> cases f <;> first | exact p3.elim | rfl | exact Rep.popF p3 fr3 hne
        · cases hf

/-- a def called with just its parameters -/
theorem SimBind.plain {fd : FuncData} {ps : List Str} (k : Nat) (hk : ps.length = k) (h : ∀ ms : List Value, ms.length = k → bindArgs fd ⟨ms, []⟩ = pure (ps.zip ms)) :
    SimBind W fd ps [] (fun args _ => if args.length = k then some args else none) := by
  intro A σ G s args kws ms ks' vals hA r hm hk' hf
  dsimp only at hf
  split at hf
  · rename_i hl
    cases hf
    have := hm.length
    show wpAny W.M A (bindArgs fd ⟨ms, []⟩) _ _ s
    rw [h ms (by omega)]
    exact wpAny_pure ⟨ms, G, rfl, .refl _, r, hm, by omega⟩
  · cases hf
end
end Mine
end

section
open PySem PySem.W PySem.Calls PyProof.Rows
set_option Elab.async false
set_option maxRecDepth 20000
namespace Mine

/-! keys -/
section
variable {κ : Type} [DecidableEq κ]
def getK (l : List (κ × AV)) (k : κ) : Option AV := (l.find? fun kv => kv.1 = k).map (·.2)
def setK (l : List (κ × AV)) (k : κ) (v : AV) : List (κ × AV) := if l.any (fun kv => kv.1 = k) then l.map (fun kv => if kv.1 = k then (kv.1, v) else kv) else l ++ [(k, v)]
def delK (l : List (κ × AV)) (k : κ) : List (κ × AV) := l.filter fun kv => decide (kv.1 ≠ k)

theorem RepKV.get {V : Vw} : ∀ {l : List (κ × AV)} {kvs}, RepKV V l kvs → ∀ {k a}, getK l k = some a → ∃ v, valueAt kvs k = some v ∧ RepV V a v
  | [], _, _, k, a, e => by simp [getK] at e
  | (k', b) :: l, _, ⟨v, r, q, h1, h2⟩, k, a, e => by
    subst q
    unfold getK valueAt at *
    rw [List.find?_cons] at e ⊢
    by_cases hk : k' = k
    · simp [hk] at e ⊢; subst e; exact h1
    · simp only [hk, decide_false] at e ⊢; exact RepKV.get h2 e
theorem RepKV.getNone {V : Vw} : ∀ {l : List (κ × AV)} {kvs}, RepKV V l kvs → ∀ {k}, getK l k = none → valueAt kvs k = none
  | [], _, h, k, e => by cases h; rfl
  | (k', b) :: l, _, ⟨v, r, q, h1, h2⟩, k, e => by
    subst q
    unfold getK valueAt at *
    rw [List.find?_cons] at e ⊢
    by_cases hk : k' = k
    · simp [hk] at e
    · simp only [hk, decide_false] at e ⊢; exact RepKV.getNone h2 e
theorem RepKV.any {V : Vw} : ∀ {l : List (κ × AV)} {kvs}, RepKV V l kvs → ∀ k, kvs.any (fun kv => kv.1 = k) = l.any (fun kv => kv.1 = k)
  | [], _, h, k => by cases h; rfl
  | (k', b) :: l, _, ⟨v, r, q, h1, h2⟩, k => by subst q; simp [RepKV.any h2 k]
theorem RepKV.map {V : Vw} {a : AV} {x : Value} (hx : RepV V a x) (k : κ) : ∀ {l : List (κ × AV)} {kvs}, RepKV V l kvs → RepKV V (l.map fun kv => if kv.1 = k then (kv.1, a) else kv) (kvs.map fun kv => if kv.1 = k then (kv.1, x) else kv)
  | [], _, h => by cases h; rfl
  | (k', b) :: l, _, ⟨v, r, q, h1, h2⟩ => by
    subst q
    simp only [List.map_cons]
    by_cases hk : k' = k
    · rw [if_pos hk, if_pos hk]; exact ⟨x, _, rfl, hx, RepKV.map hx k h2⟩
    · rw [if_neg hk, if_neg hk]; exact ⟨v, _, rfl, h1, RepKV.map hx k h2⟩
omit [DecidableEq κ] in
theorem RepKV.append {V : Vw} : ∀ {l l' : List (κ × AV)} {kvs kvs'}, RepKV V l kvs → RepKV V l' kvs' → RepKV V (l ++ l') (kvs ++ kvs')
  | [], _, _, _, h, h' => by cases h; exact h'
  | _ :: _, _, _, _, ⟨v, r, q, h1, h2⟩, h' => by subst q; exact ⟨v, _, rfl, h1, RepKV.append h2 h'⟩
theorem RepKV.set {V : Vw} {a : AV} {x : Value} (hx : RepV V a x) (k : κ) {l : List (κ × AV)} {kvs} (h : RepKV V l kvs) : RepKV V (setK l k a) (stored kvs k x) := by
  unfold setK stored
  rw [h.any k]
  split
  · exact h.map hx k
  · exact h.append ⟨x, [], rfl, hx, rfl⟩
theorem RepKV.del {V : Vw} (k : κ) : ∀ {l : List (κ × AV)} {kvs}, RepKV V l kvs → RepKV V (delK l k) (without kvs k)
  | [], _, h => by cases h; rfl
  | (k', b) :: l, _, ⟨v, r, q, h1, h2⟩ => by
    subst q
    unfold delK without
    simp only [List.filter_cons]
    by_cases hk : k' = k
    · simp only [hk, ne_eq, not_true_eq_false, decide_false, Bool.false_eq_true, if_false]; exact RepKV.del k h2
    · simp only [hk, ne_eq, not_false_eq_true, decide_true, if_true]; exact ⟨v, _, rfl, h1, RepKV.del k h2⟩
theorem RepVd.kv {V : Vw} : ∀ {l : List (Str × AV)} {kvs}, RepVd V l kvs → RepKV V l kvs
  | [], _, h => h
  | (_, _) :: _, _, ⟨v, r, q, h1, h2⟩ => ⟨v, r, q, h1, RepVd.kv h2⟩
theorem RepKV.vd {V : Vw} : ∀ {l : List (Str × AV)} {kvs}, RepKV V l kvs → RepVd V l kvs
  | [], _, h => h
  | (_, _) :: _, _, ⟨v, r, q, h1, h2⟩ => ⟨v, r, q, h1, RepKV.vd h2⟩
end

/-! assignments -/
section
variable {W : Wd} {X : Sc} {n : Nat}

theorem SimS.assign {t value : Expr} {pos : Pos} {f : M AV} {tgt : AV → M Unit} (hV : SimE W X n value f) (hT : SimT W X n t tgt)
    (hs : ∀ env : Env, env.scope = X.scope → swapsWith value (some t) pos.line env = pure false) (hw : ∀ env : Env, env.scope = X.scope → swappedStores [t] value env = pure Option.none)
    (he : ∀ env, (assignEach [t] env).map (·.2) = [PySem.assign t env]) :
    SimS W X n (.Assign [t] value pos) (M.bind f fun v => M.bind (tgt v) fun _ => M.pure .next) := by
  intro env A σ b σ' G s P hA r hf
  obtain ⟨v, σ1, e1, hf⟩ := M.bind_some hf
  obtain ⟨⟨⟩, σ2, e2, hf⟩ := M.bind_some hf
  cases hf
  refine wpAny_Assign_stores (wpAny_mono (hV env A _ _ _ G s P hA r e1) (fun mv s1 ⟨G1, l1, r1, p1⟩ => ?_) fun _ _ e => e) (hs env P.scope) (hw env P.scope)
  rw [he]
  exact wpAny_mono (hT env A _ _ G1 s1 v mv (P.mono l1) hA r1 p1 e2) (fun _ s2 ⟨G2, l2, r2, _⟩ => ⟨G2, l1.trans l2, r2, trivial⟩) fun _ _ e => e

theorem SimS.expr {e : Expr} {pos : Pos} {f : M AV} (h : SimE W X n e f) (hs : ∀ env : Env, env.scope = X.scope → swapsWith e Option.none pos.line env = pure false) :
    SimS W X n (.Expr e pos) (M.bind f fun _ => M.pure .next) := by
  intro env A σ b σ' G s P hA r hf
  obtain ⟨v, σ1, e1, hf⟩ := M.bind_some hf
  cases hf
  refine wpAny_Expr_any (wpAny_mono (h env A _ _ _ G s P hA r e1) (fun mv s1 ⟨G1, l1, r1, p1⟩ => ⟨G1, l1, r1, trivial⟩) fun _ _ e => e) ?_ (hs env P.scope)
  unfold interactive
  rw [P.scope, P.kind]; rfl

/-! targets -/
def SimTs (W : Wd) (X : Sc) (n : Nat) (ts : List Expr) (f : List AV → M Unit) : Prop :=
  ∀ env A σ σ' G s l vs, EnvOK X env G → AOK n A → R W G σ s → Reps W G l vs → f l σ = some ((), σ') → wpAny W.M A (assignInOrder ((assignEach ts env).map (·.2)) vs) (Post W (fun _ _ _ => True) G σ' ()) (fun _ _ => False) s
def tgtNil : List AV → M Unit
  | [] => M.pure ()
  | _ => M.fail
def tgtCons (f : AV → M Unit) (g : List AV → M Unit) : List AV → M Unit
  | a :: l => M.bind (f a) fun _ => g l
  | [] => M.fail
theorem SimTs.nil : SimTs W X n [] tgtNil := by
  intro env A σ σ' G s l vs P hA r p hf
  cases l with
  | cons => cases hf
  | nil =>
    cases hf; cases p
    exact wpAny_assignInOrder_none (.now r trivial)
theorem SimTs.cons {t : Expr} {ts : List Expr} {f : AV → M Unit} {g : List AV → M Unit} (h1 : SimT W X n t f) (h2 : SimTs W X n ts g) (he : ∀ env, assignEach (t :: ts) env = (false, PySem.assign t env) :: assignEach ts env) : SimTs W X n (t :: ts) (tgtCons f g) := by
  intro env A σ σ' G s l vs P hA r p hf
  cases l with
  | nil => cases hf
  | cons a l =>
    obtain ⟨mv, rs, e, p1, p2⟩ := p
    subst e
    obtain ⟨⟨⟩, σ1, e1, hf⟩ := M.bind_some hf
    rw [he]
    refine wpAny_assignInOrder_more (wpAny_mono (h1 env A _ _ G s a mv P hA r p1 e1) (fun _ s1 ⟨G1, l1, r1, _⟩ => ?_) fun _ _ e => e)
    exact wpAny_mono (h2 env A _ _ G1 s1 l rs (P.mono l1) hA r1 (Reps.le p2 l1) hf) (fun _ _ q => q.le l1) fun _ _ e => e
def tgtTup (k : Nat) (g : List AV → M Unit) : AV → M Unit
  | .tup l => if l.length = k then g l else M.fail
  | _ => M.fail
theorem SimT.tuple {es : List Expr} {x1 : Nat} {pos : Pos} {g : List AV → M Unit} (k : Nat) (h : SimTs W X n es g) (hk : ∀ env, (assignEach es env).length = k) (hst : ∀ env, (assignEach es env).findIdx? (·.1) = Option.none) : SimT W X n (.Tuple es x1 pos) (tgtTup k g) := by
  intro env A σ σ' G s v mv P hA r p hf
  cases v with
  | tup l =>
    simp only [tgtTup] at hf
    split at hf
    · rename_i hl
      obtain ⟨a, vs, m, e, hz, hr⟩ := p
      subst e
      have hlen := hr.length
      rw [Array.length_toList] at hlen
      refine wpAny_assign_Tuple hA.hd (isTup_of (r.z hz)) (by rw [hk]; omega) (hst env) fun h' hx => ?_
      have r' := r.keep (h' := h') (tk := s.toks) fun b o e => hx b o (Nat.ne_of_lt (Heap.lt_size e)) e
      exact h env A _ _ G _ l _ P hA r' hr hf
    · cases hf
  | _ => cases hf

/-- swapped stores of names that are all local -/
theorem SimS.swap2 {x y : Str} {i j : Nat} {e1 e2 : Expr} {k1 k2 : Nat} {p1 p2 p3 p4 pos : Pos} {f : M (List AV)} (hV : SimI W X n [e1, e2] f) (hi : X.names[i]? = some (x, .local)) (hl : X.scope.names.lookup x = some .local) (hj : X.names[j]? = some (y, .local)) (hl' : X.scope.names.lookup y = some .local)
    (hs : ∀ env : Env, env.scope = X.scope → swappedStores [.Tuple [.Name x p1, .Name y p2] k1 p3] (.Tuple [e1, e2] k2 p4) env = pure (some [x, y])) :
    SimS W X n (.Assign [.Tuple [.Name x p1, .Name y p2] k1 p3] (.Tuple [e1, e2] k2 p4) pos) (M.bind (M.bind f mkT) fun v => match v with
      | .tup [a, b] => M.bind (stv j b) fun _ => M.bind (stv i a) fun _ => M.pure .next
      | _ => M.fail) := by
  intro env A σ b σ' G s P hA r hf
  obtain ⟨v, σ1, e1', hf⟩ := M.bind_some hf
  split at hf
  · rename_i a b
    obtain ⟨⟨⟩, σ2, g1, hf⟩ := M.bind_some hf
    obtain ⟨⟨⟩, σ3, g2, hf⟩ := M.bind_some hf
    cases hf
    show wpAny W.M A (exec (.Assign [.Tuple [.Name x p1, .Name y p2] k1 p3] (.Tuple [e1, e2] k2 p4) pos) env) _ _ s
    rw [exec_Assign_arm]
    refine wpAny_bind (wpAny_standAt ?_)
    refine wpAny_bind (wpAny_pure ?_)
    rw [if_neg (by decide)]
    refine wpAny_bind (wpAny_mono (SimE.tuple (k := k2) (pos := p4) hV env A _ _ _ G s P hA r e1') (fun mv s1 ⟨G1, l1, r1, q1⟩ => ?_) fun _ _ e => e)
    rw [hs env P.scope]
    refine wpAny_bind (wpAny_pure ?_)
    obtain ⟨t, vs, m, e, hz, hr⟩ := q1
    subst e
    obtain ⟨ma, r1', e, qa, mb, r2', e', qb, e''⟩ := hr
    subst e' e''
    have hvs : vs = #[ma, mb] := by cases vs; simp at e; subst e; rfl
    subst hvs
    show wpAny _ _ (do
      rule "assign.swapped-stores"
      let items ← unpackItems (.ref t) 2 Option.none
      assignInOrder (([x, y].reverse).map fun n => bindName env n) items.reverse
      pure Flow.next) _ _ _
    refine wpAny_bind (wpAny_rule (wpAny_bind (wpAny_unpackItems_tuple (items := #[ma, mb]) hA.hd (isTup_of (r1.z hz)) fun h' hx => ?_)))
    have r1'' := r1.keep (h' := h') (tk := s1.toks) fun b o e => hx b o (Nat.ne_of_lt (Heap.lt_size e)) e
    show wpAny _ _ (do assignInOrder [bindName env y, bindName env x] [mb, ma]; pure Flow.next) _ _ _
    refine wpAny_bind (wpAny_assignInOrder_more (wpAny_bindName (wpAny_mono (store_local hj hl' (P.mono l1) r1'' qb g1) (fun _ s2 ⟨G2, l2, r2, _⟩ => ?_) fun _ _ e => e)))
    refine wpAny_assignInOrder_more (wpAny_bindName (wpAny_mono (store_local hi hl (P.mono (l1.trans l2)) r2 (Rep.le qa l2) g2) (fun _ s3 ⟨G3, l3, r3, _⟩ => ?_) fun _ _ e => e))
    exact wpAny_assignInOrder_none (wpAny_pure ⟨G3, (l1.trans l2).trans l3, r3, trivial⟩)
  · cases hf

/-- the index operation of a store -/
def OpSet (W : Wd) (n : Nat) (h : AV → AV → AV → M Unit) : Prop :=
  ∀ A σ σ' G s a b c ma mb mc, AOK n A → R W G σ s → G.fr ≠ [] → Rep W G a ma → Rep W G b mb → Rep W G c mc → h a b c σ = some ((), σ') → wpAny W.M A (setItem ma mb mc) (Post W (fun _ _ _ => True) G σ' ()) (fun _ _ => False) s
theorem EnvOK.ne {X : Sc} {env : Env} {G : Gh} (P : EnvOK X env G) : G.fr ≠ [] := by
  obtain ⟨gf, rest, h, _⟩ := P.own
  rw [h]; simp
theorem SimT.sub {o i : Expr} {pos : Pos} {f g : M AV} {h : AV → AV → AV → M Unit} (h1 : SimE W X n o f) (h2 : SimE W X n i g) (h3 : OpSet W n h) :
    SimT W X n (.Subscript o i pos) (fun v => M.bind f fun a => M.bind g fun b => h a b v) := by
  intro env A σ σ' G s v mv P hA r p hf
  obtain ⟨a, σ1, e1, hf⟩ := M.bind_some hf
  obtain ⟨b, σ2, e2, hf⟩ := M.bind_some hf
  rw [assign_Subscript]
  refine wpAny_bind (wpAny_holding (wpAny_mono (h1 env A _ _ _ G s P hA r e1) (fun ma s1 ⟨G1, l1, r1, p1⟩ => ?_) fun _ _ e => e))
  refine wpAny_bind (wpAny_holding (wpAny_mono (h2 env A _ _ _ G1 s1 (P.mono l1) hA r1 e2) (fun mb s2 ⟨G2, l2, r2, p2⟩ => ?_) fun _ _ e => e))
  refine wpAny_bind (wpAny_standAt (wpAny_bind (wpAny_holding (wpAny_mono (h3 A _ _ G2 s2 _ _ _ _ _ _ hA r2 (P.mono (l1.trans l2)).ne (p1.le l2) p2 (p.le (l1.trans l2)) hf) (fun _ s3 ⟨G3, l3, r3, _⟩ => ?_) fun _ _ e => e))))
  exact wpAny_release ⟨G3, (l1.trans l2).trans l3, r3, trivial⟩

/-- aug-assignment of a name -/
def SimN (W : Wd) (X : Sc) (n : Nat) (x : Str) (tgt : AV → M Unit) : Prop :=
  ∀ env A σ σ' G s v mv, EnvOK X env G → AOK n A → R W G σ s → Rep W G v mv → tgt v σ = some ((), σ') → wpAny W.M A (storeName env x mv) (Post W (fun _ _ _ => True) G σ' ()) (fun _ _ => False) s
theorem SimN.local {x : Str} {i : Nat} (hi : X.names[i]? = some (x, .local)) (hl : X.scope.names.lookup x = some .local) : SimN W X n x (stv i) := fun _ _ _ _ _ _ _ _ P _ r p hf => store_local hi hl P r p hf
theorem SimN.cell {x : Str} {i : Nat} (hi : X.names[i]? = some (x, .cell)) (hl : X.scope.names.lookup x = some .cell) : SimN W X n x (stv i) := fun _ _ _ _ _ _ _ _ P _ r p hf => store_cell hi hl P r p hf
theorem SimS.augName {x : Str} {op : Operator} {value : Expr} {pos pos' : Pos} {f g : M AV} {h : AV → AV → M AV} {tgt : AV → M Unit} (h1 : Sim W (Rep W) (EF X) n (fun env => loadName env x) f) (h2 : SimE W X n value g) (h3 : Op2 W (Rep W) n (inplaceOp op) h) (hT : SimN W X n x tgt) :
    SimS W X n (.AugAssign (.Name x pos') op value pos) (M.bind f fun a => M.bind g fun b => M.bind (h a b) fun c => M.bind (tgt c) fun _ => M.pure .next) := by
  intro env A σ b σ' G s P hA r hf
  obtain ⟨a, σ1, e1, hf⟩ := M.bind_some hf
  obtain ⟨c, σ2, e2, hf⟩ := M.bind_some hf
  obtain ⟨d, σ3, e3, hf⟩ := M.bind_some hf
  obtain ⟨⟨⟩, σ4, e4, hf⟩ := M.bind_some hf
  cases hf
  refine wpAny_AugAssign_Name (wpAny_mono (h1 env A _ _ _ G s P hA r e1) (fun ma s1 ⟨G1, l1, r1, p1⟩ => ?_) fun _ _ e => e)
  refine wpAny_mono (h2 env A _ _ _ G1 s1 (P.mono l1) hA r1 e2) (fun mb s2 ⟨G2, l2, r2, p2⟩ => ?_) fun _ _ e => e
  refine wpAny_mono (h3 A _ _ G2 s2 _ _ _ _ _ hA r2 (p1.le l2) p2 e3) (fun mc s3 ⟨G3, l3, r3, p3⟩ => ?_) fun _ _ e => e
  have lA := (l1.trans l2).trans l3
  exact wpAny_mono (hT env A _ _ G3 s3 d mc (P.mono lA) hA r3 p3 e4) (fun _ s4 ⟨G4, l4, r4, _⟩ => ⟨G4, lA.trans l4, r4, trivial⟩) fun _ _ e => e
def iarA : Operator → AV → AV → M AV
  | .Add, .int a, .int b => M.pure (.int (a + b))
  | .Sub, .int a, .int b => M.pure (.int (a - b))
  | .FloorDiv, .int a, .int b => if b ≠ 0 ∧ b.natAbs < 1073741824 then M.pure (.int (a.fdiv b)) else M.fail
  | .Mult, .int a, .int b => if smallI a || smallI b then M.pure (.int (a * b)) else M.fail
  | _, _, _ => M.fail
theorem Op2.iar {op : Operator} : Op2 W (Rep W) n (inplaceOp op) (iarA op) := by
  intro A σ σ' G s a b c ma mb hA r pa pb hf
  unfold iarA at hf
  split at hf
  · cases hf
    obtain ⟨t, rfl⟩ := pa; obtain ⟨u, rfl⟩ := pb
    exact PySem.AutoIntOps.iadd_0 (.now r.tok ⟨_, rfl⟩)
  · cases hf
    obtain ⟨t, rfl⟩ := pa; obtain ⟨u, rfl⟩ := pb
    exact PySem.AutoIntOps.isub_0 (.now r.tok ⟨_, rfl⟩)
  · obtain ⟨t, rfl⟩ := pa; obtain ⟨u, rfl⟩ := pb
    split at hf
    · rename_i hs
      cases hf
      exact PySem.AutoIntOps.ifloordiv_1 (by simpa using hs.1) (by rw [PyProof.noPylong_small hs.2]; decide) (.now r.tok ⟨_, rfl⟩)
    · cases hf
  · rename_i x y
    obtain ⟨t, rfl⟩ := pa; obtain ⟨u, rfl⟩ := pb
    split at hf
    · rename_i hs
      cases hf
      rw [Bool.or_eq_true] at hs
      exact PySem.AutoIntOps.imul_0 (.now r.tok ⟨_, rfl⟩) (hs.elim (fun h => IntMulOk.of_left (smallI_bits h)) fun h => IntMulOk.of_right (smallI_bits h))
    · cases hf
  · cases hf
end
end Mine
end

section
open PySem PySem.W PySem.Calls PyProof.Rows
set_option Elab.async false
set_option maxRecDepth 20000
set_option linter.unusedSectionVars false
namespace Mine

/-- a kind of dict with its keys -/
structure DK (W : Wd) (κ : Type) [DecidableEq κ] where
  knd : KeyKind W.prog W.w κ
  ao : List (κ × AV) → AO
  ok : ∀ V l ob, ObjOK W V (ao l) ob ↔ ∃ kvs, DictOb knd ob kvs ∧ RepKV V l kvs
def dkI (W : Wd) : DK W Int := ⟨intKind W.prog W.w, .dictI, fun _ _ _ => Iff.rfl⟩
def dkS (W : Wd) : DK W Str := ⟨strKind W.prog W.w, .dictS, fun _ _ _ => Iff.rfl⟩

section
variable {W : Wd} {κ : Type} [DecidableEq κ] (D : DK W κ)
theorem R.dict {G : Gh} {σ : St} {s : Shared} (r : R W G σ s) (ok : W.Ok) {n : Hd} {l : List (κ × AV)} {mv : Value} (h : σ.st n = some (D.ao l)) (p : Rep W G (.ref n) mv) :
    ∃ a kvs ob, mv = .ref a ∧ G.mu n = some a ∧ G.kn a = some (.obj n, ob) ∧ s.heap.DictOf D.knd a kvs ∧ RepKV (G.vw W) l kvs ∧ (a == sysModules) = false := by
  obtain ⟨a, e, hm⟩ := p
  obtain ⟨b, ob, h1, h2, h3⟩ := r.inv.objs _ _ h
  rw [show (G.vw W).mu = G.mu from rfl, h1] at hm
  cases hm
  obtain ⟨kvs, q1, q2⟩ := (D.ok _ _ _).mp h3
  exact ⟨a, kvs, ob, e, h1, h2, DictOb.dictOf q1 (r.sub _ _ _ h2), q2, notSys r ok h2 Tag.noConfusion⟩
theorem R.setDict {G : Gh} {σ : St} {s : Shared} (r : R W G σ s) {n : Hd} {a : Addr} {ob : Obj} {l : List (κ × AV)} {kvs} {h' : Heap} {tk : Nat} (hm : G.mu n = some a) (hk : G.kn a = some (.obj n, ob)) (hd : h'.DictOf D.knd a kvs) (hs : Heap.SameBut a s.heap h') (hr : RepKV (G.vw W) l kvs) :
    ∃ G', G.Le G' ∧ R W G' { σ with st := fun m => if m = n then some (D.ao l) else σ.st m } { s with heap := h', toks := tk } ∧ G'.vw W = G.vw W ∧ G'.mu = G.mu := by
  obtain ⟨o, e, q⟩ := DictOb.of hd
  exact r.setObj hm hk e hs ((D.ok _ _ _).mpr ⟨kvs, q, hr⟩)
end

def idxN (i : Int) (n : Nat) : Option Nat :=
  if 0 ≤ i then (if i < n ∧ n ≤ 2 ^ 40 then some i.toNat else none) else if -(n : Int) ≤ i ∧ n ≤ 2 ^ 40 then some (i + n).toNat else none
theorem idxN_seq {i : Int} {n j : Nat} (h : idxN i n = some j) : seqIndex? i n = some j ∧ -(2 ^ 63) ≤ i ∧ i < 2 ^ 63 := by
  unfold idxN at h
  unfold seqIndex?
  split at h
  · split at h
    · cases h
      rename_i h0 h1
      refine ⟨?_, by omega, by omega⟩
      have : ¬ i < 0 := by omega
      simp only [this, if_false]
      rw [if_pos (by simp only [Bool.and_eq_true, decide_eq_true_eq]; omega)]
    · cases h
  · split at h
    · cases h
      rename_i h0 h1
      refine ⟨?_, by omega, by omega⟩
      have : i < 0 := by omega
      simp only [this, if_true]
      rw [if_pos (by simp only [Bool.and_eq_true, decide_eq_true_eq]; omega)]
    · cases h

def atL (l : List AV) (i : Int) : Option AV := match idxN i l.length with
  | some j => l[j]?
  | none => none

def getA : AV → AV → M AV
  | .tup l, .int i => fun σ => (atL l i).map (·, σ)
  | .lst l, .int i => fun σ => (atL l i).map (·, σ)
  | .dct l, .str x => fun σ => (getK l x).map (·, σ)
  | .ref n, .int i => fun σ => match σ.st n with
    | some (.list l) => (atL l i).map (·, σ)
    | some (.dictI l) => (getK l i).map (·, σ)
    | _ => none
  | .ref n, .str x => fun σ => match σ.st n with
    | some (.dictS l) => (getK l x).map (·, σ)
    | _ => none
  | _, _ => M.fail

def OpSub (W : Wd) (n : Nat) (h : AV → AV → M AV) : Prop :=
  ∀ A σ σ' G s a b c ma mb, AOK n A → R W G σ s → G.fr ≠ [] → Rep W G a ma → Rep W G b mb → h a b σ = some (c, σ') → SubscriptOn W.M A ma mb (Post W (Rep W) G σ' c) (fun _ _ => False) s

section
variable {W : Wd} {X : Sc} {n : Nat}

theorem atL_list {A : Around} {G : Gh} {σ : St} {s : Shared} {x : Addr} {vs : Array Value} {l : List AV} {i : Int} {t : Tok} {c : AV} (r : R W G σ s) (hl : s.heap.IsList x vs) (hr : Reps W G l vs.toList) (h : atL l i = some c) :
    wpAny W.M A (getItem (.ref x) (.int i t)) (Post W (Rep W) G σ c) (fun _ _ => False) s := by
  unfold atL at h
  split at h
  · rename_i j hj
    have hlen := hr.length
    rw [Array.length_toList] at hlen
    rw [← hlen] at hj
    obtain ⟨mv, e1, e2⟩ := RepVs.get hr h
    rw [Array.getElem?_toList] at e1
    obtain ⟨h1, h2, h3⟩ := idxN_seq hj
    by_cases h0 : 0 ≤ i
    · refine wpAny_getItem_list hl h0 h3 (x := mv) ?_ (.now r e2)
      have : j = i.toNat := by
        unfold idxN at hj
        rw [if_pos h0] at hj
        split at hj <;> cases hj
        rfl
      rw [← this]; exact e1
    · have hj' := hj
      unfold idxN at hj
      rw [if_neg h0] at hj
      split at hj
      · cases hj
        rename_i hq
        exact wpAny_getItem_list_neg hl (by omega) hq.1 h2 (x := mv) e1 (.now r e2)
      · cases hj
  · cases h

theorem OpSub.get (ok : W.Ok) : OpSub W n getA := by
  intro A σ σ' G s a b c ma mb hA r hne pa pb hf
  unfold getA at hf
  split at hf
  · rename_i l i
    obtain ⟨c', e1, e2⟩ := Option.map_eq_some_iff.mp hf
    cases e2
    obtain ⟨x, vs, m, e, hz, hr⟩ := pa
    obtain ⟨t, rfl⟩ := pb
    subst e
    unfold atL at e1
    split at e1
    · rename_i j hj
      have hlen := hr.length
      rw [Array.length_toList] at hlen
      rw [← hlen] at hj
      obtain ⟨h1, h2, h3⟩ := idxN_seq hj
      obtain ⟨mv, f1, f2⟩ := RepVs.get hr e1
      rw [Array.getElem?_toList] at f1
      have ht := isTup_of (r.z hz)
      exact ⟨_, _, slot_tuple_getitem.lookup, ht.typeIs, PyProof.Rows.getItem_tuple ht h2 h3 h1 f1 (.now r f2)⟩
    · cases e1
  · rename_i l i
    obtain ⟨c', e1, e2⟩ := Option.map_eq_some_iff.mp hf
    cases e2
    obtain ⟨x, vs, m, e, hz, hr⟩ := pa
    obtain ⟨t, rfl⟩ := pb
    subst e
    have hl := isList_of (r.z hz)
    exact ⟨_, _, list_getitem_lookup, hl.typeIs, atL_list r hl hr e1⟩
  · rename_i l x
    obtain ⟨c', e1, e2⟩ := Option.map_eq_some_iff.mp hf
    cases e2
    obtain ⟨y, o, kvs, e, hsy, hz, hd, hr⟩ := pa
    obtain ⟨t, rfl⟩ := pb
    subst e
    have hD := DictOb.dictOf hd (r.z hz)
    obtain ⟨v, f1, f2⟩ := RepKV.get hr.kv e1
    exact ⟨_, _, slot_dict_getitem.lookup, hD.typeIs, wpAny_getItem_of (strKind_is _ _ _ _) hD.mapOf f1 (.now r.tok f2)⟩
  · rename_i m i
    obtain ⟨t, rfl⟩ := pb
    split at hf
    · rename_i l hs
      obtain ⟨c', e1, e2⟩ := Option.map_eq_some_iff.mp hf
      cases e2
      obtain ⟨x, vs, k, e, hz, hr⟩ := r.view pa (l := l) (by unfold viewL; dsimp only; rw [hs])
      subst e
      have hl := isList_of hz
      exact ⟨_, _, list_getitem_lookup, hl.typeIs, atL_list r hl hr e1⟩
    · rename_i l hs
      obtain ⟨c', e1, e2⟩ := Option.map_eq_some_iff.mp hf
      cases e2
      obtain ⟨x, kvs, ob, e, hm, hk, hD, hr, hsy⟩ := r.dict (dkI W) ok hs pa
      subst e
      obtain ⟨v, f1, f2⟩ := RepKV.get hr e1
      exact ⟨_, _, slot_dict_getitem.lookup, hD.typeIs, wpAny_getItem_of (knd := intKind W.prog W.w) (intKind_is _ _ _ _) hD.mapOf f1 (.now r.tok f2)⟩
    · cases hf
  · rename_i m x
    obtain ⟨t, rfl⟩ := pb
    split at hf
    · rename_i l hs
      obtain ⟨c', e1, e2⟩ := Option.map_eq_some_iff.mp hf
      cases e2
      obtain ⟨x, kvs, ob, e, hm, hk, hD, hr, hsy⟩ := r.dict (dkS W) ok hs pa
      subst e
      obtain ⟨v, f1, f2⟩ := RepKV.get hr e1
      exact ⟨_, _, slot_dict_getitem.lookup, hD.typeIs, wpAny_getItem_of (knd := strKind W.prog W.w) (strKind_is _ _ _ _) hD.mapOf f1 (.now r.tok f2)⟩
    · cases hf
  · cases hf

theorem SimE.sub {o i : Expr} {pos : Pos} {f g : M AV} {h : AV → AV → M AV} (h1 : SimE W X n o f) (h2 : SimE W X n i g) (h3 : OpSub W n h)
    (hsl : ∀ ov iv, subscripted i false ov iv = operate [ov, iv] (getItem ov iv)) :
    SimE W X n (.Subscript o i pos) (M.bind f fun a => M.bind g fun b => h a b) := by
  intro env A σ b σ' G s P hA r hf
  obtain ⟨a, σ1, e1, hf⟩ := M.bind_some hf
  obtain ⟨c, σ2, e2, hf⟩ := M.bind_some hf
  show wpAny W.M A (eval (.Subscript o i pos) env) _ _ s
  rw [eval_Subscript]
  refine wpAny_bind (wpAny_mono (h1 env A _ _ _ G s P hA r e1) (fun ma s1 ⟨G1, l1, r1, p1⟩ => ?_) fun _ _ e => e)
  refine wpAny_bind (wpAny_holding (wpAny_mono (h2 env A _ _ _ G1 s1 (P.mono l1) hA r1 e2) (fun mb s2 ⟨G2, l2, r2, p2⟩ => ?_) fun _ _ e => e))
  refine wpAny_bind (wpAny_standAt ?_)
  obtain ⟨T, id, hl, hT, hg⟩ := h3 A _ _ G2 s2 _ _ _ _ _ hA r2 (P.mono (l1.trans l2)).ne (p1.le l2) p2 hf
  refine wpAny_bind ?_
  rw [getitemInPython_of_ne hT.not_modules]
  refine wpAny_bind (wpAny_specialOf hT hl ?_)
  refine wpAny_pure ?_
  rw [hsl]
  exact wpAny_bind (wpAny_operating (wpAny_mono hg (fun v s3 q => wpAny_bind (wpAny_letTemporaryGo (wpAny_pure (q.le (l1.trans l2))))) fun _ _ e => e))

/-! slices -/
def optA : Option (M AV) → M (Option Int)
  | none => M.pure none
  | some f => M.bind f fun
    | .int i => M.pure (some i)
    | .none => M.pure none
    | _ => M.fail
def clipN (i : Int) (n : Nat) : Nat := (max 0 (min (if i < 0 then i + n else i) n)).toNat
def sliceA (lo hi : Option Int) (l : List AV) : List AV := (l.drop (lo.elim 0 (clipN · l.length))).take (hi.elim l.length (clipN · l.length) - lo.elim 0 (clipN · l.length))
def SimP (W : Wd) (X : Sc) (n : Nat) (e : Option Expr) (f : M (Option Int)) : Prop := Sim W (fun _ b a => IsPart a b) (EF X) n (fun env => evalPart e env) f
theorem SimP.none : SimP W X n Option.none (M.pure Option.none) := fun env A σ b σ' G s P hA r hf => by cases hf; exact wpAny_pure (.now r .none)
theorem SimP.some {e : Expr} {f : M AV} (h : SimE W X n e f) : SimP W X n (Option.some e) (M.bind f fun | .int i => M.pure (Option.some i) | _ => M.fail) := fun env A σ b σ' G s P hA r hf => by
  obtain ⟨a, σ1, e1, hf⟩ := M.bind_some hf
  split at hf
  · cases hf
    exact wpAny_mono (h env A _ _ _ G s P hA r e1) (fun mv s1 ⟨G1, l1, r1, ⟨t, q⟩⟩ => by subst q; exact ⟨G1, l1, r1, .int _ _⟩) fun _ _ e => e
  · cases hf

def sliceF (lo hi : Option Int) (a : AV) : M AV := fun σ => match viewL σ a with
  | some l => if l.length ≤ 2 ^ 20 then some (.lst (sliceA lo hi l), σ) else none
  | none => none
def sliceI (site : Nat) (lo hi : Option Int) (a : AV) : M AV := fun σ => match viewL σ a with
  | some l => if l.length ≤ 2 ^ 20 then (M.bind (allocA site (.list (sliceA lo hi l))) fun h => M.pure (.ref h)) σ else none
  | none => none

theorem slice_reps {G : Gh} {l : List AV} {vs : Array Value} {lo hi : Option Int} (h : Reps W G l vs.toList) : Reps W G (sliceA lo hi l) (slicePick vs lo hi Option.none).toList := by
  rw [slicePick_plain]
  have hlen := h.length
  rw [Array.length_toList] at hlen
  unfold sliceA
  rw [← hlen]
  exact RepVs.take (RepVs.drop h _) _

theorem SimE.slice {value : Expr} {lower upper : Option Expr} {p pos : Pos} {f : M AV} {g1 g2 : M (Option Int)} (h1 : SimE W X n value f) (h2 : SimP W X n lower g1) (h3 : SimP W X n upper g2) :
    SimE W X n (.Subscript value (.Slice lower upper Option.none p) pos) (M.bind f fun a => M.bind g1 fun lo => M.bind g2 fun hi => sliceF lo hi a) := by
  intro env A σ b σ' G s P hA r hf
  obtain ⟨a, σ1, e1, hf⟩ := M.bind_some hf
  obtain ⟨lo, σ2, e2, hf⟩ := M.bind_some hf
  obtain ⟨hi, σ3, e3, hf⟩ := M.bind_some hf
  unfold sliceF at hf
  split at hf
  · rename_i l hv
    split at hf
    · rename_i hsz
      cases hf
      show wpAny W.M A (eval (.Subscript value (.Slice lower upper Option.none p) pos) env) _ _ s
      rw [eval_Subscript]
      refine wpAny_bind (wpAny_mono (h1 env A _ _ _ G s P hA r e1) (fun ma s1 ⟨G1, l1, r1, p1⟩ => ?_) fun _ _ e => e)
      refine wpAny_bind (wpAny_holding (wpAny_Slice (wpAny_mono (h2 env A _ _ _ G1 s1 (P.mono l1) hA r1 e2) (fun ml s2 ⟨G2, l2, r2, p2⟩ => ?_) fun _ _ e => e)))
      refine wpAny_mono (h3 env A _ _ _ G2 s2 (P.mono (l1.trans l2)) hA r2 e3) (fun mu s3 ⟨G3, l3, r3, p3⟩ => ?_) fun _ _ e => e
      rw [evalPart_none]
      refine wpAny_pure ?_
      obtain ⟨x, vs, k, e, hg, hr⟩ := r3.view (p1.le (l2.trans l3)) hv
      subst e
      have hl : Heap.IsList (s3.heap.push { cls := .type "slice", data := .fields #[ml, mu, .none] }) x vs := isList_of (Heap.get?_push_of_some _ hg)
      refine wpAny_bind (wpAny_standAt (wpAny_bind ?_))
      have hT : Shared.TypeIs { s3 with heap := s3.heap.push { cls := .type "slice", data := .fields #[ml, mu, .none] } } (.ref x) "list" := hl.typeIs
      rw [getitemInPython_of_ne hT.not_modules]
      refine wpAny_bind (wpAny_specialOf hT list_getitem_lookup (wpAny_pure ?_))
      have hlen := hr.length
      rw [Array.length_toList] at hlen
      refine wpAny_bind (wpAny_operating (wpAny_getItem_list_slice hl (Heap.IsSliceOf.new ..) p2 p3 .none (by simp) ?_ (by rw [sizeLine_eq]; omega)))
      refine wpAny_bind (wpAny_letTemporaryGo (wpAny_pure ?_))
      have r4 := r3.keep (h' := s3.heap.push { cls := .type "slice", data := .fields #[ml, mu, .none] }) (tk := s3.toks) fun b o e => Heap.get?_push_of_some _ e
      obtain ⟨r5, l5⟩ := r4.alloc .z (o := { cls := .type "list", data := .seq (slicePick vs lo hi Option.none) }) rfl (tk := s3.toks)
      exact ⟨_, ((l1.trans l2).trans l3).trans l5, r5, _, slicePick vs lo hi Option.none, 0, rfl, Gh.z_iff.mpr Gh.set_self, Reps.le (slice_reps hr) l5⟩
    · cases hf
  · cases hf
theorem SimE.sliceLive (site : Nat) {value : Expr} {lower upper : Option Expr} {p pos : Pos} {f : M AV} {g1 g2 : M (Option Int)} (h1 : SimE W X n value f) (h2 : SimP W X n lower g1) (h3 : SimP W X n upper g2) :
    SimE W X n (.Subscript value (.Slice lower upper Option.none p) pos) (M.bind f fun a => M.bind g1 fun lo => M.bind g2 fun hi => sliceI site lo hi a) := by
  intro env A σ b σ' G s P hA r hf
  obtain ⟨a, σ1, e1, hf⟩ := M.bind_some hf
  obtain ⟨lo, σ2, e2, hf⟩ := M.bind_some hf
  obtain ⟨hi, σ3, e3, hf⟩ := M.bind_some hf
  unfold sliceI at hf
  split at hf
  · rename_i l hv
    split at hf
    · rename_i hsz
      cases hf
      show wpAny W.M A (eval (.Subscript value (.Slice lower upper Option.none p) pos) env) _ _ s
      rw [eval_Subscript]
      refine wpAny_bind (wpAny_mono (h1 env A _ _ _ G s P hA r e1) (fun ma s1 ⟨G1, l1, r1, p1⟩ => ?_) fun _ _ e => e)
      refine wpAny_bind (wpAny_holding (wpAny_Slice (wpAny_mono (h2 env A _ _ _ G1 s1 (P.mono l1) hA r1 e2) (fun ml s2 ⟨G2, l2, r2, p2⟩ => ?_) fun _ _ e => e)))
      refine wpAny_mono (h3 env A _ _ _ G2 s2 (P.mono (l1.trans l2)) hA r2 e3) (fun mu s3 ⟨G3, l3, r3, p3⟩ => ?_) fun _ _ e => e
      rw [evalPart_none]
      refine wpAny_pure ?_
      obtain ⟨x, vs, k, e, hg, hr⟩ := r3.view (p1.le (l2.trans l3)) hv
      subst e
      have hl : Heap.IsList (s3.heap.push { cls := .type "slice", data := .fields #[ml, mu, .none] }) x vs := isList_of (Heap.get?_push_of_some _ hg)
      refine wpAny_bind (wpAny_standAt (wpAny_bind ?_))
      have hT : Shared.TypeIs { s3 with heap := s3.heap.push { cls := .type "slice", data := .fields #[ml, mu, .none] } } (.ref x) "list" := hl.typeIs
      rw [getitemInPython_of_ne hT.not_modules]
      refine wpAny_bind (wpAny_specialOf hT list_getitem_lookup (wpAny_pure ?_))
      have hlen := hr.length
      rw [Array.length_toList] at hlen
      refine wpAny_bind (wpAny_operating (wpAny_getItem_list_slice hl (Heap.IsSliceOf.new ..) p2 p3 .none (by simp) ?_ (by rw [sizeLine_eq]; omega)))
      refine wpAny_bind (wpAny_letTemporaryGo (wpAny_pure ?_))
      have r4 := r3.keep (h' := s3.heap.push { cls := .type "slice", data := .fields #[ml, mu, .none] }) (tk := s3.toks) fun b o e => Heap.get?_push_of_some _ e
      obtain ⟨G5, l5, r5, m5⟩ := r4.allocObj (ob := { cls := .type "list", data := .seq (slicePick vs lo hi Option.none) }) (o := .list (sliceA lo hi l)) rfl site (fun G' l' => ⟨_, 0, rfl, Reps.le (slice_reps hr) l'⟩) (tk := s3.toks)
      exact ⟨G5, ((l1.trans l2).trans l3).trans l5, r5, _, rfl, m5⟩
    · cases hf
  · cases hf

/-- `x[::-1]` -/
def revF (a : AV) : M AV := fun σ => match viewL σ a with
  | some l => if l.length ≤ 2 ^ 20 then some (.lst l.reverse, σ) else none
  | none => none
theorem SimE.rev {value : Expr} {k : Nat} {p p1 p2 pos : Pos} {f : M AV} (h1 : SimE W X n value f) :
    SimE W X n (.Subscript value (.Slice Option.none Option.none (Option.some (.UnaryOp .USub (.Constant (.int 1) k p1) p2)) p) pos) (M.bind f revF) := by
  intro env A σ b σ' G s P hA r hf
  obtain ⟨a, σ1, e1, hf⟩ := M.bind_some hf
  unfold revF at hf
  split at hf
  · rename_i l hv
    split at hf
    · rename_i hsz
      cases hf
      show wpAny W.M A (eval (.Subscript value (.Slice Option.none Option.none (Option.some (.UnaryOp .USub (.Constant (.int 1) k p1) p2)) p) pos) env) _ _ s
      rw [eval_Subscript]
      refine wpAny_bind (wpAny_mono (h1 env A _ _ _ G s P hA r e1) (fun ma s1 ⟨G1, l1, r1, p1⟩ => ?_) fun _ _ e => e)
      refine wpAny_bind (wpAny_holding (wpAny_Slice ?_))
      rw [evalPart_none, evalPart_some]
      refine wpAny_pure (wpAny_pure (wpAny_UnaryOp (wpAny_Constant_int (PySem.P.neg_int ?_))))
      obtain ⟨x, vs, k, e, hg, hr⟩ := r1.view p1 hv
      subst e
      have hl := fun (m : Value) => (isList_of (Heap.get?_push_of_some { cls := .type "slice", data := .fields #[.none, .none, m] } hg) : Heap.IsList (s1.heap.push { cls := .type "slice", data := .fields #[.none, .none, m] }) x vs)
      refine wpAny_bind (wpAny_standAt (wpAny_bind ?_))
      rw [getitemInPython_of_ne (by intro q; cases q)]
      refine wpAny_bind (wpAny_specialOf (hl _).typeIs list_getitem_lookup (wpAny_pure ?_))
      have hlen := hr.length
      rw [Array.length_toList] at hlen
      refine wpAny_bind ?_
      refine wpAny_operating (wpAny_getItem_list_slice (hl _) (Heap.IsSliceOf.new ..) .none .none (.int _ _) (by decide) ?_ (by rw [sizeLine_eq]; omega))
      refine wpAny_bind (wpAny_letTemporaryGo (wpAny_pure ?_))
      dsimp only
      have r4 := r1.keep (h' := s1.heap.push { cls := .type "slice", data := .fields #[.none, .none, .int (-1) (s1.toks + 1)] }) (tk := s1.toks + 1 + 1) fun b o e => Heap.get?_push_of_some _ e
      obtain ⟨r5, l5⟩ := r4.alloc .z (o := { cls := .type "list", data := .seq (slicePick vs Option.none Option.none (some (-1))) }) rfl (tk := s1.toks + 1 + 1)
      refine ⟨_, l1.trans l5, r5, _, slicePick vs Option.none Option.none (some (-1)), 0, rfl, Gh.z_iff.mpr Gh.set_self, ?_⟩
      have := Reps.le (RepVs.reverse hr) l5
      rw [krv_pick] at this ⊢
      simpa using this
    · cases hf
  · cases hf

/-! stores and deletions -/
def setItA : AV → AV → AV → M Unit
  | .ref n, .int i, v => fun σ => match σ.st n with
    | some (.dictI l) => if l.length ≤ 2 ^ 20 then some ((), { σ with st := fun m => if m = n then some (.dictI (setK l i v)) else σ.st m }) else none
    | _ => none
  | .ref n, .str x, v => fun σ => match σ.st n with
    | some (.dictS l) => if l.length ≤ 2 ^ 20 then some ((), { σ with st := fun m => if m = n then some (.dictS (setK l x v)) else σ.st m }) else none
    | _ => none
  | _, _, _ => M.fail
theorem OpSet.dict (ok : W.Ok) : OpSet W n setItA := by
  intro A σ σ' G s a b c ma mb mc hA r hne pa pb pc hf
  unfold setItA at hf
  split at hf
  · obtain ⟨t, rfl⟩ := pb
    split at hf
    · rename_i l hs
      split at hf
      · rename_i hl
        cases hf
        obtain ⟨x, kvs, ob, e, hm, hk, hD, hr, hsy⟩ := r.dict (dkI W) ok hs pa
        subst e
        refine wpAny_setItem_pairs (knd := intKind W.prog W.w) (intKind_is _ _ _ _) hD (fun h' hd' hs' => ?_) (by rw [hr.length, sizeLine_eq]; omega)
        obtain ⟨G', l', r', _⟩ := r.setDict (dkI W) (tk := s.toks + 1) hm hk hd' hs' (hr.set pc _)
        exact ⟨G', l', r', trivial⟩
      · cases hf
    · cases hf
  · obtain ⟨t, rfl⟩ := pb
    split at hf
    · rename_i l hs
      split at hf
      · rename_i hl
        cases hf
        obtain ⟨x, kvs, ob, e, hm, hk, hD, hr, hsy⟩ := r.dict (dkS W) ok hs pa
        subst e
        refine wpAny_setItem_pairs (knd := strKind W.prog W.w) (strKind_is _ _ _ _) hD (fun h' hd' hs' => ?_) (by rw [hr.length, sizeLine_eq]; omega)
        obtain ⟨G', l', r', _⟩ := r.setDict (dkS W) (tk := s.toks + 1) hm hk hd' hs' (hr.set pc _)
        exact ⟨G', l', r', trivial⟩
      · cases hf
    · cases hf
  · cases hf

def delItA : AV → AV → M Unit
  | .ref n, .int i => fun σ => match σ.st n with
    | some (.dictI l) => if l.length ≤ 2 ^ 20 ∧ (getK l i).isSome = true then some ((), { σ with st := fun m => if m = n then some (.dictI (delK l i)) else σ.st m }) else none
    | _ => none
  | _, _ => M.fail
theorem SimS.del (ok : W.Ok) {o i : Expr} {p pos : Pos} {f g : M AV} (h1 : SimE W X n o f) (h2 : SimE W X n i g) :
    SimS W X n (.Delete [.Subscript o i p] pos) (M.bind f fun a => M.bind g fun b => M.bind (delItA a b) fun _ => M.pure .next) := by
  intro env A σ b σ' G s P hA r hf
  obtain ⟨a, σ1, e1, hf⟩ := M.bind_some hf
  obtain ⟨c, σ2, e2, hf⟩ := M.bind_some hf
  obtain ⟨⟨⟩, σ3, e3, hf⟩ := M.bind_some hf
  cases hf
  refine wpAny_Delete (wpAny_deleteEach_cons (delete_Subscript ?_))
  refine wpAny_mono (h1 env A _ _ _ G s P hA r e1) (fun ma s1 ⟨G1, l1, r1, p1⟩ => ?_) fun _ _ e => e
  refine wpAny_mono (h2 env A _ _ _ G1 s1 (P.mono l1) hA r1 e2) (fun mb s2 ⟨G2, l2, r2, p2⟩ => ?_) fun _ _ e => e
  unfold delItA at e3
  split at e3
  · obtain ⟨t, rfl⟩ := p2
    split at e3
    · rename_i l hs
      split at e3
      · rename_i hl
        cases e3
        obtain ⟨x, kvs, ob, e, hm, hk, hD, hr, hsy⟩ := r2.dict (dkI W) ok hs (p1.le l2)
        subst e
        obtain ⟨v, hv⟩ := Option.isSome_iff_exists.mp hl.2
        obtain ⟨mv, hv1, _⟩ := hr.get hv
        unfold delItem
        refine wpAny_holding ?_
        refine wpAny_bind (wpAny_sequenceKey hD.typeIs (by decide) ?_)
        refine wpAny_bind (wpAny_callSpecial?_slot (name := Str.ofString "__delitem__") hD.typeIs PySem.F.slot_dict_delitem
          (call_meetsIn PySem.F.slot_dict_delitem hD.typeIs PySem.F.entry_dict_delitem (PySem.F.args_dict_delitem_2 _ _) (meets_dict_delitem_pairs (intKind W.prog W.w) x (intKind_is _ _ _ _)) ⟨kvs, hD, ?_, ?_, fun h' hd' hs' => ?_⟩))
        · rw [hr.length, sizeLine_eq]; omega
        · rw [hv1]; rfl
        · obtain ⟨G', l', r', _⟩ := r2.setDict (dkI W) (tk := s2.toks + 1) hm hk hd' hs' (hr.del _)
          exact wpAny_pure (wpAny_deleteEach_nil ⟨G', (l1.trans l2).trans l', r', trivial⟩)
      · cases e3
    · cases e3
  · cases e3
end
end Mine
end

section
open PySem PySem.W PySem.Calls PyProof.Rows
set_option Elab.async false
set_option maxRecDepth 20000
set_option linter.unusedSectionVars false
set_option linter.unusedVariables false
namespace Mine

def nsPut : List (Str × AV) → Str → AV → List (Str × AV)
  | [], x, v => [(x, v)]
  | (y, w) :: l, x, v => if y = x then (y, v) :: l else (y, w) :: nsPut l x v
theorem nsPut_lookup : ∀ (l : List (Str × AV)) (x : Str) (v : AV) (y : Str), (nsPut l x v).lookup y = if y = x then some v else l.lookup y
  | [], x, v, y => by
    unfold nsPut
    rw [List.lookup_cons]
    by_cases h : y = x
    · subst h; simp
    · have : (y == x) = false := by simpa using h
      rw [this, if_neg h]
  | (z, w) :: l, x, v, y => by
    unfold nsPut
    by_cases hz : z = x
    · subst hz
      rw [if_pos rfl, List.lookup_cons, List.lookup_cons]
      by_cases h : y = z
      · subst h; simp
      · have : (y == z) = false := by simpa using h
        rw [this, if_neg h]
    · rw [if_neg hz, List.lookup_cons, List.lookup_cons, nsPut_lookup l x v y]
      by_cases h : y = z
      · subst h
        simp [hz]
      · have : (y == z) = false := by simpa using h
        rw [this]

theorem NsE.length {V : Vw} : ∀ {l : List (Str × AV)} {es}, NsE V l es → es.length = l.length
  | [], _, h => by cases h; rfl
  | _ :: _, _, ⟨_, _, _, _, e, _, h⟩ => by subst e; simp [NsE.length h]
theorem isStr_str (x : Str) (t : Tok) (name : Str) : (Value.str x t).isStr name = decide (name = x) := by
  show (x == name) = _
  by_cases h : name = x
  · subst h; simp
  · have : ¬ x = name := fun e => h e.symm
    simp [h, this]
theorem NsE.noref {V : Vw} : ∀ {l : List (Str × AV)} {es}, NsE V l es → es.any (fun e => e.refKey) = false
  | [], _, h => by cases h; rfl
  | _ :: _, _, ⟨_, _, _, _, e, _, h⟩ => by
    subst e
    rw [List.any_cons, NsE.noref h]
    unfold DictEntry.refKey
    simp
theorem NsE.get {V : Vw} : ∀ {l : List (Str × AV)} {es}, NsE V l es → ∀ {x a}, l.lookup x = some a → ∃ v, getL x es = some (some v) ∧ RepV V a v
  | [], _, _, x, a, e => by simp at e
  | (y, b) :: l, _, ⟨h, t, v, r, q, h1, h2⟩, x, a, e => by
    subst q
    unfold getL
    rw [List.lookup_cons] at e
    rw [List.find?_cons]
    dsimp only
    rw [isStr_str]
    by_cases hx : x = y
    · subst hx
      simp only [beq_self_eq_true] at e
      cases e
      simp only [decide_true]
      exact ⟨v, rfl, h1⟩
    · have : (x == y) = false := by simpa using hx
      rw [this] at e
      simp only [hx, decide_false]
      obtain ⟨v', e1, e2⟩ := NsE.get h2 e
      refine ⟨v', ?_, e2⟩
      unfold getL at e1
      split at e1
      · rename_i en he
        rw [he]; exact e1
      · split at e1 <;> cases e1
theorem NsE.getNone {V : Vw} : ∀ {l : List (Str × AV)} {es}, NsE V l es → ∀ {x}, l.lookup x = none → getL x es = some none
  | l, es, h, x, e => by
    unfold getL
    have : es.find? (fun e => e.key.isStr x) = none := by
      induction l generalizing es with
      | nil => cases h; rfl
      | cons p l ih =>
        obtain ⟨y, b⟩ := p
        obtain ⟨hh, t, v, r, q, h1, h2⟩ := h
        subst q
        rw [List.lookup_cons] at e
        rw [List.find?_cons]
        dsimp only
        rw [isStr_str]
        by_cases hx : x = y
        · subst hx; simp at e
        · have hb : (x == y) = false := by simpa using hx
          rw [hb] at e
          simp only [hx, decide_false]
          exact ih _ h2 e
    rw [this]
    dsimp only
    rw [h.noref]
    rfl
theorem NsE.put {V : Vw} {x : Str} {a : AV} {v : Value} (hv : RepV V a v) (hsh : Int) (t : Tok) : ∀ {l : List (Str × AV)} {es}, NsE V l es → NsE V (nsPut l x a) (putL x hsh (.str x t) v es)
  | [], _, h => by cases h; exact ⟨hsh, t, v, [], rfl, hv, rfl⟩
  | (y, b) :: l, _, ⟨h, u, w, r, q, h1, h2⟩ => by
    subst q
    unfold nsPut putL
    dsimp only
    rw [isStr_str]
    by_cases hx : y = x
    · rw [if_pos hx, if_pos (by simp [hx])]
      exact ⟨h, u, v, r, rfl, hv, h2⟩
    · rw [if_neg hx, if_neg (by simp only [decide_eq_true_eq]; exact fun e => hx e.symm)]
      exact ⟨h, u, w, _, rfl, h1, NsE.put hv hsh t h2⟩

theorem NsOb.look {o : Obj} {m : Str → Option Value} (x : NsOb o m) (name : Str) : lookIn name o = some (m name) := by
  obtain ⟨es, ep, h1, h2, h3⟩ := x
  unfold lookIn
  rw [h1]
  dsimp only
  have hf := h3 name
  unfold nsFind findBy at hf
  rw [← Array.find?_toList] at hf
  cases e : es.toList.find? (fun e => e.key.isStr name) with
  | some en => rw [e] at hf; dsimp only; rw [← hf]; rfl
  | none =>
    rw [e] at hf
    dsimp only
    have : es.toList.any (fun e => e.refKey) = false := by
      rw [List.any_eq_false]
      intro e he
      obtain ⟨n, t, q⟩ := h2 e (Array.mem_toList_iff.mp he)
      unfold DictEntry.refKey
      rw [q]
      simp
    rw [this]
    rw [← hf]; rfl

structure ClsOK (W : Wd) (C : Addr) : Prop where
  ga : findIn W.K (.ref C) "__getattribute__" = some (some (.builtin "object.__getattribute__"))
  gt : findIn W.K (.ref C) "__getattr__" = some none
  hd : hasDictIn W.K C = true
  sa : findIn W.K (.ref C) "__setattr__" = some (some (.builtin "object.__setattr__"))
  po : plainOver W.K C = true

section
variable {W : Wd} {X : Sc} {n : Nat}

theorem R.inst {G : Gh} {σ : St} {s : Shared} (r : R W G σ s) {C : Addr} {h : Hd} {l : List (Str × AV)} {mv : Value} (hs : σ.st h = some (.ns l)) (p : Rep W G (.inst C h) mv) :
    ∃ a d es k, mv = .ref a ∧ G.mu h = some d ∧ G.kn d = some (.obj h, dictOf es k) ∧ s.heap.get? a = some ⟨.ref C, some d, .plain, #[]⟩ ∧ InstAt s.heap a ⟨.ref C, some d, .plain, #[]⟩ C (some (dictOf es k)) ∧ NsE (G.vw W) l es := by
  obtain ⟨a, d, e, hm, hz⟩ := p
  obtain ⟨d', od, h1, h2, es, k, h3, h4⟩ := r.inv.objs _ _ hs
  rw [show (G.vw W).mu = G.mu from rfl, h1] at hm
  cases hm
  subst h3
  exact ⟨a, d, es, k, e, h1, h2, r.z hz, ⟨r.z hz, rfl, rfl, r.sub _ _ _ h2⟩, h4⟩

def noMc : AV → Bool
  | .mc _ => false
  | _ => true
theorem Rep.handed {G : Gh} {a : AV} {v : Value} (p : Rep W G a v) (h : noMc a = true) : handedIn v = true := by
  cases a with
  | none => cases p; rfl
  | bool => cases p; rfl
  | int => obtain ⟨t, rfl⟩ := p; rfl
  | str => obtain ⟨t, rfl⟩ := p; rfl
  | tup => obtain ⟨a, vs, n, e, _⟩ := p; subst e; rfl
  | lst => obtain ⟨a, vs, n, e, _⟩ := p; subst e; rfl
  | dct => obtain ⟨a, o, k, e, _⟩ := p; subst e; rfl
  | ref => obtain ⟨a, e, _⟩ := p; subst e; rfl
  | mc => cases h
  | inst => obtain ⟨a, d, e, _⟩ := p; subst e; rfl
  | clo => obtain ⟨a, o, e, _⟩ := p; subst e; rfl
  | bm => obtain ⟨a, o, e, _⟩ := p; subst e; rfl
  | rng => obtain ⟨a, t, u, w, e, _⟩ := p; subst e; rfl
  | view => obtain ⟨a, d, e, _⟩ := p; subst e; rfl

/-- an attribute of the instance's own -/
def getNs (C : Addr) (x : Str) (a : AV) : M AV := fun σ => match a with
  | .inst C' h => if C' = C then (match σ.st h with
    | some (.ns l) => (match l.lookup x with
      | some v => if noMc v then some (v, σ) else none
      | none => none)
    | _ => none) else none
  | _ => none
theorem getNs_ok {A : Around} {G : Gh} {σ σ' : St} {s : Shared} {C : Addr} {x : Str} {a v : AV} {ma : Value} {attr : Option Value} {b : Bool} (ok : W.Ok) (c : ClsOK W C) (ha : findIn W.K (.ref C) x = some attr) (hn : noGet W.K attr = true) (r : R W G σ s) (p : Rep W G a ma)
    (hf : getNs C x a σ = some (v, σ')) : wpAny W.M A (getAttr ma x b) (Post W (Rep W) G σ' v) (fun _ _ => False) s := by
  unfold getNs at hf
  split at hf
  · split at hf
    · rename_i hC
      subst hC
      split at hf
      · rename_i l hs
        split at hf
        · rename_i v' hl
          split at hf
          · rename_i hm
            cases hf
            obtain ⟨y, d, es, k, e, h1, h2, h3, I, h5⟩ := r.inst hs p
            subst e
            obtain ⟨mv, e1, e2⟩ := h5.get hl
            exact get_value (r.kin ok) I c.ga (findObj_own c.hd ha hn e1) (Rep.handed e2 hm) (.now r.tok e2)
          · cases hf
        · cases hf
      · cases hf
    · cases hf
  · cases hf

theorem SimE.attr {o : Expr} {x : Str} {pos : Pos} {f : M AV} {g : AV → M AV} (h1 : SimE W X n o f) (h2 : Op1 W (Rep W) n (fun v => getAttr v x true) g) (hb : ∀ env, attributeBase o x env (eval o env) = eval o env) :
    SimE W X n (.Attribute o x pos) (M.bind f g) := by
  intro env A σ b σ' G s P hA r hf
  obtain ⟨a, σ1, e1, hf⟩ := M.bind_some hf
  show wpAny W.M A (eval (.Attribute o x pos) env) _ _ s
  have e : eval (.Attribute o x pos) env = (do
    let ov ← attributeBase o x env (eval o env)
    standAt pos.atName
    let r ← holding [ov] (getAttr ov x true)
    letTemporaryGo o ov r
    pure r) := rfl
  rw [e, hb]
  refine wpAny_bind (wpAny_mono (h1 env A _ _ _ G s P hA r e1) (fun ma s1 ⟨G1, l1, r1, p1⟩ => ?_) fun _ _ e => e)
  refine wpAny_bind (wpAny_standAt (wpAny_bind (wpAny_holding (wpAny_mono (h2 A _ _ G1 s1 _ _ _ hA r1 p1 hf) (fun v s2 q => ?_) fun _ _ e => e))))
  exact wpAny_bind (wpAny_letTemporaryGo (wpAny_pure (q.le l1)))
theorem Op1.ns (ok : W.Ok) {C : Addr} {x : Str} {attr : Option Value} {b : Bool} (c : ClsOK W C) (ha : findIn W.K (.ref C) x = some attr) (hn : noGet W.K attr = true) : Op1 W (Rep W) n (fun v => getAttr v x b) (getNs C x) :=
  fun A σ σ' G s a v ma hA r p hf => getNs_ok ok c ha hn r p hf

/-- a property -/
def getPr (C : Addr) (g : List AV → List AV → M AV) (a : AV) : M AV := fun σ => match a with
  | .inst C' h => if C' = C then (match σ.st h with
    | some (.ns _) => (M.bind (g [a] []) fun v => if noMc v then M.pure v else M.fail) σ
    | _ => none) else none
  | _ => none
def Op1g (W : Wd) (n : Nat) (t : Value → Sem Value) (f : AV → M AV) : Prop :=
  ∀ A σ σ' G s a c ma, AOK n A → R W G σ s → G.fr ≠ [] → Rep W G a ma → f a σ = some (c, σ') → wpAny W.M A (t ma) (Post W (Rep W) G σ' c) (fun _ _ => False) s
theorem Op1g.prop (ok : W.Ok) {C p fget : Addr} {x : Str} {rest : List Value} {b : Bool} {g : List AV → List AV → M AV} (c : ClsOK W C) (ha : findIn W.K (.ref C) x = some (some (.ref p))) (hn : specialIn W.K (.ref p) "__get__" = some (some (.builtin "property.__get__")))
    (ht : takesIn W.K (.ref p) = some true) (hp : recIn W.K p "property" = some (.ref fget :: rest)) (hg : SimCall W n (.ref fget) [] g) : Op1g W (n + 1) (fun v => getAttr v x b) (getPr C g) := by
  intro A σ σ' G s a v ma hA r hne q hf
  unfold getPr at hf
  split at hf
  · rename_i C' h
    split at hf
    · rename_i hC
      subst hC
      split at hf
      · rename_i l hs
        obtain ⟨y, d, es, k, e, h1, h2, h3, I, h5⟩ := r.inst hs q
        subst e
        obtain ⟨v', σ1, e1, hf⟩ := M.bind_some hf
        split at hf
        · rename_i hm
          cases hf
          have hh : (clsIn W.K C').isSome = true := by
            obtain ⟨cd, hc, _⟩ := any_some c.hd
            rw [hc]; rfl
          refine get_bind (r.kin ok) I c.ga (findObj_data hh ha hn ht) c.gt (wpAny_call (prop_get (s := { s with toks := s.toks + 1 }) (r.kin ok) hp ?_))
          refine codeAny_mono (hg A.in1 σ _ G _ [.inst C' h] [] [.ref y] [] v hA.in1 r.tok hne ⟨_, [], rfl, q, rfl⟩ (by exact rfl) e1) fun rr s' w => ?_
          match rr, w with
          | .ok (.ret u), ⟨G', l', r', p'⟩ =>
            show wpAny _ _ (handedOut u) _ _ _
            rw [handedOut_of (Rep.handed p' hm)]
            exact wpAny_pure ⟨G', l', r', p'⟩
        · cases hf
      · cases hf
    · cases hf
  · cases hf
theorem SimE.attrG {o : Expr} {x : Str} {pos : Pos} {f : M AV} {g : AV → M AV} (h1 : SimE W X n o f) (h2 : Op1g W n (fun v => getAttr v x true) g) (hb : ∀ env, attributeBase o x env (eval o env) = eval o env) :
    SimE W X n (.Attribute o x pos) (M.bind f g) := by
  intro env A σ b σ' G s P hA r hf
  obtain ⟨a, σ1, e1, hf⟩ := M.bind_some hf
  show wpAny W.M A (eval (.Attribute o x pos) env) _ _ s
  have e : eval (.Attribute o x pos) env = (do
    let ov ← attributeBase o x env (eval o env)
    standAt pos.atName
    let r ← holding [ov] (getAttr ov x true)
    letTemporaryGo o ov r
    pure r) := rfl
  rw [e, hb]
  refine wpAny_bind (wpAny_mono (h1 env A _ _ _ G s P hA r e1) (fun ma s1 ⟨G1, l1, r1, p1⟩ => ?_) fun _ _ e => e)
  refine wpAny_bind (wpAny_standAt (wpAny_bind (wpAny_holding (wpAny_mono (h2 A _ _ G1 s1 _ _ _ hA r1 (P.mono l1).ne p1 hf) (fun v s2 q => ?_) fun _ _ e => e))))
  exact wpAny_bind (wpAny_letTemporaryGo (wpAny_pure (q.le l1)))

/-- a bound method -/
def getBm (C f : Addr) (x : Str) (a : AV) : M AV := fun σ => match a with
  | .inst C' h => if C' = C then (match σ.st h with
    | some (.ns l) => if l.lookup x = none then some (.bm f a, σ) else none
    | _ => none) else none
  | _ => none
theorem Op1.bm (ok : W.Ok) {C f : Addr} {x : Str} {b : Bool} (c : ClsOK W C) (hf : findIn W.K (.ref C) x = some (some (.ref f))) (ht : typeIn W.K (.ref f) = some (.type "function"))
    (hfo : ∀ od, lookIn x od = some Option.none → findObj W.K C (some od) x = some (.bind (.builtin "function.__get__") (.ref f))) : Op1 W (Rep W) n (fun v => getAttr v x b) (getBm C f x) := by
  intro A σ σ' G s a v ma hA r q he
  unfold getBm at he
  split at he
  · rename_i C' h
    split at he
    · rename_i hC
      subst hC
      split at he
      · rename_i l hs
        split at he
        · rename_i hl
          cases he
          obtain ⟨y, d, es, k, e, h1, h2, h3, I, h5⟩ := r.inst hs q
          subst e
          refine get_bind (r.kin ok) I c.ga (hfo _ (h5.getNone hl)) c.gt (wpAny_call (fn_get (s := { s with toks := s.toks + 1 }) (r.kin ok) ht ?_))
          show wpAny _ _ (handedOut (.ref s.heap.objs.size)) _ _ _
          rw [handedOut_of rfl]
          obtain ⟨r', l'⟩ := r.alloc .z (o := methodObj (.ref f) (.ref y)) rfl (tk := s.toks + 1)
          exact wpAny_pure ⟨_, l', r', _, .ref y, rfl, Gh.z_iff.mpr Gh.set_self, RepV.mono (l'.vw W) _ _ q⟩
        · cases he
      · cases he
    · cases he
  · cases he

/-- storing an attribute -/
def setNs (C : Addr) (x : Str) (a v : AV) : M Unit := fun σ => match a with
  | .inst C' h => if C' = C then (match σ.st h with
    | some (.ns l) => if l.length ≤ 100 then some ((), { σ with st := fun m => if m = h then some (.ns (nsPut l x v)) else σ.st m }) else none
    | _ => none) else none
  | _ => none
theorem setNs_ok {A : Around} {G : Gh} {σ σ' : St} {s : Shared} {C : Addr} {x : Str} {a v : AV} {ma mv : Value} (ok : W.Ok) (c : ClsOK W C) (ht : takerIn W.K C x = some Option.none) (r : R W G σ s) (p : Rep W G a ma) (q : Rep W G v mv)
    (hf : setNs C x a v σ = some ((), σ')) : wpAny W.M A (setAttr ma x mv) (Post W (fun _ _ _ => True) G σ' ()) (fun _ _ => False) s := by
  unfold setNs at hf
  split at hf
  · split at hf
    · rename_i hC
      subst hC
      split at hf
      · rename_i h _ l hs
        split at hf
        · rename_i hlen
          cases hf
          obtain ⟨y, d, es, k, e, h1, h2, h3, I, h5⟩ := r.inst hs p
          subst e
          have k2 : s.heap.get? d = some (dictOf es k) := r.sub _ _ _ h2
          refine set_plain (r.kin ok) I c.sa (osa_open (s := { s with toks := s.toks + 1 }) (r.kin ok) I c.po ht fun b => ?_)
          obtain ⟨cd, hc, hd'⟩ := any_some c.hd
          refine wpAny_bind (wpAny_pure (wpAny_bind (wpAny_bind (wpAny_loadPart h3 ?_))))
          dsimp only
          have Lc := looks_clsIn (M := model W.prog W.w) (r.kin ok) hc
          refine wpAny_bind (Lc A.in1 _ _ _ (fun _ _ e => e) ?_)
          rw [hd']
          refine wpAny_pure (a := some d) (wpAny_bind (wpAny_pure (wpAny_bind ?_)))
          unfold nsSet
          refine wpAny_bind (wpAny_bind (wpAny_askSetting (wpAny_pure (wpAny_bind (wpAny_mkText (wpAny_bind (wpAny_loadPart k2 ?_)))))))
          have hg : (!es.toArray.any (fun e => e.key.isStr x) && es.toArray.any (fun e => e.refKey)) = false := by
            have h6 : es.toArray.any (fun e => e.refKey) = false := by
              rw [← Array.any_toList]; exact h5.noref
            rw [h6, Bool.and_false]
          rw [show (dictOf es k).data = .dict es.toArray k from rfl]
          dsimp only
          rw [aRefKeyMayBeTheName_at, hg]
          have e' : Heap.get? (s.heap.update d (Obj.putName x (PyData.keyHash W.w.params x) (.str x (s.toks + 1)) mv)) d = some (dictOf (putL x (PyData.keyHash W.w.params x) (.str x (s.toks + 1)) mv es) (putN x es k)) := by
            rw [Heap.get?_update_self _ k2 (by rw [putName_dict]; rfl), putName_dict]
          refine wpAny_updatePart k2 ?_
          have hput := NsE.put (x := x) q (PyData.keyHash W.w.params x) (s.toks + 1) h5
          have hl2 := hput.length
          have hl3 : (nsPut l x v).length ≤ l.length + 1 := by
            clear hput hl2 h5 hs hlen
            induction l with
            | nil => simp [nsPut]
            | cons p l ih =>
              obtain ⟨z, w⟩ := p
              unfold nsPut
              split
              · simp
              · simp only [List.length_cons]; omega
          refine wpAny_bind (wpAny_lookBehind e' (pastItsLine_dict (by rw [List.size_toArray, sizeLine_eq]; omega)) ?_)
          obtain ⟨G', l', r', _⟩ := r.setObj (o := .ns (nsPut l x v)) (tk := s.toks + 1 + 1) h1 h2 e' (Heap.SameBut.update ..) ⟨_, _, rfl, hput⟩
          exact wpAny_pure ⟨G', l', r', trivial⟩
        · cases hf
      · cases hf
    · cases hf
  · cases hf
theorem SimT.attr (ok : W.Ok) {C : Addr} {o : Expr} {x : Str} {pos : Pos} {f : M AV} (c : ClsOK W C) (ht : takerIn W.K C x = some Option.none) (h1 : SimE W X n o f) :
    SimT W X n (.Attribute o x pos) (fun v => M.bind f fun a => setNs C x a v) := by
  intro env A σ σ' G s v mv P hA r p hf
  obtain ⟨a, σ1, e1, hf⟩ := M.bind_some hf
  rw [arm_assign_Attribute]
  refine wpAny_bind (wpAny_holding (wpAny_mono (h1 env A _ _ _ G s P hA r e1) (fun ma s1 ⟨G1, l1, r1, p1⟩ => ?_) fun _ _ e => e))
  refine wpAny_bind (wpAny_standAt (wpAny_bind (wpAny_holding (wpAny_mono (setNs_ok ok c ht r1 p1 (p.le l1) hf) (fun _ s2 ⟨G2, l2, r2, _⟩ => ?_) fun _ _ e => e))))
  exact wpAny_release ⟨G2, l1.trans l2, r2, trivial⟩
end
end Mine
end

section
open PySem PySem.W PySem.Calls PyProof.Rows
set_option Elab.async false
set_option maxRecDepth 20000
set_option linter.unusedSectionVars false
set_option linter.unusedVariables false
namespace Mine

def Kp (M : Model) (h : Heap) (f : Value) : Prop := ∃ k, (k = Keeper.frame ∨ k = Keeper.machine ∨ k = Keeper.boundFrame) ∧ Looks M h (keeperOf f) k
theorem Kp.bi {M : Model} {h : Heap} {i : String} : Kp M h (.builtin i) := ⟨_, .inr (.inl rfl), Looks.of_pure rfl⟩
theorem Kp.ty {M : Model} {h : Heap} {i : String} : Kp M h (.type i) := ⟨_, .inr (.inl rfl), Looks.of_pure rfl⟩

theorem evalArgs_gen {M : Model} {A : Around} {E : Value → Shared → Prop} {s : Shared} {f : Value} {args : List (Bool × Sem Value)} {keywords : List (Option Str × Sem Value)} {Q : Args → Shared → Prop} (hs : args.any (·.1) = false) (hall : keywords.all (·.1.isSome) = true)
    (h : wpAny M A (spliced args) (fun vs s₁ => wpAny M A (evalAll (keywords.map (·.2))) (fun ks s₂ => Q ⟨vs, (keywords.filterMap (·.1)).zip ks⟩ s₂) E s₁) E s) :
    wpAny M A (evalArgs f true args keywords) Q E s := by
  cases args with
  | nil => exact PySem.evalArgs_kw_nil hall fun Γ p hΓ => (h Γ p hΓ : wpAny M A _ _ _ s) Γ p hΓ
  | cons x rest =>
    obtain ⟨b, t⟩ := x
    simp only [List.any_cons, Bool.or_eq_false_iff] at hs
    obtain ⟨rfl, _⟩ := hs
    exact PySem.evalArgs_kw hall h

def NoStar (es : List Expr) : Prop := ∀ env, (starEach es env).any (·.1) = false
def KwNames (kws : List Keyword) (ks : List Str) : Prop := ∀ env, (keywordEach kws env).map (·.1) = ks.map some
theorem NoStar.back {es : List Expr} (h : NoStar es) (pos : Pos) (env : Env) : (backTo pos (starEach es env)).any (·.1) = false := by
  have := h env
  unfold backTo
  rw [List.any_map]
  exact this
theorem KwNames.names {kws : List Keyword} {ks : List Str} (h : KwNames kws ks) (pos : Pos) (env : Env) : (backToKw pos (keywordEach kws env)).map (·.1) = ks.map some := by
  unfold backToKw
  rw [List.map_map]
  exact h env
theorem KwNames.all {kws : List Keyword} {ks : List Str} (h : KwNames kws ks) (pos : Pos) (env : Env) : (backToKw pos (keywordEach kws env)).all (·.1.isSome) = true := by
  have e : (backToKw pos (keywordEach kws env)).all (·.1.isSome) = ((backToKw pos (keywordEach kws env)).map (·.1)).all (·.isSome) := by rw [List.all_map]; rfl
  rw [e, h.names, List.all_map]
  simp
theorem KwNames.any {kws : List Keyword} {ks : List Str} (h : KwNames kws ks) (pos : Pos) (env : Env) : (backToKw pos (keywordEach kws env)).any (·.1.isNone) = false := by
  have e : (backToKw pos (keywordEach kws env)).any (·.1.isNone) = ((backToKw pos (keywordEach kws env)).map (·.1)).any (·.isNone) := by rw [List.any_map]; rfl
  rw [e, h.names, List.any_map]
  simp
theorem KwNames.fm {kws : List Keyword} {ks : List Str} (h : KwNames kws ks) (pos : Pos) (env : Env) : (backToKw pos (keywordEach kws env)).filterMap (·.1) = ks := by
  have e : (backToKw pos (keywordEach kws env)).filterMap (·.1) = ((backToKw pos (keywordEach kws env)).map (·.1)).filterMap id := by rw [List.filterMap_map]; rfl
  rw [e, h.names, List.filterMap_map]
  simp

abbrev SimK (W : Wd) (X : Sc) (n : Nat) (kws : List Keyword) (f : M (List AV)) : Prop := ∀ pos, Sim W (Reps W) (EF X) n (fun env => evalAll ((backToKw pos (keywordEach kws env)).map (·.2))) f

def SimF (W : Wd) (n : Nat) (ks : List Str) (g : AV → List AV → List AV → M AV) : Prop :=
  ∀ A σ σ' G s a args kws mf ms ks' v, AOK n A → R W G σ s → G.fr ≠ [] → Rep W G a mf → Reps W G args ms → Reps W G kws ks' → g a args kws σ = some (v, σ') →
    Kp W.M s.heap mf ∧ wpAny W.M A (call mf ms (ks.zip ks')) (Post W (Rep W) G σ' v) (fun _ _ => False) s

def SimM (W : Wd) (n : Nat) (name : Str) (ks : List Str) (pre : AV → M AV) (g : AV → List AV → List AV → M AV) : Prop :=
  ∀ A σ σ' G s a b ma pl, AOK n A → R W G σ s → G.fr ≠ [] → Rep W G a ma → pre a σ = some (b, σ') →
    wpAny W.M A (getMethod ma name pl) (fun fx s' => ∃ G', G.Le G' ∧ R W G' σ' s' ∧
      ∀ A σ2 σ3 G'' s'' args kws ms ks' v, AOK n A → G'.Le G'' → R W G'' σ2 s'' → Reps W G'' args ms → Reps W G'' kws ks' → g b args kws σ2 = some (v, σ3) →
        Kp W.M s''.heap fx.1 ∧ wpAny W.M A (call fx.1 (fx.2 ++ ms) (ks.zip ks')) (Post W (Rep W) G'' σ3 v) (fun _ _ => False) s'') (fun _ _ => False) s

section
variable {W : Wd} {X : Sc} {n : Nat}

theorem Sim.up {α β : Type} {rep : Gh → β → α → Prop} {P : Fa} {m : Nat} {t : Env → Sem α} {f : M β} (hm : m ≤ n) (h : Sim W rep P m t f) : Sim W rep P n t f :=
  fun env A σ b σ' G s p hA r hf => h env A σ b σ' G s p (hA.less hm) r hf
theorem SimCall.up {m : Nat} {f : Value} {ks : List Str} {g : List AV → List AV → M AV} (hm : m ≤ n) (h : SimCall W m f ks g) : SimCall W n f ks g :=
  fun A σ σ' G s args kws ms ks' v hA r hne h1 h2 hf => h A σ σ' G s args kws ms ks' v (hA.less hm) r hne h1 h2 hf

theorem SimK.nil : SimK W X n [] (M.pure []) := fun pos env A σ b σ' G s P hA r hf => by cases hf; exact wpAny_evalAll_nil (.now r rfl)
theorem SimK.cons {name : Option Str} {e : Expr} {p : Pos} {kws : List Keyword} {f : M AV} {g : M (List AV)} (h1 : SimE W X n e f) (h2 : SimK W X n kws g) : SimK W X n (⟨name, e, p⟩ :: kws) (M.bind f fun a => M.bind g fun l => M.pure (a :: l)) := by
  intro pos env A σ b σ' G s P hA r hf
  obtain ⟨a, σ1, e1, hf⟩ := M.bind_some hf
  obtain ⟨c, σ2, e2, hf⟩ := M.bind_some hf
  cases hf
  show wpAny W.M A (evalAll ((do let v ← eval e env; standAt pos; pure v) :: ((backToKw pos (keywordEach kws env)).map (·.2)))) _ _ s
  refine wpAny_evalAll_cons (wpAny_bind (wpAny_mono (h1 env A _ _ _ G s P hA r e1) (fun ma s1 ⟨G1, l1, r1, p1⟩ => wpAny_bind (wpAny_standAt (wpAny_pure ?_))) fun _ _ e => e))
  exact wpAny_mono (h2 pos env A _ _ _ G1 s1 (P.mono l1) hA r1 e2) (fun vs s2 ⟨G2, l2, r2, p2⟩ => ⟨G2, l1.trans l2, r2, _, _, rfl, p1.le l2, p2⟩) fun _ _ e => e

theorem SimE.call {id : Str} {p pos : Pos} {es : List Expr} {kws : List Keyword} {ks : List Str} {f : M AV} {ga gk : M (List AV)} {g : AV → List AV → List AV → M AV}
    (h1 : SimE W X n (.Name id p) f) (h2 : SimI W X n es ga) (h3 : SimK W X n kws gk) (h4 : SimF W n ks g) (hs : NoStar es) (hk : KwNames kws ks) :
    SimE W X n (.Call (.Name id p) es kws pos) (M.bind f fun a => M.bind ga fun l => M.bind gk fun k => g a l k) := by
  intro env A σ b σ' G s P hA r hf
  obtain ⟨a, σ1, e1, hf⟩ := M.bind_some hf
  obtain ⟨l, σ2, e2, hf⟩ := M.bind_some hf
  obtain ⟨k, σ3, e3, hf⟩ := M.bind_some hf
  refine wpAny_Call_Name_kw (wpAny_mono (h1 env A _ _ _ G s P hA r e1) (fun mf s1 ⟨G1, l1, r1, p1⟩ => ?_) fun _ _ e => e)
  refine callWith_of (P := fun h => Kp W.M h mf) (by rw [hs.back, hk.any]; rfl) (fun h q => q) (evalArgs_gen (hs.back _ _) (hk.all _ _) ?_)
  refine wpAny_mono (h2 pos env A _ _ _ G1 s1 (P.mono l1) hA r1 e2) (fun ms s2 ⟨G2, l2, r2, p2⟩ => ?_) fun _ _ e => e
  refine wpAny_mono (h3 pos env A _ _ _ G2 s2 (P.mono (l1.trans l2)) hA r2 e3) (fun ks' s3 ⟨G3, l3, r3, p3⟩ => ?_) fun _ _ e => e
  obtain ⟨q1, q2⟩ := h4 A _ _ G3 s3 a l k mf ms ks' _ hA r3 (P.mono ((l1.trans l2).trans l3)).ne (p1.le (l2.trans l3)) (Reps.le p2 l3) p3 hf
  refine ⟨q1, ?_⟩
  rw [hk.fm]
  exact wpAny_mono q2 (fun _ _ q => q.le ((l1.trans l2).trans l3)) fun _ _ e => e

theorem SimE.mcall {o : Expr} {name : Str} {apos pos : Pos} {es : List Expr} {kws : List Keyword} {ks : List Str} {f : M AV} {pre : AV → M AV} {ga gk : M (List AV)} {g : AV → List AV → List AV → M AV}
    (h1 : SimE W X n o f) (h2 : SimI W X n es ga) (h3 : SimK W X n kws gk) (h4 : SimM W n name ks pre g) (hs : NoStar es) (hk : KwNames kws ks)
    (he : ∀ env, ∃ pl, eval (.Call (.Attribute o name apos) es kws pos) env = (do
      let ov ← eval o env
      standAt apos.atName
      let (f, first) ← holding [ov] (getMethod ov name pl)
      callWith pos f first (backTo pos (starEach es env)) (backToKw pos (keywordEach kws env)))) :
    SimE W X n (.Call (.Attribute o name apos) es kws pos) (M.bind f fun a => M.bind (pre a) fun b => M.bind ga fun l => M.bind gk fun k => g b l k) := by
  intro env A σ b σ' G s P hA r hf
  obtain ⟨a, σ1, e1, hf⟩ := M.bind_some hf
  obtain ⟨c, σ1', e1', hf⟩ := M.bind_some hf
  obtain ⟨l, σ2, e2, hf⟩ := M.bind_some hf
  obtain ⟨k, σ3, e3, hf⟩ := M.bind_some hf
  obtain ⟨pl, he⟩ := he env
  refine methodCall_KW (pl := pl) (wpAny_mono (h1 env A _ _ _ G s P hA r e1) (fun ma s1 ⟨G1, l1, r1, p1⟩ => ?_) fun _ _ e => e) he
  refine wpAny_mono (h4 A _ _ G1 s1 a c ma pl hA r1 (P.mono l1).ne p1 e1') (fun fx s1' ⟨G1', l1', r1', cont⟩ => ?_) fun _ _ e => e
  refine callWith_of (P := fun h => Kp W.M h fx.1) (by rw [hs.back, hk.any]; rfl) (fun h q => q) (evalArgs_gen (hs.back _ _) (hk.all _ _) ?_)
  have lA := l1.trans l1'
  refine wpAny_mono (h2 pos env A _ _ _ G1' s1' (P.mono lA) hA r1' e2) (fun ms s2 ⟨G2, l2, r2, p2⟩ => ?_) fun _ _ e => e
  refine wpAny_mono (h3 pos env A _ _ _ G2 s2 (P.mono (lA.trans l2)) hA r2 e3) (fun ks' s3 ⟨G3, l3, r3, p3⟩ => ?_) fun _ _ e => e
  obtain ⟨q1, q2⟩ := cont A σ3 σ' G3 s3 l k ms ks' _ hA (l2.trans l3) r3 (Reps.le p2 l3) p3 hf
  refine ⟨q1, ?_⟩
  rw [hk.fm]
  exact wpAny_mono q2 (fun _ _ q => q.le ((lA.trans l2).trans l3)) fun _ _ e => e

/-- a method of the class -/
def selfIn (C : Addr) (x : Str) (a : AV) : M AV := fun σ => match a with
  | .inst C' h => if C' = C then (match σ.st h with
    | some (.ns l) => if l.lookup x = none then some (a, σ) else none
    | _ => none) else none
  | _ => none
theorem SimM.fn (ok : W.Ok) {C f : Addr} {name : Str} {ks : List Str} {g : List AV → List AV → M AV} (c : ClsOK W C) (hf : findIn W.K (.ref C) name = some (some (.ref f))) (ht : typeIn W.K (.ref f) = some (.type "function")) (hk : keepIn W.K (.ref f) = true) (h : SimCall W n (.ref f) ks g) :
    SimM W n name ks (selfIn C name) (fun b args kws => g (b :: args) kws) := by
  intro A σ σ' G s a b ma pl hA r hne q he
  unfold selfIn at he
  split at he
  · rename_i C' hh
    split at he
    · rename_i hC
      subst hC
      split at he
      · rename_i l hs
        split at he
        · rename_i hl
          cases he
          obtain ⟨y, d, es, k, e, h1, h2, h3, I, h5⟩ := r.inst hs q
          subst e
          refine method_fn (r.kin ok) I c.ga c.gt hf ht (by show (lookIn name (dictOf es k)).map _ = _; rw [lookIn_dict, h5.getNone hl]; rfl) ⟨G, .refl _, r, ?_⟩
          intro A σ2 σ3 G'' s'' args kws ms ks' v hA2 l2 r2 p2 p3 hg
          exact ⟨keeps_K hk _ (r2.kin ok), CP.call (h A _ _ G'' s'' (_ :: args) kws (.ref y :: ms) ks' v hA2 r2 (by rw [l2.fr]; exact hne) ⟨_, _, rfl, RepV.mono (l2.vw W) _ _ q, p2⟩ p3 hg)⟩
        · cases he
      · cases he
    · cases he
  · cases he

/-- a call of a bound method -/
def bmF (f : Addr) (g : List AV → List AV → M AV) : AV → List AV → List AV → M AV
  | .bm f' self, args, kws => if f' = f then g (self :: args) kws else M.fail
  | _, _, _ => M.fail
theorem SimF.bm (ok : W.Ok) {f : Addr} {ks : List Str} {g : List AV → List AV → M AV} (hk : fnIn W.K f = true) (h : SimCall W n (.ref f) ks g) : SimF W n ks (bmF f g) := by
  intro A σ σ' G s a args kws mf ms ks' v hA r hne p p2 p3 hg
  unfold bmF at hg
  split at hg
  · split at hg
    · rename_i hf
      subst hf
      obtain ⟨q, sv, e, hz, hr⟩ := p
      subst e
      have hq := r.z hz
      exact ⟨keeps_M hk _ ⟨hq, r.kin ok⟩, CP.call (method_call hq (h A _ _ G s (_ :: args) kws (sv :: ms) ks' v hA r hne ⟨_, _, rfl, hr, p2⟩ p3 hg))⟩
    · cases hg
  · cases hg
end
end Mine
end

section
open PySem PySem.W PySem.Calls PyProof.Rows
set_option Elab.async false
set_option maxRecDepth 20000
set_option linter.unusedSectionVars false
set_option linter.unusedVariables false
namespace Mine

section
variable {W : Wd} {X : Sc} {n : Nat}

/-- a method that lies in the instance's own dict -/
theorem SimM.own (ok : W.Ok) {C : Addr} {name : Str} {ks : List Str} {g : AV → List AV → List AV → M AV} (c : ClsOK W C) (ha : findIn W.K (.ref C) name = some Option.none) (h : SimF W n ks g) :
    SimM W n name ks (getNs C name) g := by
  intro A σ σ' G s a b ma pl hA r hne q he
  have hh : ∃ y d es k C' l, ma = .ref y ∧ C' = C ∧ InstAt s.heap y ⟨.ref C', some d, .plain, #[]⟩ C' (some (dictOf es k)) ∧ NsE (G.vw W) l es := by
    have he' := he
    unfold getNs at he'
    split at he'
    · split at he'
      · rename_i hC
        split at he'
        · rename_i l hs
          obtain ⟨y, d, es, k, e, h1, h2, h3, I, h5⟩ := r.inst hs q
          exact ⟨y, d, es, k, _, l, e, hC, I, h5⟩
        · cases he'
      · cases he'
    · cases he'
  obtain ⟨y, d, es, k, C', l, e, hC, I, h5⟩ := hh
  subst e hC
  refine method_usual (r.kin ok) I c.ga c.gt ha rfl (wpAny_mono (getNs_ok ok c ha rfl r q he) (fun v s' ⟨G', l', r', p'⟩ => ⟨G', l', r', ?_⟩) fun _ _ e => e)
  intro A σ2 σ3 G'' s'' args kws ms ks' v2 hA2 l2 r2 p2 p3 hg
  exact h A _ _ G'' s'' b args kws v ms ks' v2 hA2 r2 (by rw [l2.fr, l'.fr]; exact hne) (Rep.le p' l2) p2 p3 hg

/-! closures of the bottom frame -/
structure CloSc (W : Wd) (X : Sc) (ps : List Str) (sk : Sk) : Prop where
  scope : X.scope = sk.scope
  kind : sk.scope.kind = .function
  co : sk.scope.isCoroutine = false
  gen : sk.scope.isGenerator = false
  nocell : ∀ y ∈ sk.scope.names, y.2 ≠ .cell
  nd : (X.names.map (·.1)).Nodup
  pnd : ps.Nodup
  loc : ∀ y ∈ X.names, y.2 = .local
  sc : ∀ y ∈ X.names, X.scope.names.lookup y.1 = some y.2
  ps : ∀ p ∈ ps, (p, NameKind.local) ∈ X.names
  up : X.up = []
  bot : ∀ x i, (x, i) ∈ X.bot → (x, NameKind.free) ∈ sk.scope.names ∧ W.bnames[i]? = some (x, .cell)

theorem lookup_rev {l : List (Str × Value)} (nd : (l.map (·.1)).Nodup) (x : Str) : l.reverse.lookup x = l.lookup x := by
  induction l with
  | nil => rfl
  | cons p r ih =>
    obtain ⟨y, v⟩ := p
    rw [List.map_cons, List.nodup_cons] at nd
    rw [List.reverse_cons, List.lookup_append, ih nd.2, List.lookup_cons]
    by_cases h : x = y
    · subst h
      have : r.lookup x = none := by
        rw [List.lookup_eq_none_iff]
        intro p hp
        have : p.1 ≠ x := fun e => nd.1 (by rw [← e]; exact List.mem_map_of_mem (f := (·.1)) hp)
        simpa using fun e => this e.symm
      simp [this]
    · have hb : (x == y) = false := by simpa using h
      rw [hb, List.lookup_cons, hb]
      simp

theorem SimF.clo (ok : W.Ok) {k : Nat} {sk : Sk} {ps ks : List Str} {fb : M AFl} {fbind : List AV → List AV → Option (List AV)} (hk : W.clos k = some sk) (F : CloSc W X ps sk)
    (hb : ∀ fd : FuncData, fd.params = sk.params → fd.defaults = .none → fd.kwdefaults = .none → SimBind W fd ps ks fbind) (hB : SimX W X n sk.body fb) :
    SimF W (n + 1) ks (fun a args kws => match a with
      | .clo k' => if k' = k then (match fbind args kws with
        | some vals => fnA X.names ps fb vals
        | none => M.fail) else M.fail
      | _ => M.fail) := by
  intro A σ σ' G s a args kws mf ms ks' v hA r hne p p2 p3 hf
  dsimp only at hf
  split at hf
  · split at hf
    · rename_i k' hkk
      subst hkk
      obtain ⟨fa, o, e, hz, sk', fd, h1, h2, h3, h4, h5, h6, h7, h8, h9, h10, h11, ⟨c, oc, vs, t, i1, i2, i3, i4⟩, gf, h13, h14, h15⟩ := p
      subst e
      rw [hk] at h1
      cases h1
      have ho := r.z hz
      refine ⟨⟨.frame, .inl rfl, (Looks.ld (part := Option.none) ho).andThen (by rw [h3]; exact .now)⟩, CP.call ?_⟩
      cases hvals : fbind args kws with
      | none => simp only [hvals] at hf; cases hf
      | some vals =>
        simp only [hvals] at hf
        refine codeAny_call_function hA.room1 ho h3 (by rw [h7]; exact F.co) (by rw [h7]; exact F.gen) h6 ⟨c, oc, vs, t, i1, r.z i2, i3, i4⟩ ?_
        refine wpAny_mono (hb fd h5 h9 h10 A.in1 σ G s args kws ms ks' vals (hA.in1.less (Nat.zero_le _)) r p2 p3 hvals) (fun binds s1 ⟨bs, G1, e1, l1, r1, q1, len1⟩ => ?_) fun _ _ e => e.elim
        subst e1
        have hlen := q1.length
        have hzip : ((ps.zip bs).map (·.1)).Nodup := by
          rw [List.map_fst_zip (by omega)]
          exact F.pnd
        refine wpAny_newFunctionEnv (by rw [h7]; exact F.nocell) (fun x hx => ?_) (fun h' hns hsb => ?_) (by rw [h7]; exact F.kind)
        · rw [h7, ← F.scope]
          exact F.sc _ (F.ps _ (List.of_mem_zip hx).1)
        · have hne1 : G1.fr ≠ [] := by rw [l1.fr]; exact hne
          have hfr1 := r1.fresh
          obtain ⟨oL, hoL, hnL⟩ := NsOb.of hns
          have r2 := r1.push (hsy := r1.inv.sys.new hfr1 (.inl r1.big)) (G' := { G1.set s1.heap.objs.size (.loc G1.fr.length) oL with fr := ⟨X.names, s1.heap.objs.size, []⟩ :: G1.fr })
            (gf := ⟨X.names, s1.heap.objs.size, []⟩) (f := initF X.names (ps.zip vals)) (s' := { s1 with heap := h', toks := s1.toks + (ps.zip bs).length })
            (fun a t o e => Gh.set_keep e fun t₀ o₀ w => by rw [hfr1] at w; cases w) rfl rfl hne1
            (by
              have hvw : (G1.vw W).Le (Gh.vw { G1.set s1.heap.objs.size (.loc G1.fr.length) oL with fr := ⟨X.names, s1.heap.objs.size, []⟩ :: G1.fr } W) :=
                vw_le_fr (fun a o e => Gh.set_keep e fun t₀ o₀ w => by rw [hfr1] at w; cases w) (fun n a e => e) (by
                  show (_ :: G1.fr).getLast? = _
                  cases h : G1.fr with
                  | nil => exact absurd h hne1
                  | cons a l => rfl)
              have hv' := RepVs.mono hvw _ _ q1
              refine ⟨F.nd, by simp [initF], ⟨oL, _, Gh.set_self, hnL, fun i y hi v e => ?_⟩, fun i y hi => ?_⟩
              · unfold initF at e
                rw [List.getElem?_map, hi] at e
                have e : (ps.zip vals).lookup y = some v := Option.some.inj e
                obtain ⟨mv, e1, e2⟩ := zip_lookup ps vals bs hv' y v e
                exact ⟨mv, by rw [lookup_rev hzip]; exact e1, e2⟩
              · have := F.loc _ (List.mem_of_getElem? hi); cases this)
            (fun a t o e => by
              by_cases ha : a = s1.heap.objs.size
              · subst ha
                have e : (G1.set s1.heap.objs.size (.loc G1.fr.length) oL).kn s1.heap.objs.size = some (t, o) := e
                rw [Gh.set_self] at e
                cases e; exact hoL
              · have e : (G1.set s1.heap.objs.size (.loc G1.fr.length) oL).kn a = some (t, o) := e
                rw [Gh.set_ne ha] at e
                exact hsb.extBut a o ha (Heap.get?_push_of_some _ (r1.sub _ _ _ e))) rfl rfl
          have k2 : ∀ a t o, G1.kn a = some (t, o) → (G1.set s1.heap.objs.size (.loc G1.fr.length) oL).kn a = some (t, o) := fun a t o e => Gh.set_keep e fun t₀ o₀ w => by rw [hfr1] at w; cases w
          have hl : (G1.fr).getLast? = some gf := by rw [l1.fr]; exact h13
          have P2 : EnvOK X (newEnv fd.scope s1.heap.objs.size fd.globals fd.closure (fd.qualname ++ ".<locals>.") (some fa) fd.code Option.none fd.builtins) { G1.set s1.heap.objs.size (.loc G1.fr.length) oL with fr := ⟨X.names, s1.heap.objs.size, []⟩ :: G1.fr } := by
            refine ⟨by rw [F.scope]; exact h7, by rw [F.scope]; exact F.kind, h8, h11, ⟨_, rfl⟩, ⟨_, _, rfl, rfl, rfl, fun x hx => ?_⟩, fun x k i h => ?_, fun x i h => ?_⟩
            · have := F.loc _ hx; cases this
            · rw [F.up] at h; simp at h
            · obtain ⟨f1, f2⟩ := F.bot x i h
              obtain ⟨c', f3, f4⟩ := h15 x f1
              refine ⟨gf, ?_, by rw [h14]; exact f2, ?_⟩
              · show (_ :: G1.fr).getLast? = _
                cases hh : G1.fr with
                | nil => exact absurd hh hne1
                | cons a l => rw [hh] at hl; exact hl
              · show fd.closure.lookup x = _
                rw [f3, f4]
          refine ⟨r2.lim ok, codeAny_func ?_⟩
          unfold fnA at hf
          split at hf
          · rename_i fl σ2 hfb
            cases hf
            refine wpAny_mono (hB _ (A.deeper _) _ _ _ _ _ P2 hA.deeper r2 hfb) (fun f s3 ⟨G3, l3, r3, p3⟩ => ?_) fun _ _ e => e.elim
            have fr3 : G3.fr = ⟨X.names, s1.heap.objs.size, []⟩ :: G.fr := by rw [l3.fr]; show _ :: G1.fr = _; rw [l1.fr]
            refine ⟨G3.pop G.fr, ⟨fun b o e => l3.z _ _ (k2 _ _ _ (l1.z _ _ e)), fun b o e => l3.pin _ _ (k2 _ _ _ (l1.pin _ _ e)), fun m b e => l3.mu _ _ (l1.mu _ _ e), rfl⟩, r3.popF fr3 hne, ?_⟩
            cases fl <;> cases f <;> first | exact p3.elim | rfl | exact Rep.popF p3 fr3 hne
          · cases hf
    · cases hf
  · cases hf
end

/-! the law's own block, with a def in it -/
def SimLaw (W : Wd) (X : Sc) (c P : Addr) (n : Nat) (ps : Array Value) (body : List Stmt) (f : M AFl) : Prop :=
  ∀ env A σ fl σ' G s, EnvOK X env G → env.code = .ref c → (∃ gf, G.fr = [gf] ∧ gf.names = W.bnames) → G.kn P = some (.pin, tabObj ps) → AOK n A → R W G σ s → f σ = some (fl, σ') →
    wpAny W.M A (execs body env) (fun fl' s' => ∃ G', R W G' σ' s' ∧ RepFl W G' fl fl' ∧ LeX (· = P) G G' ∧ ∃ ps', G'.kn P = some (.pin, tabObj ps')) (fun _ _ => False) s

section
variable {W : Wd} {X : Sc} {n : Nat} {c P : Addr} {ps : Array Value}
theorem SimLaw.of {body : List Stmt} {f : M AFl} (h : SimX W X n body f) : SimLaw W X c P n ps body f :=
  fun env A σ fl σ' G s Pe hc hg hP hA r hf => wpAny_mono (h env A _ _ _ G s Pe hA r hf) (fun _ _ ⟨G', l', r', p'⟩ => ⟨G', r', p', l'.toX, _, l'.pin _ _ hP⟩) fun _ _ e => e
theorem SimLaw.cons {st : Stmt} {rest : List Stmt} {f g : M AFl} (h1 : SimS W X n st f) (h2 : SimLaw W X c P n ps rest g) : SimLaw W X c P n ps (st :: rest) (seqA f g) := by
  intro env A σ b σ' G s Pe hc hg hP hA r hf
  obtain ⟨a, σ1, e1, hf⟩ := M.bind_some hf
  refine wpAny_execs_cons (wpAny_mono (h1 env A _ _ _ G s Pe hA r e1) (fun fl s1 ⟨G1, l1, r1, p1⟩ => ?_) fun _ _ e => e)
  cases a <;> cases fl <;> first | exact p1.elim | skip
  · exact wpAny_mono (h2 env A _ _ _ G1 s1 (Pe.mono l1) hc (by rw [l1.fr]; exact hg) (l1.pin _ _ hP) hA r1 hf) (fun _ _ ⟨G', r', p', x', t'⟩ => ⟨G', r', p', l1.toX.trans x', t'⟩) fun _ _ e => e
  · cases hf; exact ⟨G1, r1, trivial, l1.toX, _, l1.pin _ _ hP⟩
  · cases hf; exact ⟨G1, r1, trivial, l1.toX, _, l1.pin _ _ hP⟩
  · cases hf; exact ⟨G1, r1, p1, l1.toX, _, l1.pin _ _ hP⟩

structure TopOK (W : Wd) (c P : Addr) : Prop where
  hd : ∃ o vs file tf flags tg inF text tt, W.H0.get? c = some o ∧ c ∉ W.TB ∧ o.cls = .type "code" ∧ o.data = .fields vs ∧ vs[11]? = some (.ref P) ∧ vs.getD 11 .none = .ref P ∧ vs.getD 18 .none = .str file tf ∧
    vs.getD 7 .none = .int flags tg ∧ vs.getD 9 .none = .bool inF ∧ vs.getD 10 .none = .int text tt ∧ c ≠ P
  bm : ∃ bm ob, W.mg "__builtins__" = some (.ref bm) ∧ bm ≠ builtinsNs ∧ bm ∉ W.TB ∧ W.H0.get? bm = some ob ∧ ob.cls = .type "module" ∧ ob.dict = some builtinsNs ∧ ob.data = .plain

theorem SimLaw.def {k : Nat} {name fname : Str} {params : Arguments} {body rest : List Stmt} {scope : Scope} {pos : Pos} {sk : Sk} {tgt : AV → M Unit} {f : M AFl} (ok : W.Ok) (T : TopOK W c P)
    (hk : W.clos k = some sk) (hp : sk.params = params) (hbd : sk.body = body) (hsc : sk.scope = scope) (hdef : PlainDefTree name params body scope pos)
    (ht : TriplesOk ps.toList) (hnf : codeAmong pos ps.toList = Option.none)
    (hfree : ∀ x, (x, NameKind.free) ∈ scope.names → (x, NameKind.cell) ∈ X.names) (hT : SimN W X n name tgt)
    (h2 : ∀ c', SimLaw W X c P n (ps ++ #[rawInt pos.line, rawInt pos.col, .ref c']) rest f) :
    SimLaw W X c P n ps (.FunctionDef name params body [] Option.none [] scope Option.none name pos :: rest) (M.bind (tgt (.clo k)) fun _ => f) := by
  intro env A σ fl σ' G s Pe hc hg hP hA r hf
  obtain ⟨⟨⟩, σ1, e1, hf⟩ := M.bind_some hf
  obtain ⟨gf, hfr, hnm⟩ := hg
  obtain ⟨cl, hcl1, hcl2⟩ := closureFor_is (scope := scope) (env := env) fun x hx => Pe.cells r (.inl (hfree x hx))
  obtain ⟨o, vs, file, tf, flags, tg, inF, text, tt, a1, a2, a3, a4, a5, a6, a7, a8, a9, a10, a11⟩ := T.hd
  have C : CodeHd s.heap c P := ⟨o, vs, file, tf, flags, tg, inF, text, tt, r.old a2 a1, a3, a4, a5, a6, a7, a8, a9, a10, a11⟩
  obtain ⟨bm, ob, b1, b2, b3, b4, b5, b6, b7⟩ := T.bm
  have hPs : s.heap.get? P = some (tabObj ps) := r.sub _ _ _ hP
  obtain ⟨og, g1, g2, g3⟩ := ok.glob
  have kG := r.inv.base _ _ g2 g1
  have kB := r.inv.base _ _ b3 b4
  have hgP : mainGlobals ≠ P := fun q => by rw [q, hP] at kG; cases kG
  have hbP : bm ≠ P := fun q => by rw [q, hP] at kB; cases kB
  have hbG : bm ≠ mainGlobals := fun q => by
    rw [q, kG] at kB; cases kB
    obtain ⟨es, ep, hd, _⟩ := g3
    rw [b7] at hd; cases hd
  refine wpAny_execs_cons ?_
  rw [hdef env]
  refine wpAny_bind (wpAny_standAt (wpAny_bind (wpAny_holding ?_)))
  refine makeFunction_K (mg := W.mg) hcl1 Pe.glob (r.gl ok) hc C hPs ht hnf hgP ⟨bm, ob, b1, b2, hbG, hbP, r.old b3 b4, b5, b6, b7⟩ fun c' ctv doc h' tk hx hge hlt hrec htb => ?_
  obtain ⟨c₂, oc, vs', t', q1, q2, q3, q4⟩ := hrec
  cases q1
  -- the table grows
  have hne : c' ≠ P := fun q => by
    rw [q] at hge
    exact absurd hge (Nat.not_le.mpr (Heap.lt_size hPs))
  have hfrC : G.kn c' = Option.none := by
    cases e : G.kn c' with
    | none => rfl
    | some p => exact absurd (Heap.lt_size (r.sub _ p.1 p.2 e)) (Nat.not_lt.mpr hge)
  obtain ⟨r1, lx1⟩ := r.pin (tk := tk) hP htb fun b x hb e => hx b x hb e
  -- its code
  have hfrC1 : (G.set P .pin (tabObj (ps ++ #[rawInt pos.line, rawInt pos.col, .ref c']))).kn c' = Option.none := by rw [Gh.set_ne hne]; exact hfrC
  have r2 : R W ((G.set P .pin (tabObj (ps ++ #[rawInt pos.line, rawInt pos.col, .ref c']))).set c' .z oc) σ { s with heap := h', toks := tk } :=
    ⟨r1.inv.set (fun t₀ o₀ e => by rw [hfrC1] at e; cases e) (.inr rfl), fun b t o e => by
      by_cases hb : b = c'
      · subst hb; rw [Gh.set_self] at e; cases e; exact q2
      · rw [Gh.set_ne hb] at e; exact r1.sub _ _ _ e, r1.os, r1.gens⟩
  have le2 : (G.set P .pin (tabObj (ps ++ #[rawInt pos.line, rawInt pos.col, .ref c']))).Le ((G.set P .pin (tabObj (ps ++ #[rawInt pos.line, rawInt pos.col, .ref c']))).set c' .z oc) := Gh.le_set fun t₀ o₀ e => by rw [hfrC1] at e; cases e
  obtain ⟨r3, le3⟩ := r2.alloc .z (o := fnMade name (qualnameIn env name name) params body scope cl doc ((W.mg "__name__").getD .none) c' ctv) rfl (tk := tk)
  have leA := le2.trans le3
  have P3 := (Pe.of_fr lx1.fr).mono leA
  have kP3 := leA.pin _ _ (Gh.set_self (G := G) (a := P) (t := .pin) (o := tabObj (ps ++ #[rawInt pos.line, rawInt pos.col, .ref c'])))
  have kc3 := le3.z _ _ (Gh.set_self (G := G.set P .pin (tabObj (ps ++ #[rawInt pos.line, rawInt pos.col, .ref c']))) (a := c') (t := .z) (o := oc))
  have kf3 := Gh.set_self (G := (G.set P .pin (tabObj (ps ++ #[rawInt pos.line, rawInt pos.col, .ref c']))).set c' .z oc) (a := h'.objs.size) (t := .z) (o := fnMade name (qualnameIn env name name) params body scope cl doc ((W.mg "__name__").getD .none) c' ctv)
  have fr3 : _ = G.fr := leA.fr.trans lx1.fr
  dsimp only at r3 leA P3 kP3 kc3 kf3 fr3
  generalize hG3 : ((G.set P .pin (tabObj (ps ++ #[rawInt pos.line, rawInt pos.col, .ref c']))).set c' .z oc).set h'.objs.size .z (fnMade name (qualnameIn env name name) params body scope cl doc ((W.mg "__name__").getD .none) c' ctv) = G3 at *
  have hz : Rep W G3 (.clo k) (.ref h'.objs.size) := by
    refine ⟨_, _, rfl, Gh.z_iff.mpr kf3, sk, _, hk, rfl, rfl, trivial, hp.symm, by rw [hbd], hsc.symm, rfl, rfl, rfl, rfl, ⟨c', oc, vs', t', rfl, ?_, q3, q4⟩, gf, ?_, hnm, fun x hx => ?_⟩
    · exact Gh.z_iff.mpr kc3
    · rw [fr3, hfr]; rfl
    · rw [hsc] at hx
      obtain ⟨gf', rest', w1, w2, w3, w4⟩ := Pe.own
      rw [hfr] at w1
      cases w1
      obtain ⟨f', lvl, v1, v2⟩ := r.inv.frames.get (k := 0) (gk := gf) (by rw [hfr]; rfl)
      have hm := hfree x hx
      obtain ⟨i, hi, ei⟩ := List.getElem_of_mem hm
      obtain ⟨cc, occ, cv, u1, _⟩ := v2.cel i x (by rw [w2, List.getElem?_eq_getElem hi, ei])
      exact ⟨cc, by show cl.lookup x = _; rw [hcl2 x hx, w4 x hm, u1], u1⟩
  refine wpAny_bind (wpAny_standAt (wpAny_bind (wpAny_bindName (wpAny_mono (hT env A σ σ1 G3 _ (.clo k) _ P3 hA r3 hz e1) (fun _ s4 ⟨G4, l4, r4, _⟩ => wpAny_pure ?_) fun _ _ e => e))))
  have lxB : LeX (· = P) G G4 := by
    have := (lx1.trans leA.toX).trans l4.toX
    exact this
  refine wpAny_mono (h2 c' env A _ _ _ G4 s4 (P3.mono l4) hc ⟨gf, by rw [l4.fr, fr3]; exact hfr, hnm⟩ (l4.pin _ _ kP3) hA r4 hf) (fun _ _ ⟨G', r', p', x', t'⟩ => ⟨G', r', p', lxB.trans x', t'⟩) fun _ _ e => e
end
end Mine
end

section
open PySem PySem.W PySem.Calls PyProof.Rows
set_option Elab.async false
set_option maxRecDepth 20000
set_option linter.unusedSectionVars false
set_option linter.unusedVariables false
namespace Mine

/-- a known callee -/
def SimV (W : Wd) (n : Nat) (mf : Value) (ks : List Str) (g : List AV → List AV → M AV) : Prop :=
  ∀ A σ σ' G s args kws ms ks' v, AOK n A → R W G σ s → G.fr ≠ [] → Reps W G args ms → Reps W G kws ks' → g args kws σ = some (v, σ') →
    Kp W.M s.heap mf ∧ wpAny W.M A (call mf ms (ks.zip ks')) (Post W (Rep W) G σ' v) (fun _ _ => False) s

section
variable {W : Wd} {X : Sc} {n : Nat}

theorem SimE.callV {id : Str} {p pos : Pos} {es : List Expr} {kws : List Keyword} {ks : List Str} {mf : Value} {ga gk : M (List AV)} {g : List AV → List AV → M AV}
    (h1 : SimE W X n (.Name id p) (M.pure (.mc mf))) (h2 : SimI W X n es ga) (h3 : SimK W X n kws gk) (h4 : SimV W n mf ks g) (hs : NoStar es) (hk : KwNames kws ks) :
    SimE W X n (.Call (.Name id p) es kws pos) (M.bind ga fun l => M.bind gk fun k => g l k) := by
  intro env A σ b σ' G s P hA r hf
  obtain ⟨l, σ2, e2, hf⟩ := M.bind_some hf
  obtain ⟨k, σ3, e3, hf⟩ := M.bind_some hf
  refine wpAny_Call_Name_kw (wpAny_mono (h1 env A σ (.mc mf) σ G s P hA r rfl) (fun mf' s1 ⟨G1, l1, r1, p1⟩ => ?_) fun _ _ e => e)
  cases p1
  refine callWith_of (P := fun h => Kp W.M h mf) (by rw [hs.back, hk.any]; rfl) (fun h q => q) (evalArgs_gen (hs.back _ _) (hk.all _ _) ?_)
  refine wpAny_mono (h2 pos env A _ _ _ G1 s1 (P.mono l1) hA r1 e2) (fun ms s2 ⟨G2, l2, r2, p2⟩ => ?_) fun _ _ e => e
  refine wpAny_mono (h3 pos env A _ _ _ G2 s2 (P.mono (l1.trans l2)) hA r2 e3) (fun ks' s3 ⟨G3, l3, r3, p3⟩ => ?_) fun _ _ e => e
  obtain ⟨q1, q2⟩ := h4 A _ _ G3 s3 l k ms ks' _ hA r3 (P.mono ((l1.trans l2).trans l3)).ne (Reps.le p2 l3) p3 hf
  refine ⟨q1, ?_⟩
  rw [hk.fm]
  exact wpAny_mono q2 (fun _ _ q => q.le ((l1.trans l2).trans l3)) fun _ _ e => e

theorem SimV.fn (ok : W.Ok) {f : Addr} {ks : List Str} {g : List AV → List AV → M AV} (hk : keepIn W.K (.ref f) = true) (h : SimCall W n (.ref f) ks g) : SimV W n (.ref f) ks g :=
  fun A σ σ' G s args kws ms ks' v hA r hne p2 p3 hg => ⟨keeps_K hk _ (r.kin ok), CP.call (h A _ _ G s args kws ms ks' v hA r hne p2 p3 hg)⟩

/-- anything at all, where the run never comes -/
theorem Sim.no {α β : Type} {rep : Gh → β → α → Prop} {P : Fa} {t : Env → Sem α} : Sim W rep P n t (M.fail : M β) := fun env A σ b σ' G s _ _ _ hf => by cases hf
theorem SimI.no {es : List Expr} : SimI W X n es M.fail := fun pos => Sim.no
theorem SimT.no {t : Expr} : SimT W X n t (fun _ => M.fail) := fun env A σ σ' G s v mv P hA r p hf => by cases hf

theorem Reps.one {G : Gh} {a : AV} {ms : List Value} (p : Reps W G [a] ms) : ∃ x, ms = [x] ∧ Rep W G a x := by
  obtain ⟨x, r, e, h1, h2⟩ := p
  cases h2
  exact ⟨x, e, h1⟩
theorem Reps.two {G : Gh} {a b : AV} {ms : List Value} (p : Reps W G [a, b] ms) : ∃ x y, ms = [x, y] ∧ Rep W G a x ∧ Rep W G b y := by
  obtain ⟨x, r, e, h1, y, r2, e2, h2, h3⟩ := p
  cases h3; subst e2
  exact ⟨x, y, e, h1, h2⟩
theorem Reps.three {G : Gh} {a b c : AV} {ms : List Value} (p : Reps W G [a, b, c] ms) : ∃ x y z, ms = [x, y, z] ∧ Rep W G a x ∧ Rep W G b y ∧ Rep W G c z := by
  obtain ⟨x, r, e, h1, y, r2, e2, h2, z, r3, e3, h3, h4⟩ := p
  cases h4; subst e3; subst e2
  exact ⟨x, y, z, e, h1, h2, h3⟩
theorem zipNil {ks : List Str} {ks' : List Value} {G : Gh} (p : Reps W G [] ks') : ks.zip ks' = [] := by
  have : ks' = [] := p
  rw [this]; simp

/-! builtins -/
def lenF : List AV → List AV → M AV
  | [a], [] => fun σ => match a with
    | .lst l => if l.length < 2 ^ 40 then some (.int l.length, σ) else none
    | .dct l => if l.length < 2 ^ 40 then some (.int l.length, σ) else none
    | .ref n => (match σ.st n with
      | some (.list l) => if l.length < 2 ^ 40 then some (.int l.length, σ) else none
      | some (.dictI l) => if l.length < 2 ^ 40 then some (.int l.length, σ) else none
      | some (.dictS l) => if l.length < 2 ^ 40 then some (.int l.length, σ) else none
      | _ => none)
    | _ => none
  | _, _ => M.fail
theorem SimV.len (ok : W.Ok) : SimV W n (.builtin "len") [] lenF := by
  intro A σ σ' G s args kws ms ks' v hA r hne p2 p3 hf
  refine ⟨.bi, ?_⟩
  unfold lenF at hf
  split at hf
  · obtain ⟨x, e, p⟩ := Reps.one p2
    rw [zipNil p3]
    subst e
    split at hf
    · split at hf
      · rename_i hl
        cases hf
        obtain ⟨y, vs, m, e, hz, hr⟩ := p
        subst e
        have hlen := hr.length
        rw [Array.length_toList] at hlen
        exact call_len_list (isList_of (r.z hz)) (by omega) (.now r.tok ⟨_, by rw [hlen]⟩)
      · cases hf
    · split at hf
      · rename_i hl
        cases hf
        obtain ⟨y, o, kvs, e, hsy, hz, hd, hr⟩ := p
        subst e
        have hlen := hr.length
        exact call_len_dict hsy (DictOb.dictOf hd (r.z hz)) (by omega) (.now r.tok ⟨_, by rw [hlen]⟩)
      · cases hf
    · split at hf
      · rename_i l hs
        split at hf
        · rename_i hl
          cases hf
          obtain ⟨x, vs, k, e, hz, hr⟩ := r.view p (l := l) (by unfold viewL; dsimp only; rw [hs])
          subst e
          have hlen := hr.length
          rw [Array.length_toList] at hlen
          exact call_len_list (isList_of hz) (by omega) (.now r.tok ⟨_, by rw [hlen]⟩)
        · cases hf
      · rename_i l hs
        split at hf
        · rename_i hl
          cases hf
          obtain ⟨x, kvs, ob, e, hm, hk, hD, hr, hsy⟩ := r.dict (dkI W) ok hs p
          subst e
          have hlen := hr.length
          exact call_len_dict (knd := intKind W.prog W.w) hsy hD (by omega) (.now r.tok ⟨_, by rw [hlen]⟩)
        · cases hf
      · rename_i l hs
        split at hf
        · rename_i hl
          cases hf
          obtain ⟨x, kvs, ob, e, hm, hk, hD, hr, hsy⟩ := r.dict (dkS W) ok hs p
          subst e
          have hlen := hr.length
          exact call_len_dict (knd := strKind W.prog W.w) hsy hD (by omega) (.now r.tok ⟨_, by rw [hlen]⟩)
        · cases hf
      · cases hf
    · cases hf
  · cases hf

def rangeF : List AV → List AV → M AV
  | [.int b], [] => M.pure (.rng 0 b 1)
  | [.int a, .int b], [] => M.pure (.rng a b 1)
  | [.int a, .int b, .int c], [] => if c ≠ 0 ∧ c.natAbs < 1073741824 then M.pure (.rng a b c) else M.fail
  | _, _ => M.fail
theorem SimV.range : SimV W n (.type "range") [] rangeF := by
  intro A σ σ' G s args kws ms ks' v hA r hne p2 p3 hf
  refine ⟨.ty, ?_⟩
  unfold rangeF at hf
  split at hf
  · cases hf
    obtain ⟨x, e, t, p⟩ := Reps.one p2
    rw [zipNil p3]
    subst e p
    obtain ⟨r', l'⟩ := r.alloc .z (o := { cls := .type "range", data := .fields #[.int 0 s.toks, .int _ t, .int 1 (s.toks + 1)] }) rfl (tk := s.toks + 1 + 1)
    exact call_range_1 ⟨_, l', r', _, _, _, _, rfl, Gh.z_iff.mpr Gh.set_self⟩
  · cases hf
    obtain ⟨x, y, e, ⟨t, p⟩, ⟨u, q⟩⟩ := Reps.two p2
    rw [zipNil p3]
    subst e p q
    obtain ⟨r', l'⟩ := r.alloc .z (o := { cls := .type "range", data := .fields #[.int _ t, .int _ u, .int 1 s.toks] }) rfl (tk := s.toks + 1)
    exact call_range_2 ⟨_, l', r', _, _, _, _, rfl, Gh.z_iff.mpr Gh.set_self⟩
  · split at hf
    · rename_i hc
      cases hf
      obtain ⟨x, y, z, e, ⟨t, p⟩, ⟨u, q⟩, ⟨w, q2⟩⟩ := Reps.three p2
      rw [zipNil p3]
      subst e p q q2
      obtain ⟨r', l'⟩ := r.alloc .z (o := { cls := .type "range", data := .fields #[.int _ t, .int _ u, .int _ w] }) rfl (tk := s.toks)
      exact call_range_3 hc.1 ⟨_, l', r', _, _, _, _, rfl, Gh.z_iff.mpr Gh.set_self⟩ (.inl (PyProof.noPylong_small hc.2))
    · cases hf
  · cases hf

def strF : List AV → List AV → M AV
  | [.int a], [] => if smallI a then M.pure (.str (toString a)) else M.fail
  | _, _ => M.fail
theorem smallI_log {a : Int} (h : smallI a = true) : a.natAbs.log2 < 1920 := by
  unfold smallI at h
  rw [Bool.and_eq_true, decide_eq_true_eq, decide_eq_true_eq] at h
  have h1 : a.natAbs < 2 ^ 62 := by omega
  by_cases h0 : a.natAbs = 0
  · rw [h0]; decide
  · have := (Nat.log2_lt h0).mpr h1
    omega
theorem SimV.str : SimV W n (.type "str") [] strF := by
  intro A σ σ' G s args kws ms ks' v hA r hne p2 p3 hf
  refine ⟨.ty, ?_⟩
  unfold strF at hf
  split at hf
  · split at hf
    · rename_i hs
      cases hf
      obtain ⟨x, e, t, p⟩ := Reps.one p2
      rw [zipNil p3]
      subst e p
      exact PySem.P.str_of_int (smallI_log hs) (.now r.tok ⟨_, rfl⟩)
    · cases hf
  · cases hf

def absF : List AV → List AV → M AV
  | [.int a], [] => M.pure (.int (if a < 0 then -a else a))
  | _, _ => M.fail
theorem SimV.abs : SimV W n (.builtin "abs") [] absF := by
  intro A σ σ' G s args kws ms ks' v hA r hne p2 p3 hf
  refine ⟨.bi, ?_⟩
  unfold absF at hf
  split at hf
  · cases hf
    obtain ⟨x, e, t, p⟩ := Reps.one p2
    rw [zipNil p3]
    subst e p
    exact call_abs_int fun u tk => .now r.tok ⟨_, rfl⟩
  · cases hf

/-- the builtin class of a value -/
def tyA (σ : St) : AV → Option String
  | .int _ => some "int"
  | .str _ => some "str"
  | .lst _ => some "list"
  | .dct _ => some "dict"
  | .ref n => match σ.st n with
    | some (.list _) => some "list"
    | some (.dictI _) => some "dict"
    | some (.dictS _) => some "dict"
    | _ => Option.none
  | _ => Option.none
theorem DictOb.cls {prog : Program} {w : World} {κ : Type} [DecidableEq κ] {knd : KeyKind prog w κ} {o : Obj} {kvs : List (κ × Value)} (h : DictOb knd o kvs) : o.cls = .type "dict" := by
  obtain ⟨es, ep, h1, _⟩ := h
  exact h1.1
theorem R.tyIs {G : Gh} {σ : St} {s : Shared} (r : R W G σ s) {a : AV} {mv : Value} {T : String} (p : Rep W G a mv) (h : tyA σ a = some T) : s.TypeIs mv T ∧ (T = "int" → ∃ i t, mv = .int i t) ∧ (T = "str" → ∃ i t, mv = .str i t) ∧ (T = "list" ∨ T = "dict" → ∃ b o, mv = .ref b ∧ s.heap.get? b = some o ∧ o.cls = .type T) := by
  unfold tyA at h
  split at h
  · cases h; obtain ⟨t, rfl⟩ := p; exact ⟨typeIs_int _ _ _, fun _ => ⟨_, _, rfl⟩, fun e => absurd e (by decide), fun e => absurd e (by decide)⟩
  · cases h; obtain ⟨t, rfl⟩ := p; exact ⟨typeIs_str _ _ _, fun e => absurd e (by decide), fun _ => ⟨_, _, rfl⟩, fun e => absurd e (by decide)⟩
  · cases h
    obtain ⟨x, vs, m, e, hz, hr⟩ := p
    subst e
    exact ⟨⟨_, r.z hz, rfl⟩, fun e => absurd e (by decide), fun e => absurd e (by decide), fun _ => ⟨_, _, rfl, r.z hz, rfl⟩⟩
  · cases h
    obtain ⟨x, o, kvs, e, hsy, hz, hd, hr⟩ := p
    subst e
    exact ⟨⟨_, r.z hz, DictOb.cls hd⟩, fun e => absurd e (by decide), fun e => absurd e (by decide), fun _ => ⟨_, _, rfl, r.z hz, DictOb.cls hd⟩⟩
  · obtain ⟨x, e, hm⟩ := p
    subst e
    split at h
    · rename_i l hs
      cases h
      obtain ⟨y, ob, h1, h2, vs, k, h3, h4⟩ := r.inv.objs _ _ hs
      rw [show (G.vw W).mu = G.mu from rfl, h1] at hm
      cases hm
      subst h3
      exact ⟨⟨_, r.sub _ _ _ h2, rfl⟩, fun e => absurd e (by decide), fun e => absurd e (by decide), fun _ => ⟨_, _, rfl, r.sub _ _ _ h2, rfl⟩⟩
    · rename_i l hs
      cases h
      obtain ⟨y, ob, h1, h2, kvs, h3, h4⟩ := r.inv.objs _ _ hs
      rw [show (G.vw W).mu = G.mu from rfl, h1] at hm
      cases hm
      exact ⟨⟨_, r.sub _ _ _ h2, DictOb.cls h3⟩, fun e => absurd e (by decide), fun e => absurd e (by decide), fun _ => ⟨_, _, rfl, r.sub _ _ _ h2, DictOb.cls h3⟩⟩
    · rename_i l hs
      cases h
      obtain ⟨y, ob, h1, h2, kvs, h3, h4⟩ := r.inv.objs _ _ hs
      rw [show (G.vw W).mu = G.mu from rfl, h1] at hm
      cases hm
      exact ⟨⟨_, r.sub _ _ _ h2, DictOb.cls h3⟩, fun e => absurd e (by decide), fun e => absurd e (by decide), fun _ => ⟨_, _, rfl, r.sub _ _ _ h2, DictOb.cls h3⟩⟩
    · cases h
  · cases h

/-- what the classes answer -/
structure IsiOK (Tx T : String) (b : Bool) : Prop where
  meta' : typeOf (.type T) = pure (.type "type")
  sub : isSubtype (.type Tx) (.type T) = pure b
  ne : b = false → (Value.type Tx == Value.type T) = false

theorem IsiOK.ans {Tx T : String} {b : Bool} (h : IsiOK Tx T b) {G : Gh} {σ : St} {s : Shared} (r : R W G σ s) {a : AV} {mv : Value} (p : Rep W G a mv) (ht : tyA σ a = some Tx) (hT : Tx = "int" ∨ Tx = "str" ∨ Tx = "list" ∨ Tx = "dict") :
    Answers (fun s => s.TypeIs mv Tx) mv (.type T) b := by
  cases b with
  | true => exact .of_true h.meta' h.sub
  | false =>
    obtain ⟨_, h1, h2, h3⟩ := r.tyIs p ht
    rcases hT with rfl | rfl | rfl | rfl
    · obtain ⟨i, t, rfl⟩ := h1 rfl; exact .of_false_int (h.ne rfl) h.meta' h.sub
    · obtain ⟨i, t, rfl⟩ := h2 rfl; exact .of_false_str (h.ne rfl) h.meta' h.sub
    · obtain ⟨i, o, rfl, _⟩ := h3 (.inl rfl); exact .of_false_list (h.ne rfl) h.meta' h.sub
    · obtain ⟨i, o, rfl, _⟩ := h3 (.inr rfl); exact .of_false_dict (h.ne rfl) h.meta' h.sub

/-- `isinstance` with one class -/
def isiF (T : String) : List AV → List AV → M AV
  | [a, .mc (.type T')], [] => fun σ => match tyA σ a with
    | some Tx => if T' = T then some (.bool (decide (Tx = T)), σ) else none
    | none => none
  | _, _ => M.fail
theorem tyA_four {σ : St} {a : AV} {Tx : String} (h : tyA σ a = some Tx) : Tx = "int" ∨ Tx = "str" ∨ Tx = "list" ∨ Tx = "dict" := by
  unfold tyA at h
  split at h
  · cases h; simp
  · cases h; simp
  · cases h; simp
  · cases h; simp
  · split at h <;> first | (cases h; simp; done) | cases h
  · cases h
theorem SimV.isi {T : String} (hT : ∀ Tx, Tx = "int" ∨ Tx = "str" ∨ Tx = "list" ∨ Tx = "dict" → IsiOK Tx T (decide (Tx = T))) : SimV W n (.builtin "isinstance") [] (isiF T) := by
  intro A σ σ' G s args kws ms ks' v hA r hne p2 p3 hf
  refine ⟨.bi, ?_⟩
  unfold isiF at hf
  split at hf
  · split at hf
    · rename_i Tx ht
      split at hf
      · rename_i hTT
        have hTT := hTT.symm
        subst hTT
        cases hf
        obtain ⟨x, y, e, p, q⟩ := Reps.two p2
        rw [zipNil p3]
        subst e
        cases q
        obtain ⟨t1, t2, t3, t4⟩ := r.tyIs p ht
        have h4 := tyA_four ht
        have hI := hT _ h4
        by_cases hb : Tx = T
        · have hd : decide (Tx = T) = true := decide_eq_true hb
          rw [hd] at hI ⊢
          exact call_isinstance (isinstance_true hI.meta' hI.sub) ⟨t1, .now r rfl⟩
        · have hd : decide (Tx = T) = false := decide_eq_false hb
          rw [hd] at hI ⊢
          rcases h4 with rfl | rfl | rfl | rfl
          · obtain ⟨i, t, rfl⟩ := t2 rfl
            exact call_isinstance (isinstance_false_int (hI.ne rfl) hI.meta' hI.sub) (.now r.tok rfl)
          · obtain ⟨i, t, rfl⟩ := t3 rfl
            exact call_isinstance (isinstance_false_str (hI.ne rfl) hI.meta' hI.sub) (.now r.tok rfl)
          · obtain ⟨i, o, rfl, g1, g2⟩ := t4 (.inl rfl)
            exact call_isinstance (isinstance_false_list (hI.ne rfl) hI.meta' hI.sub) ⟨⟨o, g1, g2⟩, .now r.tok rfl⟩
          · obtain ⟨i, o, rfl, g1, g2⟩ := t4 (.inr rfl)
            exact call_isinstance (isinstance_false_dict (hI.ne rfl) hI.meta' hI.sub) ⟨⟨o, g1, g2⟩, .now r.tok rfl⟩
      · cases hf
    · cases hf
  · cases hf
theorem isiInt (Tx : String) (h : Tx = "int" ∨ Tx = "str" ∨ Tx = "list" ∨ Tx = "dict") : IsiOK Tx "int" (decide (Tx = "int")) := by
  rcases h with rfl | rfl | rfl | rfl
  all_goals exact ⟨by first | exact F.isi_meta_int | kernel_rfl, by rw [isSubtype_type]; kernel_rfl, by decide⟩
theorem isiStr (Tx : String) (h : Tx = "int" ∨ Tx = "str" ∨ Tx = "list" ∨ Tx = "dict") : IsiOK Tx "str" (decide (Tx = "str")) := by
  rcases h with rfl | rfl | rfl | rfl
  all_goals exact ⟨by first | exact F.isi_meta_str | kernel_rfl, by rw [isSubtype_type]; kernel_rfl, by decide⟩
theorem isiDict (Tx : String) (h : Tx = "int" ∨ Tx = "str" ∨ Tx = "list" ∨ Tx = "dict") : IsiOK Tx "dict" (decide (Tx = "dict")) := by
  rcases h with rfl | rfl | rfl | rfl
  all_goals exact ⟨by first | exact F.isi_meta_dict | kernel_rfl, by rw [isSubtype_type]; kernel_rfl, by decide⟩
end
end Mine
end

section
open PySem PySem.W PySem.Calls PyProof.Rows
set_option Elab.async false
set_option maxRecDepth 20000
set_option linter.unusedSectionVars false
set_option linter.unusedVariables false
namespace Mine

/-- a look into a dict -/
def dget (σ : St) : AV → AV → Option (Option AV)
  | .ref n, .int i => match σ.st n with
    | some (.dictI l) => some (getK l i)
    | _ => none
  | .ref n, .str x => match σ.st n with
    | some (.dictS l) => some (getK l x)
    | _ => none
  | .dct l, .str x => some (getK l x)
  | _, _ => none

section
variable {W : Wd} {X : Sc} {n : Nat}

def dRep (W : Wd) (G : Gh) : Option AV → Option Value → Prop
  | some v, m => ∃ x, m = some x ∧ Rep W G v x
  | none, m => m = none
theorem RepKV.dRep {κ : Type} [DecidableEq κ] {G : Gh} {l : List (κ × AV)} {kvs} (h : RepKV (G.vw W) l kvs) (k : κ) : dRep W G (getK l k) (valueAt kvs k) := by
  cases e : getK l k with
  | some v => exact h.get e
  | none => exact h.getNone e

theorem R.dget {G : Gh} {σ : St} {s : Shared} (r : R W G σ s) (ok : W.Ok) {a k : AV} {ma mk : Value} {o : Option AV} (p : Rep W G a ma) (q : Rep W G k mk) (h : dget σ a k = some o) :
    ∃ (d : Addr) (κ : Type) (_ : DecidableEq κ) (knd : KeyKind W.prog W.w κ) (kk : κ) (kvs : List (κ × Value)), ma = .ref d ∧ (d == sysModules) = false ∧ s.heap.DictOf knd d kvs ∧ knd.is kk mk = true ∧ (keyPart mk).isSome = true ∧
      dRep W G o (valueAt kvs kk) := by
  unfold Mine.dget at h
  split at h
  · obtain ⟨t, rfl⟩ := q
    split at h
    · rename_i l hs
      cases h
      obtain ⟨x, kvs, ob, e, hm, hk, hD, hr, hsy⟩ := r.dict (dkI W) ok hs p
      exact ⟨x, Int, inferInstance, intKind W.prog W.w, _, kvs, e, hsy, hD, intKind_is _ _ _ _, rfl, hr.dRep _⟩
    · cases h
  · obtain ⟨t, rfl⟩ := q
    split at h
    · rename_i l hs
      cases h
      obtain ⟨x, kvs, ob, e, hm, hk, hD, hr, hsy⟩ := r.dict (dkS W) ok hs p
      exact ⟨x, Str, inferInstance, strKind W.prog W.w, _, kvs, e, hsy, hD, strKind_is _ _ _ _, rfl, hr.dRep _⟩
    · cases h
  · obtain ⟨t, rfl⟩ := q
    cases h
    obtain ⟨y, o, kvs, e, hsy, hz, hd, hr⟩ := p
    exact ⟨y, Str, inferInstance, strKind W.prog W.w, _, kvs, e, hsy, DictOb.dictOf hd (r.z hz), strKind_is _ _ _ _, rfl, hr.kv.dRep _⟩
  · cases h

theorem dict_nodict {prog : Program} {w : World} {κ : Type} [DecidableEq κ] {knd : KeyKind prog w κ} {h : Heap} {d : Addr} {kvs : List (κ × Value)} (x : h.DictOf knd d kvs) : ∀ b, Value.ref d = .ref b → ∃ ob, h.get? b = some ob ∧ ob.dict = none := by
  intro b e
  cases e
  obtain ⟨o, es, ep, h1, h2, _⟩ := x
  exact ⟨o, h1, h2.2.1⟩

/-- methods of builtin containers: the callee is fixed at once -/
def SimBM (W : Wd) (n : Nat) (id : String) (g : AV → List AV → M AV) : Prop :=
  ∀ A σ σ' G s a args ma ms v, AOK n A → R W G σ s → G.fr ≠ [] → Rep W G a ma → Reps W G args ms → g a args σ = some (v, σ') →
    wpAny W.M A (call (.builtin id) (ma :: ms)) (Post W (Rep W) G σ' v) (fun _ _ => False) s
/-- the builtin container's class, by its representation -/
def isDict (σ : St) (a : AV) : Prop := tyA σ a = some "dict"
def preT (T : String) (a : AV) : M AV := fun σ => if tyA σ a = some T then some (a, σ) else none
theorem R.nodict {G : Gh} {σ : St} {s : Shared} (r : R W G σ s) {a : AV} {ma : Value} {T : String} (p : Rep W G a ma) (h : tyA σ a = some T) : ∀ b, ma = .ref b → ∃ ob, s.heap.get? b = some ob ∧ ob.dict = Option.none := by
  intro b hb
  subst hb
  unfold tyA at h
  split at h
  · obtain ⟨t, e⟩ := p; cases e
  · obtain ⟨t, e⟩ := p; cases e
  · obtain ⟨x, vs, m, e, hz, hr⟩ := p
    cases e
    exact ⟨_, r.z hz, rfl⟩
  · obtain ⟨x, o, kvs, e, hsy, hz, hd, hr⟩ := p
    cases e
    obtain ⟨es, ep, h1, _⟩ := hd
    exact ⟨_, r.z hz, h1.2.1⟩
  · obtain ⟨x, e, hm⟩ := p
    cases e
    split at h
    · rename_i l hs
      obtain ⟨y, ob, h1, h2, vs, k, h3, h4⟩ := r.inv.objs _ _ hs
      rw [show (G.vw W).mu = G.mu from rfl, h1] at hm
      cases hm
      subst h3
      exact ⟨_, r.sub _ _ _ h2, rfl⟩
    · rename_i l hs
      obtain ⟨y, ob, h1, h2, kvs, h3, h4⟩ := r.inv.objs _ _ hs
      rw [show (G.vw W).mu = G.mu from rfl, h1] at hm
      cases hm
      obtain ⟨es, ep, h5, _⟩ := h3
      exact ⟨_, r.sub _ _ _ h2, h5.2.1⟩
    · rename_i l hs
      obtain ⟨y, ob, h1, h2, kvs, h3, h4⟩ := r.inv.objs _ _ hs
      rw [show (G.vw W).mu = G.mu from rfl, h1] at hm
      cases hm
      obtain ⟨es, ep, h5, _⟩ := h3
      exact ⟨_, r.sub _ _ _ h2, h5.2.1⟩
    · cases h
  · cases h
def noKw (g : AV → List AV → M AV) : AV → List AV → List AV → M AV
  | b, args, [] => g b args
  | _, _, _ => M.fail
theorem SimM.bi {T id : String} {name : Str} {g : AV → List AV → M AV} (pa : PlainAttrs T) (slot : Slot T name id) (hty : typeOf (.builtin id) = pure (.type "method_descriptor")) (h : SimBM W n id g) :
    SimM W n name [] (preT T) (noKw g) := by
  intro A σ σ' G s a b ma pl hA r hne p he
  unfold preT at he
  split at he
  · rename_i ht
    cases he
    refine getMethod_builtin (r.tyIs p ht).1 pa slot hty (r.nodict p ht) ⟨G, .refl _, r, ?_⟩
    intro A σ2 σ3 G'' s'' args kws ms ks' v hA2 l2 r2 p2 p3 hg
    refine ⟨.bi, ?_⟩
    have hk : (([] : List Str).zip ks') = [] := by simp
    rw [hk]
    cases kws with
    | nil => exact h A _ _ G'' s'' _ args ma ms v hA2 r2 (by rw [l2.fr]; exact hne) (p.le l2) p2 hg
    | cons k ks => cases hg
  · cases he

/-! lists -/
def appendF : AV → List AV → M AV
  | .ref m, [x] => fun σ => match σ.st m with
    | some (.list l) => if l.length ≤ 2 ^ 20 then some (.none, { σ with st := fun k => if k = m then some (.list (l ++ [x])) else σ.st k }) else none
    | _ => none
  | _, _ => M.fail
theorem SimBM.append : SimBM W n "list.append" appendF := by
  intro A σ σ' G s a args ma ms v hA r hne p p2 hf
  unfold appendF at hf
  split at hf
  · split at hf
    · rename_i l hs
      split at hf
      · rename_i hl
        cases hf
        obtain ⟨y, e, hm⟩ := p
        subst e
        obtain ⟨x, e, q⟩ := Reps.one p2
        subst e
        obtain ⟨y', ob, h1, h2, vs, k, h3, h4⟩ := r.inv.objs _ _ hs
        rw [show (G.vw W).mu = G.mu from rfl, h1] at hm
        cases hm
        subst h3
        have hlen := h4.length
        rw [Array.length_toList] at hlen
        refine wpAny_list_append_plain (l := y) (items := vs) ⟨k, r.sub _ _ _ h2⟩ (fun h' hp hs' => ?_) (by rw [sizeLine_eq]; omega)
        obtain ⟨k', hp⟩ := hp
        obtain ⟨G', l', r', _⟩ := r.setObj (o := .list (l ++ [_])) (tk := s.toks) h1 h2 hp hs' ⟨_, _, rfl, by rw [Array.toList_push]; exact RepVs.append h4 ⟨x, [], rfl, q, rfl⟩⟩
        exact ⟨G', l', r', rfl⟩
      · cases hf
    · cases hf
  · cases hf
theorem SimM.append : SimM W n "append" [] (preT "list") (noKw appendF) := SimM.bi F.plainAttrs_list F.slot_list_append F.type_list_append SimBM.append

/-! dicts -/
def dgetF : AV → List AV → M AV
  | a, [k] => fun σ => (dget σ a k).map fun o => (o.getD .none, σ)
  | a, [k, d] => fun σ => (dget σ a k).map fun o => (o.getD d, σ)
  | _, _ => M.fail
theorem SimBM.dget (ok : W.Ok) : SimBM W n "dict.get" dgetF := by
  intro A σ σ' G s a args ma ms v hA r hne p p2 hf
  unfold dgetF at hf
  split at hf
  · obtain ⟨o, e1, e2⟩ := Option.map_eq_some_iff.mp hf
    cases e2
    obtain ⟨x, e, q⟩ := Reps.one p2
    subst e
    obtain ⟨d, κ, _, knd, kk, kvs, e, hsy, hD, hkey, hpart, hr⟩ := r.dget ok p q e1
    subst e
    refine call_meetsIn F.slot_dict_get hD.typeIs F.entry_dict_get (F.args_dict_get_2 _ _) (meets_dict_get knd d hkey hsy) ⟨_, hD.mapOf, ?_⟩
    cases o with
    | some v => obtain ⟨mv, f1, f2⟩ := hr; rw [f1]; exact .now r.tok f2
    | none => rw [show valueAt kvs kk = Option.none from hr]; exact .now r.tok rfl
  · obtain ⟨o, e1, e2⟩ := Option.map_eq_some_iff.mp hf
    cases e2
    obtain ⟨x, y, e, q, q2⟩ := Reps.two p2
    subst e
    obtain ⟨d, κ, _, knd, kk, kvs, e, hsy, hD, hkey, hpart, hr⟩ := r.dget ok p q e1
    subst e
    refine call_meetsIn F.slot_dict_get hD.typeIs F.entry_dict_get (F.args_dict_get_3 _ _ _) (meets_dict_get_default knd d hkey hsy _) ⟨_, hD.mapOf, ?_⟩
    cases o with
    | some v => obtain ⟨mv, f1, f2⟩ := hr; rw [f1]; exact .now r.tok f2
    | none => rw [show valueAt kvs kk = Option.none from hr]; exact .now r.tok q2
  · cases hf
theorem SimM.dget (ok : W.Ok) : SimM W n "get" [] (preT "dict") (noKw dgetF) := SimM.bi F.plainAttrs_dict F.slot_dict_get F.type_dict_get (SimBM.dget ok)

/-- taking out of a dict of strs -/
def popF : AV → List AV → M AV
  | .ref m, .str x :: rest => fun σ => match σ.st m with
    | some (.dictS l) => if l.length ≤ 2 ^ 20 then (match getK l x, rest with
      | some v, [] => some (v, { σ with st := fun k => if k = m then some (.dictS (delK l x)) else σ.st k })
      | some v, [_] => some (v, { σ with st := fun k => if k = m then some (.dictS (delK l x)) else σ.st k })
      | none, [d] => some (d, σ)
      | _, _ => none) else none
    | _ => none
  | _, _ => M.fail
theorem SimBM.pop (ok : W.Ok) : SimBM W n "dict.pop" popF := by
  intro A σ σ' G s a args ma ms v hA r hne p p2 hf
  unfold popF at hf
  split at hf
  · rename_i m x rest
    split at hf
    · rename_i l hs
      split at hf
      · rename_i hl
        obtain ⟨y, kvs, ob, e, hm, hk, hD, hr, hsy⟩ := r.dict (dkS W) ok hs p
        subst e
        obtain ⟨mx, mr, e, ⟨t, q⟩, q2⟩ := p2
        subst e q
        have hlen := hr.length
        split at hf
        · rename_i v' hg
          cases hf
          cases q2
          obtain ⟨mv, f1, f2⟩ := hr.get hg
          refine call_meetsIn F.slot_dict_pop hD.typeIs F.entry_dict_pop (F.args_dict_pop_2 _ _) (meets_dict_pop_there (strKind W.prog W.w) y (strKind_is _ _ _ _) [] (.inl rfl) rfl) ⟨kvs, mv, hD, by rw [sizeLine_eq]; omega, f1, fun h' hd' hs' => ?_⟩
          obtain ⟨G', l', r', _⟩ := r.setDict (dkS W) (tk := s.toks + 1) hm hk hd' hs' (hr.del _)
          exact ⟨G', l', r', Rep.le f2 l'⟩
        · rename_i v' d hg
          cases hf
          obtain ⟨md, e, _⟩ := Reps.one q2
          subst e
          obtain ⟨mv, f1, f2⟩ := hr.get hg
          refine call_meetsIn F.slot_dict_pop hD.typeIs F.entry_dict_pop (F.args_dict_pop_3 _ _ _) (meets_dict_pop_there (strKind W.prog W.w) y (strKind_is _ _ _ _) [md] (.inr ⟨_, rfl⟩) rfl) ⟨kvs, mv, hD, by rw [sizeLine_eq]; omega, f1, fun h' hd' hs' => ?_⟩
          obtain ⟨G', l', r', _⟩ := r.setDict (dkS W) (tk := s.toks + 1) hm hk hd' hs' (hr.del _)
          exact ⟨G', l', r', Rep.le f2 l'⟩
        · rename_i d hg
          cases hf
          obtain ⟨md, e, q3⟩ := Reps.one q2
          subst e
          exact call_meetsIn F.slot_dict_pop hD.typeIs F.entry_dict_pop (F.args_dict_pop_3 _ _ _) (meets_dict_pop_default (strKind W.prog W.w) y (strKind_is _ _ _ _) hsy rfl md) ⟨kvs, hD, hr.getNone hg, .now r.tok q3⟩
        · cases hf
      · cases hf
    · cases hf
  · cases hf
theorem SimM.pop (ok : W.Ok) : SimM W n "pop" [] (preT "dict") (noKw popF) := SimM.bi F.plainAttrs_dict F.slot_dict_pop F.type_dict_pop (SimBM.pop ok)

/-! views -/
def viewF (k : Nat) : AV → List AV → M AV
  | a, [] => fun σ => if tyA σ a = some "dict" then some (.view k a, σ) else none
  | _, _ => M.fail
theorem R.anyDict {G : Gh} {σ : St} {s : Shared} (r : R W G σ s) (ok : W.Ok) {a : AV} {ma : Value} (p : Rep W G a ma) (h : tyA σ a = some "dict") :
    ∃ (d : Addr) (κ : Type) (_ : DecidableEq κ) (knd : KeyKind W.prog W.w κ) (kvs : List (κ × Value)), ma = .ref d ∧ (d == sysModules) = false ∧ s.heap.DictOf knd d kvs := by
  unfold tyA at h
  split at h
  · exact absurd h (by decide)
  · exact absurd h (by decide)
  · exact absurd h (by decide)
  · obtain ⟨y, o, kvs, e, hsy, hz, hd, hr⟩ := p
    exact ⟨y, Str, inferInstance, strKind W.prog W.w, kvs, e, hsy, DictOb.dictOf hd (r.z hz)⟩
  · split at h
    · exact absurd h (by decide)
    · rename_i l hs
      obtain ⟨x, kvs, ob, e, hm, hk, hD, hr, hsy⟩ := r.dict (dkI W) ok hs p
      exact ⟨x, Int, inferInstance, intKind W.prog W.w, kvs, e, hsy, hD⟩
    · rename_i l hs
      obtain ⟨x, kvs, ob, e, hm, hk, hD, hr, hsy⟩ := r.dict (dkS W) ok hs p
      exact ⟨x, Str, inferInstance, strKind W.prog W.w, kvs, e, hsy, hD⟩
    · cases h
  · cases h
theorem SimBM.keys (ok : W.Ok) : SimBM W n "dict.keys" (viewF 0) := by
  intro A σ σ' G s a args ma ms v hA r hne p p2 hf
  unfold viewF at hf
  split at hf
  · split at hf
    · rename_i ht
      cases hf
      cases p2
      obtain ⟨d, κ, _, knd, kvs, e, hsy, hD⟩ := r.anyDict ok p ht
      subst e
      obtain ⟨r', l'⟩ := r.alloc .z (o := { cls := .type "dict_keys", data := .fields #[.ref d] }) rfl (tk := s.toks)
      exact call_meetsIn F.slot_dict_keys hD.typeIs F.entry_dict_keys (F.args_dict_keys_1 _) (kdl_meets_keys knd d hsy) ⟨⟨kvs, hD⟩, _, l', r', _, _, rfl, Gh.z_iff.mpr Gh.set_self, p.le l'⟩
    · cases hf
  · cases hf
theorem SimM.keys (ok : W.Ok) : SimM W n "keys" [] (preT "dict") (noKw (viewF 0)) := SimM.bi F.plainAttrs_dict F.slot_dict_keys F.type_dict_keys (SimBM.keys ok)
theorem SimBM.items (ok : W.Ok) : SimBM W n "dict.items" (viewF 1) := by
  intro A σ σ' G s a args ma ms v hA r hne p p2 hf
  unfold viewF at hf
  split at hf
  · split at hf
    · rename_i ht
      cases hf
      cases p2
      obtain ⟨d, κ, _, knd, kvs, e, hsy, hD⟩ := r.anyDict ok p ht
      subst e
      obtain ⟨r', l'⟩ := r.alloc .z (o := { cls := .type "dict_items", data := .fields #[.ref d] }) rfl (tk := s.toks)
      exact call_meetsIn F.slot_dict_items hD.typeIs F.entry_dict_items (F.args_dict_items_1 _) (meets_dict_items knd d hsy) ⟨⟨kvs, hD⟩, _, l', r', _, _, rfl, Gh.z_iff.mpr Gh.set_self, p.le l'⟩
    · cases hf
  · cases hf
theorem SimM.items (ok : W.Ok) : SimM W n "items" [] (preT "dict") (noKw (viewF 1)) := SimM.bi F.plainAttrs_dict F.slot_dict_items F.type_dict_items (SimBM.items ok)
end
end Mine
end

section
open PySem PySem.W PySem.Calls PyProof.Rows
set_option Elab.async false
set_option maxRecDepth 20000
namespace Mine
def bisL (l : List Int) (x : Int) : Nat → Nat → Nat → Option Nat
  | 0, lo, hi => if lo < hi then none else some lo
  | f + 1, lo, hi => if lo < hi then (match l[(lo + hi) / 2]? with
      | some y => if x < y then bisL l x f lo ((lo + hi) / 2) else bisL l x f ((lo + hi) / 2 + 1) hi
      | none => none) else some lo

theorem entry_bis_loop : entryFor table "_bisect.bisect_right.loop" = some Builtin.«_bisect.bisect_right.loop» := entryFor_of_tree (by kernel_rfl)
theorem entry_bis : entryFor table "_bisect.bisect_right" = some Builtin.«_bisect.bisect_right» := entryFor_of_tree (by kernel_rfl)

theorem getitem_call {prog : Program} {w : World} {A : Around} {E : Value → Shared → Prop} {s : Shared} {l : Addr} {items : Array Value} {k : Int} {t : Tok} {x : Value} {Q : Value → Shared → Prop} (hl : s.heap.IsList l items)
    (h0 : 0 ≤ k) (hfit : k < 2 ^ 63) (hx : items[k.toNat]? = some x) (h : Q x s) : wpAny (model prog w) A (call (.builtin "list.__getitem__") [.ref l, .int k t]) Q E s := by
  obtain ⟨o, ho, hc, ne, hd⟩ := id hl
  refine wpAny_call_entry slot_list_getitem hl.typeIs entry_list_getitem ?_ (args_list_getitem _ _)
  show wpAny _ _ (Builtin.List.listSubscript? (.int k t) >>= _) _ _ s
  refine wpAny_bind (wpAny_listSubscript_int (fitsIndex_of h0 hfit) ?_)
  clear hfit
  obtain ⟨j, rfl⟩ := Int.eq_ofNat_of_zero_le h0
  have hx' : items[j]? = some x := hx
  show wpAny _ _ ((seqItemAt l j >>= fun r => pure (r.map (j, ·))) >>= _) _ _ s
  refine wpAny_bind (wpAny_bind (wpAny_seqItemAt ho hd (wpAny_pure ?_)))
  rw [hx']
  first
    | exact wpAny_bind (wpAny_pure (wpAny_pure ⟨x, rfl, h⟩))
    | exact wpAny_pure ⟨x, rfl, h⟩

theorem bis_loop {prog : Program} {w : World} {a : Addr} {vs : Array Value} {l : List Int} {x : Int} {t : Tok} (hI : ∀ (i : Nat) y, l[i]? = some y → ∃ u, vs[i]? = some (.int y u)) (hl : l.length < 2 ^ 40) :
    ∀ (f lo hi : Nat) (r : Nat) (A : Around) (s : Shared) (R : Result → Shared → Prop), s.heap.IsList a vs → hi ≤ l.length → bisL l x f lo hi = some r → (∀ u tk, R (.ok (.ret (.int r u))) { s with toks := tk }) →
    codeAny (model prog w) A (.builtin "_bisect.bisect_right.loop" ⟨[.ref a, .int x t, rawInt lo, rawInt hi, .none, .bool true, .bool true, rawInt 0], []⟩) R s
  | f, lo, hi, r, A, s, Q, hL, hh, hb, hQ => by
    refine codeAny_builtin entry_bis_loop ?_
    unfold Builtin.«_bisect.bisect_right.loop»
    show wpAny _ _ (ite ((lo : Int) < (hi : Int)) _ _) _ _ _
    by_cases hlt : lo < hi
    · rw [if_pos (by omega)]
      cases f with
      | zero => simp [bisL, hlt] at hb
      | succ f =>
      unfold bisL at hb
      rw [if_pos hlt] at hb
      have hm : ((lo : Int) + (hi : Int)) / 2 = (((lo + hi) / 2 : Nat) : Int) := by omega
      have hb1 : lo ≤ (lo + hi) / 2 := by omega
      have hb2 : (lo + hi) / 2 < hi := by omega
      generalize (lo + hi) / 2 = mid at hm hb hb1 hb2
      split at hb
      · rename_i y hy
        obtain ⟨u, hu⟩ := hI _ _ hy
        rw [hm]
        refine wpAny_bind (wpAny_mkInt ?_)
        refine wpAny_bind (wpAny_callSpecial?_slot (name := Str.ofString "__getitem__") hL.typeIs slot_list_getitem ?_)
        refine wpAny_mono (Q := fun v s' => ∃ tk, v = Value.int y u ∧ s' = { s with toks := tk }) ?_ ?_ fun _ _ e => e
        · exact getitem_call hL (by omega) (by omega) (x := .int y u) (by simpa using hu) ⟨_, rfl, rfl⟩
        · rintro v s' ⟨tk, rfl, rfl⟩
          dsimp only
          refine wpAny_bind (wpAny_pure ?_)
          refine wpAny_holding ?_
          refine wpAny_bind (wpAny_pure ?_)
          refine wpAny_bind (wpAny_pure ?_)
          rw [if_pos (by decide)]
          refine wpAny_bind (wpAny_cRoomFor_byValue rfl ?_)
          refine wpAny_bind (wpAny_callSpecialIfBound?_slot (name := Str.ofString "__lt__") (typeIs_int _ x t) slot_int_lt
            (wpAny_call_entry slot_int_lt (typeIs_int _ x t) entry_int_lt
              (show wpAny _ _ (ret (.bool (decide (x < y)))) _ _ _ from wpAny_pure ⟨_, rfl, ?_⟩) (args_int_lt _ _)))
          dsimp only
          refine wpAny_bind (wpAny_pure ?_)
          refine wpAny_bind (wpAny_pure ?_)
          by_cases hxy : x < y
          · rw [if_pos hxy] at hb
            simp only [hxy, decide_true, beq_self_eq_true, if_true]
            k_delta "bisectGo"
            refine wpAny_pure ⟨Code.quiet_builtin _ (by decide +kernel), ?_⟩
            exact bis_loop hI hl f lo mid r A _ Q hL (by omega) hb (fun u tk' => hQ u tk')
          · rw [if_neg hxy] at hb
            simp only [hxy, decide_false]
            k_delta "bisectGo"
            refine wpAny_pure ⟨Code.quiet_builtin _ (by decide +kernel), ?_⟩
            have hm2 : (mid : Int) + 1 = ((mid + 1 : Nat) : Int) := by omega
            rw [hm2]
            exact bis_loop hI hl f (mid + 1) hi r A _ Q hL hh hb (fun u tk' => hQ u tk')
      · cases hb
    · rw [if_neg (by omega)]
      have hr : r = lo := by
        cases f <;> (unfold bisL at hb; rw [if_neg hlt] at hb; cases hb; rfl)
      subst hr
      show wpAny _ _ (retInt (r : Int)) _ _ _
      unfold retInt
      exact wpAny_bind (wpAny_mkInt (wpAny_pure (hQ _ _)))

theorem bis_meets {a : Addr} {vs : Array Value} {l : List Int} {x : Int} {t : Tok} {r : Nat} (hI : ∀ (i : Nat) y, l[i]? = some y → ∃ u, vs[i]? = some (.int y u)) (hl : l.length < 2 ^ 40) (hz : vs.size = l.length)
    (hb : bisL l x l.length 0 l.length = some r) : Meets (Builtin.«_bisect.bisect_right» ⟨[.ref a, .int x t], []⟩) (fun _ R s => s.heap.IsList a vs ∧ ∀ u tk, R (.ok (.ret (.int r u))) { s with toks := tk }) := by
  intro prog w A R s ⟨hL, hQ⟩
  unfold Builtin.«_bisect.bisect_right»
  k_delta "bisectStart"
  dsimp only
  refine wpAny_bind (wpAny_of_eq (a := (Value.ref a, Value.int x t, none, none, none)) (by k_delta "bisectBind"; rfl) ?_)
  dsimp only
  refine wpAny_bind (wpAny_pure ?_)
  refine wpAny_bind (wpAny_pure ?_)
  rw [if_neg (by decide)]
  refine wpAny_bind (wpAny_pure ?_)
  refine wpAny_holding ?_
  rw [if_neg (by decide)]
  rw [if_neg (by decide)]
  have hT := hL.typeIs
  have hname : typeNameCut 200 (.type "list") = pure "list" := by
    first
    | (rw [show typeNameCut 200 (.type "list") = typeName (.type "list") from rfl]; first | exact typeName_list | rfl | kernel_rfl)
    | rfl
  have hmro : mroOf (.type "list") = pure [.type "list", .type "object"] := by rw [mroOf_type]; kernel_rfl
  have hlen : typeLookup (.type "list") "__len__" = pure (some (.builtin "list.__len__")) := by rw [typeLookup_type, builtinLookup_eq_fast]; kernel_rfl
  have hgi : typeLookup (.type "list") "__getitem__" = pure (some (.builtin "list.__getitem__")) := slot_list_getitem.lookup
  k_delta "bisectSequence"
  have name : ∀ (A : Around) (E : Value → Shared → Prop) (P : String → Shared → Prop) (s : Shared), s.TypeIs (.ref a) "list" → P "list" s → wpAny (model prog w) A (typeNameOfCut 200 (.ref a)) P E s := by
    intro A E P s hT hP
    unfold typeNameOfCut shownTypeOf
    refine wpAny_bind (wpAny_bind (wpAny_typeOf hT ?_))
    simp only [show (Value.type "list" == Value.type "builtin_function_or_method") = false by decide, Bool.false_eq_true, if_false]
    refine wpAny_pure ?_
    rw [hname]; exact wpAny_pure hP
  refine wpAny_bind ?_
  refine wpAny_bind (wpAny_typeOf hT ?_)
  refine wpAny_bind (name _ _ _ _ hT ?_)
  rw [hmro]
  refine wpAny_bind (wpAny_pure ?_)
  dsimp only
  rw [if_neg (by decide)]
  simp only [if_true]
  rw [hlen]
  refine wpAny_bind (wpAny_pure ?_)
  rw [if_neg (by decide), if_neg (by decide)]
  refine wpAny_pure ?_
  refine wpAny_bind ?_
  refine wpAny_mono (Q := fun v s' => ∃ u tk, v = Value.int (l.length : Int) u ∧ s' = { s with toks := tk }) ?_ ?_ fun _ _ e => e
  · obtain ⟨o, ho, hc, n, hd⟩ := id hL
    refine wpAny_runValue (codeAny_builtin entry_len ?_)
    unfold Builtin.«len»
    refine wpAny_bind (m := oneArg "len" _) (wpAny_pure ?_)
    refine wpAny_bind (m := callSpecial? (.ref a) (Str.ofString "__len__")) (wpAny_callSpecial?_slot (name := Str.ofString "__len__") hL.typeIs slot_list_len
      (wpAny_call_entry slot_list_len hL.typeIs entry_list_len ?_ (args_list_len _)))
    show wpAny _ _ (do retInt (← seqSize a)) _ _ s
    unfold seqSize
    refine wpAny_bind (wpAny_bind (wpAny_load ho ?_))
    rw [hd]
    refine wpAny_pure (wpAny_bind (wpAny_mkInt (wpAny_pure ⟨_, rfl, ?_⟩)))
    refine wpAny_bind (wpAny_holding (wpAny_pure ?_))
    refine wpAny_bind (wpAny_letGo ?_)
    show wpAny _ _ (if ((vs.size : Nat) : Int) < 0 then _ else _) _ _ _
    rw [if_neg (by omega)]
    show wpAny _ _ (if ((vs.size : Nat) : Int) ≥ 2 ^ 63 then _ else _) _ _ _
    rw [if_neg (by omega)]
    exact wpAny_bind (wpAny_mkInt (wpAny_pure ⟨_, _, by rw [hz], rfl⟩))
  · rintro v s' ⟨u, tk, rfl, rfl⟩
    dsimp only
    refine wpAny_bind (wpAny_pure ?_)
    refine wpAny_bind ?_
    have hT' : Shared.TypeIs { s with toks := tk } (.ref a) "list" := hT
    refine wpAny_bind (wpAny_typeOf hT' ?_)
    refine wpAny_bind (name _ _ _ _ hT' ?_)
    rw [hmro]
    refine wpAny_bind (wpAny_pure ?_)
    rw [if_neg (by decide), if_neg (by decide)]
    rw [hgi]
    refine wpAny_bind (wpAny_pure ?_)
    rw [if_neg (by decide), if_neg (by decide)]
    refine wpAny_pure ?_
    k_delta "bisectGo"
    refine wpAny_pure ⟨Code.quiet_builtin _ (by decide +kernel), ?_⟩
    exact bis_loop hI hl l.length 0 l.length r A _ R hL (Nat.le_refl _) hb (fun u tk' => hQ u tk')

/-! sorting ints -/
def insI (x : Int) : List Int → List Int
  | [] => [x]
  | y :: l => if x ≤ y then x :: y :: l else y :: insI x l
def isortI : List Int → List Int
  | [] => []
  | x :: l => insI x (isortI l)
theorem insI_perm (x : Int) : ∀ l, (insI x l).Perm (x :: l)
  | [] => .refl _
  | y :: l => by
    unfold insI
    split
    · exact .refl _
    · exact ((insI_perm x l).cons y).trans (.swap x y l)
theorem isortI_perm : ∀ l, (isortI l).Perm l
  | [] => .refl _
  | x :: l => (insI_perm x _).trans ((isortI_perm l).cons x)
theorem insI_sorted (x : Int) : ∀ l : List Int, l.Pairwise (· ≤ ·) → (insI x l).Pairwise (· ≤ ·)
  | [], _ => by simp [insI]
  | y :: l, h => by
    unfold insI
    rw [List.pairwise_cons] at h
    split
    · rename_i hxy
      rw [List.pairwise_cons, List.pairwise_cons]
      refine ⟨fun z hz => ?_, h⟩
      rcases List.mem_cons.mp hz with rfl | hz
      · exact hxy
      · exact Int.le_trans hxy (h.1 z hz)
    · rename_i hxy
      rw [List.pairwise_cons]
      refine ⟨fun z hz => ?_, insI_sorted x l h.2⟩
      rcases List.mem_cons.mp ((insI_perm x l).mem_iff.mp hz) with rfl | hz
      · omega
      · exact h.1 z hz
theorem isortI_sorted : ∀ l, (isortI l).Pairwise (· ≤ ·)
  | [] => by simp [isortI]
  | x :: l => insI_sorted x _ (isortI_sorted l)
theorem sorted_unique {l l' : List Int} (hp : l'.Perm l) (hs : l'.Pairwise (· ≤ ·)) : l' = isortI l :=
  List.Perm.eq_of_pairwise (fun a b _ _ h1 h2 => Int.le_antisymm h1 h2) hs (isortI_sorted l) (hp.trans (isortI_perm l).symm)

def asInt : AV → Option Int
  | .int i => some i
  | _ => none
def toInts : List AV → Option (List Int)
  | [] => some []
  | a :: l => match asInt a, toInts l with
    | some i, some r => some (i :: r)
    | _, _ => none
theorem asInt_some {a : AV} {i : Int} (h : asInt a = some i) : a = .int i := by
  unfold asInt at h
  split at h <;> cases h
  rfl

section
variable {W : Wd} {X : Sc} {n : Nat}
theorem ints_of {G : Gh} {l : List AV} : ∀ {vs : List Value} {ns : List Int}, Reps W G l vs → toInts l = some ns → IntsAre vs ns ∧ l = intsL ns := by
  induction l with
  | nil => intro vs ns h e; cases e; cases h; exact ⟨.nil, rfl⟩
  | cons a l ih =>
    intro vs ns h e
    obtain ⟨v, r, q, h1, h2⟩ := h
    subst q
    unfold toInts at e
    split at e
    · rename_i i ms e1 e2
      cases e
      have := asInt_some e1
      subst this
      obtain ⟨t, h1⟩ := h1
      subst h1
      obtain ⟨g1, g2⟩ := ih h2 e2
      exact ⟨.cons _ _ g1, by rw [g2]; rfl⟩
    · cases e
theorem reps_ints {G : Gh} : ∀ {vs : List Value} {ns : List Int}, IntsAre vs ns → Reps W G (intsL ns) vs
  | _, _, .nil => rfl
  | _, _, .cons n t h => ⟨_, _, rfl, ⟨t, rfl⟩, reps_ints h⟩
theorem IntsAre.get : ∀ {vs : List Value} {ns : List Int}, IntsAre vs ns → ∀ {i : Nat} {y : Int}, ns[i]? = some y → ∃ u, vs[i]? = some (.int y u)
  | _, _, .nil, i, y, e => by simp at e
  | _, _, .cons n t h, 0, y, e => by simp at e; subst e; exact ⟨t, rfl⟩
  | _, _, .cons n t h, i + 1, y, e => by simp at e; simpa using IntsAre.get h e
theorem IntsAre.len : ∀ {vs : List Value} {ns : List Int}, IntsAre vs ns → vs.length = ns.length
  | _, _, .nil => rfl
  | _, _, .cons n t h => by simp [IntsAre.len h]

/-- an object that a builtin has made -/
theorem R.found {G : Gh} {σ : St} {s : Shared} (r : R W G σ s) {D : Addr} {o : Obj} {h' : Heap} {tk : Nat} (hk : ∀ b o, s.heap.get? b = some o → h'.get? b = some o) (hn : G.kn D = none) (ho : h'.get? D = some o) :
    R W (G.set D .z o) σ { s with heap := h', toks := tk } ∧ G.Le (G.set D .z o) := by
  refine ⟨⟨r.inv.set (fun t₀ o₀ e => by rw [hn] at e; cases e) (.inr rfl), fun b t o' e => ?_, r.os, r.gens⟩, Gh.le_set fun t₀ o₀ e => by rw [hn] at e; cases e⟩
  by_cases hb : b = D
  · subst hb; rw [Gh.set_self] at e; cases e; exact ho
  · rw [Gh.set_ne hb] at e; exact hk _ _ (r.sub _ _ _ e)
theorem R.freshIn {G : Gh} {σ : St} {s : Shared} (r : R W G σ s) {h' : Heap} (hk : ∀ b o, s.heap.get? b = some o → h'.get? b = some o) : G.kn h'.objs.size = none := by
  cases e : G.kn h'.objs.size with
  | none => rfl
  | some p => exact absurd (Heap.lt_size (hk _ _ (r.sub _ p.1 p.2 e))) (Nat.lt_irrefl _)

def bisF : List AV → List AV → M AV
  | [a, .int x], [] => fun σ => match viewL σ a with
    | some l => (match toInts l with
      | some ns => if ns.length < 2 ^ 40 then (bisL ns x ns.length 0 ns.length).map fun (r : Nat) => (AV.int (r : Int), σ) else none
      | none => none)
    | none => none
  | _, _ => M.fail
theorem SimV.bis : SimV W n (.builtin "_bisect.bisect_right") [] bisF := by
  intro A σ σ' G s args kws ms ks' v hA r hne p2 p3 hf
  refine ⟨.bi, ?_⟩
  unfold bisF at hf
  split at hf
  · split at hf
    · rename_i l hv
      split at hf
      · rename_i ns hns
        split at hf
        · rename_i hl
          obtain ⟨rr, e1, e2⟩ := Option.map_eq_some_iff.mp hf
          cases e2
          obtain ⟨y, z, e, p, ⟨t, q⟩⟩ := Reps.two p2
          rw [zipNil p3]
          subst e q
          obtain ⟨x, vs, k, e, hg, hr⟩ := r.view p hv
          subst e
          obtain ⟨hI, hE⟩ := ints_of hr hns
          have hlen := IntsAre.len hI
          rw [Array.length_toList] at hlen
          exact call_function_meets (by decide +kernel) (by decide +kernel) entry_bis (by unfold argsOk; kernel_rfl) (bis_meets (a := x) (t := t) (vs := vs) (fun i y hy => by
            obtain ⟨u, hu⟩ := IntsAre.get hI hy
            rw [Array.getElem?_toList] at hu
            exact ⟨u, hu⟩) hl hlen e1) ⟨isList_of hg, fun u tk => .now r.tok ⟨u, rfl⟩⟩
        · cases hf
      · cases hf
    · cases hf
  · cases hf

/-- `sorted` of the keys of a dict of ints, and of a list of ints -/
def sortedIF : List AV → List AV → M AV
  | [a], [] => fun σ => match a with
    | .view 0 (.ref m) => (match σ.st m with
      | some (.dictI l) => if l.length < 64 then some (.lst (intsL (isortI (l.map (·.1)))), σ) else none
      | _ => none)
    | _ => (match viewL σ a with
      | some l => (match toInts l with
        | some ns => if ns.length < 64 then some (.lst (intsL (isortI ns)), σ) else none
        | none => none)
      | none => none)
  | _, _ => M.fail

theorem sort_core {A : Around} {G : Gh} {σ : St} {s : Shared} {h' : Heap} {tk : Nat} {vs : List Value} {ns : List Int} (r : R W G σ s) (hk : ∀ b o, s.heap.get? b = some o → h'.get? b = some o) (hI : IntsAre vs ns) (h64 : vs.length < 64) :
    wpAny W.M A (newList vs) (fun L s1 => wpAny W.M A (call (.builtin "list.sort") [L]) (fun _ s2 => Post W (Rep W) G σ (.lst (intsL (isortI ns))) L s2) (fun _ _ => False) s1) (fun _ _ => False) { s with heap := h', toks := tk } := by
  refine wpAny_newList ?_ (by rw [sizeLine_eq]; omega)
  refine wpAny_call_entry PyProof.Rows.slot_list_sort ⟨_, Heap.get?_push_size _ rfl, rfl⟩ PyProof.Rows.entry_list_sort
    (list_sort_tree (n := 0) (Heap.get?_push_size _ rfl) hI h64 fun out ns' a1 a2 a3 => ⟨_, rfl, ?_⟩) (PyProof.Rows.args_list_sort _)
  obtain ⟨e, he⟩ := sortedHeap_at (h := h'.push (seqObj "list" vs.toArray 0)) (a := h'.objs.size) (vs := vs) (n := 0) (out := out) (Heap.get?_push_size _ rfl)
  obtain ⟨r', l'⟩ := r.found (D := h'.objs.size) (h' := sortedHeap (h'.push (seqObj "list" vs.toArray 0)) h'.objs.size vs out) (tk := tk) (fun b o eb => by
    have hb := hk b o eb
    rw [sortedHeap_old (Nat.ne_of_lt (Heap.lt_size hb)) (by rw [size_push']; exact Nat.lt_succ_of_lt (Heap.lt_size hb))]
    exact Heap.get?_push_of_some _ hb) (r.freshIn hk) he
  refine ⟨_, l', r', _, out, e, rfl, Gh.z_iff.mpr Gh.set_self, ?_⟩
  rw [← sorted_unique a2 a3]
  exact reps_ints a1

theorem keys_ints {G : Gh} {l : List (Int × AV)} {kvs : List (Int × Value)} (h : RepKV (G.vw W) l kvs) : kvs.map (·.1) = l.map (·.1) := by
  induction l generalizing kvs with
  | nil => cases h; rfl
  | cons p l ih =>
    obtain ⟨k, a⟩ := p
    obtain ⟨v, r, q, h1, h2⟩ := h
    subst q
    simp [ih h2]
theorem intsAre_of {ns : List Int} : ∀ {vs : List Value}, vs.length = ns.length → (∀ (i : Nat) v, vs[i]? = some v → ∃ k, ns[i]? = some k ∧ Value.isInt k v = true) → IntsAre vs ns := by
  induction ns with
  | nil => intro vs hl _; cases vs with
    | nil => exact .nil
    | cons => simp at hl
  | cons k ns ih =>
    intro vs hl h
    cases vs with
    | nil => simp at hl
    | cons v vs =>
      obtain ⟨k', e, hk⟩ := h 0 v rfl
      simp at e
      subst e
      obtain ⟨t, rfl⟩ := Value.isInt_shape hk
      exact .cons _ _ (ih (by simpa using hl) fun i v e => by simpa using h (i + 1) v (by simpa using e))

theorem SimV.sortedI (ok : W.Ok) : SimV W n (.builtin "sorted") [] sortedIF := by
  intro A σ σ' G s args kws ms ks' v hA r hne p2 p3 hf
  refine ⟨.bi, ?_⟩
  unfold sortedIF at hf
  split at hf
  · obtain ⟨x, e, p⟩ := Reps.one p2
    rw [zipNil p3]
    subst e
    refine call_function_entry PyProof.Rows.kind_sorted PyProof.Rows.plain_sorted PyProof.Rows.entry_sorted (PyProof.Rows.args_sorted1 _) ?_
    unfold Builtin.«sorted»
    refine wpAny_bind (m := checkCount "sorted" 1 1 _) (wpAny_pure ?_)
    split at hf
    · rename_i m
      split at hf
      · rename_i l hs
        split at hf
        · rename_i hl
          cases hf
          obtain ⟨y, dv, e, hz, q⟩ := p
          subst e
          obtain ⟨d, kvs, ob, e, hm, hk, hD, hr, hsy⟩ := r.dict (dkI W) ok hs q
          subst e
          obtain ⟨ep, hat⟩ := hD.dictAt
          have hlen := hr.length
          refine wpAny_bind (kdu_collect (A := A.in1) (kdl_keys (knd := intKind W.prog W.w) (kvs := kvs) (ep := ep) (r := y) (d := d)) hA.hd ⟨⟨_, r.z hz, rfl, rfl⟩, hat⟩ (by rw [sizeLine_eq]; omega) fun h' tk acc hk hacc => ?_)
          have hI : IntsAre acc.toList (l.map (·.1)) := by
            rw [← keys_ints hr]
            refine intsAre_of (by rw [Array.length_toList, List.length_map]; exact hacc.1) fun i v e => ?_
            obtain ⟨k, x, e1, e2⟩ := hacc.2 i v (by rw [← Array.getElem?_toList]; exact e)
            exact ⟨k, by rw [List.getElem?_map, e1]; rfl, e2⟩
          have h64 := IntsAre.len hI
          rw [List.length_map] at h64
          refine wpAny_bind (wpAny_mono (sort_core r hk hI (by omega)) (fun L s1 h1 => wpAny_bind (wpAny_holding (wpAny_mono h1 (fun _ s2 q => wpAny_pure ⟨_, rfl, q⟩) fun _ _ e => e))) fun _ _ e => e)
        · cases hf
      · cases hf
    · split at hf
      · rename_i l hv
        split at hf
        · rename_i ns hns
          split at hf
          · rename_i hl
            cases hf
            obtain ⟨y, vs, k, e, hg, hr⟩ := r.view p hv
            subst e
            obtain ⟨hI, hE⟩ := ints_of hr hns
            have h64 := IntsAre.len hI
            have hL : s.heap.IsList y vs.toList.toArray := isList_of (by simpa using hg)
            refine wpAny_bind (collect_list hL ?_ (by rw [sizeLine_eq]; omega))
            have hk : ∀ b o, s.heap.get? b = some o → ((s.heap.push (seqObj "list" #[] 0)).update s.heap.objs.size (Obj.mapSeq (· ++ vs.toList.toArray))).get? b = some o := fun b o e => by
              rw [Heap.get?_update_ne _ _ _ _ (Nat.ne_of_lt (Heap.lt_size e))]
              exact Heap.get?_push_of_some _ e
            refine wpAny_bind (wpAny_mono (sort_core (tk := s.toks) r hk hI (by omega)) (fun L s1 h1 => wpAny_bind (wpAny_holding (wpAny_mono h1 (fun _ s2 q => wpAny_pure ⟨_, rfl, q⟩) fun _ _ e => e))) fun _ _ e => e)
          · cases hf
        · cases hf
      · cases hf
  · cases hf

/-- `sum` of a list of ints -/
def sumI : List Int → Int
  | [] => 0
  | x :: l => x + sumI l
theorem intsAre_items : ∀ {vs : List Value} {ns : List Int}, IntsAre vs ns → ∃ xs : List (Int × Tok), vs = xs.map (fun p => Value.int p.1 p.2) ∧ xs.map (·.1) = ns
  | _, _, .nil => ⟨[], rfl, rfl⟩
  | _, _, .cons n t h => by
    obtain ⟨xs, e1, e2⟩ := intsAre_items h
    exact ⟨(n, t) :: xs, by rw [e1]; rfl, by rw [← e2]; rfl⟩
theorem preSum_sumI : ∀ xs : List (Int × Tok), preSum (fun i => (xs[i]?.map (·.1)).getD 0) xs.length = sumI (xs.map (·.1))
  | [] => rfl
  | p :: l => by
    rw [List.length_cons, kdu_shift]
    simp only [List.getElem?_cons_succ]
    rw [preSum_sumI l]
    rfl
def sumF : List AV → List AV → M AV
  | [a], [] => fun σ => match viewL σ a with
    | some l => (match toInts l with
      | some ns => some (.int (sumI ns), σ)
      | none => none)
    | none => none
  | _, _ => M.fail
theorem SimV.sum : SimV W n (.builtin "sum") [] sumF := by
  intro A σ σ' G s args kws ms ks' v hA r hne p2 p3 hf
  refine ⟨.bi, ?_⟩
  unfold sumF at hf
  split at hf
  · obtain ⟨x, e, p⟩ := Reps.one p2
    rw [zipNil p3]
    subst e
    split at hf
    · rename_i l hv
      split at hf
      · rename_i ns hns
        cases hf
        obtain ⟨y, vs, k, e, hg, hr⟩ := r.view p hv
        subst e
        obtain ⟨hI, hE⟩ := ints_of hr hns
        obtain ⟨xs, e1, e2⟩ := intsAre_items hI
        have e1 : vs = intItems xs.toArray := by
          apply Array.toList_inj.mp
          rw [e1]; simp [intItems]
        subst e1
        refine sum_intListG hA.hd (isList_of hg) fun h' tk t' hk => ?_
        have : preSum (numAt xs.toArray) xs.toArray.size = sumI ns := by
          rw [← e2, ← preSum_sumI]
          have : numAt xs.toArray = fun i => (xs[i]?.map (·.1)).getD 0 := by funext i; simp [numAt]
          rw [this]; simp
        rw [this]
        exact ⟨G, .refl _, r.keep hk, _, rfl⟩
      · cases hf
    · cases hf
  · cases hf
end
end Mine
end

section
open PySem PySem.W PySem.Calls PyProof.Rows PySem.SeqAt
set_option Elab.async false
set_option maxRecDepth 20000
set_option linter.unusedSectionVars false
set_option linter.unusedVariables false
namespace Mine

theorem AOK.make {n : Nat} {A : Around} (h : AOK (n + 1) A) {C : Addr} {vals : List Value} {kw : List (Str × Value)} : AOK n (A.under (.builtin "type.__call__" ⟨.ref C :: vals, kw⟩)) := by
  have e1 : (A.under (.builtin "type.__call__" ⟨.ref C :: vals, kw⟩)).depth = A.depth + 1 := rfl
  have e2 : (A.under (.builtin "type.__call__" ⟨.ref C :: vals, kw⟩)).units ≤ A.units + 7 := by
    show A.units + (1 + 3 * Code.frames _) ≤ _
    have : Code.frames (.builtin "type.__call__" ⟨.ref C :: vals, kw⟩) ≤ 2 := by
      first
        | exact (fun e h => Nat.le_trans (Nat.le_of_eq e) h : ∀ {a b c : Nat}, a = b → b ≤ c → a ≤ c) (show Code.frames (.builtin "type.__call__" ⟨.ref C :: vals, kw⟩) = 0 from rfl) (by decide)
        | exact (fun e h => Nat.le_trans (Nat.le_of_eq e) h : ∀ {a b c : Nat}, a = b → b ≤ c → a ≤ c) (show Code.frames (.builtin "type.__call__" ⟨.ref C :: vals, kw⟩) = 1 from rfl) (by decide)
        | exact (fun e h => Nat.le_trans (Nat.le_of_eq e) h : ∀ {a b c : Nat}, a = b → b ≤ c → a ≤ c) (show Code.frames (.builtin "type.__call__" ⟨.ref C :: vals, kw⟩) = 0 by kernel_rfl) (by decide)
        | exact (fun e h => Nat.le_trans (Nat.le_of_eq e) h : ∀ {a b c : Nat}, a = b → b ≤ c → a ≤ c) (show Code.frames (.builtin "type.__call__" ⟨.ref C :: vals, kw⟩) = 1 by kernel_rfl) (by decide)
    omega
  exact ⟨h.hd, by rw [e1]; have := h.dep; omega, by have := h.un; omega⟩

section
variable {W : Wd} {X : Sc} {n : Nat}

/-! making an instance -/
def makeF (C : Addr) (site : Nat) (gI : List AV → List AV → M AV) (args kws : List AV) : M AV :=
  M.bind (allocA site (.ns [])) fun h => M.bind (gI (.inst C h :: args) kws) fun v => match v with
    | .none => M.pure (.inst C h)
    | _ => M.fail
theorem SimV.cls (ok : W.Ok) {C fI : Addr} {ks : List Str} (site : Nat) {gI : List AV → List AV → M AV} (hm : makesIn W.K C = true) (hi : findIn W.K (.ref C) "__init__" = some (some (.ref fI))) (hf : typeIn W.K (.ref fI) = some (.type "function")) (hkp : keepIn W.K (.ref C) = true)
    (h : SimCall W n (.ref fI) ks gI) : SimV W (n + 1) (.ref C) ks (makeF C site gI) := by
  intro A σ σ' G s args kws ms ks' v hA r hne p2 p3 he
  refine ⟨keeps_K hkp _ (r.kin ok), CP.call ?_⟩
  obtain ⟨hd, σ1, e1, he1⟩ := M.bind_some he
  clear he
  obtain ⟨v', σ2, e2, he2⟩ := M.bind_some he1
  clear he1
  cases e1
  split at he2
  · cases he2
    obtain ⟨G1, l1, r1, m1⟩ := r.allocObj (ob := emptyDict) (o := .ns []) rfl site (fun G' l' => ⟨[], 0, rfl, rfl⟩) (tk := s.toks)
    obtain ⟨r2, l2⟩ := r1.alloc .z (o := instObj C s.heap.objs.size) rfl (tk := s.toks)
    have lA := l1.trans l2
    obtain ⟨hh, g, d, t, os⟩ := s
    refine make_core (makes_of (r.kin ok) hm) (looks_findIn (r.kin ok) hi) (fun self => bind_fn (r.kin ok) self hf) (.inl rfl) ?_
    have hsz : (hh.push emptyDict).objs.size = hh.objs.size + 1 := Heap.size_push ..
    dsimp only at r2 l2 m1 lA ⊢
    generalize hG2 : G1.set (hh.push emptyDict).objs.size Tag.z (instObj C hh.objs.size) = G2 at r2 l2 lA
    have hz : G2.z (hh.objs.size + 1) = some (instObj C hh.objs.size) := by
      rw [← hG2, ← hsz]; exact Gh.z_iff.mpr Gh.set_self
    have hp : Rep W G2 (.inst C (site, σ.cnt)) (.ref (hh.objs.size + 1)) := ⟨_, _, rfl, l2.mu _ _ m1, hz⟩
    refine codeAny_mono (h _ _ σ' G2 _ (.inst C (site, σ.cnt) :: args) kws (.ref (hh.objs.size + 1) :: ms) ks' .none hA.make r2 (by rw [lA.fr]; exact hne) ⟨_, _, rfl, hp, Reps.le p2 lA⟩ (Reps.le p3 lA) e2) fun rr s' w => ?_
    match rr, w with
    | .ok (.ret u), ⟨G', l', r', p'⟩ =>
      cases p'
      exact ⟨rfl, G', lA.trans l', r', hp.le l'⟩
  · cases he2

/-! membership -/
open Classical in
theorem eqAt_list {A : Around} {s : Shared} {d : PyData} {x : Value} {as : List Addr} (rx : Reads s.heap x d as) (hd : dOk d = true) (hu : A.units ≤ 9000) {ds : List PyData} {vs : List Value} {bs : List Addr} (h : ReadsAll s.heap vs ds bs) (hds : ds.all dOk = true) :
    ∃ e : Value → Bool, (∀ y ∈ vs, EqAt A s y x (e y)) ∧ vs.any e = ds.any fun z => PyData.eqv z d := by
  have key : ∀ (y : Value) (dy : PyData) (cs : List Addr), Reads s.heap y dy cs → dOk dy = true → EqAt A s y x (PyData.eqv dy d) := fun y dy cs ry hy =>
    eqAt_reads dy d A s y x cs as ry rx (dOk.can hy) (dOk.can hd) (by
      unfold dOk at hy
      rw [Bool.and_eq_true, decide_eq_true_eq] at hy
      unfold cLine
      omega)
  let e : Value → Bool := fun y => decide (∃ dy cs, Reads s.heap y dy cs ∧ dOk dy = true ∧ PyData.eqv dy d = true)
  have he : ∀ y dy cs, Reads s.heap y dy cs → dOk dy = true → e y = PyData.eqv dy d := fun y dy cs ry hy => by
    cases hq : PyData.eqv dy d with
    | true => exact decide_eq_true ⟨dy, cs, ry, hy, hq⟩
    | false =>
      refine decide_eq_false ?_
      rintro ⟨dz, cz, rz, hz, qz⟩
      have := PySem.SeqAt.Reads.unique dy dz y cs cz (dOk.can hy) ry rz
      subst this
      rw [hq] at qz; cases qz
  have main : ∀ {ds : List PyData} {vs : List Value} {bs : List Addr}, ReadsAll s.heap vs ds bs → ds.all dOk = true → (∀ y ∈ vs, EqAt A s y x (e y)) ∧ vs.any e = ds.any fun z => PyData.eqv z d := by
    intro ds
    induction ds with
    | nil => intro vs bs h _; cases h; exact ⟨fun y hy => by simp at hy, rfl⟩
    | cons dy ds ih =>
      intro vs bs h hds
      cases h with
      | cons ry rest =>
        rw [List.all_cons, Bool.and_eq_true] at hds
        obtain ⟨i1, i2⟩ := ih rest hds.2
        refine ⟨fun y hy => ?_, by rw [List.any_cons, List.any_cons, he _ _ _ ry hds.1, i2]⟩
        rcases List.mem_cons.mp hy with rfl | hy
        · rw [he _ _ _ ry hds.1]; exact key _ _ _ ry hds.1
        · exact i1 y hy
  exact ⟨e, main h hds⟩

def inA (a b : AV) : M AV := fun σ => match viewL σ b with
  | some l => (match toD a, toDs l with
    | some d, some ds => if dOk d && ds.all dOk then some (.bool (ds.any fun x => PyData.eqv x d), σ) else none
    | _, _ => none)
  | none => (dget σ b a).map fun o => (AV.bool o.isSome, σ)
def notInA (a b : AV) : M AV := fun σ => match viewL σ b with
  | some l => (match toD a, toDs l with
    | some d, some ds => if dOk d && ds.all dOk then some (.bool (!ds.any fun x => PyData.eqv x d), σ) else none
    | _, _ => none)
  | none => (dget σ b a).map fun o => (AV.bool (!o.isSome), σ)
theorem AOK.un9 {A : Around} (h : AOK n A) : A.in1.units ≤ 9001 := by
  have := h.un
  show A.units + 1 ≤ 9001
  omega
theorem dRep.some {G : Gh} {o : Option AV} {m : Option Value} (h : dRep W G o m) : m.isSome = o.isSome := by
  cases o with
  | some v => obtain ⟨x, e, _⟩ := h; rw [e]; rfl
  | none => rw [show m = Option.none from h]; rfl
theorem Op2.in (ok : W.Ok) : Op2 W (Rep W) (n + 1) (compareOp .In) inA := by
  intro A σ σ' G s a b c ma mb hA r pa pb hf
  unfold inA at hf
  split at hf
  · rename_i l hv
    split at hf
    · rename_i d ds hd hds
      split at hf
      · rename_i hok
        rw [Bool.and_eq_true] at hok
        cases hf
        obtain ⟨y, vs, k, e, hg, hr⟩ := r.view pb hv
        subst e
        obtain ⟨as, ra⟩ := reads_of (h := s.heap) (fun _ _ q => r.z q) a _ _ pa hd
        obtain ⟨bs, rb⟩ := reads_ofs (h := s.heap) (fun _ _ q => r.z q) l _ _ hr hds
        obtain ⟨e, e1, e2⟩ := eqAt_list (A := A.in1) ra hok.1 (by have := hA.in1.un; omega) rb hok.2
        refine in_listAt e (isList_of hg) (fun y hy => e1 y (Array.mem_toList_iff.mpr hy)) (.now r ?_)
        rw [← Array.any_toList, e2]; rfl
      · cases hf
    · cases hf
  · obtain ⟨o, e1, e2⟩ := Option.map_eq_some_iff.mp hf
    cases e2
    obtain ⟨d, κ, _, knd, kk, kvs, e, hsy, hD, hkey, hpart, hr⟩ := r.dget ok pb pa e1
    subst e
    exact wpAny_in_of hkey hsy hD.mapOf (.now r.tok (by rw [dRep.some hr]; rfl))
theorem Op2.notIn (ok : W.Ok) : Op2 W (Rep W) (n + 1) (compareOp .NotIn) notInA := by
  intro A σ σ' G s a b c ma mb hA r pa pb hf
  unfold notInA at hf
  split at hf
  · rename_i l hv
    split at hf
    · rename_i d ds hd hds
      split at hf
      · rename_i hok
        rw [Bool.and_eq_true] at hok
        cases hf
        obtain ⟨y, vs, k, e, hg, hr⟩ := r.view pb hv
        subst e
        obtain ⟨as, ra⟩ := reads_of (h := s.heap) (fun _ _ q => r.z q) a _ _ pa hd
        obtain ⟨bs, rb⟩ := reads_ofs (h := s.heap) (fun _ _ q => r.z q) l _ _ hr hds
        obtain ⟨e, e1, e2⟩ := eqAt_list (A := A.in1) ra hok.1 (by have := hA.in1.un; omega) rb hok.2
        refine notIn_listAt e (isList_of hg) (fun y hy => e1 y (Array.mem_toList_iff.mpr hy)) (.now r ?_)
        rw [← Array.any_toList, e2]; rfl
      · cases hf
    · cases hf
  · obtain ⟨o, e1, e2⟩ := Option.map_eq_some_iff.mp hf
    cases e2
    obtain ⟨d, κ, _, knd, kk, kvs, e, hsy, hD, hkey, hpart, hr⟩ := r.dget ok pb pa e1
    subst e
    exact wpAny_notIn_of hkey hsy hD.mapOf (.now r.tok (by rw [dRep.some hr]; rfl))
end
end Mine
end

section
open PySem PySem.W PySem.Calls PyProof.Rows
set_option Elab.async false
set_option maxRecDepth 20000
set_option linter.unusedSectionVars false
set_option linter.unusedVariables false
namespace Mine

/-- the ghost at a law's start -/
def Gh.start (W : Wd) (tabs : List Addr) (X : Sc) (L : Addr) (cs : List (Str × Addr)) (h : Heap) : Gh :=
  { kn := fun b => if b = L then (h.get? b).map (Tag.loc 0, ·) else match cellSlot X.names cs b with
      | some i => (h.get? b).map (Tag.cel 0 i, ·)
      | none => if b ∈ tabs then (h.get? b).map (Tag.pin, ·) else (W.H0.get? b).map (Tag.z, ·)
    mu := fun _ => none
    fr := [⟨X.names, L, cs⟩] }

theorem R.start {W : Wd} {X : Sc} {ps : List Str} {tabs : List Addr} {s : Shared} {L : Addr} {m cm : Str → Option Value} {cs : List (Str × Addr)} {vals : List AV} {ms : List Value} (F : FnSc X ps)
    (hTB : W.TB = []) (hkeep : ∀ b o, W.H0.get? b = some o → s.heap.get? b = some o) (hL : s.heap.Ns L m) (hLf : W.H0.get? L = none) (htab : ∀ P ∈ tabs, W.H0.get? P = none ∧ P ≠ L ∧ ∀ x, (x, P) ∉ cs)
    (hcs : ∀ (i : Nat) x, X.names[i]? = some (x, NameKind.cell) → ∃ c o, cs.lookup x = some c ∧ c ≠ L ∧ W.H0.get? c = none ∧ s.heap.get? c = some o ∧ o.data = .cell (cm x))
    (hfree : ∀ x c, cs.lookup x = some c → W.H0.get? c = none)
    (hapart : cs.Pairwise fun x y => x.2 ≠ y.2)
    (hm : ∀ (i : Nat) x, X.names[i]? = some (x, NameKind.local) → m x = (ps.zip ms).lookup x) (hcm : ∀ (i : Nat) x, X.names[i]? = some (x, NameKind.cell) → cm x = (ps.zip ms).lookup x)
    (hv : RepVs ⟨fun a => (W.H0.get? a), fun _ => none, fun _ _ => False, fun o l => DictOb (strKind W.prog W.w) o l⟩ vals ms) (hos : s.os = W.os) (hg : s.gens = #[]) (hsy : SysK (Gh.start W tabs X L cs s.heap).kn) :
    R W (Gh.start W tabs X L cs s.heap) ⟨[initF X.names (ps.zip vals)], fun _ => none, 0⟩ s ∧ (∀ P ∈ tabs, ∀ o, s.heap.get? P = some o → (Gh.start W tabs X L cs s.heap).kn P = some (.pin, o)) := by
  obtain ⟨oL, hoL, hnL⟩ := NsOb.of hL
  have hslot : ∀ (i : Nat) y c, X.names[i]? = some (y, NameKind.cell) → cs.lookup y = some c → cellSlot X.names cs c = some i := fun i y c hi hc => by
    unfold cellSlot
    obtain ⟨hl, he⟩ := List.getElem?_eq_some_iff.mp hi
    rw [List.findIdx?_eq_some_iff_getElem]
    refine ⟨hl, by rw [he]; simp [hc], fun j hj => ?_⟩
    simp only [Bool.and_eq_true, beq_iff_eq, not_and]
    intro hk hc'
    have e : X.names[j].1 = y := name_of_addr hapart (mem_of_lookup hc') (mem_of_lookup hc)
    have : j = i := nodup_at F.nd (i := j) (j := i) (x := y) (a := X.names[j].2) (b := NameKind.cell) (by rw [List.getElem?_eq_getElem (by omega)]; rw [← e]) hi
    omega
  have hnoslot : ∀ b, (∀ x, cs.lookup x = some b → False) → cellSlot X.names cs b = none := fun b hb => by
    unfold cellSlot
    rw [List.findIdx?_eq_none_iff]
    intro p _
    simp only [Bool.and_eq_false_iff, beq_eq_false_iff_ne]
    right
    exact fun e => hb _ e
  have kz : ∀ b o, W.H0.get? b = some o → (Gh.start W tabs X L cs s.heap).kn b = some (.z, o) := fun b o e => by
    show (if b = L then _ else _) = _
    rw [if_neg (by rintro rfl; rw [hLf] at e; cases e), hnoslot b (fun x hx => by rw [hfree x b hx] at e; cases e)]
    dsimp only
    rw [if_neg (fun hb => by rw [(htab b hb).1] at e; cases e), e]; rfl
  have kp : ∀ P ∈ tabs, ∀ o, s.heap.get? P = some o → (Gh.start W tabs X L cs s.heap).kn P = some (.pin, o) := fun P hP o e => by
    show (if P = L then _ else _) = _
    rw [if_neg (htab P hP).2.1, hnoslot P (fun x hx => (htab P hP).2.2 x (mem_of_lookup hx))]
    dsimp only
    rw [if_pos hP, e]; rfl
  have hvw : (⟨fun a => (W.H0.get? a), fun _ => none, fun _ _ => False, fun o l => DictOb (strKind W.prog W.w) o l⟩ : Vw).Le ((Gh.start W tabs X L cs s.heap).vw W) :=
    ⟨fun a o e => Gh.z_iff.mpr (kz a o e), fun n a e => absurd e (by simp), fun _ _ (e : False) => e.elim, fun _ _ e => e⟩
  have hv' := RepVs.mono hvw _ _ hv
  refine ⟨⟨⟨fun b o _ e => kz b o e, ⟨_, [], rfl, ⟨F.nd, by simp [initF], ⟨oL, m, ?_, hnL, fun i y hi v e => ?_⟩, fun i y hi => ?_⟩, rfl⟩, fun n o e => absurd e (by simp), fun n a e => absurd e (by simp [Gh.start]), hsy⟩, fun a t o e => ?_, hos, hg⟩, kp⟩
  · show (if L = L then _ else _) = _
    rw [if_pos rfl, hoL]; rfl
  · have e : (initF X.names (ps.zip vals))[i]? = some (some v) := e
    unfold initF at e
    rw [List.getElem?_map, hi] at e
    have e : (ps.zip vals).lookup y = some v := Option.some.inj e
    obtain ⟨mv, e1, e2⟩ := zip_lookup ps vals ms hv' y v e
    exact ⟨mv, by rw [hm i y hi, e1], e2⟩
  · obtain ⟨c, oc, hc, hcl, _, ho, hd⟩ := hcs i y hi
    refine ⟨c, oc, _, hc, ?_, hd, fun v e => ?_⟩
    · show (if c = L then _ else _) = _
      rw [if_neg hcl, hslot i y c hi hc, ho]; rfl
    · unfold initF at e
      rw [List.getElem?_map, hi] at e
      have e : (ps.zip vals).lookup y = some v := Option.some.inj e
      obtain ⟨mv, e1, e2⟩ := zip_lookup ps vals ms hv' y v e
      exact ⟨mv, by rw [hcm i y hi, e1], e2⟩
  · have e : (if a = L then (s.heap.get? a).map (Tag.loc 0, ·) else match cellSlot X.names cs a with
      | some i => (s.heap.get? a).map (Tag.cel 0 i, ·)
      | none => if a ∈ tabs then (s.heap.get? a).map (Tag.pin, ·) else (W.H0.get? a).map (Tag.z, ·)) = some (t, o) := e
    split at e
    · obtain ⟨o', e1, e2⟩ := Option.map_eq_some_iff.mp e
      cases e2; exact e1
    · split at e
      · obtain ⟨o', e1, e2⟩ := Option.map_eq_some_iff.mp e
        cases e2; exact e1
      · split at e
        · obtain ⟨o', e1, e2⟩ := Option.map_eq_some_iff.mp e
          cases e2; exact e1
        · obtain ⟨o', e1, e2⟩ := Option.map_eq_some_iff.mp e
          cases e2; exact hkeep _ _ e1
theorem R.startEnv {W : Wd} {X : Sc} {tabs : List Addr} {s : Shared} {env : Env} (hk : X.scope.kind = .function) (hsc : env.scope = X.scope) (hg : env.globals = mainGlobals) (hb : env.builtins = builtinsNs) (hf : ∃ f, env.frame = some f) (hup : X.up = []) (hbot : X.bot = []) :
    EnvOK X env (Gh.start W tabs X env.locals env.cells s.heap) :=
  ⟨hsc, hk, hg, hb, hf, ⟨_, _, rfl, rfl, rfl, fun _ _ => rfl⟩, fun x k i h => by rw [hup] at h; simp at h, fun x i h => by rw [hbot] at h; simp at h⟩
end Mine
end

section
open PySem PySem.W PySem.Calls PyProof.Rows
set_option Elab.async false
set_option maxRecDepth 20000
set_option linter.unusedSectionVars false
set_option linter.unusedVariables false
namespace Mine

/-! scopes that are computed -/
def ownN (s : Scope) : List (Str × NameKind) := s.names.filter fun p => p.2 == .local || p.2 == .cell
def slotIn : List (Str × NameKind) → Str → Nat → Option (Nat × NameKind)
  | [], _, _ => none
  | (y, k) :: l, x, n => if y = x then some (n, k) else slotIn l x (n + 1)
theorem slotIn_get : ∀ {l : List (Str × NameKind)} {x : Str} {n i : Nat} {k : NameKind}, slotIn l x n = some (i, k) → n ≤ i ∧ l[i - n]? = some (x, k)
  | [], _, _, _, _, h => by cases h
  | (y, k') :: l, x, n, i, k, h => by
    unfold slotIn at h
    split at h
    · rename_i e
      cases h
      subst e
      exact ⟨Nat.le_refl _, by simp⟩
    · obtain ⟨h1, h2⟩ := slotIn_get h
      refine ⟨by omega, ?_⟩
      obtain ⟨j, rfl⟩ : ∃ j, i = n + 1 + j := ⟨i - (n + 1), by omega⟩
      rw [show n + 1 + j - n = j + 1 by omega]
      rw [show n + 1 + j - (n + 1) = j by omega] at h2
      simpa using h2
def nodupB : List Str → Bool
  | [] => true
  | x :: l => !l.contains x && nodupB l
theorem nodupB_of : ∀ {l : List Str}, nodupB l = true → l.Nodup
  | [], _ => .nil
  | x :: l, h => by
    unfold nodupB at h
    rw [Bool.and_eq_true, Bool.not_eq_true'] at h
    rw [List.nodup_cons]
    refine ⟨fun hm => ?_, nodupB_of h.2⟩
    have := List.contains_iff_mem.mpr hm
    rw [h.1] at this; cases this

def fnScB (s : Scope) (ps : List Str) : Bool := s.kind == .function && nodupB (s.names.map (·.1)) && nodupB ps && ps.all fun p => (slotIn (ownN s) p 0).isSome
def fnSc (s : Scope) : Sc := ⟨s, ownN s, [], []⟩
theorem lookup_of_nodup {l : List (Str × NameKind)} (nd : (l.map (·.1)).Nodup) {p : Str × NameKind} (h : p ∈ l) : l.lookup p.1 = some p.2 := by
  induction l with
  | nil => simp at h
  | cons q r ih =>
    obtain ⟨y, k⟩ := q
    rw [List.map_cons, List.nodup_cons] at nd
    rw [List.lookup_cons]
    rcases List.mem_cons.mp h with rfl | h2
    · simp
    · have : (p.1 == y) = false := by
        simp only [beq_eq_false_iff_ne, ne_eq]
        intro e
        exact nd.1 (by rw [← e]; exact List.mem_map_of_mem (f := (·.1)) h2)
      rw [this]
      exact ih nd.2 h2
theorem ownN_mem {s : Scope} {p : Str × NameKind} (h : p ∈ ownN s) : p ∈ s.names ∧ (p.2 = .local ∨ p.2 = .cell) := by
  unfold ownN at h
  rw [List.mem_filter] at h
  refine ⟨h.1, ?_⟩
  have := h.2
  rw [Bool.or_eq_true] at this
  rcases this with e | e
  · left; revert e; cases p.2 <;> decide
  · right; revert e; cases p.2 <;> decide
theorem ownN_nodup {s : Scope} (nd : (s.names.map (·.1)).Nodup) : ((ownN s).map (·.1)).Nodup :=
  nd.sublist (List.Sublist.map _ List.filter_sublist)
theorem fnSc_of {s : Scope} {ps : List Str} (h : fnScB s ps = true) : FnSc (fnSc s) ps := by
  unfold fnScB at h
  simp only [Bool.and_eq_true] at h
  obtain ⟨⟨⟨h1, h2⟩, h3⟩, h4⟩ := h
  have nd := nodupB_of h2
  refine ⟨by revert h1; cases hk : s.kind <;> first | (intro _; exact hk) | (intro q; exact absurd q (by decide)), ownN_nodup nd, nodupB_of h3, fun y hy => (ownN_mem hy).2, fun y hy => lookup_of_nodup nd (ownN_mem hy).1, fun y hy => (ownN_mem hy).1, rfl, rfl, fun p hp => ?_⟩
  have := List.all_eq_true.mp h4 p hp
  obtain ⟨⟨i, k⟩, hi⟩ := Option.isSome_iff_exists.mp this
  obtain ⟨_, hi⟩ := slotIn_get hi
  have hm := List.mem_of_getElem? hi
  rcases (ownN_mem hm).2 with e | e
  · left; rw [← e]; exact hm
  · right; rw [← e]; exact hm

/-- the scope of a comprehension in `X` -/
def upOf (X : Sc) : List (Str × NameKind) → List (Str × (Nat × Nat))
  | [] => []
  | (x, k) :: l => if k = .free then (match slotIn X.names x 0 with
      | some (i, .cell) => (x, (1, i)) :: upOf X l
      | _ => (match X.up.lookup x with
        | some (j, i) => (x, (j + 1, i)) :: upOf X l
        | none => upOf X l)) else upOf X l
def botOf (X : Sc) : List (Str × NameKind) → List (Str × Nat)
  | [] => []
  | (x, k) :: l => if k = .free then (match X.bot.lookup x with
      | some i => (x, i) :: botOf X l
      | none => botOf X l) else botOf X l
def subSc (X : Sc) (scope : Scope) : Sc := ⟨relS X.scope scope, scope.names.filter fun p => p.2 == .local, upOf X scope.names, botOf X scope.names⟩
def subScB (X : Sc) (scope : Scope) : Bool := scope.kind == .function && nodupB (scope.names.map (·.1)) && (scope.names.all fun p => !(p.2 == .cell)) &&
  scope.names.all fun p => !(p.2 == .free) || (match slotIn X.names p.1 0 with | some (_, .cell) => true | _ => false) || (X.up.lookup p.1).isSome || (X.bot.lookup p.1).isSome
theorem mem_of_lookup' {β : Type} {l : List (Str × β)} {x : Str} {b : β} (h : l.lookup x = some b) : (x, b) ∈ l := by
  induction l with
  | nil => simp at h
  | cons p r ih =>
    obtain ⟨y, c⟩ := p
    rw [List.lookup_cons] at h
    cases e : x == y with
    | true =>
      rw [e] at h
      cases h
      rw [beq_iff_eq.mp e]
      exact List.mem_cons_self ..
    | false => rw [e] at h; exact List.mem_cons_of_mem _ (ih h)
theorem upOf_mem {X : Sc} : ∀ {l : List (Str × NameKind)} {x : Str} {k i : Nat}, (x, (k, i)) ∈ upOf X l → (x, NameKind.free) ∈ l ∧ 1 ≤ k ∧ ((k = 1 ∧ X.names[i]? = some (x, NameKind.cell)) ∨ (x, (k - 1, i)) ∈ X.up)
  | [], _, _, _, h => by simp [upOf] at h
  | (y, kd) :: l, x, k, i, h => by
    have rec_ : (x, (k, i)) ∈ upOf X l → (x, NameKind.free) ∈ (y, kd) :: l ∧ 1 ≤ k ∧ ((k = 1 ∧ X.names[i]? = some (x, NameKind.cell)) ∨ (x, (k - 1, i)) ∈ X.up) := fun h => by
      obtain ⟨a, b⟩ := upOf_mem h
      exact ⟨List.mem_cons_of_mem _ a, b⟩
    unfold upOf at h
    split at h
    · rename_i hk
      subst hk
      split at h
      · rename_i j hj
        rcases List.mem_cons.mp h with h | h
        · cases h
          obtain ⟨_, q⟩ := slotIn_get hj
          exact ⟨List.mem_cons_self .., Nat.le_refl _, .inl ⟨rfl, q⟩⟩
        · exact rec_ h
      · split at h
        · rename_i j i' hj
          rcases List.mem_cons.mp h with h | h
          · cases h
            exact ⟨List.mem_cons_self .., by omega, .inr (mem_of_lookup' hj)⟩
          · exact rec_ h
        · exact rec_ h
    · exact rec_ h
theorem botOf_mem {X : Sc} : ∀ {l : List (Str × NameKind)} {x : Str} {i : Nat}, (x, i) ∈ botOf X l → (x, NameKind.free) ∈ l ∧ (x, i) ∈ X.bot
  | [], _, _, h => by simp [botOf] at h
  | (y, kd) :: l, x, i, h => by
    have rec_ : (x, i) ∈ botOf X l → (x, NameKind.free) ∈ (y, kd) :: l ∧ (x, i) ∈ X.bot := fun h => by
      obtain ⟨a, b⟩ := botOf_mem h
      exact ⟨List.mem_cons_of_mem _ a, b⟩
    unfold botOf at h
    split at h
    · rename_i hk
      subst hk
      split at h
      · rename_i j hj
        rcases List.mem_cons.mp h with h | h
        · cases h
          exact ⟨List.mem_cons_self .., mem_of_lookup' hj⟩
        · exact rec_ h
      · exact rec_ h
    · exact rec_ h
theorem kind_beq {a b : NameKind} : (a == b) = true ↔ a = b := by cases a <;> cases b <;> decide
theorem subSc_of {X : Sc} {scope : Scope} (h : subScB X scope = true) : SubSc X scope (subSc X scope) := by
  unfold subScB at h
  simp only [Bool.and_eq_true] at h
  obtain ⟨⟨⟨h1, h2⟩, h3⟩, h4⟩ := h
  have nd := nodupB_of h2
  refine ⟨rfl, by revert h1; cases hk : scope.kind <;> first | (intro _; rfl) | (intro q; exact absurd q (by decide)), fun y hy e => ?_, fun y hy e => ?_, fun y hy => ?_, nd.sublist (List.Sublist.map _ List.filter_sublist), fun x k i h => upOf_mem h, fun x i h => botOf_mem h, fun x hx => ?_⟩
  · have := List.all_eq_true.mp h3 y hy
    rw [e] at this
    exact absurd this (by decide)
  · rw [lookup_of_nodup nd hy, e]
  · exact kind_beq.mp (List.mem_filter.mp hy).2
  · have := List.all_eq_true.mp h4 _ hx
    dsimp only at this
    simp only [Bool.or_eq_true] at this
    rcases this with ((h | h) | h) | h
    · exact absurd h (by decide)
    · left
      split at h
      · rename_i j hj
        obtain ⟨_, q⟩ := slotIn_get hj
        exact List.mem_of_getElem? q
      · cases h
    · right; left
      obtain ⟨⟨k, i⟩, q⟩ := Option.isSome_iff_exists.mp h
      exact ⟨k, i, mem_of_lookup' q⟩
    · right; right
      obtain ⟨i, q⟩ := Option.isSome_iff_exists.mp h
      exact ⟨i, mem_of_lookup' q⟩

/-! names by computed slots -/
structure Ctx (W : Wd) (gt bt : List (Str × Value)) : Prop where
  ok : W.Ok
  mg : ∀ x v, gt.lookup x = some v → W.mg x = some v
  mb : ∀ x v, bt.lookup x = some v → W.mg x = none ∧ W.mb x = some v

section
variable {W : Wd} {X : Sc} {n : Nat} {gt bt : List (Str × Value)}
theorem Sim.ownL {x : Str} {i : Nat} (h : slotIn X.names x 0 = some (i, .local)) (hl : X.scope.names.lookup x = some .local) : Sim W (Rep W) (EF X) n (fun env => loadName env x) (ldv 0 i) := Sim.load_local (slotIn_get h).2 hl
theorem Sim.ownC {x : Str} {i : Nat} (h : slotIn X.names x 0 = some (i, .cell)) (hl : X.scope.names.lookup x = some .cell) : Sim W (Rep W) (EF X) n (fun env => loadName env x) (ldv 0 i) := Sim.load_cell (slotIn_get h).2 hl
theorem Sim.upF {x : Str} {k i : Nat} (h : X.up.lookup x = some (k, i)) (hl : X.scope.names.lookup x = some .free) (hx : (x == ("__classdict__" : Str)) = false) : Sim W (Rep W) (EF X) n (fun env => loadName env x) (ldv k i) := Sim.load_up (mem_of_lookup' h) (.inl hl) hx
theorem Sim.upC {x : Str} {k i : Nat} (h : X.up.lookup x = some (k, i)) (hl : X.scope.names.lookup x = some .cell) (hx : (x == ("__classdict__" : Str)) = false) : Sim W (Rep W) (EF X) n (fun env => loadName env x) (ldv k i) := Sim.load_up (mem_of_lookup' h) (.inr hl) hx
theorem Sim.botF {x : Str} {i : Nat} (h : X.bot.lookup x = some i) (hl : X.scope.names.lookup x = some .free) (hx : (x == ("__classdict__" : Str)) = false) : Sim W (Rep W) (EF X) n (fun env => loadName env x) (ldb i) := Sim.load_bot (mem_of_lookup' h) (.inl hl) hx
theorem Sim.glob (c : Ctx W gt bt) {x : Str} {v : Value} (hl : X.scope.names.lookup x = some .globalImplicit) (hv : gt.lookup x = some v) : Sim W (Rep W) (EF X) n (fun env => loadName env x) (M.pure (.mc v)) := Sim.load_glob c.ok hl (c.mg _ _ hv)
theorem Sim.bui (c : Ctx W gt bt) {x : Str} {v : Value} (hl : X.scope.names.lookup x = some .globalImplicit) (hv : bt.lookup x = some v) : Sim W (Rep W) (EF X) n (fun env => loadName env x) (M.pure (.mc v)) := Sim.load_bui c.ok hl (c.mb _ _ hv).1 (c.mb _ _ hv).2
theorem SimT.ownL {x : Str} {i : Nat} {pos : Pos} (h : slotIn X.names x 0 = some (i, .local)) (hl : X.scope.names.lookup x = some .local) : SimT W X n (.Name x pos) (stv i) := SimT.local (slotIn_get h).2 hl
theorem SimT.ownC {x : Str} {i : Nat} {pos : Pos} (h : slotIn X.names x 0 = some (i, .cell)) (hl : X.scope.names.lookup x = some .cell) : SimT W X n (.Name x pos) (stv i) := SimT.cell (slotIn_get h).2 hl
theorem SimN.ownL {x : Str} {i : Nat} (h : slotIn X.names x 0 = some (i, .local)) (hl : X.scope.names.lookup x = some .local) : SimN W X n x (stv i) := SimN.local (slotIn_get h).2 hl
theorem SimN.ownC {x : Str} {i : Nat} (h : slotIn X.names x 0 = some (i, .cell)) (hl : X.scope.names.lookup x = some .cell) : SimN W X n x (stv i) := SimN.cell (slotIn_get h).2 hl
end
end Mine
end

section
open PySem PySem.W PySem.Calls PyProof.Rows
set_option Elab.async false
set_option maxRecDepth 20000
set_option linter.unusedSectionVars false
set_option linter.unusedVariables false
namespace Mine

section
variable {W : Wd} {X : Sc} {n : Nat}

/-! f-strings -/
def partA : AV → M Str
  | .str x => if x.length ≤ 1000 then M.pure x else M.fail
  | .int a => if smallI a then M.pure (toString a : String) else M.fail
  | _ => M.fail
/-- a part of an f-string gives a str of which the text is known -/
def SimFP (W : Wd) (X : Sc) (n : Nat) (e : Expr) (f : M Str) : Prop := Sim W (fun _ x v => ∃ t, v = .str x t) (EF X) n (fun env => eval e env) f
theorem SimFP.lit {x : Str} {k : Nat} {pos : Pos} : SimFP W X n (.Constant (.str x) k pos) (M.pure x) := fun env A σ b σ' G s P hA r hf => by
  cases hf; exact wpAny_Constant_str (.now r.tok ⟨_, rfl⟩)
theorem SimFP.val {e : Expr} {pos : Pos} {f : M AV} (h : SimE W X n e f) : SimFP W X n (.FormattedValue e (-1) Option.none pos) (M.bind f partA) := by
  intro env A σ b σ' G s P hA r hf
  obtain ⟨a, σ1, e1, hf⟩ := M.bind_some hf
  refine wpAny_FormattedValue_plain (wpAny_mono (h env A _ _ _ G s P hA r e1) (fun mv s1 ⟨G1, l1, r1, p1⟩ => ?_) fun _ _ e => e)
  unfold partA at hf
  split at hf
  · split at hf
    · rename_i hx
      cases hf
      obtain ⟨t, rfl⟩ := p1
      exact wpAny_formatField_str ⟨G1, l1, r1, _, rfl⟩ ⟨G1, l1, r1.tok, _, rfl⟩ (by rw [sizeLine_eq]; omega)
    · cases hf
  · split at hf
    · rename_i hx
      cases hf
      obtain ⟨t, rfl⟩ := p1
      exact wpAny_formatField_int (smallI_log hx) ⟨G1, l1, r1.tok, _, rfl⟩
    · cases hf
  · cases hf
/-- the parts, joined -/
def SimJ (W : Wd) (X : Sc) (n : Nat) (es : List Expr) (f : Str → M Str) : Prop :=
  ∀ env A σ acc b σ' G s (Q : Str → Shared → Prop), EnvOK X env G → AOK n A → R W G σ s → f acc σ = some (b, σ') → (∀ G' s', G.Le G' → R W G' σ' s' → Q b s') → Joins W.M A (fun _ _ => False) (evalEach es env) acc Q s
theorem SimJ.nil : SimJ W X n [] (fun acc => if acc.length ≤ 4000 then M.pure acc else M.fail) := fun env A σ acc b σ' G s Q P hA r hf hQ => by
  dsimp only at hf
  split at hf
  · cases hf; exact hQ G s (.refl _) r
  · cases hf
theorem SimJ.cons {e : Expr} {es : List Expr} {f : M Str} {g : Str → M Str} (h1 : SimFP W X n e f) (h2 : SimJ W X n es g) (he : ∀ env, evalEach (e :: es) env = eval e env :: evalEach es env) :
    SimJ W X n (e :: es) (fun acc => M.bind f fun y => if (acc ++ y).length ≤ 4000 then g (acc ++ y) else M.fail) := by
  intro env A σ acc b σ' G s Q P hA r hf hQ
  obtain ⟨y, σ1, e1, hf⟩ := M.bind_some hf
  rw [he]
  show wpAny _ _ _ _ _ _
  refine wpAny_mono (h1 env A _ _ _ G s P hA r e1) (fun v s1 ⟨G1, l1, r1, ⟨t, p1⟩⟩ => ?_) fun _ _ e => e
  split at hf
  · rename_i hl
    exact ⟨y, t, p1, by rw [sizeLine_eq]; omega, h2 env A _ _ _ _ G1 s1 Q (P.mono l1) hA r1 hf fun G' s' l' r' => hQ G' s' (l1.trans l') r'⟩
  · cases hf
theorem SimE.fstr {v₁ v₂ : Expr} {rest : List Expr} {pos : Pos} {f : Str → M Str} (h : SimJ W X n (v₁ :: v₂ :: rest) f) :
    SimE W X n (.JoinedStr (v₁ :: v₂ :: rest) pos) (M.bind (f Str.empty) fun x => if x.length ≤ 4000 then M.pure (.str x) else M.fail) := by
  intro env A σ b σ' G s P hA r hf
  obtain ⟨x, σ1, e1, hf⟩ := M.bind_some hf
  split at hf
  · rename_i hl
    cases hf
    exact wpAny_JoinedStr (h env A _ _ _ _ G s _ P hA r e1 fun G' s' l' r' => ⟨by rw [sizeLine_eq]; omega, G', l', r'.tok, _, rfl⟩)
  · cases hf

/-! dict displays -/
def PRep (W : Wd) (G : Gh) : List (AV × AV) → List (Value × Value) → Prop
  | [], vs => vs = []
  | (a, b) :: l, vs => ∃ x y r, vs = (x, y) :: r ∧ Rep W G a x ∧ Rep W G b y ∧ PRep W G l r
theorem PRep.le {G G' : Gh} (h : G.Le G') : ∀ {l : List (AV × AV)} {vs}, PRep W G l vs → PRep W G' l vs
  | [], _, r => r
  | (a, b) :: l, _, ⟨x, y, r, e, h1, h2, h3⟩ => ⟨x, y, r, e, Rep.le h1 h, Rep.le h2 h, PRep.le h h3⟩
def SimPs (W : Wd) (X : Sc) (n : Nat) (kes : List (Expr × Expr)) (f : M (List (AV × AV))) : Prop :=
  ∀ pos, Sim W (PRep W) (EF X) n (fun env => evalPairs (kes.map fun p => (eval p.1 env, do let x ← eval p.2 env; standAt pos; pure x))) f
theorem SimPs.nil : SimPs W X n [] (M.pure []) := fun pos env A σ b σ' G s P hA r hf => by cases hf; exact wpAny_pure (.now r rfl)
theorem SimPs.cons {k v : Expr} {kes : List (Expr × Expr)} {f g : M AV} {h : M (List (AV × AV))} (h1 : SimE W X n k f) (h2 : SimE W X n v g) (h3 : SimPs W X n kes h) :
    SimPs W X n ((k, v) :: kes) (M.bind f fun a => M.bind g fun b => M.bind h fun l => M.pure ((a, b) :: l)) := by
  intro pos env A σ b σ' G s P hA r hf
  obtain ⟨a, σ1, e1, hf⟩ := M.bind_some hf
  obtain ⟨c, σ2, e2, hf⟩ := M.bind_some hf
  obtain ⟨l, σ3, e3, hf⟩ := M.bind_some hf
  cases hf
  show wpAny W.M A (do
    let kv ← eval k env
    let vv ← holding [kv] (do let x ← eval v env; standAt pos; pure x)
    return (kv, vv) :: (← holding [kv, vv] (evalPairs (kes.map fun p => (eval p.1 env, do let x ← eval p.2 env; standAt pos; pure x))))) _ _ s
  refine wpAny_bind (wpAny_mono (h1 env A _ _ _ G s P hA r e1) (fun ma s1 ⟨G1, l1, r1, p1⟩ => ?_) fun _ _ e => e)
  refine wpAny_bind (wpAny_holding (wpAny_bind (wpAny_mono (h2 env A _ _ _ G1 s1 (P.mono l1) hA r1 e2) (fun mb s2 ⟨G2, l2, r2, p2⟩ => wpAny_bind (wpAny_standAt (wpAny_pure ?_))) fun _ _ e => e)))
  refine wpAny_bind (wpAny_holding (wpAny_mono (h3 pos env A _ _ _ G2 s2 (P.mono (l1.trans l2)) hA r2 e3) (fun vs s3 ⟨G3, l3, r3, p3⟩ => wpAny_pure ?_) fun _ _ e => e))
  exact ⟨G3, (l1.trans l2).trans l3, r3, _, _, _, rfl, Rep.le p1 (l2.trans l3), Rep.le p2 l3, p3⟩

def strKs : List (AV × AV) → Option (List (Str × AV))
  | [] => some []
  | (a, b) :: l => match a, strKs l with
    | .str x, some r => some ((x, b) :: r)
    | _, _ => none
def mergeK (l : List (Str × AV)) (m : List (Str × AV)) : List (Str × AV) := m.foldl (fun acc kv => setK acc kv.1 kv.2) l
theorem carries_of {G : Gh} {l : List (AV × AV)} : ∀ {vs : List (Value × Value)} {m : List (Str × AV)}, PRep W G l vs → strKs l = some m → ∃ kvs, Carries (strKind W.prog W.w) vs kvs ∧ RepKV (G.vw W) m kvs := by
  induction l with
  | nil => intro vs m h e; cases e; cases h; exact ⟨[], trivial, rfl⟩
  | cons p l ih =>
    obtain ⟨a, b⟩ := p
    intro vs m h e
    obtain ⟨x, y, r, q, h1, h2, h3⟩ := h
    subst q
    unfold strKs at e
    split at e
    · rename_i z m' e1
      cases e
      obtain ⟨t, rfl⟩ := h1
      obtain ⟨kvs, c1, c2⟩ := ih h3 e1
      exact ⟨(z, y) :: kvs, ⟨strKind_is _ _ _ _, rfl, c1⟩, y, kvs, rfl, h2, c2⟩
    · cases e
theorem RepKV.merge {V : Vw} {m : List (Str × AV)} : ∀ {l : List (Str × AV)} {kvs kvs'}, RepKV V l kvs → RepKV V m kvs' → RepKV V (mergeK l m) (merged kvs kvs') := by
  induction m with
  | nil => intro l kvs kvs' h h'; cases h'; exact h
  | cons p m ih =>
    obtain ⟨k, a⟩ := p
    intro l kvs kvs' h h'
    obtain ⟨v, r, q, h1, h2⟩ := h'
    subst q
    exact ih (kvs := stored _ k v) (h.set h1 k) h2

theorem dict_disp {keys : List (Option Expr)} {values : List Expr} {pos : Pos} {kes : List (Expr × Expr)} {f : M (List (AV × AV))} (h : SimPs W X n kes f)
    (hsh : ∀ env, (evalEachOpt keys env).zip ((evalEach values env).map fun v => do let x ← v; standAt pos; pure x) = (kes.map fun p => (eval p.1 env, do let x ← eval p.2 env; standAt pos; pure x)).map fun p => (some p.1, p.2)) (h0 : kes ≠ []) (hlen : kes.length ≤ 15)
    {env : Env} {A : Around} {σ σ1 : St} {G : Gh} {s : Shared} {l : List (AV × AV)} {m : List (Str × AV)} {Q : Value → Shared → Prop} (P : EnvOK X env G) (hA : AOK n A) (r : R W G σ s) (e1 : f σ = some (l, σ1)) (hm : strKs l = some m)
    (hQ : ∀ d ob G' s', G.Le G' → (∀ o, G.kn d ≠ some (.pin, o)) → R W G' σ1 s' → G'.kn d = some (.pin, ob) → (∃ kvs, DictOb (strKind W.prog W.w) ob kvs ∧ RepKV (G'.vw W) (mergeK [] m) kvs) → (d == sysModules) = false → Q (.ref d) s') (ok : W.Ok) :
    wpAny W.M A (eval (.Dict keys values pos) env) Q (fun _ _ => False) s := by
  obtain ⟨r1, le1⟩ := r.alloc .pin (o := emptyDict) rfl (tk := s.toks)
  have hG0 : ∀ o, G.kn s.heap.objs.size ≠ some (.pin, o) := fun o e => by rw [r.fresh] at e; cases e
  refine wpAny_Dict_pairs (knd := strKind W.prog W.w) (pairs := kes.map fun p => (eval p.1 env, do let x ← eval p.2 env; standAt pos; pure x)) (hsh env) (by simpa using h0) (by simpa using hlen) ?_
  refine wpAny_mono (h pos env A _ _ _ _ _ (P.mono le1) hA r1 e1) (fun vs s2 ⟨G2, l2, r2, p2⟩ => ?_) fun _ _ e => e
  have k2 := l2.pin _ _ (Gh.set_self (G := G) (a := s.heap.objs.size) (t := .pin) (o := emptyDict))
  obtain ⟨kvs, c1, c2⟩ := carries_of p2 hm
  have hd0 : s2.heap.DictOf (strKind W.prog W.w) s.heap.objs.size [] := ⟨emptyDict, #[], 0, r2.sub _ _ _ k2, ⟨rfl, rfl, rfl⟩, rfl, fun _ he => by simp at he, Pairs.nil, List.nodup_nil⟩
  refine ⟨kvs, c1, hd0, fun h' hd hs => ?_⟩
  obtain ⟨ob, eo, q⟩ := DictOb.of hd
  obtain ⟨r3, lx3⟩ := r2.pin (tk := s2.toks + vs.length) k2 eo fun b x hb e => (hs.2 b hb).trans e
  refine hQ _ ob _ _ (LeX.le (le1.trans l2) lx3 fun a ha o => by subst ha; exact hG0 o) hG0 r3 Gh.set_self ⟨_, q, ?_⟩ (notSys r3 ok Gh.set_self Tag.noConfusion)
  exact RepKV.merge (show RepKV _ [] [] from rfl) (RepKV.mono (lx3.vw W) c2)

/-- a dict that will not change -/
def dictZ (l : List (AV × AV)) : M AV := fun σ => match strKs l with
  | some m => some (.dct (mergeK [] m), σ)
  | none => none
theorem SimE.dictz (ok : W.Ok) {keys : List (Option Expr)} {values : List Expr} {pos : Pos} (kes : List (Expr × Expr)) {f : M (List (AV × AV))} (h : SimPs W X n kes f)
    (hsh : ∀ env, (evalEachOpt keys env).zip ((evalEach values env).map fun v => do let x ← v; standAt pos; pure x) = (kes.map fun p => (eval p.1 env, do let x ← eval p.2 env; standAt pos; pure x)).map fun p => (some p.1, p.2)) (h0 : kes ≠ []) (hlen : kes.length ≤ 15) :
    SimE W X n (.Dict keys values pos) (M.bind f dictZ) := by
  intro env A σ b σ' G s P hA r hf
  obtain ⟨l, σ1, e1, hf⟩ := M.bind_some hf
  unfold dictZ at hf
  split at hf
  · rename_i m hm
    cases hf
    refine dict_disp h hsh h0 hlen P hA r e1 hm (fun d ob G' s' l' hd0 r' k' ⟨kvs, q1, q2⟩ hsy => ?_) ok
    obtain ⟨r2, lx2⟩ := r'.still k'
    exact ⟨_, LeX.le l' lx2 (fun a ha o => by subst ha; exact hd0 o), r2, d, ob, kvs, rfl, hsy, Gh.z_iff.mpr Gh.set_self, q1, (RepKV.mono (lx2.vw W) q2).vd⟩
  · cases hf
/-- a dict that may change -/
def dictN (site : Nat) (l : List (AV × AV)) : M AV := fun σ => match strKs l with
  | some m => (M.bind (allocA site (.dictS (mergeK [] m))) fun h => M.pure (.ref h)) σ
  | none => none
theorem SimE.dict (ok : W.Ok) (site : Nat) {keys : List (Option Expr)} {values : List Expr} {pos : Pos} (kes : List (Expr × Expr)) {f : M (List (AV × AV))} (h : SimPs W X n kes f)
    (hsh : ∀ env, (evalEachOpt keys env).zip ((evalEach values env).map fun v => do let x ← v; standAt pos; pure x) = (kes.map fun p => (eval p.1 env, do let x ← eval p.2 env; standAt pos; pure x)).map fun p => (some p.1, p.2)) (h0 : kes ≠ []) (hlen : kes.length ≤ 15) :
    SimE W X n (.Dict keys values pos) (M.bind f (dictN site)) := by
  intro env A σ b σ' G s P hA r hf
  obtain ⟨l, σ1, e1, hf⟩ := M.bind_some hf
  unfold dictN at hf
  split at hf
  · rename_i m hm
    cases hf
    refine dict_disp h hsh h0 hlen P hA r e1 hm (fun d ob G' s' l' hd0 r' k' ⟨kvs, q1, q2⟩ hsy => ?_) ok
    obtain ⟨G2, lx2, r2, m2⟩ := r'.wake (o := .dictS (mergeK [] m)) k' site ⟨kvs, q1, q2⟩
    exact ⟨_, LeX.le l' lx2 (fun a ha o => by subst ha; exact hd0 o), r2, d, rfl, m2⟩
  · cases hf
/-- `{}`, for str keys or for int keys -/
theorem SimE.dict0 (site : Nat) {pos : Pos} : SimE W X n (.Dict [] [] pos) (M.bind (allocA site (.dictS [])) fun h => M.pure (.ref h)) := by
  intro env A σ b σ' G s P hA r hf
  cases hf
  obtain ⟨G2, l2, r2, m2⟩ := r.allocObj (ob := emptyDict) (o := .dictS []) rfl site (fun G' l' => ⟨[], ⟨#[], 0, ⟨rfl, rfl, rfl⟩, rfl, fun _ he => by simp at he, Pairs.nil, List.nodup_nil⟩, rfl⟩) (tk := s.toks)
  exact wpAny_Dict_empty ⟨G2, l2, r2, _, rfl, m2⟩
theorem SimE.dict0I (site : Nat) {pos : Pos} : SimE W X n (.Dict [] [] pos) (M.bind (allocA site (.dictI [])) fun h => M.pure (.ref h)) := by
  intro env A σ b σ' G s P hA r hf
  cases hf
  obtain ⟨G2, l2, r2, m2⟩ := r.allocObj (ob := emptyDict) (o := .dictI []) rfl site (fun G' l' => ⟨[], ⟨#[], 0, ⟨rfl, rfl, rfl⟩, rfl, fun _ he => by simp at he, Pairs.nil, List.nodup_nil⟩, rfl⟩) (tk := s.toks)
  exact wpAny_Dict_empty ⟨G2, l2, r2, _, rfl, m2⟩
end
end Mine
end

section
open PySem PySem.W PySem.Calls PyProof.Rows
set_option Elab.async false
set_option maxRecDepth 20000
namespace Mine
theorem slot_fn_eq : Slot "function" "__eq__" "object.__eq__" :=
  .of (owner := "object") (n := "__eq__") (by rw [typeLookup_type, builtinLookup_eq_fast]; kernel_rfl) (by decide +kernel) (by decide +kernel) (by decide +kernel) (.inl (by decide +kernel)) (by rw [isSubtype_type]; kernel_rfl)
theorem entry_obj_eq : entryFor table "object.__eq__" = some Builtin.«object.__eq__» := entryFor_of_tree (by kernel_rfl)
theorem args_obj_eq (a b : Value) : argsOk "object.__eq__" ⟨[a, b], []⟩ := by unfold argsOk; kernel_rfl
theorem eq_fn_str {prog : Program} {w : World} {A : Around} {E : Value → Shared → Prop} {s : Shared} {a : Addr} {o : Obj} {x : Str} {t : Tok} {Q : Value → Shared → Prop} (hu : A.units < cLine) (ho : s.heap.get? a = some o) (hc : o.cls = .type "function") (hd : ∃ fd, o.data = .func fd)
    (h : Q (.bool false) s) : wpAny (model prog w) A (compareOp .Eq (.ref a) (.str x t)) Q E s := by
  show wpAny _ _ (richCompare .Eq (.ref a) (.str x t)) Q E s
  have hT : s.TypeIs (.ref a) "function" := ⟨o, ho, hc⟩
  unfold richCompare
  refine wpAny_holding (wpAny_bind (wpAny_cRoomFor hu ?_))
  have h1 : oneThing? .Eq (.ref a) (.str x t) = none := rfl
  rw [h1]
  dsimp only [cmpInfo]
  refine wpAny_bind (wpAny_typeOf hT (wpAny_bind (wpAny_typeOf (typeIs_str _ _ _) ?_)))
  have h2 : isSubtype (.type "str") (.type "function") = pure false := by rw [isSubtype_type]; kernel_rfl
  rw [if_pos (by decide), h2]
  refine wpAny_bind (wpAny_pure ?_)
  rw [if_neg (by decide)]
  unfold tryCompare
  refine wpAny_bind (wpAny_bind (wpAny_callSpecialIfBound?_slot hT slot_fn_eq (wpAny_call_entry slot_fn_eq hT entry_obj_eq ?_ (args_obj_eq _ _))))
  · unfold Builtin.«object.__eq__»
    refine wpAny_bind (wpAny_of_eq (a := (Value.ref a, [Value.str x t])) (by rfl) ?_)
    dsimp only
    refine wpAny_bind (wpAny_of_eq (a := false) (by rfl) ?_)
    rw [if_neg (by decide)]
    refine wpAny_pure ⟨_, rfl, ?_⟩
    dsimp only
    refine wpAny_pure ?_
    dsimp only
    rw [if_pos (by decide)]
    refine wpAny_bind (wpAny_bind (wpAny_callSpecialIfBound?_slot (typeIs_str _ _ _) PySem.F.slot_str_eq (wpAny_call_entry PySem.F.slot_str_eq (typeIs_str _ _ _) PySem.F.entry_str_eq ?_ (PySem.F.args_str_eq_2 _ _))))
    unfold Builtin.«str.__eq__»
    k_delta "strCompare"
    refine wpAny_bind (wpAny_of_eq (a := (Value.str x t, x, [Value.ref a])) (by rfl) ?_)
    dsimp only
    obtain ⟨fd, hd⟩ := hd
    refine wpAny_bind ?_
    show wpAny _ _ (asStr? (.ref a)) _ _ _
    unfold asStr?
    refine wpAny_bind (wpAny_load ho ?_)
    rw [hd]
    refine wpAny_pure ?_
    dsimp only
    refine wpAny_bind (wpAny_rule (wpAny_pure ⟨_, rfl, ?_⟩))
    dsimp only
    refine wpAny_pure ?_
    dsimp only
    refine wpAny_bind (wpAny_rule (wpAny_bind ?_))
    exact wpAny_of_eq (a := false) (by rfl) (wpAny_pure h)

section
variable {W : Wd} {X : Sc} {n : Nat}
/-- a closure is no str -/
def eqFS (a b : AV) : M AV := match a, b with
  | .clo _, .str _ => M.pure (.bool false)
  | _, _ => M.fail
theorem Op2.eqFS : Op2 W (Rep W) n (compareOp .Eq) eqFS := by
  intro A σ σ' G s a b c ma mb hA r pa pb hf
  unfold Mine.eqFS at hf
  split at hf
  · cases hf
    obtain ⟨x, o, e, hz, sk, fd, h1, h2, h3, _⟩ := pa
    obtain ⟨t, rfl⟩ := pb
    subst e
    exact eq_fn_str hA.units1 (r.z hz) h2 ⟨fd, h3⟩ (.now r rfl)
  · cases hf
end
end Mine
end

section
open PySem PySem.W PySem.Calls PyProof.Rows
set_option Elab.async false
set_option maxRecDepth 20000
set_option linter.unusedSectionVars false
set_option linter.unusedVariables false
namespace Mine

section
variable {W : Wd} {X : Sc} {n : Nat}

/-- a def of which some defaults stand in -/
theorem SimBind.dflt (ok : W.Ok) {fd : FuncData} {ps : List Str} (k : Nat) (dv : List Value) (D : List AV) {T : Addr} {o : Obj} (ho : W.K.lookup T = some o) (hlen : ps.length = k + dv.length)
    (hD : ∀ G σ s, R W G σ s → Reps W G D dv)
    (hb : ∀ (ms : List Value) (s : Shared), ms.length = k → s.heap.get? T = some o → BindsTo s fd ⟨ms, []⟩ (ps.zip (ms ++ dv))) :
    SimBind W fd ps [] (fun args _ => if args.length = k then some (args ++ D) else none) := by
  intro A σ G s args kws ms ks' vals hA r hm hk' hf
  dsimp only at hf
  split at hf
  · rename_i hl
    cases hf
    have h1 := hm.length
    have h2 := (hD _ _ _ r).length
    show wpAny W.M A (bindArgs fd ⟨ms, []⟩) _ _ s
    refine hb ms s (by omega) (r.kin ok _ _ ho) W.M A _ _ ⟨ms ++ dv, G, rfl, .refl _, r, RepVs.append hm (hD _ _ _ r), by simp; omega⟩
  · cases hf

theorem keyHash_str (w : World) (x : Str) : PyData.keyHash w.params x = hashStr w x := rfl

theorem nsSet_at {prog : Program} {w : World} {A : Around} {E : Value → Shared → Prop} {s : Shared} {d : Addr} {es : List DictEntry} {k : Nat} {x : Str} {v : Value} {Q : Unit → Shared → Prop} (h : s.heap.get? d = some (dictOf es k)) (hn : es.any (fun e => e.refKey) = false)
    (hQ : ∀ h', h'.get? d = some (dictOf (putL x (PyData.keyHash w.params x) (.str x s.toks) v es) (putN x es k)) → Heap.SameBut d s.heap h' → Q () { s with heap := h', toks := s.toks + 1 }) : wpAny (model prog w) A (nsSet d x v) Q E s := by
  unfold nsSet
  refine wpAny_bind (wpAny_bind (wpAny_askSetting (wpAny_pure (wpAny_bind (wpAny_mkText (wpAny_bind (wpAny_loadPart h ?_)))))))
  have hg : (!es.toArray.any (fun e => e.key.isStr x) && es.toArray.any (fun e => e.refKey)) = false := by
    have h6 : es.toArray.any (fun e => e.refKey) = false := by
      rw [← Array.any_toList]; exact hn
    rw [h6, Bool.and_false]
  rw [show (dictOf es k).data = .dict es.toArray k from rfl]
  dsimp only
  rw [aRefKeyMayBeTheName_at, hg]
  have e' : Heap.get? (s.heap.update d (Obj.putName x (PyData.keyHash w.params x) (.str x s.toks) v)) d = some (dictOf (putL x (PyData.keyHash w.params x) (.str x s.toks) v es) (putN x es k)) := by
    rw [Heap.get?_update_self _ h (by rw [putName_dict]; rfl), putName_dict]
  exact wpAny_updatePart h (hQ _ e' (Heap.SameBut.update ..))

/-- two keywords gathered into a dict -/
theorem gather2 {A : Around} {G : Gh} {σ : St} {s : Shared} {k1 k2 : Str} {a1 a2 : AV} {x1 x2 : Value} {Q : Addr → Shared → Prop} (ok : W.Ok) (r : R W G σ s) (hne : k1 ≠ k2) (p1 : Rep W G a1 x1) (p2 : Rep W G a2 x2)
    (hQ : ∀ d G' s', G.Le G' → R W G' σ s' → Rep W G' (.dct [(k1, a1), (k2, a2)]) (.ref d) → Q d s') :
    wpAny W.M A (do
      let d ← alloc { cls := .type "dict", data := .dict #[] }
      for (k, v) in [(k1, x1), (k2, x2)] do nsSet d k v
      pure d) Q (fun _ _ => False) s := by
  obtain ⟨r1, le1⟩ := r.alloc .pin (o := emptyDict) rfl (tk := s.toks)
  have hG0 : ∀ o, G.kn s.heap.objs.size ≠ some (.pin, o) := fun o e => by rw [r.fresh] at e; cases e
  have k0 := Gh.set_self (G := G) (a := s.heap.objs.size) (t := .pin) (o := emptyDict)
  refine wpAny_bind (wpAny_alloc ?_)
  refine wpAny_bind ?_
  rw [List.forIn_cons]
  refine wpAny_bind (wpAny_bind (nsSet_at (es := []) (k := 0) (r1.sub _ _ _ k0) rfl fun h1 e1 s1 => wpAny_pure ?_))
  obtain ⟨r2, lx2⟩ := r1.pin (tk := s.toks + 1) k0 e1 fun b x hb e => (s1.2 b hb).trans e
  dsimp only
  rw [List.forIn_cons]
  refine wpAny_bind (wpAny_bind (nsSet_at e1 (by rfl) fun h2 e2 s2 => wpAny_pure ?_))
  dsimp only
  rw [List.forIn_nil]
  have k2' := Gh.set_self (G := G.set s.heap.objs.size .pin emptyDict) (a := s.heap.objs.size) (t := .pin) (o := dictOf (putL k1 (PyData.keyHash W.w.params k1) (.str k1 s.toks) x1 []) (putN k1 [] 0))
  obtain ⟨r3, lx3⟩ := r2.pin (tk := s.toks + 1 + 1) k2' e2 fun b x hb e => (s2.2 b hb).trans e
  obtain ⟨r4, lx4⟩ := r3.still Gh.set_self
  have lx := (lx2.trans lx3).trans lx4
  have hf : (Value.str k1 s.toks).isStr k2 = false := by
    rw [isStr_str]; exact decide_eq_false (fun e => hne e.symm)
  have hput : putL k2 (PyData.keyHash W.w.params k2) (.str k2 (s.toks + 1)) x2 (putL k1 (PyData.keyHash W.w.params k1) (.str k1 s.toks) x1 []) = [⟨PyData.keyHash W.w.params k1, .str k1 s.toks, x1⟩, ⟨PyData.keyHash W.w.params k2, .str k2 (s.toks + 1), x2⟩] := by
    show (if (Value.str k1 s.toks).isStr k2 = true then _ else _) = _
    rw [hf]; rfl
  refine wpAny_pure (wpAny_pure (hQ _ _ _ (LeX.le le1 lx fun a ha o => by subst ha; exact hG0 o) r4 ⟨_, _, [(k1, x1), (k2, x2)], rfl, ?_, Gh.z_iff.mpr Gh.set_self, ?_, ?_⟩))
  · exact notSys r3 ok Gh.set_self Tag.noConfusion
  · rw [hput]
    refine ⟨_, _, ⟨rfl, rfl, rfl⟩, rfl, fun e he => ?_, ?_, ?_⟩
    · simp at he
      rcases he with rfl | rfl
      · exact ⟨k1, strKind_is _ _ _ _, rfl⟩
      · exact ⟨k2, strKind_is _ _ _ _, rfl⟩
    · exact .cons (strKind_is _ _ _ _) rfl (.cons (strKind_is _ _ _ _) rfl .nil)
    · simp [hne]
  · exact ⟨x1, _, rfl, repX (p1.le le1) lx, x2, _, rfl, repX (p2.le le1) lx, rfl⟩

theorem SimBind.kw2 (ok : W.Ok) {fd : FuncData} {p1 p2 p3 k1 k2 : Str} {T : Addr} {o : Obj} {its : Array Value} {m : Nat} (hd : fd.defaults = .ref T) (ho : W.K.lookup T = some o) (hs : o.data = .seq its m) (hne : k1 ≠ k2)
    (hb : ∀ x y u v, bindArgs fd ⟨[x, y], [(k1, u), (k2, v)]⟩ = seqItems? fd.defaults >>= fun _ => ((do
      let d ← alloc { cls := .type "dict", data := .dict #[] }
      for (k, v) in [(k1, u), (k2, v)] do nsSet d k v
      pure d) >>= fun d => pure [(p1, x), (p2, y), (p3, .ref d)])) :
    SimBind W fd [p1, p2, p3] [k1, k2] (fun args kws => match args, kws with
      | [a, b], [c, d] => some [a, b, .dct [(k1, c), (k2, d)]]
      | _, _ => none) := by
  intro A σ G s args kws ms ks' vals hA r hm hk' hf
  dsimp only at hf
  split at hf
  · rename_i a b c d
    cases hf
    obtain ⟨x, y, e, q1, q2⟩ := Reps.two hm
    obtain ⟨u, v, e', q3, q4⟩ := Reps.two hk'
    subst e e'
    show wpAny W.M A (bindArgs fd ⟨[x, y], [(k1, u), (k2, v)]⟩) _ _ s
    rw [hb, hd]
    refine wpAny_bind (wpAny_seqItems (r.kin ok _ _ ho) hs (wpAny_bind (gather2 ok r hne q3 q4 fun dd G' s' l' r' p' => wpAny_pure ?_)))
    exact ⟨[x, y, .ref dd], G', rfl, l', r', ⟨_, _, rfl, Rep.le q1 l', _, _, rfl, Rep.le q2 l', _, _, rfl, p', rfl⟩, rfl⟩
  · cases hf
end
end Mine
end

section
open PySem PySem.W PySem.Calls PyProof.Rows
set_option Elab.async false
set_option maxRecDepth 20000
set_option linter.unusedSectionVars false
set_option linter.unusedVariables false
namespace Mine

/-! a counter: an object of a class over dict -/
abbrev ctrObj (C dx : Addr) (es : Array DictEntry) (ep : Nat) : Obj := ⟨.ref C, some dx, .dict es ep, #[]⟩

section
variable {prog : Program} {w : World} {A : Around} {E : Value → Shared → Prop} {s : Shared} {C dx a : Addr} {es : Array DictEntry} {ep : Nat} {kvs : List (Str × Value)} {k : Str} {key v : Value}

theorem ctr_get {Q : Option Value → Shared → Prop} (hkey : (strKind prog w).is k key = true) (ho : s.heap.get? a = some (ctrObj C dx es ep)) (hk : KeysOf (strKind prog w) es) (hp : Pairs (strKind prog w) es.toList kvs)
    (h : Q (valueAt kvs k) { s with toks := s.toks + 1 }) : wpAny (model prog w) A (dictGet a key) Q E s := by
  unfold dictGet
  try with_reducible refine wpAny_holding ?_
  refine wpAny_bind ((strKind prog w).pyHash hkey (wpAny_bind (wpAny_dictFind_of (knd := strKind prog w) (s := { s with toks := s.toks + 1 }) hkey ho rfl hk ?_)))
  have e : valueAt kvs k = findBy (strKind prog w).is es k := by
    rw [← hp.find k]
    obtain ⟨l⟩ := es
    simp [findBy]
  rw [e, findBy_of_findIdx?] at h
  cases hi : es.findIdx? fun e => (strKind prog w).is k e.key with
  | none => rw [hi] at h; exact wpAny_pure h
  | some i => rw [hi] at h; exact wpAny_bind (wpAny_dictEntries (s := { s with toks := s.toks + 1 }) ho rfl (wpAny_pure h))

theorem ctr_set {Q : Unit → Shared → Prop} (hkey : (strKind prog w).is k key = true) (ho : s.heap.get? a = some (ctrObj C dx es ep)) (hk : KeysOf (strKind prog w) es) (hp : Pairs (strKind prog w) es.toList kvs) (hn : (kvs.map (·.1)).Nodup) (hsz : kvs.length ≤ 1000)
    (hQ : ∀ h' es' ep', h'.get? a = some (ctrObj C dx es' ep') → KeysOf (strKind prog w) es' → Pairs (strKind prog w) es'.toList (stored kvs k v) → ((stored kvs k v).map (·.1)).Nodup → Heap.SameBut a s.heap h' → Q () { s with heap := h', toks := s.toks + 1 }) :
    wpAny (model prog w) A (dictSet a key v) Q E s := by
  have hes : es.size ≤ sizeLine := by
    have e1 := hp.length
    rw [Array.length_toList] at e1
    rw [sizeLine_eq]; omega
  unfold dictSet
  try with_reducible refine wpAny_holding ?_
  refine wpAny_bind ((strKind prog w).pyHash hkey ?_)
  unfold dictSetHashed
  try with_reducible refine wpAny_holding ?_
  refine wpAny_bind (wpAny_dictFind_of (knd := strKind prog w) (s := { s with toks := s.toks + 1 }) hkey ho rfl hk ?_)
  have hidx : (es.findIdx? fun e => (strKind prog w).is k e.key) = kvs.findIdx? fun kv => decide (kv.1 = k) := by
    rw [← hp.findIdx k]; obtain ⟨l⟩ := es; simp
  cases hi : es.findIdx? fun e => (strKind prog w).is k e.key with
  | some i =>
    have hl : (es.toList.findIdx? fun e => (strKind prog w).is k e.key) = some i := by rw [← hi]; obtain ⟨l⟩ := es; simp
    refine wpAny_bind (wpAny_rule (wpAny_bind (wpAny_updateDict (s := { s with toks := s.toks + 1 }) ho rfl (wpAny_point (hQ _ _ ep (Heap.get?_update_self _ ho rfl) (hk.modify _ _) ?_ ?_ (Heap.SameBut.update ..))))))
    · rw [stored, if_pos (any_of_findIdx_some (hidx ▸ hi))]
      have := hp.modify hn hl v
      obtain ⟨l⟩ := es
      simpa using this
    · rw [stored, if_pos (any_of_findIdx_some (hidx ▸ hi)), keys_map_store]; exact hn
  | none =>
    have hnot : k ∉ kvs.map (·.1) := not_mem_of_findIdx_none (hidx ▸ hi)
    have hany : ¬ (kvs.any fun kv => decide (kv.1 = k)) = true := by
      rw [List.any_eq_true]
      rintro ⟨kv, hkv, he⟩
      exact hnot (List.mem_map.mpr ⟨kv, hkv, of_decide_eq_true he⟩)
    refine wpAny_bind (wpAny_rule (wpAny_updateDictKeys (hz := hes) (s := { s with toks := s.toks + 1 }) ho rfl (hQ _ _ (ep + 1) (Heap.get?_update_self _ ho rfl) (hk.push hkey _) ?_ ?_ (Heap.SameBut.update ..))))
    · rw [stored, if_neg hany]
      have := hp.append hkey ((strKind prog w).hash k) v
      obtain ⟨l⟩ := es
      simpa using this
    · rw [stored, if_neg hany, List.map_append, List.nodup_append]
      refine ⟨hn, by simp, ?_⟩
      intro x hx y hy
      simp only [List.map_cons, List.map_nil, List.mem_singleton] at hy
      subst hy
      exact fun e => hnot (e ▸ hx)

theorem ctr_takeOut {Q : Option DictEntry → Shared → Prop} (hkey : (strKind prog w).is k key = true) (ho : s.heap.get? a = some (ctrObj C dx es ep)) (hk : KeysOf (strKind prog w) es) (hp : Pairs (strKind prog w) es.toList kvs) (hn : (kvs.map (·.1)).Nodup) (hsz : kvs.length ≤ 1000)
    (hnone : valueAt kvs k = none → Q none { s with toks := s.toks + 1 })
    (hsome : ∀ e, valueAt kvs k = some e.val → ∀ h' es' ep', h'.get? a = some (ctrObj C dx es' ep') → KeysOf (strKind prog w) es' → Pairs (strKind prog w) es'.toList (without kvs k) → ((without kvs k).map (·.1)).Nodup → Heap.SameBut a s.heap h' → Q (some e) { s with heap := h', toks := s.toks + 1 }) :
    wpAny (model prog w) A (Builtin.Dict.takeOut a key) Q E s := by
  have hes : es.size ≤ sizeLine := by
    have e1 := hp.length
    rw [Array.length_toList] at e1
    rw [sizeLine_eq]; omega
  unfold Builtin.Dict.takeOut
  try with_reducible refine wpAny_holding ?_
  refine wpAny_bind ((strKind prog w).pyHash hkey ?_)
  refine wpAny_bind (wpAny_dictFind_of (knd := strKind prog w) (s := { s with toks := s.toks + 1 }) hkey ho rfl hk ?_)
  cases hi : es.findIdx? fun e => (strKind prog w).is k e.key with
  | none =>
    refine wpAny_pure (hnone ?_)
    rw [← hp.find k]
    have : (es.toList.find? fun e => (strKind prog w).is k e.key) = none := by
      rw [List.find?_eq_none]
      intro e he
      have := Array.findIdx?_eq_none_iff.mp hi e (Array.mem_toList_iff.mp he)
      simpa using this
    rw [this]; rfl
  | some i =>
    have hl : (es.toList.findIdx? fun e => (strKind prog w).is k e.key) = some i := by rw [← hi]; obtain ⟨l⟩ := es; simp
    obtain ⟨e, he, hek, hev⟩ := hp.at hl
    refine wpAny_bind (wpAny_dictEntries (s := { s with toks := s.toks + 1 }) ho rfl ?_)
    have he' : es[i]? = some e := by rw [← he]; obtain ⟨l⟩ := es; simp
    rw [he']
    refine wpAny_bind (wpAny_updateDictKeys (hz := hes) (s := { s with toks := s.toks + 1 }) ho rfl (wpAny_pure (hsome e hev _ _ (ep + 1) (Heap.get?_update_self _ ho rfl) (hk.erase _) ?_ (nodup_without hn k) (Heap.SameBut.update ..))))
    have := hp.erase hn hl
    obtain ⟨l⟩ := es
    simpa using this
end
end Mine
end

section
open PySem PySem.W PySem.Calls PyProof.Rows
set_option Elab.async false
set_option maxRecDepth 20000
set_option linter.unusedSectionVars false
set_option linter.unusedVariables false
namespace Mine

theorem check_any {M : Model} {A : Around} {E : Value → Shared → Prop} {s : Shared} {i owner n : String} {self : Value} {rest : List Value} {kw : List (Str × Value)} {Q : Unit → Shared → Prop}
    (hk : builtinKind i = some .slot ∨ builtinKind i = some .method) (hs : splitId i = some (owner, n)) (hi : Looks M s.heap (isInstance self (.type owner)) true) (ha : argsOk i ⟨self :: rest, kw⟩) (q : Q () s) :
    wpAny M A (checkBuiltinCall i ⟨self :: rest, kw⟩) Q E s := by
  have tail : wpAny M A (match Manifest.signature? i with | some sig => Bind.checkArgs i sig ⟨self :: rest, kw⟩ | none => pure ()) Q E s := by
    cases hsig : Manifest.signature? i with
    | none => exact wpAny_pure q
    | some sig =>
      simp only [argsOk, hsig] at ha
      have h2 : Bind.checkArgs i sig ⟨self :: rest, kw⟩ = pure () := ha
      show wpAny M A (Bind.checkArgs i sig ⟨self :: rest, kw⟩) Q E s
      rw [h2]; exact wpAny_pure q
  rcases hk with hk | hk
  · simp only [checkBuiltinCall, hk, hs]
    refine wpAny_bind (hi.here ?_)
    simp only [Bool.not_true, Bool.false_eq_true, if_false]
    cases hsig : Manifest.signature? i with
    | none => exact wpAny_pure q
    | some sig => rw [hsig] at tail; exact tail
  · simp only [checkBuiltinCall, hk, hs]
    refine wpAny_bind (hi.here ?_)
    simp only [Bool.not_true, Bool.false_eq_true, if_false]
    cases hsig : Manifest.signature? i with
    | none => exact wpAny_pure q
    | some sig => rw [hsig] at tail; exact tail

theorem kind_gi : builtinKind "dict.__getitem__" = some .slot ∨ builtinKind "dict.__getitem__" = some .method := by decide +kernel
theorem split_gi : splitId "dict.__getitem__" = some ("dict", "__getitem__") := by decide +kernel
theorem plain_gi : plainId "dict.__getitem__" = true := by decide +kernel
theorem kind_si : builtinKind "dict.__setitem__" = some .slot ∨ builtinKind "dict.__setitem__" = some .method := by decide +kernel
theorem split_si : splitId "dict.__setitem__" = some ("dict", "__setitem__") := by decide +kernel
theorem plain_si : plainId "dict.__setitem__" = true := by decide +kernel
theorem kind_pp : builtinKind "dict.pop" = some .slot ∨ builtinKind "dict.pop" = some .method := by decide +kernel
theorem split_pp : splitId "dict.pop" = some ("dict", "pop") := by decide +kernel
theorem plain_pp : plainId "dict.pop" = true := by decide +kernel

structure CtrCls (W : Wd) (C fM : Addr) : Prop where
  ns : noSeq W.K C = true
  gi : findIn W.K (.ref C) "__getitem__" = some (some (.builtin "dict.__getitem__"))
  si : findIn W.K (.ref C) "__setitem__" = some (some (.builtin "dict.__setitem__"))
  ms : findIn W.K (.ref C) "__missing__" = some (some (.ref fM))
  mf : typeIn W.K (.ref fM) = some (.type "function")
  sd : subIn W.K (.ref C) (.type "dict") = some true
  so : subIn W.K (.ref C) (.type "collections.OrderedDict") = some false
  ga : ∃ id, findIn W.K (.ref C) "__getattribute__" = some (some (.builtin id)) ∧ (Manifest.canonical id != "object.__getattribute__") = false
  gt : findIn W.K (.ref C) "__getattr__" = some none
  pp : findIn W.K (.ref C) "pop" = some (some (.builtin "dict.pop"))

section
variable {W : Wd} {X : Sc} {n : Nat}

theorem R.ctr {G : Gh} {σ : St} {s : Shared} (r : R W G σ s) {C : Addr} {h : Hd} {l : List (Str × AV)} {mv : Value} (hs : σ.st h = some (.ctr C l)) (p : Rep W G (.ref h) mv) :
    ∃ a dx od es ep kvs m, mv = .ref a ∧ G.mu h = some a ∧ G.kn a = some (.obj h, ctrObj C dx es ep) ∧ G.z dx = some od ∧ NsOb od m ∧ (∀ x, m x = none) ∧ KeysOf (strKind W.prog W.w) es ∧ Pairs (strKind W.prog W.w) es.toList kvs ∧ (kvs.map (·.1)).Nodup ∧ RepKV (G.vw W) l kvs ∧
      InstAt s.heap a (ctrObj C dx es ep) C (some od) := by
  obtain ⟨a, e, hm⟩ := p
  obtain ⟨b, ob, h1, h2, kvs, ⟨dx, od, es, ep, m, q1, q2, q3, q4, q5, q6, q7⟩, h4⟩ := r.inv.objs _ _ hs
  rw [show (G.vw W).mu = G.mu from rfl, h1] at hm
  cases hm
  subst q1
  exact ⟨a, dx, od, es, ep, kvs, m, e, h1, h2, q2, q3, q4, q5, q6, q7, h4, r.sub _ _ _ h2, rfl, rfl, r.z q2⟩
theorem R.setCtr {G : Gh} {σ : St} {s : Shared} (r : R W G σ s) {h : Hd} {C a dx : Addr} {od : Obj} {es es' : Array DictEntry} {ep ep' : Nat} {l : List (Str × AV)} {kvs} {m : Str → Option Value} {h' : Heap} {tk : Nat} (hm : G.mu h = some a) (hk : G.kn a = some (.obj h, ctrObj C dx es ep)) (hz : G.z dx = some od) (hn : NsOb od m) (he : ∀ x, m x = none)
    (hd : h'.get? a = some (ctrObj C dx es' ep')) (q5 : KeysOf (strKind W.prog W.w) es') (q6 : Pairs (strKind W.prog W.w) es'.toList kvs) (q7 : (kvs.map (·.1)).Nodup) (hs : Heap.SameBut a s.heap h') (hr : RepKV (G.vw W) l kvs) :
    ∃ G', G.Le G' ∧ R W G' { σ with st := fun k => if k = h then some (.ctr C l) else σ.st k } { s with heap := h', toks := tk } := by
  obtain ⟨G', l', r', _⟩ := r.setObj (o := .ctr C l) (tk := tk) hm hk hd hs ⟨kvs, ⟨dx, od, es', ep', m, rfl, hz, hn, he, q5, q6, q7⟩, hr⟩
  exact ⟨G', l', r'⟩

theorem ctr_is {M : Model} {h : Heap} (X : W.K.In h) {C fM a : Addr} {ox : Obj} {od : Option Obj} (c : CtrCls W C fM) (I : InstAt h a ox C od) : Looks M h (isInstance (.ref a) (.type "dict")) true := I.type.andThen (looks_subIn X c.sd)
theorem ctr_not {M : Model} {h : Heap} (X : W.K.In h) {C fM a : Addr} {ox : Obj} {od : Option Obj} (c : CtrCls W C fM) (I : InstAt h a ox C od) : Looks M h (isInstance (.ref a) (.type "collections.OrderedDict")) false := I.type.andThen (looks_subIn X c.so)

/-- `c[k]`, with nought for what is missing -/
def ctrGet (C : Addr) (gM : List AV → List AV → M AV) : AV → AV → M AV
  | .ref h, .str x => fun σ => match σ.st h with
    | some (.ctr C' l) => if C' = C then (match getK l x with
      | some v => some (v, σ)
      | none => gM [.ref h, .str x] [] σ) else none
    | _ => none
  | _, _ => M.fail
def Op2g (W : Wd) (n : Nat) (t : Value → Value → Sem Value) (f : AV → AV → M AV) : Prop :=
  ∀ A σ σ' G s a b c ma mb, AOK n A → R W G σ s → G.fr ≠ [] → Rep W G a ma → Rep W G b mb → f a b σ = some (c, σ') → wpAny W.M A (t ma mb) (Post W (Rep W) G σ' c) (fun _ _ => False) s

theorem Op2g.ctrGet (ok : W.Ok) {C fM : Addr} {gM : List AV → List AV → M AV} (c : CtrCls W C fM) (hM : SimCall W n (.ref fM) [] gM) : Op2g W (n + 1) getItem (ctrGet C gM) := by
  intro A σ σ' G s a b v ma mb hA r hne pa pb hf
  unfold Mine.ctrGet at hf
  split at hf
  · rename_i h x
    split at hf
    · rename_i C' l hs
      split at hf
      · rename_i hC
        subst hC
        obtain ⟨y, dx, od, es, ep, kvs, m, e, hm, hk, hz, hn, he, q5, q6, q7, hr, I⟩ := r.ctr hs pa
        obtain ⟨t, rfl⟩ := pb
        subst e
        have X := r.kin ok
        unfold getItem sequenceKey
        refine wpAny_holding (wpAny_bind (wpAny_bind (I.type.here ?_)))
        refine wpAny_bind ((anyM_none X c.ns).here ?_)
        rw [if_pos (show (!false) = true from rfl)]
        refine wpAny_pure (wpAny_bind ?_)
        unfold callSpecial? specialOf
        refine wpAny_bind (wpAny_bind (I.type.here ((looks_findIn X c.gi).here ?_)))
        dsimp only
        rw [slot_dict_getitem.bind]
        refine wpAny_holding (wpAny_bind (wpAny_pure (wpAny_bind ?_)))
        have hI := ctr_is (M := W.M) X c I
        refine wpAny_call ?_
        dsimp only [List.cons_append, List.nil_append]
        refine codeAny_call_builtin plain_gi PySem.F.entry_dict_getitem ?_
        refine @check_any (model W.prog W.w) _ _ s "dict.__getitem__" "dict" "__getitem__" (.ref y) [.str x t] [] _ kind_gi split_gi hI (PySem.F.args_dict_getitem_2 _ _) ?_
        have hkey : (strKind W.prog W.w).is x (.str x t) = true := strKind_is _ _ _ _
        show wpAny _ _ (dictGet y (.str x t) >>= _) _ _ _
        refine wpAny_bind (ctr_get hkey I.at_ q5 q6 ?_)
        split at hf
        · rename_i v' hg
          cases hf
          obtain ⟨mv, f1, f2⟩ := hr.get hg
          rw [f1]
          exact wpAny_pure (wpAny_pure (wpAny_pure ⟨G, .refl _, r.tok, f2⟩))
        · rename_i hg
          rw [hr.getNone hg]
          show wpAny _ _ (Builtin.Dict.missed y (.str x t) >>= _) _ _ _
          refine wpAny_bind (wpAny_missed_other (notSys r ok hk Tag.noConfusion) ?_)
          have I1 : InstAt ({ s with toks := s.toks + 1 } : Shared).heap y (ctrObj C' dx es ep) C' (some od) := I
          dsimp only
          refine wpAny_bind (I1.type.here ?_)
          rw [if_pos (by rfl)]
          refine wpAny_bind (special_fn (s := { s with toks := s.toks + 1 }) X I1 c.ms c.mf ?_)
          refine wpAny_mono (CP.call (hM _ _ _ G _ [.ref h, .str x] [] [.ref y, .str x t] [] v hA.in1 r.tok hne ⟨_, _, rfl, pa, _, _, rfl, ⟨_, rfl⟩, rfl⟩ (by exact rfl) hf)) (fun u s2 q => ?_) fun _ _ e => e.elim
          exact wpAny_bind (wpAny_rule (wpAny_pure (wpAny_pure (wpAny_pure q))))
      · cases hf
    · cases hf
  · cases hf

/-- `c[k] = v` -/
def ctrSet (C : Addr) : AV → AV → AV → M Unit
  | .ref h, .str x, v => fun σ => match σ.st h with
    | some (.ctr C' l) => if C' = C ∧ l.length ≤ 1000 then some ((), { σ with st := fun k => if k = h then some (.ctr C' (setK l x v)) else σ.st k }) else none
    | _ => none
  | _, _, _ => M.fail
theorem OpSet.ctr (ok : W.Ok) {C fM : Addr} (c : CtrCls W C fM) : OpSet W n (ctrSet C) := by
  intro A σ σ' G s a b v ma mb mv hA r hne pa pb pv hf
  unfold ctrSet at hf
  split at hf
  · rename_i h x
    split at hf
    · rename_i C' l hs
      split at hf
      · rename_i hC
        obtain ⟨hC, hl⟩ := hC
        subst hC
        cases hf
        obtain ⟨y, dx, od, es, ep, kvs, m, e, hm, hk, hz, hn, he, q5, q6, q7, hr, I⟩ := r.ctr hs pa
        obtain ⟨t, rfl⟩ := pb
        subst e
        have X := r.kin ok
        have hlen := hr.length
        unfold setItem sequenceKey
        refine wpAny_holding (wpAny_bind (wpAny_bind (I.type.here ?_)))
        refine wpAny_bind ((anyM_none X c.ns).here ?_)
        rw [if_pos (show (!false) = true from rfl)]
        refine wpAny_pure (wpAny_bind ?_)
        unfold callSpecial? specialOf
        refine wpAny_bind (wpAny_bind (I.type.here ((looks_findIn X c.si).here ?_)))
        dsimp only
        rw [slot_dict_setitem.bind]
        refine wpAny_holding (wpAny_bind (wpAny_pure (wpAny_bind ?_)))
        have hI := ctr_is (M := W.M) X c I
        have hN := ctr_not (M := W.M) X c I
        refine wpAny_call ?_
        dsimp only [List.cons_append, List.nil_append]
        refine codeAny_call_builtin plain_si PySem.F.entry_dict_setitem ?_
        refine @check_any (model W.prog W.w) _ _ s "dict.__setitem__" "dict" "__setitem__" (.ref y) [.str x t, mv] [] _ kind_si split_si hI (PySem.F.args_dict_setitem_3 _ _ _) ?_
        have hkey : (strKind W.prog W.w).is x (.str x t) = true := strKind_is _ _ _ _
        show wpAny _ _ (Builtin.Dict.notOrdered "__setitem__" ⟨[.ref y, .str x t, mv], []⟩ >>= _) _ _ _
        refine wpAny_bind ?_
        unfold Builtin.Dict.notOrdered
        rw [if_pos (by decide)]
        dsimp only [List.headD]
        refine wpAny_bind (I.type.here ?_)
        rw [if_pos (by rfl)]
        refine wpAny_bind (hN.here ?_)
        rw [if_neg (by decide)]
        refine wpAny_pure ?_
        show wpAny _ _ (dictSet y (.str x t) mv >>= _) _ _ _
        refine wpAny_bind (ctr_set hkey I.at_ q5 q6 q7 (by omega) fun h' es' ep' g1 g2 g3 g4 g5 => ?_)
        obtain ⟨G', l', r'⟩ := r.setCtr (l := setK l x v) (tk := s.toks + 1) hm hk hz hn he g1 g2 g3 g4 g5 (hr.set pv _)
        exact wpAny_pure (wpAny_pure (wpAny_pure ⟨G', l', r', trivial⟩))
      · cases hf
    · cases hf
  · cases hf

/-- `c.pop(k)` and `c.pop(k, d)` -/
def preCtr (C : Addr) (a : AV) : M AV := fun σ => match a with
  | .ref h => (match σ.st h with
    | some (.ctr C' _) => if C' = C then some (a, σ) else none
    | _ => none)
  | _ => none
def ctrPop (C : Addr) : AV → List AV → M AV
  | .ref h, .str x :: rest => fun σ => match σ.st h with
    | some (.ctr C' l) => if C' = C ∧ l.length ≤ 1000 then (match getK l x, rest with
      | some v, [] => some (v, { σ with st := fun k => if k = h then some (.ctr C' (delK l x)) else σ.st k })
      | some v, [_] => some (v, { σ with st := fun k => if k = h then some (.ctr C' (delK l x)) else σ.st k })
      | none, [d] => some (d, σ)
      | _, _ => none) else none
    | _ => none
  | _, _ => M.fail
theorem ctr_pop {C fM : Addr} (ok : W.Ok) (c : CtrCls W C fM) : SimBM W (n + 1) "dict.pop" (ctrPop C) := by
  intro A σ σ' G s a args ma ms v hA r hne p p2 hf
  unfold ctrPop at hf
  split at hf
  · rename_i h x rest
    split at hf
    · rename_i C' l hs
      split at hf
      · rename_i hC
        obtain ⟨hC, hl⟩ := hC
        subst hC
        obtain ⟨y, dx, od, es, ep, kvs, m, e, hm, hk, hz, hn, he, q5, q6, q7, hr, I⟩ := r.ctr hs p
        subst e
        obtain ⟨mx, mr, e, ⟨t, q⟩, q2⟩ := p2
        subst e q
        have X := r.kin ok
        have hlen := hr.length
        have hI := ctr_is (M := W.M) X c I
        have hN := ctr_not (M := W.M) X c I
        have hkey : (strKind W.prog W.w).is x (.str x t) = true := strKind_is _ _ _ _
        have hord : ∀ (args : List Value) (A : Around) (E : Value → Shared → Prop) (Q : Unit → Shared → Prop), Q () s → wpAny W.M A (Builtin.Dict.notOrdered "pop" ⟨.ref y :: args, []⟩) Q E s := by
          intro args A E Q hQ
          unfold Builtin.Dict.notOrdered
          rw [if_pos (by decide)]
          dsimp only [List.headD]
          refine wpAny_bind (I.type.here ?_)
          rw [if_pos (by rfl)]
          refine wpAny_bind (hN.here ?_)
          rw [if_neg (by decide)]
          exact wpAny_pure hQ
        have hms := notSys r ok hk Tag.noConfusion
        refine wpAny_call ?_
        cases rest with
        | nil =>
          cases q2
          refine codeAny_call_builtin plain_pp PySem.F.entry_dict_pop ?_
          refine @check_any (model W.prog W.w) _ _ s "dict.pop" "dict" "pop" (.ref y) [.str x t] [] _ kind_pp split_pp hI (PySem.F.args_dict_pop_2 _ _) ?_
          unfold Builtin.«dict.pop» Builtin.Dict.keyAndDefault
          refine wpAny_bind (wpAny_bind (hord _ _ _ _ ?_))
          show wpAny _ _ (pure (y, Value.str x t, (Option.none : Option Value))) _ _ s
          refine wpAny_pure ?_
          dsimp only
          rw [if_pos (by rfl)]
          refine wpAny_bind (wpAny_pure ?_)
          rw [if_neg (by decide)]
          refine wpAny_bind (ctr_takeOut hkey I.at_ q5 q6 q7 (by omega) (fun hnone => ?_) fun en hv h' es' ep' g1 g2 g3 g4 g5 => ?_)
          · split at hf
            · rename_i v' hg _
              obtain ⟨mv, f1, f2⟩ := hr.get hg
              rw [f1] at hnone; cases hnone
            · rename_i e1; cases e1
            · rename_i e1; cases e1
            · cases hf
          · split at hf
            · rename_i v' hg _
              cases hf
              obtain ⟨mv, f1, f2⟩ := hr.get hg
              rw [f1] at hv
              cases hv
              obtain ⟨G', l', r'⟩ := r.setCtr (l := delK l x) (tk := s.toks + 1) hm hk hz hn he g1 g2 g3 g4 g5 (hr.del _)
              rw [if_neg (by simp)]
              exact wpAny_bind (wpAny_letGo (wpAny_pure ⟨G', l', r', Rep.le f2 l'⟩))
            · rename_i e1; cases e1
            · rename_i e1; cases e1
            · cases hf
        | cons d rest' =>
          cases rest' with
          | cons => split at hf <;> first | (rename_i e1; cases e1; done) | cases hf
          | nil =>
          obtain ⟨md, e, q3⟩ := Reps.one q2
          subst e
          refine codeAny_call_builtin plain_pp PySem.F.entry_dict_pop ?_
          refine @check_any (model W.prog W.w) _ _ s "dict.pop" "dict" "pop" (.ref y) [.str x t, md] [] _ kind_pp split_pp hI (PySem.F.args_dict_pop_3 _ _ _) ?_
          unfold Builtin.«dict.pop» Builtin.Dict.keyAndDefault
          refine wpAny_bind (wpAny_bind (hord _ _ _ _ ?_))
          show wpAny _ _ (pure (y, Value.str x t, some md)) _ _ s
          refine wpAny_pure ?_
          dsimp only
          rw [if_pos (by rfl)]
          refine wpAny_bind (wpAny_pure ?_)
          rw [if_neg (by decide)]
          refine wpAny_bind (ctr_takeOut hkey I.at_ q5 q6 q7 (by omega) (fun hnone => ?_) fun en hv h' es' ep' g1 g2 g3 g4 g5 => ?_)
          · split at hf
            · rename_i e1; cases e1
            · rename_i v' d' hg hq
              cases hq
              obtain ⟨mv, f1, f2⟩ := hr.get hg
              rw [f1] at hnone; cases hnone
            · rename_i d' hg hq
              cases hq
              cases hf
              rw [if_pos (by rfl)]
              refine wpAny_bind (wpAny_missedRemoval_other hms ?_)
              exact wpAny_bind (wpAny_rule (wpAny_pure ⟨G, .refl _, r.tok, q3⟩))
            · cases hf
          · split at hf
            · rename_i e1; cases e1
            · rename_i v' d' hg hq
              cases hq
              cases hf
              obtain ⟨mv, f1, f2⟩ := hr.get hg
              rw [f1] at hv
              cases hv
              obtain ⟨G', l', r'⟩ := r.setCtr (l := delK l x) (tk := s.toks + 1) hm hk hz hn he g1 g2 g3 g4 g5 (hr.del _)
              rw [if_neg (by simp)]
              exact wpAny_bind (wpAny_letGo (wpAny_pure ⟨G', l', r', Rep.le f2 l'⟩))
            · rename_i d' hg hq
              cases hq
              rw [hr.getNone hg] at hv; cases hv
            · cases hf
      · cases hf
    · cases hf
  · cases hf
end
end Mine
end

section
open PySem PySem.W PySem.Calls PyProof.Rows
set_option Elab.async false
set_option maxRecDepth 20000
set_option linter.unusedSectionVars false
set_option linter.unusedVariables false
namespace Mine

theorem entry_dict_new' : entryFor table "dict.__new__" = some Builtin.«dict.__new__» := entryFor_of_tree (by kernel_rfl)

theorem plain_dict_new : plainId "dict.__new__" = true := by decide +kernel

structure CtrMk (K : Frag) (C fI : Addr) : Prop where
  obj : ∃ o, K.lookup C = some o ∧ ∃ cd, o.data = .cls cd ∧ cd.hasDel = false ∧ cd.mro.isEmpty = false
  call : ∀ M h, K.In h → Looks M h (specialOf (.ref C) "__call__") (some (.builtin "type.__call__"))
  typ : ∀ M h, K.In h → Looks M h (isInstance (.ref C) (.type "type")) true
  made : ∀ M h, K.In h → Looks M h (Bind.madeBy (.ref C)) (some "dict.__new__")
  chk : ∀ M h, K.In h → Looks M h (checkBuiltinCall "dict.__new__" ⟨[.ref C], []⟩) ()
  isty : ∀ M h, K.In h → Looks M h (isType (.ref C)) true
  sd : ∀ M h, K.In h → Looks M h (isSubtype (.ref C) (.type "dict")) true
  mro : ∃ l, (∀ M h, K.In h → Looks M h (mroOf (.ref C)) l) ∧ l.isEmpty = false ∧ (l.any fun | .type n => !["dict", "object", "collections.defaultdict", "collections.OrderedDict"].contains n | _ => false) = false
  self : ∀ M h, K.In h → Looks M h (isSubtype (.ref C) (.ref C)) true
  init : ∀ M h, K.In h → Looks M h (typeLookup (.ref C) "__init__") (some (.ref fI))
  fn : typeIn K (.ref fI) = some (.type "function")

theorem ctr_make {prog : Program} {w : World} {A : Around} {K : Frag} {C fI : Addr} {h : Heap} {g : Array GenState} {d : Drawn} {t : Nat} {os : OsState} {R : Result → Shared → Prop} (X : K.In h) (c : CtrMk K C fI)
    (hq : codeAny (model prog w) (A.under (.builtin "type.__call__" ⟨[.ref C], []⟩)) (.call (.ref fI) ⟨[.ref (h.objs.size + 1)], []⟩) (InitBack (h.objs.size + 1) R) ⟨(h.push emptyDict).push (ctrObj C h.objs.size #[] 0), g, d, t, os⟩) :
    codeAny (model prog w) A (.call (.ref C) ⟨[], []⟩) R ⟨h, g, d, t, os⟩ := by
  obtain ⟨o, ho, cd, hdat, hdel, hemp⟩ := c.obj
  obtain ⟨l, hm, hl0, hl1⟩ := c.mro
  have hC := X _ _ ho
  have call := c.call (model prog w) h X
  have typ := c.typ (model prog w) h X
  have made := c.made (model prog w) h X
  have hm := hm (model prog w) h X
  refine codeAny_of_tree ?_
  show wpAny _ _ (callAny (.ref C) _) _ _ _
  obtain ⟨oc, od, oda, osl⟩ := o
  dsimp only at hdat
  subst hdat
  refine nd_load hC ?_
  show wpAny _ _ (callAny.viaDunder (.ref C) _) _ _ _
  unfold callAny.viaDunder
  refine wpAny_bind (call.at ?_)
  dsimp only
  rw [tc_bind]
  refine wpAny_bind (wpAny_pure (wpAny_bind (wpAny_pure ?_)))
  refine wpAny_pure (a := Fin.again (.call (.builtin "type.__call__") ⟨[.ref C], []⟩)) (And.intro rfl ?_)
  refine codeAny_call_builtin_at (Code.quiet_builtin _ (by decide +kernel)) entry_typeCall (check_slot tc_kind tc_split typ (tc_args _ _ _) ?_)
  unfold Builtin.«type.__call__»
  dsimp only
  rw [if_neg (show ¬ ((Value.ref C == Value.type "type") = true) from Bool.false_ne_true)]
  refine wpAny_bind (hm.at ?_)
  rw [if_neg (by rw [hl0]; decide)]
  refine wpAny_bind (made.at ?_)
  dsimp only
  refine wpAny_bind (wpAny_pure ?_)
  refine wpAny_bind (wpAny_holding (wpAny_call ?_))
  refine codeAny_call_builtin plain_dict_new entry_dict_new' ((c.chk (model prog w) h X).at ?_)
  unfold Builtin.«dict.__new__»
  dsimp only
  refine wpAny_bind ((c.isty (model prog w) h X).at ?_)
  rw [if_neg (by decide)]
  refine wpAny_bind ((c.sd (model prog w) h X).at ?_)
  rw [if_neg (by decide)]
  refine wpAny_bind (hm.at ?_)
  refine wpAny_ite_split (fun e => absurd (hl1.symm.trans e) Bool.false_ne_true) (fun _ => ?_)
  refine wpAny_bind (wpAny_alloc ?_)
  refine wpAny_bind ?_
  show wpAny _ _ (newObjAsIs _ _ _) _ _ _
  unfold newObjAsIs classHasDel
  refine wpAny_bind (wpAny_alloc (wpAny_bind (wpAny_bind (wpAny_load (Heap.get?_push_of_some _ (Heap.get?_push_of_some _ hC)) (wpAny_pure ?_)))))
  rw [hdel]
  refine wpAny_pure (wpAny_pure ?_)
  have hs : (h.push emptyDict).objs.size = h.objs.size + 1 := Heap.size_push ..
  have k : ∀ b o, h.get? b = some o → ((h.push emptyDict).push (ctrObj C h.objs.size #[] 0)).get? b = some o := fun b o e => Heap.get?_push_of_some _ (Heap.get?_push_of_some _ e)
  have hx : ((h.push emptyDict).push (ctrObj C h.objs.size #[] 0)).get? (h.objs.size + 1) = some (ctrObj C h.objs.size #[] 0) := by
    rw [← hs]; exact Heap.get?_push_size _ rfl
  have t1 : Looks (model prog w) ((h.push emptyDict).push (ctrObj C h.objs.size #[] 0)) (typeOf (.ref (h.objs.size + 1))) (.ref C) := (Looks.ld hx).andThen .now
  have s1 := (c.self (model prog w) h X).keeps k
  have i1 := (c.init (model prog w) h X).keeps k
  have b1 := (bind_fn (M := model prog w) X (.ref (h.objs.size + 1)) c.fn).keeps k
  dsimp only
  rw [hs]
  show wpAny (model prog w) (A.under (.builtin "type.__call__" ⟨[.ref C], []⟩)) _ _ _ ⟨(h.push emptyDict).push (ctrObj C h.objs.size #[] 0), g, d, t, os⟩
  unfold isInstance
  refine wpAny_bind (wpAny_bind (t1.at (s1.at ?_)))
  rw [if_neg (by decide)]
  refine wpAny_bind (wpAny_holding ?_)
  unfold callSpecial? specialOf
  refine wpAny_bind (wpAny_bind (t1.at (i1.at ?_)))
  dsimp only
  refine wpAny_holding (wpAny_bind (b1.at ?_))
  refine wpAny_bind (wpAny_call ?_)
  refine codeAny_mono hq fun r s' z => ?_
  rcases r with e | (v | _ | _ | _) <;> first | exact z | exact z.elim | skip
  obtain ⟨rfl, z⟩ := z
  exact wpAny_pure (wpAny_pure z)
end Mine
end

section
open PySem PySem.W PySem.Calls PyProof.Rows
set_option Elab.async false
set_option maxRecDepth 20000
namespace Mine
theorem look_wd_get : typeLookup (.type "wrapper_descriptor") "__get__" = pure (some (.builtin "wrapper_descriptor.__get__")) := by rw [typeLookup_type, builtinLookup_eq_fast]; kernel_rfl
theorem entry_wd_get : entryFor table "wrapper_descriptor.__get__" = some Builtin.«wrapper_descriptor.__get__» := entryFor_of_tree (by kernel_rfl)
theorem args_wd_get (a b c : Value) : argsOk "wrapper_descriptor.__get__" ⟨[a, b, c], []⟩ := by unfold argsOk; kernel_rfl
theorem ty_dictInit : typeOf (.builtin "dict.__init__") = pure (.type "wrapper_descriptor") := by
  have hop : withoutEnding? "dict.__init__" "#opaque" = none := by decide +kernel
  have hdat : withoutEnding? "dict.__init__" "#data" = none := by decide +kernel
  have hk : builtinKind "dict.__init__" = some .slot := by decide +kernel
  simp only [typeOf, builtinType, hop, hdat, hk]; rfl

abbrev wrapObj (x : Addr) : Obj := { cls := .type "method-wrapper", data := .fields #[.builtin "dict.__init__", .ref x] }

theorem plain_wd_get : plainId "wrapper_descriptor.__get__" = true := by decide +kernel


theorem sub_wd : isSubtype (.type "wrapper_descriptor") (.type "wrapper_descriptor") = pure true := by rw [isSubtype_type]; kernel_rfl
theorem inst_wd (M : Model) (h : Heap) : Looks M h (isInstance (.builtin "dict.__init__") (.type "wrapper_descriptor")) true := by
  intro A Q E s k q
  unfold isInstance
  rw [ty_dictInit, pure_bind, sub_wd]
  exact wpAny_pure q
theorem wd_get {prog : Program} {w : World} {A : Around} {h : Heap} {g : Array GenState} {d : Drawn} {t : Nat} {os : OsState} {x C : Addr} {R : Result → Shared → Prop}
    (hinst : Looks (model prog w) h (isInstance (.ref x) (.type "dict")) true)
    (hq : R (.ok (.ret (.ref h.objs.size))) ⟨h.push (wrapObj x), g, d, t, os⟩) :
    codeAny (model prog w) A (.call (.builtin "wrapper_descriptor.__get__") ⟨[.builtin "dict.__init__", .ref x, .ref C], []⟩) R ⟨h, g, d, t, os⟩ := by
  have hk : builtinKind "wrapper_descriptor.__get__" = some .slot := by decide +kernel
  have hs : splitId "wrapper_descriptor.__get__" = some ("wrapper_descriptor", "__get__") := by decide +kernel
  have hi := inst_wd (model prog w) h
  refine codeAny_call_builtin plain_wd_get entry_wd_get ?_
  have ha := args_wd_get (.builtin "dict.__init__") (.ref x) (.ref C)
  refine @check_slot (model prog w) _ _ ⟨h, g, d, t, os⟩ _ _ _ _ _ _ _ hk hs hi ha ?_
  unfold Builtin.«wrapper_descriptor.__get__»
  k_delta "getArgs"
  refine wpAny_bind (wpAny_of_eq (a := (Value.builtin "dict.__init__", some (Value.ref x), some (Value.ref C))) rfl ?_)
  dsimp only
  k_delta "bindBuiltin"
  dsimp only
  k_delta "checkInstance"
  refine wpAny_bind (wpAny_bind ?_)
  refine wpAny_of_eq (a := (("__init__" : Str), Value.type "dict")) (by kernel_rfl) ?_
  dsimp only
  refine wpAny_bind (hinst.at ?_)
  rw [if_neg (by decide)]
  refine wpAny_pure (wpAny_bind ?_)
  unfold newFields
  repeat wp_step
  all_goals exact hq

theorem sb_ga {prog : Program} {w : World} {A : Around} {E : Value → Shared → Prop} {h : Heap} {g : Array GenState} {d : Drawn} {t : Nat} {os : OsState} {so D x C : Addr} {l₀ l : List Value} {K : Frag} {tk : Tok} {Q : Fin → Shared → Prop}
    (hso : h.get? so = some { cls := .type "super", dict := none, data := .fields #[.ref D, .ref x, .ref C], slots := #[] }) (hno : Looks (model prog w) h (opaqueClassAbove (.ref C)) none)
    (hC : Looks (model prog w) h (mroOf (.ref C)) l₀) (hl : (l₀.dropWhile (· != .ref D)).drop 1 = l) (X : K.In h)
    (hf : alongIn K "__init__" l = some (some (.builtin "dict.__init__"))) (hxC : x ≠ C) (hinst : Looks (model prog w) h (isInstance (.ref x) (.type "dict")) true)
    (hq : Q (.done (.ret (.ref h.objs.size))) ⟨h.push (wrapObj x), g, d, t, os⟩) :
    wpAny (model prog w) A (Builtin.«super.__getattribute__» ⟨[.ref so, .str "__init__" tk], []⟩) Q E ⟨h, g, d, t, os⟩ := by
  have hlk := look_wd_get
  have hne : (Value.ref x == Value.ref C) = false := by simp [hxC]
  have hn : (("__init__" : Str) == ("__class__" : Str)) = false := by decide +kernel
  have hdt : ({ cls := .type "super", dict := none, data := .fields #[.ref D, .ref x, .ref C], slots := #[] } : Obj).data = .fields #[.ref D, .ref x, .ref C] := rfl
  have f0 : (#[.ref D, .ref x, .ref C] : Array Value)[0]? = some (.ref D) := rfl
  have f1 : (#[.ref D, .ref x, .ref C] : Array Value)[1]? = some (.ref x) := rfl
  have f2 : (#[.ref D, .ref x, .ref C] : Array Value)[2]? = some (.ref C) := rfl
  unfold Builtin.«super.__getattribute__»
  repeat (first
    | (with_reducible refine wpAny_field hso hdt f0 ?_) | (with_reducible refine wpAny_field hso hdt f1 ?_) | (with_reducible refine wpAny_field hso hdt f2 ?_)
    | (with_reducible refine ks_wpAny_notOpaque hno ?_)
    | (with_reducible refine Looks.at hC ?_; rw [hl])
    | (refine ks_forIn_along X (fun _ _ => rfl) rfl ?_ hf)
    | (rw [ty_dictInit])
    | (with_reducible refine wpAny_of_eq hlk ?_)
    | (simp only [hn, hne, Bool.or_false, Bool.false_eq_true, if_false])
    | wp_step
    | dsimp only)
  refine wd_get hinst ?_
  exact wpAny_bind (wpAny_pure (wpAny_pure (wpAny_pure hq)))

theorem sb_gm {prog : Program} {w : World} {A : Around} {E : Value → Shared → Prop} {h : Heap} {g : Array GenState} {d : Drawn} {t : Nat} {os : OsState} {so D x C : Addr} {l₀ l : List Value} {K : Frag} {pl : Sem Bool} {Q : Value × List Value → Shared → Prop}
    (hso : h.get? so = some { cls := .type "super", dict := none, data := .fields #[.ref D, .ref x, .ref C], slots := #[] }) (hno : Looks (model prog w) h (opaqueClassAbove (.ref C)) none)
    (hC : Looks (model prog w) h (mroOf (.ref C)) l₀) (hl : (l₀.dropWhile (· != .ref D)).drop 1 = l) (X : K.In h)
    (hf : alongIn K "__init__" l = some (some (.builtin "dict.__init__"))) (hxC : x ≠ C) (hinst : Looks (model prog w) h (isInstance (.ref x) (.type "dict")) true)
    (hq : Q (.ref h.objs.size, []) ⟨h.push (wrapObj x), g, d, t + 1, os⟩) :
    wpAny (model prog w) A (getMethod (.ref so) "__init__" pl) Q E ⟨h, g, d, t, os⟩ := by
  have hlk := F.ks_slot_super_ga.lookup
  have hcan := F.ks_canon_super_ga
  have hT : ∀ t', (⟨h, g, d, t', os⟩ : Shared).TypeIs (.ref so) "super" := fun _ => ⟨_, hso, rfl⟩
  unfold getMethod
  refine wpAny_bind (wpAny_specialOf (hT _) hlk ?_)
  show wpAny _ _ (if (Manifest.canonical "super.__getattribute__" != "object.__getattribute__") = true then _ else _) _ _ _
  rw [if_pos hcan]
  unfold getAttr getAttrBy
  refine wpAny_bind (wpAny_bind (wpAny_mkText (wpAny_holding (wpAny_bind (wpAny_typeOf (hT _) (wpAny_bind (wpAny_of_eq hlk ?_)))))))
  show wpAny _ _ (getAttrByItsOwn (.ref so) (.str "__init__" t) (.type "super") (.builtin "super.__getattribute__") true false) _ _ _
  unfold getAttrByItsOwn hookBefore callGetattribute boundAndCalled
  refine wpAny_bind (wpAny_of_eq (show (if onTheHeap (.type "super") then typeLookup (.type "super") "__getattr__" else pure none) = pure none from rfl) ?_)
  refine wpAny_bind (wpAny_attempt (wpAny_holding ?_))
  show wpAny _ _ (bindSpecial (.builtin "super.__getattribute__") (.ref so) >>= _) _ _ _
  refine wpAny_bind (wpAny_of_eq (F.ks_slot_super_ga.bind _) ?_)
  refine wpAny_mono (Q := fun v s' => v = .ref h.objs.size ∧ s' = ⟨h.push (wrapObj x), g, d, t + 1, os⟩) (E := fun _ _ => False)
    (wpAny_call_entry F.ks_slot_super_ga (hT _) F.ks_entry_super_ga (sb_ga hso hno hC hl X hf hxC hinst ⟨_, rfl, rfl, rfl⟩) (F.ks_gaArgs_super _ _)) (fun v s' hv => ?_) fun _ _ z => z.elim
  obtain ⟨rfl, rfl⟩ := hv
  exact wpAny_pure (wpAny_pure hq)

end Mine
end

section
open PySem PySem.W PySem.Calls PyProof.Rows
set_option Elab.async false
set_option maxRecDepth 20000
namespace Mine
theorem entry_dict_init : entryFor table "dict.__init__" = some Builtin.«dict.__init__» := entryFor_of_tree (by kernel_rfl)
theorem plain_dict_init : plainId "dict.__init__" = true := by decide +kernel
theorem args_dict_init (a : Value) : argsOk "dict.__init__" ⟨[a], []⟩ := by unfold argsOk; kernel_rfl
theorem kind_dict_init : builtinKind "dict.__init__" = some .slot := by decide +kernel

/-- the wrapper of dict.__init__ is called without arguments -/
theorem wrap_call {prog : Program} {w : World} {A : Around} {h : Heap} {g : Array GenState} {d : Drawn} {t : Nat} {os : OsState} {b x C : Addr} {R : Result → Shared → Prop} {ox : Obj} {od : Option Obj}
    (hb : h.get? b = some (wrapObj x)) (I : InstAt h x ox C od) (hN : Looks (model prog w) h (isInstance (.ref x) (.type "collections.OrderedDict")) false)
    (hq : R (.ok (.ret .none)) ⟨h, g, d, t, os⟩) :
    codeAny (model prog w) A (.call (.ref b) ⟨[], []⟩) R ⟨h, g, d, t, os⟩ := by
  refine codeAny_of_tree ?_
  show wpAny _ A.in1 (callAny (.ref b) ⟨[], []⟩) _ _ _
  unfold callAny
  refine wpAny_bind (wpAny_load hb ?_)
  dsimp only
  rw [if_pos (by decide)]
  show wpAny (model prog w) _ (checkBoundCall "dict.__init__" ⟨[.ref x], []⟩ >>= _) _ _ _
  refine wpAny_bind ?_
  have hc : checkBoundCall "dict.__init__" ⟨[.ref x], []⟩ = pure () := by
    have ha := args_dict_init (.ref x)
    unfold argsOk at ha
    unfold checkBoundCall
    split at ha
    · rename_i sig hs
      simp only [hs, kind_dict_init]
      rw [if_pos (by decide)]
      exact ha
    · rename_i hs
      simp only [hs]
  refine wpAny_of_eq hc ?_
  refine wpAny_bind (wpAny_pure (wpAny_pure ⟨Code.quiet_builtin _ (by decide +kernel), ?_⟩))
  show codeAny (model prog w) A (.builtin "dict.__init__" ⟨[.ref x], []⟩) _ _
  refine codeAny_builtin entry_dict_init ?_
  unfold Builtin.«dict.__init__» Builtin.Dict.selfAndRest
  refine wpAny_bind (wpAny_bind ?_)
  unfold Builtin.Dict.notOrdered
  rw [if_pos (by decide)]
  dsimp only [List.headD]
  refine wpAny_bind (I.type.here ?_)
  rw [if_pos (by rfl)]
  refine wpAny_bind (hN.here ?_)
  rw [if_neg (by decide)]
  refine wpAny_pure ?_
  refine wpAny_bind (wpAny_pure (wpAny_pure ?_))
  unfold Builtin.Dict.updateCommon Builtin.Dict.addKeywords
  dsimp only
  exact wpAny_bind (wpAny_pure (wpAny_pure hq))
end Mine
end

section
open PySem PySem.W PySem.Calls PyProof.Rows
set_option Elab.async false
set_option maxRecDepth 20000
namespace Mine

theorem look_dict_iter : typeLookup (.type "dict") "__iter__" = pure (some (.builtin "dict.__iter__")) := by rw [typeLookup_type, builtinLookup_eq_fast]; kernel_rfl
theorem mmEmpty {M : Model} {A : Around} {h : Heap} {g : Array GenState} {d : Drawn} {t : Nat} {os : OsState} {dd a : Addr} {Q : Unit → Shared → Prop} {E : Value → Shared → Prop}
    (hd : h.get? dd = some emptyDict) (ha : h.get? a = some emptyDict) (hs : a ≠ sysModules) (hq : Q () ⟨h, g, d, t, os⟩) : wpAny M A (mergeMapping dd (.ref a) true) Q E ⟨h, g, d, t, os⟩ := by
  have hT : (⟨h, g, d, t, os⟩ : Shared).TypeIs (.ref a) "dict" := ⟨_, ha, rfl⟩
  have hsub : isSubtype (.type "dict") (.type "dict") = pure true := by rw [isSubtype_type]; kernel_rfl
  have hne : (a == sysModules) = false := by simpa using hs
  unfold mergeMapping
  refine wpAny_bind (wpAny_bind ?_)
  refine wpAny_typeOf hT ?_
  refine wpAny_of_eq hsub ?_
  dsimp only
  rw [if_pos rfl]
  refine wpAny_bind (wpAny_specialOf hT look_dict_iter ?_)
  refine wpAny_bind (wpAny_pure ?_)
  rw [show ((some (Value.builtin "dict.__iter__") == some (Value.builtin "dict.__iter__")) = true) from by decide]
  dsimp only
  rw [if_neg (by rw [hne]; decide)]
  refine wpAny_bind (wpAny_dictEntries hd rfl ?_)
  rw [if_pos (by rfl)]
  refine wpAny_bind (wpAny_dictEntries ha rfl ?_)
  refine wpAny_bind ?_
  rw [← Array.forIn_toList]
  dsimp only
  rw [List.forIn_nil]
  refine wpAny_pure ?_
  refine wpAny_bind (wpAny_dictEntries ha rfl ?_)
  refine wpAny_bind (wpAny_dictEpoch ha rfl ?_)
  rw [show List.range (#[] : Array DictEntry).size = [] from rfl, List.forIn_nil]
  exact wpAny_bind (wpAny_pure (wpAny_pure hq))

theorem mergeEmpty {prog : Program} {w : World} {A : Around} {h : Heap} {g : Array GenState} {d : Drawn} {t : Nat} {os : OsState} {f : Value} {a : Addr} {x : Sem Value} {Q : Args → Shared → Prop}  {E : Value → Shared → Prop}
    (ha : h.get? a = some emptyDict) (hs : a ≠ sysModules)
    (hx : ∀ (A' : Around) (E' : Value → Shared → Prop) Q' h' t', (∀ b o, h.get? b = some o → h'.get? b = some o) → Q' (.ref a) ⟨h', g, d, t', os⟩ → wpAny (model prog w) A' x Q' E' ⟨h', g, d, t', os⟩)
    (hq : ∀ h' t', (∀ b o, h.get? b = some o → h'.get? b = some o) → Q ⟨[], []⟩ ⟨h', g, d, t', os⟩) :
    wpAny (model prog w) A (mergedKeywords f [(none, x)] >>= fun dd => keywordsIn f dd >>= fun kw => pure ⟨[], kw⟩) Q E ⟨h, g, d, t, os⟩ := by
  have hsz : (h.push emptyDict).get? h.objs.size = some emptyDict := Heap.get?_push_size _ rfl
  have ha' : (h.push emptyDict).get? a = some emptyDict := Heap.get?_push_of_some _ ha
  have hT : ∀ t', (⟨h.push emptyDict, g, d, t', os⟩ : Shared).TypeIs (.ref a) "dict" := fun _ => ⟨_, ha', rfl⟩
  unfold mergedKeywords
  refine wpAny_bind (wpAny_bind (wpAny_alloc (wpAny_bind (wpAny_holding ?_))))
  dsimp only
  rw [List.forIn_cons]
  dsimp only
  rw [if_pos (by rfl)]
  refine wpAny_bind (wpAny_bind (wpAny_bind (wpAny_pure ?_)))
  refine wpAny_bind (hx _ _ _ _ _ (fun b o e => Heap.get?_push_of_some _ e) ?_)
  refine wpAny_bind (wpAny_onRaise ?_)
  refine wpAny_holding (wpAny_tryCatch (wpAny_onRaise (mmEmpty hsz ha' hs ?_)))
  refine wpAny_pure ?_
  dsimp only
  rw [List.forIn_nil]
  refine wpAny_pure ?_
  rw [if_pos (by rfl)]
  refine wpAny_pure (wpAny_pure ?_)
  unfold keywordsIn
  refine wpAny_bind (wpAny_bind (wpAny_dictEntries hsz rfl ?_))
  rw [← Array.forIn_toList]
  dsimp only
  rw [List.forIn_nil]
  refine wpAny_bind (wpAny_pure (wpAny_pure (wpAny_pure ?_)))
  exact hq _ _ fun b o e => Heap.get?_push_of_some _ e
end Mine
end

section
open PySem PySem.W PySem.Calls PyProof.Rows
set_option Elab.async false
set_option maxRecDepth 20000
set_option linter.unusedVariables false
namespace Mine
theorem bind_kw1 {M : Model} {A : Around} {E : Value → Shared → Prop} {h : Heap} {g : Array GenState} {d : Drawn} {t : Nat} {os : OsState} {fd : FuncData} {a1 a2 kw : Arg} {ds : List Expr} {T : Addr} {o : Obj} {m : Nat} {x : Value} {Q : List (Str × Value) → Shared → Prop}
    (hp : fd.params = { posonlyargs := [a1, a2], args := [], vararg := none, kwonlyargs := [], kw_defaults := [], kwarg := some kw, defaults := ds }) (hd : fd.defaults = .ref T) (ho : h.get? T = some o) (hs : o.data = .seq #[.none] m)
    (hne : (a1.arg == a2.arg) = false)
    (hq : Q [(a1.arg, x), (a2.arg, .none), (kw.arg, .ref h.objs.size)] ⟨h.push emptyDict, g, d, t, os⟩) :
    wpAny M A (bindArgs fd ⟨[x], []⟩) Q E ⟨h, g, d, t, os⟩ := by
  unfold bindArgs
  simp only [hp, hd]
  rw [List.forIn_nil, pure_bind]
  refine wpAny_bind ?_
  unfold seqItems?
  refine wpAny_bind (wpAny_load ho ?_)
  rw [hs]
  refine wpAny_pure ?_
  have e1 : List.lookup a1.arg [(a1.arg, x)] = some x := by simp [List.lookup_cons]
  have e2 : List.lookup a2.arg [(a1.arg, x)] = none := by
    rw [List.lookup_cons]
    have : (a2.arg == a1.arg) = false := by rw [BEq.comm]; exact hne
    rw [this]; rfl
  have e3 : List.lookup a1.arg [(a1.arg, x), (a2.arg, Value.none)] = some x := by simp [List.lookup_cons]
  have e4 : List.lookup a2.arg [(a1.arg, x), (a2.arg, Value.none)] = some .none := by
    rw [List.lookup_cons]
    have : (a2.arg == a1.arg) = false := by rw [BEq.comm]; exact hne
    rw [this]; simp [List.lookup_cons]
  simp [e1, e2, e3, e4]
  rw [← bind_pure_comp]
  exact wpAny_bind (wpAny_alloc (wpAny_pure hq))
theorem bind_kw2 {M : Model} {A : Around} {E : Value → Shared → Prop} {h : Heap} {g : Array GenState} {d : Drawn} {t : Nat} {os : OsState} {fd : FuncData} {a1 a2 kw : Arg} {ds : List Expr} {T : Addr} {o : Obj} {m : Nat} {x y : Value} {Q : List (Str × Value) → Shared → Prop}
    (hp : fd.params = { posonlyargs := [a1, a2], args := [], vararg := none, kwonlyargs := [], kw_defaults := [], kwarg := some kw, defaults := ds }) (hd : fd.defaults = .ref T) (ho : h.get? T = some o) (hs : o.data = .seq #[.none] m)
    (hne : (a1.arg == a2.arg) = false)
    (hq : Q [(a1.arg, x), (a2.arg, y), (kw.arg, .ref h.objs.size)] ⟨h.push emptyDict, g, d, t, os⟩) :
    wpAny M A (bindArgs fd ⟨[x, y], []⟩) Q E ⟨h, g, d, t, os⟩ := by
  unfold bindArgs
  simp only [hp, hd]
  rw [List.forIn_nil, pure_bind]
  refine wpAny_bind ?_
  unfold seqItems?
  refine wpAny_bind (wpAny_load ho ?_)
  rw [hs]
  refine wpAny_pure ?_
  have e3 : List.lookup a1.arg [(a1.arg, x), (a2.arg, y)] = some x := by simp [List.lookup_cons]
  have e4 : List.lookup a2.arg [(a1.arg, x), (a2.arg, y)] = some y := by
    rw [List.lookup_cons]
    have : (a2.arg == a1.arg) = false := by rw [BEq.comm]; exact hne
    rw [this]; simp [List.lookup_cons]
  simp [e3, e4]
  rw [← bind_pure_comp]
  exact wpAny_bind (wpAny_alloc (wpAny_pure hq))

/-- a function is entered of which no name is a cell -/
theorem enterA {prog : Program} {w : World} {A : Around} {s : Shared} {a : Addr} {o : Obj} {fd : FuncData} {body : List Stmt} {args : Args} {R : Result → Shared → Prop} {binds : List (Str × Value)} {s1 : Shared}
    (hroom : A.depth < recursionLimit) (ho : s.heap.get? a = some o) (hdata : o.data = .func fd) (hbody : fd.body = .stmts body) (hcd : s.heap.CodeRec fd.code fd.qualname)
    (hco : fd.scope.isCoroutine = false) (hgen : fd.scope.isGenerator = false) (hk : fd.scope.kind = .function)
    (hcell : ∀ x ∈ fd.scope.names, x.2 ≠ .cell) (hloc : ∀ x ∈ binds, fd.scope.names.lookup x.1 = some .local)
    (hb : ∀ Q E, Q binds s1 → wpAny (model prog w) A.in1 (bindArgs fd args) Q E s)
    (h : ∀ h₀, h₀.Ns s1.heap.objs.size (fun x => binds.reverse.lookup x) → (∀ b o, s1.heap.get? b = some o → h₀.get? b = some o) →
      h₀.NoLimit ∧ _root_.PySem.wpAt (model prog w) (A.deeper (callEnv fd s1.heap.objs.size a)) (.func body (callEnv fd s1.heap.objs.size a)) (execs body (callEnv fd s1.heap.objs.size a)) (fun f s' => R (.ok (.ret (match f with | .ret v => v | _ => .none))) s')
        (fun e s' => wpAny (model prog w) (A.deeper (callEnv fd s1.heap.objs.size a)) (leaving (callEnv fd s1.heap.objs.size a) e) (fun _ s'' => R (.error e) s'') (fun e' s'' => R (.error e') s'') s')
        { s1 with heap := h₀, toks := s1.toks + binds.length }) :
    codeAny (model prog w) A (.call (.ref a) args) R s := by
  refine codeAny_call_function hroom ho hdata hco hgen hbody hcd (hb _ _ ?_)
  refine wpAny_newFunctionEnv hcell hloc (fun h₀ hns₀ hsb₀ => ?_) hk
  obtain ⟨h1, h2⟩ := h h₀ hns₀ fun b o e => hsb₀.extBut b o (Nat.ne_of_lt (Heap.lt_size e)) (Heap.get?_push_of_some _ e)
  exact ⟨h1, ks_codeAny_funcAt h2⟩
end Mine
end

section
open PySem PySem.W PySem.Calls PyProof.Rows
set_option Elab.async false
set_option maxRecDepth 20000
set_option linter.unusedVariables false
set_option linter.unusedSectionVars false
namespace Mine

/-- a method of a counter's class is asked for -/
theorem ctr_method {W : Wd} {A : Around} {E : Value → Shared → Prop} {s : Shared} {C fM f x : Addr} {ox od : Obj} {m : Str → Option Value} {name : Str} {v : Value} {tv : Value} {pl : Sem Bool} {Q : Value × List Value → Shared → Prop} (c : CtrCls W C fM) (X : W.K.In s.heap)
    (I : InstAt s.heap x ox C (some od)) (hd : ox.dict.isSome = true) (hn : NsOb od m) (he : m name = none) (hf : findIn W.K (.ref C) name = some (some v)) (ht : Looks W.M s.heap (typeOf v) tv) (htv : (tv != .type "function" && tv != .type "method_descriptor" && tv != .type "wrapper_descriptor") = false)
    (h : Q (v, [.ref x]) s) : wpAny W.M A (getMethod (.ref x) name pl) Q E s := by
  obtain ⟨id, hga, hcan⟩ := c.ga
  unfold getMethod specialOf
  refine wpAny_bind (wpAny_bind (I.type.here ((looks_findIn X hga).here ?_)))
  dsimp only
  rw [if_neg (by rw [hcan]; decide)]
  refine wpAny_bind (wpAny_bind (I.type.here ((looks_findIn X c.gt).here ?_)))
  refine wpAny_bind (wpAny_bind (I.type.here ((looks_findIn X hf).here (wpAny_bind (ht.here ?_)))))
  rw [if_neg (by rw [htv]; decide)]
  refine wpAny_bind (wpAny_loadPart I.at_ ?_)
  have hdx := I.dict
  cases q : ox.dict with
  | none => rw [q] at hd; cases hd
  | some dx =>
    rw [q] at hdx
    dsimp only at hdx ⊢
    refine wpAny_bind (wpAny_nsGet (hn.ns hdx) ?_)
    rw [he]
    exact wpAny_bind (wpAny_rule (wpAny_pure h))

structure CtrIni (W : Wd) (C fM fI fU cc cda T : Addr) (fd : FuncData) (cd : ClassData) (a1 a2 kw : Arg) : Prop where
  cls : CtrCls W C fM
  at_ : ∃ o, W.K.lookup fI = some o ∧ o.data = .func fd
  params : ∃ ds, fd.params = { posonlyargs := [a1, a2], args := [], vararg := none, kwonlyargs := [], kw_defaults := [], kwarg := some kw, defaults := ds }
  dfl : fd.defaults = .ref T
  tup : ∃ o m, W.K.lookup T = some o ∧ o.data = .seq #[.none] m
  body : ∃ p0 p1 p2 p3 p4 p5 p6 p7 p8 p9 p10 p11, fd.body = .stmts [.Expr (.Call (.Attribute (.Call (.Name "super" p0) [] [] p1) "__init__" p2) [] [] p3) p4,
    .Expr (.Call (.Attribute (.Name a1.arg p5) "update" p6) [.Name a2.arg p7] [⟨none, .Name kw.arg p8, p9⟩] p10) p11]
  s1 : fd.scope.names.lookup a1.arg = some .local
  s2 : fd.scope.names.lookup a2.arg = some .local
  s3 : fd.scope.names.lookup kw.arg = some .local
  d12 : (a1.arg == a2.arg) = false
  d13 : (a1.arg == kw.arg) = false
  d23 : (a2.arg == kw.arg) = false
  b1 : (a1.arg == ("__debug__" : Str)) = false
  b2 : (a2.arg == ("__debug__" : Str)) = false
  b3 : (kw.arg == ("__debug__" : Str)) = false
  sup : fd.scope.names.lookup ("super" : Str) = some .globalImplicit
  cel : fd.scope.names.lookup ("__class__" : Str) = some .free
  nc : ∀ x ∈ fd.scope.names, x.2 ≠ .cell
  kind : fd.scope.kind = .function
  co : fd.scope.isCoroutine = false
  gen : fd.scope.isGenerator = false
  glob : fd.globals = mainGlobals
  bui : fd.builtins = builtinsNs
  clo : fd.closure = [(("__class__" : Str), cc)]
  cell : ∃ o, W.K.lookup cc = some o ∧ o.data = .cell (some (.ref C))
  code : ∃ o vs t file tf, fd.code = .ref cda ∧ W.K.lookup cda = some o ∧ o.data = .fields vs ∧ vs[1]? = some (.str fd.qualname t) ∧ vs[2]? = some (.str file tf) ∧ ((W.prog.main.file : Str) == file) = true
  mg : W.mg "super" = none
  mb : W.mb "super" = some (.type "super")
  top : (W.prog.main.scope.names.lookup ("super" : Str)).isSome = false
  cin : clsIn W.K C = some cd
  slf : mroIn W.K C (.ref C) = some true
  aft : alongIn W.K "__init__" ((cd.mro.dropWhile (· != .ref C)).drop 1) = some (some (.builtin "dict.__init__"))
  opq : nsIn W.K cStatics "thirdparty.any" = some none
  upd : findIn W.K (.ref C) "update" = some (some (.ref fU))
  ufn : typeIn W.K (.ref fU) = some (.type "function")
  ufd : ∃ o f, W.K.lookup fU = some o ∧ o.data = .func f

section
variable {W : Wd} {n : Nat}
theorem ini_super (ok : W.Ok) {C fM fI fU cc cda T : Addr} {fd : FuncData} {cd : ClassData} {a1 a2 kw : Arg} (c : CtrIni W C fM fI fU cc cda T fd cd a1 a2 kw) {A : Around} {E : Value → Shared → Prop} {G : Gh} {σ : St} {s : Shared} (r : R W G σ s) {L x : Addr} {ox : Obj} {od : Option Obj} {m : Str → Option Value}
    (I : InstAt s.heap x ox C od) (hnc : ∀ c, ox.data ≠ .cls c) (hL : s.heap.Ns L m) (hm : m a1.arg = some (.ref x)) {body : List Stmt} {p0 p1 p2 p3 p4 : Pos} {Q : Flow → Shared → Prop}
    (hq : ∀ h' t', (∀ b o, s.heap.get? b = some o → h'.get? b = some o) → Q .next { s with heap := h', toks := t' }) :
    _root_.PySem.wpAt W.M A (.func body (callEnv fd L fI)) (exec (.Expr (.Call (.Attribute (.Call (.Name "super" p0) [] [] p1) "__init__" p2) [] [] p3) p4) (callEnv fd L fI)) Q E s := by
  have X := r.kin ok
  obtain ⟨of, hf, hfd⟩ := c.at_
  obtain ⟨ds, hpar⟩ := c.params
  obtain ⟨oc, vs, tc, file, tf, hco, hcd, hvs, hv1, hv2, hfile⟩ := c.code
  obtain ⟨oce, hce, hced⟩ := c.cell
  obtain ⟨hh, g, d, t, os⟩ := s
  obtain ⟨oD, hD1, hD2⟩ : ∃ oD, hh.get? C = some oD ∧ oD.data = .cls cd := by
    have hD := c.cin
    unfold clsIn at hD
    split at hD
    · rename_i c d cd' sl ho
      cases hD
      exact ⟨_, X _ _ ho, rfl⟩
    · cases hD
  have hk : (callEnv fd L fI).scope.kind = .function := c.kind
  have hfile2 : (vs[2]? = some (.str file tf)) := hv2
  refine ks_wpAt_Expr_any ?_ (hi := by show (fd.scope.kind == .module && _) = false; rw [c.kind]; rfl)
  rw [arm_eval_Call]
  refine PySem.wpAt_bind ?_
  refine ks_wpAt_super_base (env := callEnv fd L fI) c.sup c.cel (by decide +kernel) rfl (X _ _ hf) hfd (by rw [hpar]; rfl) hco (X _ _ hcd) hvs hv2 hfile c.top ?_
  refine ks_loadName_global hk c.sup ?_
  refine loadGlobal_builtin (env := callEnv fd L fI) (mg := W.mg) (mb := W.mb) (by show Heap.Ns _ fd.globals _; rw [c.glob]; exact r.gl ok) c.mg (by show Heap.Ns _ fd.builtins _; rw [c.bui]; exact r.bu ok) c.mb ⟨rfl, ?_⟩
  refine wpAny_loadName_free hk c.cel (c := cc) (by show fd.closure.lookup _ = _; rw [c.clo]; simp [List.lookup_cons]) ⟨oce, X _ _ hce, hced⟩ ?_
  refine wpAny_loadName_local hk c.s1 hL hm ?_
  refine ks_wpAny_isType_cls hD1 hD2 ⟨rfl, ?_⟩
  refine ks_wpAny_call_super hD1 hD2 I.at_ I.cls hnc (looks_mroIn X c.slf) (fun h' e k => ?_)
  have X' := X.keeps k
  have hx' := k _ _ I.at_
  have hsd := looks_subIn (M := W.M) X' c.cls.sd
  have hso' := looks_subIn (M := W.M) X' c.cls.so
  have hty : Looks W.M h' (typeOf (.ref x)) (.ref C) := I.cls ▸ (Looks.ld hx').andThen .now
  have hxC : x ≠ C := by
    rintro rfl
    have e := I.at_
    rw [hD1] at e
    cases e
    exact hnc _ hD2
  refine PySem.wpAt_of_wpAny (wpAny_bind (wpAny_standAt ?_))
  unfold methodCall
  refine wpAny_bind (wpAny_holding ?_)
  unfold calleeOf
  rw [if_pos (by rfl)]
  refine sb_gm (C := C) (D := C) (l₀ := cd.mro) e (looks_opaque X' c.opq) ?_ rfl X' c.aft hxC (hty.andThen hsd) ?_
  · exact fun A Q E s k q => wpAny_bind ((looks_clsIn X' c.cin) A _ E s k (wpAny_pure q))
  · have k2 : ∀ b o, hh.get? b = some o → (h'.push (wrapObj x)).get? b = some o := fun b o q => Heap.get?_push_of_some _ (k _ _ q)
    have hw : (h'.push (wrapObj x)).get? h'.objs.size = some (wrapObj x) := Heap.get?_push_size _ rfl
    refine wpAny_bind ?_
    have hpos : ∀ (A : Around) (E : Value → Shared → Prop) (Q : Pos → Shared → Prop) s, (∀ p, Q p s) → wpAny (model W.prog W.w) A (methodCallPos (methodCallForm (([] : List Expr).length + ([] : List Keyword).length) (backTo p3 (starEach [] (callEnv fd L fI))) (backToKw p3 (keywordEach [] (callEnv fd L fI)))) (.Call (.Name "super" p0) [] [] p1) (callEnv fd L fI) p2 p3) Q E s := by
      intro A E Q s hQ
      unfold methodCallPos
      refine wpAny_ite_split (fun _ => wpAny_pure (hQ _)) (fun _ => ?_)
      refine wpAny_bind (wpAny_pure ?_)
      rw [if_neg (by decide)]
      unfold importBound
      refine wpAny_bind (wpAny_pure ?_)
      exact wpAny_pure (hQ _)
    refine hpos _ _ _ _ fun pp => ?_
    refine callWith_of (P := fun h => h = h'.push (wrapObj x)) rfl (fun h e => ⟨.machine, .inr (.inl rfl), ?_⟩) (evalArgs_nil3 ⟨rfl, ?_⟩)
    · subst e
      exact (Looks.ld (part := Option.none) hw).andThen .now
    · have I2 : InstAt (h'.push (wrapObj x)) x ox C od := ⟨k2 _ _ I.at_, I.cls, I.no, by
        have q := I.dict
        cases e1 : ox.dict <;> cases e2 : od <;> rw [e1, e2] at q <;> first | exact k2 _ _ q | exact q⟩
      have X2 : W.K.In (h'.push (wrapObj x)) := X.keeps k2
      refine wpAny_call (wrap_call hw I2 (I2.type.andThen (looks_subIn X2 c.cls.so)) ?_)
      exact hq _ _ k2
end
end Mine
end

section
open PySem PySem.W PySem.Calls PyProof.Rows
set_option Elab.async false
set_option maxRecDepth 20000
namespace Mine
theorem kind_dga : builtinKind "dict.__getattribute__" = some .slot := by decide +kernel
theorem split_dga : splitId "dict.__getattribute__" = some ("dict", "__getattribute__") := by decide +kernel
theorem plain_dga : plainId "dict.__getattribute__" = true := by decide +kernel
theorem entry_dga : entryFor table "dict.__getattribute__" = some Builtin.«object.__getattribute__» := entryFor_alias (id' := "object.__getattribute__") (by rw [fastTable_eq_tree]; kernel_rfl) (by decide +kernel) (by decide +kernel) (by rw [fastTable_eq_tree]; kernel_rfl)
theorem args_dga (a b : Value) : argsOk "dict.__getattribute__" ⟨[a, b], []⟩ := by unfold argsOk; kernel_rfl
theorem bind_dga (self : Value) : bindSpecial (.builtin "dict.__getattribute__") self = pure (.builtin "dict.__getattribute__", [self]) := by
  have hop : withoutEnding? "dict.__getattribute__" "#opaque" = none := by decide +kernel
  have hdat : withoutEnding? "dict.__getattribute__" "#data" = none := by decide +kernel
  simp only [bindSpecial, typeOf, builtinType, hop, hdat, kind_dga]; rfl

theorem dga_get {prog : Program} {w : World} {A : Around} {E : Value → Shared → Prop} {K : Frag} {h : Heap} {g : Array GenState} {d : Drawn} {t : Nat} {os : OsState} {x C f : Addr} {ox : Obj} {od : Option Obj} {name : Str} {Q : Value → Shared → Prop} (X : K.In h) (I : InstAt h x ox C od)
    (hga : findIn K (.ref C) "__getattribute__" = some (some (.builtin "dict.__getattribute__"))) (hk : findIn K (.ref C) "__getattr__" = some none)
    (hsd : Looks (model prog w) h (isInstance (.ref x) (.type "dict")) true)
    (hf : findObj K C od name = some (.bind (.builtin "function.__get__") (.ref f))) (ht : typeIn K (.ref f) = some (.type "function"))
    (hq : Q (.ref h.objs.size) ⟨h.push (methodObj (.ref f) (.ref x)), g, d, t + 1, os⟩) :
    wpAny (model prog w) A (getAttr (.ref x) name true) Q E ⟨h, g, d, t, os⟩ := by
  have L0 := I.type (M := model prog w)
  have L1 := looks_findIn (M := model prog w) X hga
  have L2 := looks_findIn (M := model prog w) X hk
  have L3 := looks_find (M := model prog w) X I hf
  unfold getAttr getAttrBy
  refine wpAny_bind (wpAny_mkText (wpAny_holding (wpAny_bind (L0.at (wpAny_bind (L1.at ?_))))))
  dsimp only
  rw [if_neg (by rw [show (Value.builtin "dict.__getattribute__" == Value.builtin "object.__getattribute__") = false from by decide, Bool.and_false]; decide)]
  unfold getAttrByItsOwn hookBefore callGetattribute boundAndCalled
  rw [if_pos (by rfl)]
  refine wpAny_bind (L2.at ?_)
  refine wpAny_bind (wpAny_attempt (wpAny_holding ?_))
  rw [if_neg (by decide), bind_dga, pure_bind]
  dsimp only
  refine wpAny_call (codeAny_call_builtin plain_dga entry_dga ?_)
  have ha := args_dga (.ref x) (.str name t)
  refine @check_slot (model prog w) _ _ ⟨h, g, d, t + 1, os⟩ _ _ _ _ _ _ _ kind_dga split_dga hsd ha ?_
  unfold Builtin.«object.__getattribute__»
  refine wpAny_bind (wpAny_pure (wpAny_bind (wpAny_pure (wpAny_bind (L0.at (wpAny_bind (L3.at ?_)))))))
  dsimp only
  unfold Builtin.ObjectAttr.bindTo
  dsimp only
  refine wpAny_bind (wpAny_holding (wpAny_call (fn_get X ht ?_)))
  refine wpAny_pure ?_
  dsimp only
  rw [handedOut_of rfl]
  exact wpAny_pure hq
end Mine
end

section
open PySem PySem.W PySem.Calls PyProof.Rows
set_option Elab.async false
set_option maxRecDepth 20000
set_option linter.unusedVariables false
set_option linter.unusedSectionVars false
namespace Mine
theorem mergedE {prog : Program} {w : World} {A : Around} {h : Heap} {g : Array GenState} {d : Drawn} {t : Nat} {os : OsState} {f : Value} {a : Addr} {x : Sem Value} {Q : Addr → Shared → Prop}  {E : Value → Shared → Prop}
    (ha : h.get? a = some emptyDict) (hs : a ≠ sysModules)
    (hx : ∀ (A' : Around) (E' : Value → Shared → Prop) Q' h' t', (∀ b o, h.get? b = some o → h'.get? b = some o) → Q' (.ref a) ⟨h', g, d, t', os⟩ → wpAny (model prog w) A' x Q' E' ⟨h', g, d, t', os⟩)
    (hq : Q h.objs.size ⟨h.push emptyDict, g, d, t, os⟩) :
    wpAny (model prog w) A (mergedKeywords f [(none, x)]) Q E ⟨h, g, d, t, os⟩ := by
  have hsz : (h.push emptyDict).get? h.objs.size = some emptyDict := Heap.get?_push_size _ rfl
  have ha' : (h.push emptyDict).get? a = some emptyDict := Heap.get?_push_of_some _ ha
  have hT : ∀ t', (⟨h.push emptyDict, g, d, t', os⟩ : Shared).TypeIs (.ref a) "dict" := fun _ => ⟨_, ha', rfl⟩
  unfold mergedKeywords
  refine wpAny_bind (wpAny_alloc (wpAny_bind (wpAny_holding ?_)))
  dsimp only
  rw [List.forIn_cons]
  dsimp only
  rw [if_pos (by rfl)]
  refine wpAny_bind (wpAny_bind (wpAny_bind (wpAny_pure ?_)))
  refine wpAny_bind (hx _ _ _ _ _ (fun b o e => Heap.get?_push_of_some _ e) ?_)
  refine wpAny_bind (wpAny_onRaise ?_)
  refine wpAny_holding (wpAny_tryCatch (wpAny_onRaise (mmEmpty hsz ha' hs ?_)))
  refine wpAny_pure ?_
  dsimp only
  rw [List.forIn_nil]
  refine wpAny_pure ?_
  rw [if_pos (by rfl)]
  refine wpAny_pure (wpAny_pure ?_)
  exact hq

theorem kwInE {M : Model} {A : Around} {s : Shared} {f : Value} {dd : Addr} {Q : List (Str × Value) → Shared → Prop} {E : Value → Shared → Prop} (hd : s.heap.get? dd = some emptyDict) (hq : Q [] s) : wpAny M A (keywordsIn f dd) Q E s := by
  unfold keywordsIn
  refine wpAny_bind (wpAny_dictEntries hd rfl ?_)
  refine wpAny_bind ?_
  rw [← Array.forIn_toList]
  dsimp only
  rw [List.forIn_nil]
  exact wpAny_pure (wpAny_pure hq)

/-- a bound method called with one argument and an empty dict of keywords -/
theorem call_star {prog : Program} {w : World} {A : Around} {E : Value → Shared → Prop} {h : Heap} {g : Array GenState} {d : Drawn} {t : Nat} {os : OsState} {q f a : Addr} {x y : Value} {ex ek : Sem Value} {pos : Pos} {of : Obj} {fd : FuncData} {Q : Value → Shared → Prop}
    (hqo : h.get? q = some (methodObj (.ref f) x)) (hfo : h.get? f = some of) (hfd : of.data = .func fd) (ha : h.get? a = some emptyDict) (hs : a ≠ sysModules)
    (hy : ∀ (A' : Around) (E' : Value → Shared → Prop) Q', Q' y ⟨h, g, d, t, os⟩ → wpAny (model prog w) A' ex Q' E' ⟨h, g, d, t, os⟩)
    (hx : ∀ (A' : Around) (E' : Value → Shared → Prop) Q' h' t', (∀ b o, h.get? b = some o → h'.get? b = some o) → Q' (.ref a) ⟨h', g, d, t', os⟩ → wpAny (model prog w) A' ek Q' E' ⟨h', g, d, t', os⟩)
    (hq : codeAny (model prog w) A (.call (.ref f) ⟨[x, y], []⟩) (fun r s' => match r with | .ok (.ret v) => Q v s' | .ok _ => False | .error e => E e s') ⟨h.push emptyDict, g, d, t, os⟩) :
    wpAny (model prog w) A (callWith pos (.ref q) [] [(false, ex)] [(none, ek)]) Q E ⟨h, g, d, t, os⟩ := by
  have k : ∀ b o, h.get? b = some o → (h.push emptyDict).get? b = some o := fun b o e => Heap.get?_push_of_some _ e
  unfold callWith
  refine wpAny_bind (wpAny_holding ?_)
  unfold evalArgs
  have kq : (h.push emptyDict).get? h.objs.size = some emptyDict := Heap.get?_push_size _ rfl
  refine wpAny_bind (spliced_cons (hy _ _ _ (Calls.spliced_nil ?_)))
  refine wpAny_bind (wpAny_pure (wpAny_holding ?_))
  rw [if_neg (by rw [show ([((Option.none : Option Str), ek)].all fun x => x.1.isSome) = false from rfl]; decide)]
  refine wpAny_bind (mergedE ha hs hx ?_)
  refine wpAny_bind (wpAny_pure (wpAny_bind (wpAny_holding (kwInE kq (wpAny_pure ?_)))))
  refine wpAny_bind (wpAny_standAt ?_)
  refine wpAny_bind (wpAny_bind (wpAny_load (k _ _ hqo) ?_))
  dsimp only
  rw [if_neg (by decide)]
  refine wpAny_bind (wpAny_load (k _ _ hfo) ?_)
  rw [hfd]
  refine wpAny_pure ?_
  dsimp only
  refine wpAny_bind (wpAny_operateT (wpAny_call ?_))
  refine ks_codeAny_call_bound (x := x) (f := f) (k _ _ hqo) (codeAny_mono hq fun r s' z => ?_)
  rcases r with e | (v | _ | _ | _) <;> first | exact z | exact z.elim | exact wpAny_bind (wpAny_holding (wpAny_point (wpAny_pure z)))
end Mine
end

section
open PySem PySem.W PySem.Calls PyProof.Rows
set_option Elab.async false
set_option maxRecDepth 20000
set_option linter.unusedVariables false
set_option linter.unusedSectionVars false
namespace Mine
theorem NsOb.lookIn {o : Obj} {m : Str → Option Value} {x : Str} (h : NsOb o m) (e : m x = none) : PySem.W.lookIn x o = some none := by
  obtain ⟨es, ep, hd, hk, hf⟩ := h
  have hx := (hf x).trans e
  unfold PySem.W.lookIn
  rw [hd]
  dsimp only
  have h1 : es.toList.find? (·.key.isStr x) = none := by
    unfold nsFind findBy at hx
    simpa using hx
  rw [h1]
  dsimp only
  rw [if_neg]
  simp only [List.any_eq_true, not_exists, not_and]
  intro e he
  obtain ⟨n, t, q⟩ := hk e (by simpa using he)
  unfold DictEntry.refKey
  rw [q]; simp

section
variable {W : Wd} {n : Nat}
def iniF (C : Addr) (gU : List AV → List AV → M AV) (a : AV) : M AV := fun σ => match a with
  | .ref h => match σ.st h with
    | some (.ctr C' l) => if C' = C then (match gU [a, .none] [] σ with
      | some (_, σ') => some (.none, σ')
      | none => none) else none
    | _ => none
  | _ => none

theorem SimCall.ini (ok : W.Ok) {C fM fI fU cc cda T : Addr} {fd : FuncData} {cd : ClassData} {a1 a2 kw : Arg} {gU : List AV → List AV → M AV} (c : CtrIni W C fM fI fU cc cda T fd cd a1 a2 kw)
    (hga : findIn W.K (.ref C) "__getattribute__" = some (some (.builtin "dict.__getattribute__")))
    (hfo : ∀ od, PySem.W.lookIn "update" od = some Option.none → findObj W.K C (some od) "update" = some (.bind (.builtin "function.__get__") (.ref fU)))
    (hU : SimCall W n (.ref fU) [] gU) :
    SimCall W (n + 1) (.ref fI) [] (fun args _ => match args with
      | [a] => iniF C gU a
      | _ => M.fail) := by
  intro A σ σ' G s args kws ms ks' v hA r hne hm hk' hf
  dsimp only at hf
  split at hf
  · rename_i a
    obtain ⟨mx, e, p⟩ := Reps.one hm
    subst e
    unfold iniF at hf
    split at hf
    · rename_i hd
      split at hf
      · rename_i C' l hs
        split at hf
        · rename_i hC
          subst hC
          split at hf
          · rename_i w0 σ1 hu
            cases hf
            obtain ⟨y, dx, od, es, ep, kvs, m, e, hmm, hk, hz, hn, he, q5, q6, q7, hr, I⟩ := r.ctr hs p
            subst e
            obtain ⟨of, hof, hfd⟩ := c.at_
            obtain ⟨ds, hpar⟩ := c.params
            obtain ⟨oT, mT, hT, hTd⟩ := c.tup
            obtain ⟨p0, p1, p2, p3, p4, p5, p6, p7, p8, p9, p10, p11, hbody⟩ := c.body
            obtain ⟨oc, vs, tc, file, tf, hco, hcd, hvs, hv1, hv2, hfile⟩ := c.code
            have X := r.kin ok
            show codeAny W.M A (.call (.ref fI) ⟨[.ref y], []⟩) _ s
            refine enterA (binds := [(a1.arg, .ref y), (a2.arg, .none), (kw.arg, .ref s.heap.objs.size)]) (s1 := { s with heap := s.heap.push emptyDict }) hA.room1 (X _ _ hof) hfd hbody ⟨cda, oc, vs, tc, hco, X _ _ hcd, hvs, hv1⟩ c.co c.gen c.kind c.nc ?_ (fun Q E hQ => bind_kw1 hpar c.dfl (X _ _ hT) hTd c.d12 hQ) ?_
            · intro x hx
              simp only [List.mem_cons, List.not_mem_nil, or_false] at hx
              rcases hx with rfl | rfl | rfl
              · exact c.s1
              · exact c.s2
              · exact c.s3
            · intro h₀ hns k0
              have kd : (s.heap.push emptyDict).get? s.heap.objs.size = some emptyDict := Heap.get?_push_size _ rfl
              have k1 : ∀ b o, s.heap.get? b = some o → h₀.get? b = some o := fun b o q => k0 _ _ (Heap.get?_push_of_some _ q)
              have r1 : R W G σ { s with heap := h₀ , toks := s.toks + 3 } := r.keep (tk := s.toks + 3) k1
              refine ⟨r1.lim ok, ?_⟩
              have I1 : InstAt h₀ y (ctrObj C' dx es ep) C' (some od) := ⟨k1 _ _ I.at_, I.cls, I.no, k1 _ _ I.dict⟩
              have e1 : [(a1.arg, Value.ref y), (a2.arg, .none), (kw.arg, .ref s.heap.objs.size)].reverse.lookup a1.arg = some (.ref y) := by
                show List.lookup a1.arg [(kw.arg, Value.ref s.heap.objs.size), (a2.arg, .none), (a1.arg, .ref y)] = _
                rw [List.lookup_cons, c.d13, List.lookup_cons, c.d12]; simp
              have e2 : [(a1.arg, Value.ref y), (a2.arg, .none), (kw.arg, .ref s.heap.objs.size)].reverse.lookup a2.arg = some .none := by
                show List.lookup a2.arg [(kw.arg, Value.ref s.heap.objs.size), (a2.arg, .none), (a1.arg, .ref y)] = _
                rw [List.lookup_cons, c.d23]; simp
              have e3 : [(a1.arg, Value.ref y), (a2.arg, .none), (kw.arg, .ref s.heap.objs.size)].reverse.lookup kw.arg = some (.ref s.heap.objs.size) := by
                show List.lookup kw.arg [(kw.arg, Value.ref s.heap.objs.size), (a2.arg, .none), (a1.arg, .ref y)] = _
                simp
              have hk3 : (callEnv fd (s.heap.push emptyDict).objs.size fI).scope.kind = .function := c.kind
              refine ks_wpAt_execs_cons (ini_super ok c r1 I1 (fun c => by intro e; cases e) hns e1 (fun h2 t2 k2 => ?_))
              dsimp only
              have r2 : R W G σ { s with heap := h2 , toks := t2 } := r1.keep (tk := t2) k2
              obtain ⟨oL, hoL, hnL⟩ := NsOb.of hns
              have hns2 := hnL.ns (k2 _ _ hoL)
              have I2 : InstAt h2 y (ctrObj C' dx es ep) C' (some od) := ⟨k2 _ _ I1.at_, I1.cls, I1.no, k2 _ _ I1.dict⟩
              have kd2 : h2.get? s.heap.objs.size = some emptyDict := k2 _ _ (k0 _ _ kd)
              refine ks_wpAt_execs_cons (PySem.wpAt_of_wpAny (wpAny_Expr_any ?_ (by show (fd.scope.kind == .module && _) = false; rw [c.kind]; rfl) rfl))
              rw [arm_eval_Call]
              refine wpAny_bind ?_
              unfold attributeBase
              dsimp only
              refine wpAny_Name (wpAny_loadName_local hk3 c.s1 hns2 e1 ?_) c.b1
              refine wpAny_bind (wpAny_standAt ?_)
              unfold methodCall
              refine wpAny_bind (wpAny_holding ?_)
              unfold calleeOf
              refine wpAny_ite_split (fun h => Bool.noConfusion (show false = true from h)) (fun _ => ?_)
              have X2 := r2.kin ok
              refine wpAny_bind (dga_get X2 I2 hga c.cls.gt (I2.type.andThen (looks_subIn X2 c.cls.sd)) (hfo _ (hn.lookIn (he _))) c.ufn ?_)
              refine wpAny_pure ?_
              dsimp only
              have kq : (h2.push (methodObj (.ref fU) (.ref y))).get? h2.objs.size = some (methodObj (.ref fU) (.ref y)) := Heap.get?_push_size _ rfl
              have k3 : ∀ b o, h2.get? b = some o → (h2.push (methodObj (.ref fU) (.ref y))).get? b = some o := fun b o q => Heap.get?_push_of_some _ q
              have r3 : R W G σ { s with heap := h2.push (methodObj (.ref fU) (.ref y)) , toks := t2 + 1 } := r2.keep (tk := t2 + 1) k3
              have hns3 := hnL.ns (k3 _ _ (k2 _ _ hoL))
              obtain ⟨oU, fU', hU1, hU2⟩ := c.ufd
              refine wpAny_bind ?_
              unfold methodCallPos
              rw [if_pos (by rfl)]
              refine wpAny_pure ?_
              have hsys : s.heap.objs.size ≠ sysModules := by
                obtain ⟨rp, _⟩ := r.alloc .pin (o := emptyDict) rfl (tk := s.toks)
                exact ne_of_beq_false (notSys rp ok Gh.set_self Tag.noConfusion)
              refine call_star (y := .none) (a := s.heap.objs.size) kq (r3.kin ok _ _ hU1) hU2 (k3 _ _ kd2) hsys (fun A' E' Q' hQ => ?_) (fun A' E' Q' h' t' k' hQ => ?_) ?_
              · exact wpAny_Name (wpAny_loadName_local hk3 c.s2 hns3 e2 hQ) c.b2
              · refine wpAny_bind (wpAny_Name (wpAny_loadName_local hk3 c.s3 (hnL.ns (k' _ _ (k3 _ _ (k2 _ _ hoL)))) e3 ?_) c.b3)
                exact wpAny_bind (wpAny_standAt (wpAny_pure hQ))
              · have k4 : ∀ b o, (h2.push (methodObj (.ref fU) (.ref y))).get? b = some o → ((h2.push (methodObj (.ref fU) (.ref y))).push emptyDict).get? b = some o := fun b o q => Heap.get?_push_of_some _ q
                have r4 : R W G σ { s with heap := (h2.push (methodObj (.ref fU) (.ref y))).push emptyDict , toks := t2 + 1 } := r3.keep (tk := t2 + 1) k4
                have hA' : AOK n (A.deeper (callEnv fd (s.heap.push emptyDict).objs.size fI)) := hA.deeper
                refine codeAny_mono (hU _ σ _ G _ [.ref hd, .none] [] [.ref y, .none] [] _ hA' r4 hne ⟨_, _, rfl, p, _, _, rfl, rfl, rfl⟩ rfl hu) fun rr s' z => ?_
                rcases rr with e | (v | _ | _ | _) <;> first | exact z.elim | skip
                obtain ⟨G', l', r', _⟩ := z
                show _root_.PySem.wpAt _ _ _ (execs [] _) _ _ _
                refine PySem.wpAt_of_wpAny ?_
                exact wpAny_pure ⟨G', l', r', rfl⟩
          · cases hf
        · cases hf
      · cases hf
    · cases hf
  · cases hf
end
end Mine
end

section
open PySem PySem.W PySem.Calls PyProof.Rows
set_option Elab.async false
set_option maxRecDepth 20000
set_option linter.unusedVariables false
set_option linter.unusedSectionVars false
namespace Mine
section
variable {W : Wd} {n : Nat}
def ctrMakeF (C : Addr) (site : Nat) (gI : List AV → List AV → M AV) (args kws : List AV) : M AV := match args, kws with
  | [], [] => M.bind (allocA site (.ctr C [])) fun h => M.bind (gI [.ref h] []) fun v => match v with
    | .none => M.pure (.ref h)
    | _ => M.fail
  | _, _ => M.fail
theorem SimV.ctr (ok : W.Ok) {C fI : Addr} (site : Nat) {gI : List AV → List AV → M AV} (c : CtrMk W.K C fI) (hkp : keepIn W.K (.ref C) = true)
    (h : SimCall W n (.ref fI) [] gI) : SimV W (n + 1) (.ref C) [] (ctrMakeF C site gI) := by
  intro A σ σ' G s args kws ms ks' v hA r hne p2 p3 he
  refine ⟨keeps_K hkp _ (r.kin ok), CP.call ?_⟩
  unfold ctrMakeF at he
  split at he
  · cases p2
    cases p3
    obtain ⟨hd, σ1, e1, he1⟩ := M.bind_some he
    clear he
    obtain ⟨v', σ2, e2, he2⟩ := M.bind_some he1
    clear he1
    cases e1
    split at he2
    · cases he2
      obtain ⟨r1, l1⟩ := r.alloc .z (o := emptyDict) rfl (tk := s.toks)
      have hz1 : (G.set s.heap.objs.size Tag.z emptyDict).z s.heap.objs.size = some emptyDict := Gh.z_iff.mpr Gh.set_self
      obtain ⟨G2, l2, r2, m2⟩ := r1.allocObj (ob := ctrObj C s.heap.objs.size #[] 0) (o := .ctr C []) rfl site (fun G' l' => ⟨[], ⟨s.heap.objs.size, emptyDict, #[], 0, fun _ => Option.none, rfl, Gh.z_iff.mpr (l'.z _ _ Gh.set_self), ⟨#[], 0, rfl, fun e he => by simp at he, fun x => rfl⟩, fun _ => rfl, fun e he => by simp at he, .nil, List.nodup_nil⟩, rfl⟩) (tk := s.toks)
      have lA := l1.trans l2
      obtain ⟨hh, g, d, t, os⟩ := s
      have hsz : (hh.push emptyDict).objs.size = hh.objs.size + 1 := Heap.size_push ..
      dsimp only at r2 l2 m2 lA ⊢
      rw [hsz] at m2
      have hp : Rep W G2 (.ref (site, σ.cnt)) (.ref (hh.objs.size + 1)) := ⟨_, rfl, m2⟩
      refine ctr_make (r.kin ok) c ?_
      refine codeAny_mono (h _ _ σ' G2 _ [.ref (site, σ.cnt)] [] [.ref (hh.objs.size + 1)] [] .none hA.make r2 (by rw [lA.fr]; exact hne) ⟨_, _, rfl, hp, rfl⟩ rfl e2) fun rr s' w => ?_
      match rr, w with
      | .ok (.ret u), ⟨G', l', r', p'⟩ =>
        cases p'
        exact ⟨rfl, G', lA.trans l', r', hp.le l'⟩
    · cases he2
  · cases he
end
end Mine
end

section
open PySem PySem.W PySem.Calls PyProof.Rows
set_option Elab.async false
set_option maxRecDepth 20000
set_option linter.unusedVariables false
set_option linter.unusedSectionVars false
namespace Mine
section
variable {W : Wd} {X : Sc} {n : Nat}
theorem SimM.ctrPop (ok : W.Ok) {C fM : Addr} (c : CtrCls W C fM) {g : AV → List AV → M AV} (h : SimBM W n "dict.pop" g) : SimM W n "pop" [] (preCtr C) (noKw g) := by
  intro A σ σ' G s a b ma pl hA r hne p he
  unfold preCtr at he
  split at he
  · rename_i hd
    split at he
    · rename_i C' l hs
      split at he
      · rename_i hC
        subst hC
        cases he
        obtain ⟨y, dx, od, es, ep, kvs, m, e, hmm, hk, hz, hn, hem, q5, q6, q7, hr, I⟩ := r.ctr hs p
        subst e
        have hty : Looks W.M s.heap (typeOf (.builtin "dict.pop")) (.type "method_descriptor") := fun A Q E s k q => by rw [PySem.F.type_dict_pop]; exact wpAny_pure q
        refine ctr_method (f := C') c (r.kin ok) I rfl hn (hem _) c.pp hty (by decide) ⟨G, .refl _, r, ?_⟩
        intro A σ2 σ3 G'' s'' args kws ms ks' v hA2 l2 r2 p2 p3 hg
        refine ⟨.bi, ?_⟩
        have hk : (([] : List Str).zip ks') = [] := by simp
        rw [hk]
        cases kws with
        | nil => exact h A _ _ G'' s'' _ args (.ref y) ms v hA2 r2 (by rw [l2.fr]; exact hne) (p.le l2) p2 hg
        | cons k ks => cases hg
      · cases he
    · cases he
  · cases he

/-- `o[i] op= e` -/
theorem SimS.augSub {o i e : Expr} {op : Operator} {tpos pos : Pos} {fo fi fe : M AV} {gg gop : AV → AV → M AV} {gs : AV → AV → AV → M Unit} (h1 : SimE W X n o fo) (h2 : SimE W X n i fi) (h3 : Op2g W n getItem gg) (h4 : SimE W X n e fe) (h5 : Op2 W (Rep W) n (inplaceOp op) gop) (h6 : OpSet W n gs)
    (hi : ∀ ov iv new, augStore i ov iv new = (do holding [new, ov, iv] (setItem ov iv new); release [new, ov, iv] []; pure .next)) :
    SimS W X n (.AugAssign (.Subscript o i tpos) op e pos) (M.bind fo fun a => M.bind fi fun b => M.bind (gg a b) fun old => M.bind fe fun v => M.bind (gop old v) fun nw => M.bind (gs a b nw) fun _ => M.pure .next) := by
  intro env A σ b σ' G s P hA r hf
  obtain ⟨va, σ1, e1, hf⟩ := M.bind_some hf
  obtain ⟨vb, σ2, e2, hf⟩ := M.bind_some hf
  obtain ⟨vo, σ3, e3, hf⟩ := M.bind_some hf
  obtain ⟨vv, σ4, e4, hf⟩ := M.bind_some hf
  obtain ⟨vn, σ5, e5, hf⟩ := M.bind_some hf
  obtain ⟨u, σ6, e6, hf⟩ := M.bind_some hf
  cases hf
  refine wpAny_AugAssign_SubscriptAny (wpAny_mono (h1 env A _ _ _ G s P hA r e1) (fun ma s1 ⟨G1, l1, r1, p1⟩ => ?_) fun _ _ e => e) hi
  have P1 := P.mono l1
  refine wpAny_mono (h2 env A _ _ _ G1 s1 P1 hA r1 e2) (fun mb s2 ⟨G2, l2, r2, p2⟩ => ?_) fun _ _ e => e
  have P2 := P1.mono l2
  refine wpAny_mono (h3 A _ _ G2 s2 _ _ _ _ _ hA r2 P2.ne (p1.le l2) p2 e3) (fun mo s3 ⟨G3, l3, r3, p3⟩ => ?_) fun _ _ e => e
  have P3 := P2.mono l3
  refine wpAny_mono (h4 env A _ _ _ G3 s3 P3 hA r3 e4) (fun mv s4 ⟨G4, l4, r4, p4⟩ => ?_) fun _ _ e => e
  have P4 := P3.mono l4
  refine wpAny_mono (h5 A _ _ G4 s4 _ _ _ _ _ hA r4 (p3.le l4) p4 e5) (fun mn s5 ⟨G5, l5, r5, p5⟩ => ?_) fun _ _ e => e
  have P5 := P4.mono l5
  refine wpAny_mono (h6 A _ _ G5 s5 _ _ _ _ _ _ hA r5 P5.ne (p1.le (((l2.trans l3).trans l4).trans l5)) (p2.le ((l3.trans l4).trans l5)) p5 e6) (fun _ s6 ⟨G6, l6, r6, _⟩ => ?_) fun _ _ e => e
  exact ⟨G6, ((((l1.trans l2).trans l3).trans l4).trans l5).trans l6, r6, trivial⟩
end
end Mine
end

section
open PySem PySem.W PySem.Calls PyProof.Rows
set_option Elab.async false
set_option maxRecDepth 20000
set_option linter.unusedVariables false
set_option linter.unusedSectionVars false
namespace Mine
section
variable {W : Wd} {X : Sc} {n : Nat}
/-- the class's own `__setitem__` -/
def setI (C : Addr) (g : List AV → List AV → M AV) (a b v : AV) : M Unit := fun σ => match a with
  | .inst C' h => if C' = C then (match σ.st h with
    | some (.ns _) => (g [a, b, v] [] σ).map fun p => ((), p.2)
    | _ => none) else none
  | _ => none
def delI (C : Addr) (g : List AV → List AV → M AV) (a b : AV) : M Unit := fun σ => match a with
  | .inst C' h => if C' = C then (match σ.st h with
    | some (.ns _) => (g [a, b] [] σ).map fun p => ((), p.2)
    | _ => none) else none
  | _ => none
def OpDel (W : Wd) (n : Nat) (h : AV → AV → M Unit) : Prop :=
  ∀ A σ σ' G s a b ma mb, AOK n A → R W G σ s → G.fr ≠ [] → Rep W G a ma → Rep W G b mb → h a b σ = some ((), σ') → wpAny W.M A (delItem ma mb) (Post W (fun _ _ _ => True) G σ' ()) (fun _ _ => False) s
theorem OpSet.inst (ok : W.Ok) {C f : Addr} {g : List AV → List AV → M AV} (hns : noSeq W.K C = true) (hf : findIn W.K (.ref C) "__setitem__" = some (some (.ref f))) (ht : typeIn W.K (.ref f) = some (.type "function")) (h : SimCall W n (.ref f) [] g) : OpSet W n (setI C g) := by
  intro A σ σ' G s a b v ma mb mv hA r hne pa pb pv he
  unfold setI at he
  split at he
  · rename_i C' hd
    split at he
    · rename_i hC
      subst hC
      split at he
      · rename_i l hs
        obtain ⟨⟨u, σ1⟩, e1, e2⟩ := Option.map_eq_some_iff.mp he
        cases e2
        obtain ⟨y, d, es, k, e, h1, h2, h3, I, h5⟩ := r.inst hs pa
        subst e
        have X := r.kin ok
        unfold setItem sequenceKey
        refine wpAny_holding (wpAny_bind (wpAny_bind (I.type.here ?_)))
        refine wpAny_bind ((anyM_none X hns).here ?_)
        rw [if_pos (show (!false) = true from rfl)]
        refine wpAny_pure (wpAny_bind ?_)
        refine special_fn X I hf ht (CP.call (CP.mono (h A _ _ G s [_, b, v] [] [.ref y, mb, mv] [] u hA r hne ⟨_, _, rfl, pa, _, _, rfl, pb, _, _, rfl, pv, rfl⟩ rfl e1) fun rv s' ⟨G', l', r', _⟩ => ?_))
        exact wpAny_pure ⟨G', l', r', trivial⟩
      · cases he
    · cases he
  · cases he
theorem OpDel.inst (ok : W.Ok) {C f : Addr} {g : List AV → List AV → M AV} (hns : noSeq W.K C = true) (hf : findIn W.K (.ref C) "__delitem__" = some (some (.ref f))) (ht : typeIn W.K (.ref f) = some (.type "function")) (h : SimCall W n (.ref f) [] g) : OpDel W n (delI C g) := by
  intro A σ σ' G s a b ma mb hA r hne pa pb he
  unfold delI at he
  split at he
  · rename_i C' hd
    split at he
    · rename_i hC
      subst hC
      split at he
      · rename_i l hs
        obtain ⟨⟨u, σ1⟩, e1, e2⟩ := Option.map_eq_some_iff.mp he
        cases e2
        obtain ⟨y, d, es, k, e, h1, h2, h3, I, h5⟩ := r.inst hs pa
        subst e
        have X := r.kin ok
        unfold delItem sequenceKey
        refine wpAny_holding (wpAny_bind (wpAny_bind (I.type.here ?_)))
        refine wpAny_bind ((anyM_none X hns).here ?_)
        rw [if_pos (show (!false) = true from rfl)]
        refine wpAny_pure (wpAny_bind ?_)
        refine special_fn X I hf ht (CP.call (CP.mono (h A _ _ G s [_, b] [] [.ref y, mb] [] u hA r hne ⟨_, _, rfl, pa, _, _, rfl, pb, rfl⟩ rfl e1) fun rv s' ⟨G', l', r', _⟩ => ?_))
        exact wpAny_pure ⟨G', l', r', trivial⟩
      · cases he
    · cases he
  · cases he
theorem SimS.delG {o i : Expr} {p pos : Pos} {f g : M AV} {hd : AV → AV → M Unit} (h1 : SimE W X n o f) (h2 : SimE W X n i g) (h3 : OpDel W n hd) :
    SimS W X n (.Delete [.Subscript o i p] pos) (M.bind f fun a => M.bind g fun b => M.bind (hd a b) fun _ => M.pure .next) := by
  intro env A σ b σ' G s P hA r hf
  obtain ⟨a, σ1, e1, hf⟩ := M.bind_some hf
  obtain ⟨c, σ2, e2, hf⟩ := M.bind_some hf
  obtain ⟨⟨⟩, σ3, e3, hf⟩ := M.bind_some hf
  cases hf
  refine wpAny_Delete (wpAny_deleteEach_cons (delete_Subscript ?_))
  refine wpAny_mono (h1 env A _ _ _ G s P hA r e1) (fun ma s1 ⟨G1, l1, r1, p1⟩ => ?_) fun _ _ e => e
  refine wpAny_mono (h2 env A _ _ _ G1 s1 (P.mono l1) hA r1 e2) (fun mb s2 ⟨G2, l2, r2, p2⟩ => ?_) fun _ _ e => e
  refine wpAny_mono (h3 A _ _ G2 s2 _ _ _ _ hA r2 (P.mono (l1.trans l2)).ne (p1.le l2) p2 e3) (fun _ s3 ⟨G3, l3, r3, _⟩ => ?_) fun _ _ e => e
  exact wpAny_deleteEach_nil ⟨G3, (l1.trans l2).trans l3, r3, trivial⟩
end
end Mine
end

section
open PySem PySem.W PySem.Calls PyProof.Rows
set_option Elab.async false
set_option maxRecDepth 20000
set_option linter.unusedVariables false
set_option linter.unusedSectionVars false
namespace Mine
def KIter (o : Obj) (d : Addr) (i n ep : Nat) : Prop := o.cls = .type "dict_keyiterator" ∧ o.data = .fields #[.ref d, .int i 0, .int n 0, .int ep 0]
def keysL (kvs : List (Str × Value)) : List AV := kvs.map fun p => .str p.1
/-- the keys of a dict that stays as it is -/
def itDct (W : Wd) (I d : Addr) (od : Obj) (es : Array DictEntry) (ep : Nat) (kvs : List (Str × Value)) (hO : od.ExactDict ∧ od.data = .dict es ep ∧ KeysOf (strKind W.prog W.w) es ∧ Pairs (strKind W.prog W.w) es.toList kvs ∧ (kvs.map (·.1)).Nodup) : It W (.ref I) where
  C := fun _ => True
  I := (· = I)
  K := fun _ => False
  T := fun _ => True
  J := fun l G => ∃ o i, G.kn I = some (.pin, o) ∧ KIter o d i kvs.length ep ∧ l = (keysL kvs).drop i ∧ G.kn d = some (.z, od) ∧ i ≤ kvs.length
  J1 := fun l _ G => ∃ o i, G.kn I = some (.pin, o) ∧ KIter o d i kvs.length ep ∧ l = (keysL kvs).drop i ∧ G.kn d = some (.z, od) ∧ i ≤ kvs.length
  mono := fun ⟨o, i, h1, h2, h3, h4, h5⟩ l => ⟨o, i, l.pin _ _ (.inl rfl) h1, h2, h3, l.z _ _ h4, h5⟩
  known := fun a ⟨o, _, h1, _⟩ e => by rcases e with e | e; (cases e; exact ⟨o, h1⟩); exact e.elim
  next := by
    rintro x l G σ s A hh hC ⟨o, i, h1, h2, h3, h4, h5⟩ r
    have hi : (keysL kvs)[i]? = some x := by
      have := congrArg (·[0]?) h3
      simpa using this.symm
    unfold keysL at hi
    rw [List.getElem?_map] at hi
    obtain ⟨⟨k, v⟩, hk, hx⟩ := Option.map_eq_some_iff.mp hi
    subst hx
    refine wpAny_pyNext_dict_item (knd := strKind W.prog W.w) ⟨o, r.sub _ _ _ h1, h2.1, h2.2⟩ ⟨od, es, r.sub _ _ _ h4, hO⟩ hk fun key h' hkey hit hs => ?_
    obtain ⟨o', e1, e2, e3⟩ := hit
    obtain ⟨r', lx⟩ := r.pin (tk := s.toks) h1 e1 fun b x hb e => (hs.2 b hb).trans e
    obtain ⟨t, rfl⟩ := Value.isStrOf_shape hkey
    refine ⟨_, _, rfl, lx, r', ⟨t, rfl⟩, o', i + 1, Gh.set_self, ⟨e2, e3⟩, ?_, lx.z _ _ h4, ?_⟩
    · have : (keysL kvs).drop (i + 1) = ((keysL kvs).drop i).drop 1 := by rw [List.drop_drop]
      rw [this, ← h3]; rfl
    · have := (List.getElem?_eq_some_iff.mp hk).1; omega
  go := by
    rintro l G σ s A mv target - ⟨o, i, h1, h2, h3, h4, h5⟩ r
    exact letGo_plain (r.sub _ _ _ h1) h2.1 (by decide) ⟨G, .refl _, r, o, i, h1, h2, h3, h4, h5⟩
  stop := by
    rintro G σ s A hh hC ⟨o, i, h1, h2, h3, h4, h5⟩ r
    have hi : kvs[i]? = Option.none := by
      have : (keysL kvs).length ≤ i := List.drop_eq_nil_iff.mp h3.symm
      unfold keysL at this
      rw [List.length_map] at this
      simp; omega
    refine wpAny_pyNext_dict_end (knd := strKind W.prog W.w) hh ⟨o, r.sub _ _ _ h1, h2.1, h2.2⟩ ⟨od, es, r.sub _ _ _ h4, hO⟩ hi fun h' hs => ?_
    obtain ⟨r', lx⟩ := r.drop (tk := s.toks) h1 fun b x hb e => hs b x hb e
    exact ⟨rfl, _, lx, r'⟩
  self := by
    rintro l G σ s A ⟨o, i, h1, h2, h3, h4, h5⟩ r
    exact wpAny_pyIter_keyiter ⟨o, r.sub _ _ _ h1, h2.1, h2.2⟩ ⟨rfl, rfl⟩
end Mine
end

section
open PySem PySem.W PySem.Calls PyProof.Rows
set_option Elab.async false
set_option maxRecDepth 20000
set_option linter.unusedVariables false
set_option linter.unusedSectionVars false
namespace Mine
def TIter (o : Obj) (d : Addr) (i : Nat) : Prop := o.cls = .type "tuple_iterator" ∧ o.data = .fields #[.ref d, .int i 0]
/-- the items of a tuple -/
def itTup (W : Wd) (I d : Addr) (vs : Array Value) (l₀ : List AV) : It W (.ref I) where
  C := fun _ => True
  I := (· = I)
  K := fun _ => False
  T := fun _ => True
  J := fun l G => ∃ o i, G.kn I = some (.pin, o) ∧ TIter o d i ∧ l = l₀.drop i ∧ G.kn d = some (.z, ⟨.type "tuple", Option.none, .seq vs 0, #[]⟩) ∧ i ≤ l₀.length ∧ RepVs (G.vw W) l₀ vs.toList
  J1 := fun l _ G => ∃ o i, G.kn I = some (.pin, o) ∧ TIter o d i ∧ l = l₀.drop i ∧ G.kn d = some (.z, ⟨.type "tuple", Option.none, .seq vs 0, #[]⟩) ∧ i ≤ l₀.length ∧ RepVs (G.vw W) l₀ vs.toList
  mono := fun ⟨o, i, h1, h2, h3, h4, h5, h6⟩ l => ⟨o, i, l.pin _ _ (.inl rfl) h1, h2, h3, l.z _ _ h4, h5, RepVs.mono l.vw _ _ h6⟩
  known := fun a ⟨o, _, h1, _⟩ e => by rcases e with e | e; (cases e; exact ⟨o, h1⟩); exact e.elim
  next := by
    rintro x l G σ s A hh hC ⟨o, i, h1, h2, h3, h4, h5, h6⟩ r
    have hi : l₀[i]? = some x := by
      have := congrArg (·[0]?) h3
      simpa using this.symm
    obtain ⟨mv, m1, m2⟩ := RepVs.get h6 hi
    rw [Array.getElem?_toList] at m1
    refine wpAny_pyNext_tuple_item ⟨o, r.sub _ _ _ h1, h2.1, h2.2⟩ ⟨_, r.sub _ _ _ h4, rfl, _, rfl⟩ m1 fun h' hit hs => ?_
    obtain ⟨o', e1, e2, e3⟩ := hit
    obtain ⟨r', lx⟩ := r.pin (tk := s.toks) h1 e1 fun b x hb e => (hs.2 b hb).trans e
    refine ⟨mv, _, rfl, lx, r', repX m2 lx, o', i + 1, Gh.set_self, ⟨e2, e3⟩, ?_, lx.z _ _ h4, ?_, RepVs.mono (lx.vw W) _ _ h6⟩
    · have : l₀.drop (i + 1) = (l₀.drop i).drop 1 := by rw [List.drop_drop]
      rw [this, ← h3]; rfl
    · have := (List.getElem?_eq_some_iff.mp hi).1; omega
  go := by
    rintro l G σ s A mv target - ⟨o, i, h1, h2, h3, h4, h5, h6⟩ r
    exact letGo_plain (r.sub _ _ _ h1) h2.1 (by decide) ⟨G, .refl _, r, o, i, h1, h2, h3, h4, h5, h6⟩
  stop := by
    rintro G σ s A hh hC ⟨o, i, h1, h2, h3, h4, h5, h6⟩ r
    have hlen := h6.length
    rw [Array.length_toList] at hlen
    have hi : vs[i]? = Option.none := by
      have : l₀.length ≤ i := List.drop_eq_nil_iff.mp h3.symm
      simp; omega
    refine wpAny_pyNext_tuple_end hh ⟨o, r.sub _ _ _ h1, h2.1, h2.2⟩ ⟨_, r.sub _ _ _ h4, rfl, _, rfl⟩ hi fun h' hs => ?_
    obtain ⟨r', lx⟩ := r.drop (tk := s.toks) h1 fun b x hb e => hs b x hb e
    exact ⟨rfl, _, lx, r'⟩
  self := by
    rintro l G σ s A ⟨o, i, h1, h2, h3, h4, h5, h6⟩ r
    exact wpAny_pyIter_tupleiter ⟨o, r.sub _ _ _ h1, h2.1, h2.2⟩ ⟨rfl, rfl⟩

/-- what is iterated: tuples, dicts that stay, and whatever itA knows -/
def itB (a : AV) : M (List AV × (St → Prop)) := match a with
  | .tup l => M.pure (l, fun _ => True)
  | .dct l => M.pure (l.map fun p => .str p.1, fun _ => True)
  | a => itA a
section
variable {W : Wd} {X : Sc} {n : Nat}
theorem RepVd_keys {V : Vw} : ∀ (l : List (Str × AV)) (kvs : List (Str × Value)), RepVd V l kvs → keysL kvs = l.map fun p => .str p.1
  | [], kvs, h => by cases h; rfl
  | (k, a) :: l, kvs, h => by
    obtain ⟨v, r, e, h1, h2⟩ := h
    subst e
    show _ :: keysL r = _ :: _
    rw [RepVd_keys l r h2]
theorem pyIter_B {A : Around} {σ σ' : St} {G : Gh} {s : Shared} {a : AV} {mv : Value} {l : List AV} {C : St → Prop} {tg : Expr} (r : R W G σ s) (p : Rep W G a mv) (hf : itB a σ = some ((l, C), σ')) :
    wpAny W.M A (pyIter mv) (ItPost W tg G σ' l C) (fun _ _ => False) s := by
  unfold itB at hf
  split at hf
  · cases hf
    obtain ⟨x, vs, _, e, hz, hr⟩ := p
    subst e
    have hk := Gh.z_iff.mp hz
    obtain ⟨r', le⟩ := r.alloc .pin (o := { cls := .type "tuple_iterator", data := .fields #[.ref x, .int 0 0] }) rfl (tk := s.toks)
    exact wpAny_pyIter_tuple ⟨_, r.z hz, rfl, _, rfl⟩ ⟨itTup W _ x vs _, _, le, r', rfl, trivial, ⟨_, 0, Gh.set_self, ⟨rfl, rfl⟩, rfl, le.z _ _ hk, Nat.zero_le _, Reps.le hr le⟩, fun a e o q => by cases e; rw [r.fresh] at q; cases q⟩
  · cases hf
    obtain ⟨x, o, kvs, e, hsy, hz, hd, hr⟩ := p
    subst e
    have hk := Gh.z_iff.mp hz
    obtain ⟨es, ep, d1, d2, d3, d4, d5⟩ : DictOb (strKind W.prog W.w) o kvs := hd
    obtain ⟨r', le⟩ := r.alloc .pin (o := { cls := .type "dict_keyiterator", data := .fields #[.ref x, .int 0 0, .int kvs.length 0, .int ep 0] }) rfl (tk := s.toks)
    rw [← RepVd_keys _ _ hr]
    exact wpAny_pyIter_dict (knd := strKind W.prog W.w) hsy ⟨o, es, r.z hz, d1, d2, d3, d4, d5⟩ ⟨itDct W _ x o es ep kvs ⟨d1, d2, d3, d4, d5⟩, _, le, r', rfl, trivial, ⟨_, 0, Gh.set_self, ⟨rfl, rfl⟩, rfl, le.z _ _ hk, Nat.zero_le _⟩, fun a e o q => by cases e; rw [r.fresh] at q; cases q⟩
  · exact pyIter_A r p hf
theorem SimIt.ofB {e tg : Expr} {f : M AV} (h : SimE W X n e f) : SimIt W X n e tg (M.bind f itB) := by
  intro env A σ l C σ' G s P hA r hf
  obtain ⟨a, σ1, e1, hf⟩ := M.bind_some hf
  refine wpAny_mono (h env A _ _ _ G s P hA r e1) (fun mv s1 ⟨G1, l1, r1, p1⟩ => ?_) fun _ _ e => e
  refine wpAny_mono (pyIter_B r1 p1 hf) (fun it s2 ⟨S, G2, l2, r2, c2, t2, j2, i2⟩ => ⟨S, G2, l1.trans l2, r2, c2, t2, j2, fun a ha o q => i2 a ha o (l1.pin _ _ q)⟩) fun _ _ e => e
end
end Mine
end

section
open PySem PySem.W PySem.Calls PyProof.Rows
set_option Elab.async false
set_option maxRecDepth 20000
set_option linter.unusedVariables false
set_option linter.unusedSectionVars false
namespace Mine
section
variable {W : Wd} {X : Sc} {n : Nat}
/-- an object is held fast for a while -/
theorem R.pinObj {G : Gh} {σ : St} {s : Shared} (r : R W G σ s) {d : Addr} {m : Hd} {od : Obj} (h : G.kn d = some (.obj m, od)) :
    R W (G.set d .pin od) { σ with st := fun k => if k = m then Option.none else σ.st k } s ∧ G.Le (G.set d .pin od) := by
  have le : G.Le (G.set d .pin od) := Gh.le_set fun t₀ o₀ e => by rw [h] at e; cases e; exact ⟨Tag.noConfusion, Tag.noConfusion⟩
  refine ⟨⟨⟨fun b o hb e => le.z _ _ (r.inv.base b o hb e), ?_, fun m' o e => ?_, r.inv.cnt, r.inv.sys.turn h Tag.noConfusion⟩, fun b t o e => ?_, r.os, r.gens⟩, le⟩
  · exact r.inv.frames.mono (le.vw W) fun b t' o' e ⟨_, _, q⟩ => Gh.set_keep e fun t₀ o₀ w => by
      rw [h] at w; cases w; rcases q with rfl | ⟨_, rfl⟩ <;> exact Tag.noConfusion
  · have e : (if m' = m then Option.none else σ.st m') = some o := e
    split at e
    · cases e
    · rename_i hm
      obtain ⟨a, ob, h1, h2, h3⟩ := r.inv.objs _ _ e
      refine ⟨a, ob, h1, Gh.set_keep h2 fun t₀ o₀ w => ?_, h3.mono (le.vw W)⟩
      rw [h] at w; cases w
      intro q
      cases q
      exact hm rfl
  · by_cases hb : b = d
    · subst hb; rw [Gh.set_self] at e; cases e; exact r.sub _ _ _ h
    · rw [Gh.set_ne hb] at e; exact r.sub _ _ _ e
/-- and let go again -/
theorem R.unpinObj {G : Gh} {σ : St} {s : Shared} (r : R W G σ s) {d : Addr} {m : Hd} {od : Obj} {o : AO} (h : G.kn d = some (.pin, od)) (hm : G.mu m = some d) (ho : ObjOK W (G.vw W) o od) :
    R W (G.set d (.obj m) od) { σ with st := fun k => if k = m then some o else σ.st k } s ∧ LeX (· = d) G (G.set d (.obj m) od) := by
  have k : ∀ b t x, G.kn b = some (t, x) → t ≠ .pin → (G.set d (.obj m) od).kn b = some (t, x) := fun b t x e ht => Gh.set_keep e fun t₀ o₀ w => by rw [h] at w; cases w; exact Ne.symm ht
  have lx : LeX (· = d) G (G.set d (.obj m) od) := ⟨fun b x e => k _ _ _ e Tag.noConfusion, fun b x hb e => by rw [Gh.set_ne hb]; exact e, fun _ _ e => e, rfl⟩
  refine ⟨⟨⟨fun b o hb e => k _ _ _ (r.inv.base b o hb e) Tag.noConfusion, ?_, fun m' o' e => ?_, r.inv.cnt, r.inv.sys.turn h Tag.noConfusion⟩, fun b t x e => ?_, r.os, r.gens⟩, lx⟩
  · exact r.inv.frames.mono (lx.vw W) fun b t' o' e ⟨_, _, q⟩ => k _ _ _ e (by rcases q with rfl | ⟨_, rfl⟩ <;> exact Tag.noConfusion)
  · have e : (if m' = m then some o else σ.st m') = some o' := e
    split at e
    · rename_i hm'
      cases e
      subst hm'
      exact ⟨d, od, hm, Gh.set_self, ho.mono (lx.vw W)⟩
    · obtain ⟨a, ob, h1, h2, h3⟩ := r.inv.objs _ _ e
      exact ⟨a, ob, h1, k _ _ _ h2 Tag.noConfusion, h3.mono (lx.vw W)⟩
  · by_cases hb : b = d
    · subst hb; rw [Gh.set_self] at e; cases e; exact r.sub _ _ _ h
    · rw [Gh.set_ne hb] at e; exact r.sub _ _ _ e
theorem RepKV.nth {κ : Type} {V : Vw} : ∀ {l : List (κ × AV)} {kvs : List (κ × Value)} {i : Nat} {k : κ} {a : AV}, RepKV V l kvs → l[i]? = some (k, a) → ∃ v, kvs[i]? = some (k, v) ∧ RepV V a v
  | [], _, _, _, _, _, e => by simp at e
  | (k', a') :: l, kvs, i, k, a, ⟨v, r, q, h1, h2⟩, e => by
    subst q
    cases i with
    | zero => simp at e; obtain ⟨rfl, rfl⟩ := e; exact ⟨v, by simp, h1⟩
    | succ i => simp at e; obtain ⟨v', e1, e2⟩ := RepKV.nth h2 e; exact ⟨v', by simpa using e1, e2⟩
end
end Mine
end

section
open PySem PySem.W PySem.Calls PyProof.Rows
set_option Elab.async false
set_option maxRecDepth 20000
set_option linter.unusedVariables false
set_option linter.unusedSectionVars false
namespace Mine
theorem entry_itemiter_iter : entryFor table "dict_itemiterator.__iter__" = some Builtin.«dict_keyiterator.__iter__» :=
  entryFor_alias (id' := "dict_keyiterator.__iter__") (by kernel_rfl) rfl (by decide +kernel) (by kernel_rfl)
theorem R.know {W : Wd} {G : Gh} {σ : St} {s : Shared} (r : R W G σ s) {a : Addr} {o : Obj} (h : G.kn a = Option.none) (ho : s.heap.get? a = some o) : R W (G.set a .z o) σ s ∧ G.Le (G.set a .z o) := by
  refine ⟨⟨r.inv.set (fun t₀ o₀ e => by rw [h] at e; cases e) (.inr rfl), fun b t x e => ?_, r.os, r.gens⟩, Gh.le_set (fun t₀ o₀ e => by rw [h] at e; cases e)⟩
  by_cases hb : b = a
  · subst hb; rw [Gh.set_self] at e; cases e; exact ho
  · rw [Gh.set_ne hb] at e; exact r.sub _ _ _ e
def ItOb (d : Addr) (i n ep : Nat) (ok ov f0 : Value) : Obj := { cls := .type "dict_itemiterator", dict := Option.none, data := .fields #[f0, .bool false, .ref d, .int i 0, .int n 0, .int ep 0, ok, ov], slots := #[] }
def itemsL (l : List (Str × AV)) : List AV := l.map fun p => .tup [.str p.1, p.2]
/-- the items of a dict that is held fast -/
def itItems (W : Wd) (I d : Addr) (hne : I ≠ d) (od : Obj) (es : Array DictEntry) (ep : Nat) (kvs : List (Str × Value)) (l₀ : List (Str × AV))
    (hO : od.ExactDict ∧ od.data = .dict es ep ∧ KeysOf (strKind W.prog W.w) es ∧ Pairs (strKind W.prog W.w) es.toList kvs ∧ (kvs.map (·.1)).Nodup) (hlen : kvs.length = l₀.length) : It W (.ref I) where
  C := fun _ => True
  I := (· = I)
  K := (· = d)
  T := fun t => ∃ es k p, t = .Tuple es k p
  J := fun l G => ∃ i ok ov, G.kn I = some (.pin, ItOb d i kvs.length ep ok ov .none) ∧ l = (itemsL l₀).drop i ∧ G.kn d = some (.pin, od) ∧ i ≤ l₀.length ∧ RepKV (G.vw W) l₀ kvs
  J1 := fun l mv G => ∃ i ok ov a, mv = .ref a ∧ G.kn I = some (.pin, ItOb d i kvs.length ep ok ov (rawInt a)) ∧ l = (itemsL l₀).drop i ∧ G.kn d = some (.pin, od) ∧ i ≤ l₀.length ∧ RepKV (G.vw W) l₀ kvs
  mono := fun ⟨i, ok, ov, h1, h2, h3, h4, h5⟩ l => ⟨i, ok, ov, l.pin _ _ (.inl rfl) h1, h2, l.pin _ _ (.inr rfl) h3, h4, RepKV.mono l.vw h5⟩
  known := fun a ⟨i, ok, ov, h1, h2, h3, _⟩ e => by rcases e with e | e <;> cases e <;> first | exact ⟨_, h1⟩ | exact ⟨_, h3⟩
  next := by
    rintro x l G σ s A hh hC ⟨i, ok, ov, h1, h2, h3, h4, h5⟩ r
    have hi : (itemsL l₀)[i]? = some x := by
      have := congrArg (·[0]?) h2
      simpa using this.symm
    unfold itemsL at hi
    rw [List.getElem?_map] at hi
    obtain ⟨⟨k, a⟩, hk, hx⟩ := Option.map_eq_some_iff.mp hi
    subst hx
    obtain ⟨v, hv, rv⟩ := h5.nth hk
    refine wpAny_pyNext_items_item (knd := strKind W.prog W.w) (r.sub _ _ _ h1) ⟨od, es, r.sub _ _ _ h3, hO⟩ hv fun key h' hkey hout htup hsz hs => ?_
    obtain ⟨r1, lx⟩ := r.pin (tk := s.toks) h1 hout fun b x hb e => hs b x hb e
    obtain ⟨t, rfl⟩ := Value.isStrOf_shape hkey
    have hIs : s.heap.objs.size ≠ I := Nat.ne_of_gt (Heap.lt_size (r.sub _ _ _ h1))
    obtain ⟨r2, le2⟩ := r1.know (a := s.heap.objs.size) ((Gh.set_ne hIs).trans r.fresh) htup
    have lxA := lx.trans (le2.toX (I := (· = I)))
    have hd1 : ∀ o', (G.set I .pin o').kn d = some (.pin, od) := fun o' => (Gh.set_ne (Ne.symm hne)).trans h3
    refine ⟨.ref s.heap.objs.size, _, rfl, lxA, r2, ⟨_, _, (), rfl, Gh.z_iff.mpr Gh.set_self, _, _, rfl, ⟨t, rfl⟩, _, _, rfl, RepV.mono (lxA.vw W) _ _ rv, rfl⟩, i + 1, _, _, _, rfl, le2.pin _ _ Gh.set_self, ?_, le2.pin _ _ (hd1 _), ?_, RepKV.mono (lxA.vw W) h5⟩
    · have : (itemsL l₀).drop (i + 1) = ((itemsL l₀).drop i).drop 1 := by rw [List.drop_drop]
      rw [this, ← h2]; rfl
    · have := (List.getElem?_eq_some_iff.mp hk).1; omega
  go := by
    rintro l G σ s A mv target ⟨es', k', p', rfl⟩ ⟨i, ok, ov, a, rfl, h1, h2, h3, h4, h5⟩ r
    refine wpAny_letOwnedTupleGo_items (r.sub _ _ _ h1) fun h' hit hs => ?_
    obtain ⟨r1, lx⟩ := r.pin (tk := s.toks) h1 hit fun b x hb e => (hs.2 b hb).trans e
    exact ⟨_, lx, r1, i, ok, ov, Gh.set_self, h2, by rw [Gh.set_ne (Ne.symm hne)]; exact h3, h4, RepKV.mono (lx.vw W) h5⟩
  stop := by
    rintro G σ s A hh hC ⟨i, ok, ov, h1, h2, h3, h4, h5⟩ r
    have hi : kvs[i]? = Option.none := by
      have : (itemsL l₀).length ≤ i := List.drop_eq_nil_iff.mp h2.symm
      unfold itemsL at this
      rw [List.length_map] at this
      simp; omega
    refine wpAny_pyNext_items_end (knd := strKind W.prog W.w) hh (r.sub _ _ _ h1) ⟨od, es, r.sub _ _ _ h3, hO⟩ hi fun h' hs => ?_
    obtain ⟨r', lx⟩ := r.drop (tk := s.toks) h1 fun b x hb e => hs b x hb e
    exact ⟨rfl, _, lx, r'⟩
  self := by
    rintro l G σ s A ⟨i, ok, ov, h1, h2, h3, h4, h5⟩ r
    have hT : s.TypeIs (.ref I) "dict_itemiterator" := ⟨_, r.sub _ _ _ h1, rfl⟩
    refine wpAny_pyIter_slot hT F.slot_dict_itemiterator_iter (wpAny_call_entry F.slot_dict_itemiterator_iter hT entry_itemiter_iter ?_ (F.args_dict_itemiterator_iter_1 _))
    show wpAny _ _ (ret (.ref I)) _ _ s
    exact wpAny_pure ⟨_, rfl, "dict_itemiterator", _, hT, F.slot_dict_itemiterator_next.lookup, rfl, rfl⟩
end Mine
end

section
open PySem PySem.W PySem.Calls PyProof.Rows
set_option Elab.async false
set_option maxRecDepth 20000
set_option linter.unusedVariables false
set_option linter.unusedSectionVars false
namespace Mine
section
variable {W : Wd} {X : Sc} {n : Nat}
noncomputable def forItems (fi : M AV) (tgt : AV → M Unit) (fb : M AFl) : M AFl := M.bind fi fun a => match a with
  | .view 1 (.ref m) => fun σ => match σ.st m with
    | some (.dictS l) => (match M.bind (forA (fun _ => True) tgt fb (itemsL l)) (fun | .done => M.pure .next | .brk => M.pure .next | .ret v => M.pure (.ret v)) { σ with st := fun k => if k = m then Option.none else σ.st k } with
      | some (fl, σ') => some (fl, { σ' with st := fun k => if k = m then some (.dictS l) else σ'.st k })
      | none => none)
    | _ => none
  | _ => M.fail
theorem RepFl.leX {G G' : Gh} {I} {fl : AFl} {f : Flow} (h : RepFl W G fl f) (x : LeX I G G') : RepFl W G' fl f := by
  cases fl <;> cases f <;> first | exact h.elim | trivial | exact repX h x
theorem SimS.forItems {target iter : Expr} {body : List Stmt} {pos : Pos} {fi : M AV} {tgt : AV → M Unit} {fb : M AFl} (hI : SimE W X n iter fi) (hT : SimT W X n target tgt) (hB : SimX W X n body fb)
    (ht : ∃ es k p, target = .Tuple es k p) (hs : ∀ env x, foldedSetIterable iter env x = pure x) : SimS W X n (.For target iter body [] pos) (Mine.forItems fi tgt fb) := by
  intro env A σ fl σ' G s P hA r hf
  obtain ⟨a, σ1, e1, hf⟩ := M.bind_some hf
  refine wpAny_For (wpAny_mono (hI env A σ a σ1 G s P hA r e1) (fun mv s1 ⟨G1, l1, r1, p1⟩ => ?_) fun _ _ e => e.elim) (hs env)
  split at hf
  · rename_i m _
    dsimp only at hf
    split at hf
    · rename_i l hst
      split at hf
      · rename_i fl' σ2 hl
        cases hf
        obtain ⟨x, dv, e, hz, hr⟩ := p1
        subst e
        obtain ⟨d, e, hm⟩ : ∃ d, dv = .ref d ∧ G1.mu m = some d := hr
        subst e
        obtain ⟨d', ob, h1, h2, kvs, h3, h4⟩ := r1.inv.objs _ _ hst
        rw [h1] at hm
        cases hm
        obtain ⟨es, ep, d1, d2, d3, d4, d5⟩ := h3
        refine wpAny_pyIter_items (knd := strKind W.prog W.w) (v := x) (d := d) ⟨_, r1.z hz, rfl, rfl⟩ ⟨ob, es, r1.sub _ _ _ h2, d1, d2, d3, d4, d5⟩ ?_
        obtain ⟨rp, lp⟩ := r1.pinObj h2
        obtain ⟨ri, li⟩ := rp.alloc .pin (o := ItOb d 0 kvs.length ep .none .none .none) rfl (tk := s1.toks)
        have hlen : kvs.length = l.length := h4.length
        have hne : s1.heap.objs.size ≠ d := Nat.ne_of_gt (Heap.lt_size (r1.sub _ _ _ h2))
        have hdp : (G1.set d .pin ob).kn d = some (.pin, ob) := Gh.set_self
        have leA := l1.trans lp
        refine codeAny_mono (for_loop hT hB SimX.nil hA (itItems W s1.heap.objs.size d hne ob es ep kvs l ⟨d1, d2, d3, d4, d5⟩ hlen) (G₀ := G1.set d .pin ob) li (fun a e o q => by cases e; rw [rp.fresh] at q; cases q) (P.mono leA) ri ht ⟨0, _, _, Gh.set_self, rfl, li.pin _ _ hdp, Nat.zero_le _, RepKV.mono ((lp.trans li).vw W) h4⟩ hl) fun res s3 h3 => ?_
        cases res with
        | error e => exact h3.elim
        | ok f =>
          obtain ⟨G3, l3, r3, p3⟩ := h3
          obtain ⟨r4, l4⟩ := r3.unpinObj (m := m) (o := .dictS l) (l3.pin _ _ hdp) (l3.mu _ _ (lp.mu _ _ h1)) ⟨kvs, ⟨es, ep, d1, d2, d3, d4, d5⟩, RepKV.mono ((lp.trans l3).vw W) h4⟩
          refine ⟨_, LeX.le (leA.trans l3) l4 (fun a e o q => ?_), r4, p3.leX l4⟩
          subst e
          rw [l1.pin _ _ q] at h2
          cases h2
      · cases hf
    · cases hf
  · cases hf
end
end Mine
end

section
open PySem PySem.W PySem.Calls PyProof.Rows
set_option Elab.async false
set_option maxRecDepth 20000
set_option linter.unusedVariables false
set_option linter.unusedSectionVars false
namespace Mine
section
variable {W : Wd} {X : Sc} {n : Nat}
/-- two arguments, and no keyword for `**kw` -/
theorem SimBind.kw0 (ok : W.Ok) {fd : FuncData} {a1 a2 kw : Arg} {ds : List Expr} {T : Addr} {o : Obj} {m : Nat} (hp : fd.params = { posonlyargs := [a1, a2], args := [], vararg := Option.none, kwonlyargs := [], kw_defaults := [], kwarg := some kw, defaults := ds }) (hd : fd.defaults = .ref T) (ho : W.K.lookup T = some o) (hs : o.data = .seq #[.none] m) (hne : (a1.arg == a2.arg) = false) :
    SimBind W fd [a1.arg, a2.arg, kw.arg] [] (fun args _ => match args with
      | [a, b] => some [a, b, .dct []]
      | _ => Option.none) := by
  intro A σ G s args kws ms ks' vals hA r hm hk' hf
  dsimp only at hf
  split at hf
  · rename_i a b
    cases hf
    obtain ⟨x, y, e, p1, p2⟩ := Reps.two hm
    subst e
    obtain ⟨r', le⟩ := r.alloc .z (o := emptyDict) rfl (tk := s.toks)
    obtain ⟨rp, _⟩ := r.alloc .pin (o := emptyDict) rfl (tk := s.toks)
    have hsy : (s.heap.objs.size == sysModules) = false := notSys rp ok Gh.set_self Tag.noConfusion
    refine bind_kw2 hp hd (r.kin ok _ _ ho) hs hne ⟨[x, y, .ref s.heap.objs.size], _, rfl, le, r', ⟨_, _, rfl, p1.le le, _, _, rfl, p2.le le, _, _, rfl, ⟨_, _, [], rfl, hsy, Gh.z_iff.mpr Gh.set_self, ⟨_, _, ⟨rfl, rfl, rfl⟩, rfl, fun e he => by simp at he, .nil, List.nodup_nil⟩, rfl⟩, rfl⟩, rfl⟩
  · cases hf
end
end Mine
end

section
open PySem PySem.W PySem.Calls PyProof.Rows
set_option Elab.async false
set_option maxRecDepth 20000
namespace Mine
section
variable {W : Wd} {X : Sc} {n : Nat}
def isNotA : AV → AV → M AV
  | a, .none => match a with
    | .none => M.pure (.bool false)
    | .int _ | .str _ | .bool _ | .clo _ | .lst _ | .ref _ | .dct _ => M.pure (.bool true)
    | _ => M.fail
  | _, _ => M.fail
theorem isNot_none {M : Model} {A : Around} {E : Value → Shared → Prop} {s : Shared} {a : Value} {Q : Value → Shared → Prop} (h : Q (.bool (!(a == .none))) s) : wpAny M A (compareOp .IsNot a .none) Q E s := isnot_none_gen h
theorem Op2.isNot : Op2 W (Rep W) n (compareOp .IsNot) isNotA := by
  intro A σ σ' G s a b c ma mb hA r pa pb hf
  unfold isNotA at hf
  split at hf
  · cases pb
    split at hf
    · cases hf; cases pa; exact isNot_none (.now r rfl)
    · cases hf; obtain ⟨t, rfl⟩ := pa; exact isNot_none (.now r rfl)
    · cases hf; obtain ⟨t, rfl⟩ := pa; exact isNot_none (.now r rfl)
    · cases hf; cases pa; exact isNot_none (.now r rfl)
    · cases hf; obtain ⟨x, o, e, _⟩ := pa; subst e; exact isNot_none (.now r rfl)
    · cases hf; obtain ⟨x, vs, k, e, _⟩ := pa; subst e; exact isNot_none (.now r rfl)
    · cases hf; obtain ⟨x, e, _⟩ := pa; subst e; exact isNot_none (.now r rfl)
    · cases hf; obtain ⟨x, o, kvs, e, _⟩ := pa; subst e; exact isNot_none (.now r rfl)
    · cases hf
  · cases hf
end
end Mine
end

section
open PySem PySem.W PySem.Calls PyProof.Rows
set_option Elab.async false
set_option maxRecDepth 20000
set_option linter.unusedVariables false
set_option linter.unusedSectionVars false
namespace Mine
structure CtrUpd (W : Wd) (fU T : Addr) (fd : FuncData) (a1 a2 kw : Arg) : Prop where
  at_ : ∃ o, W.K.lookup fU = some o ∧ o.data = .func fd
  params : ∃ ds, fd.params = { posonlyargs := [a1, a2], args := [], vararg := none, kwonlyargs := [], kw_defaults := [], kwarg := some kw, defaults := ds }
  dfl : fd.defaults = .ref T
  tup : ∃ o m, W.K.lookup T = some o ∧ o.data = .seq #[.none] m
  body : ∃ p0 k p1 p2 b1 p3 p4 b2 p5, fd.body = .stmts [.If (.Compare (.Name a2.arg p0) [.IsNot] [.Constant .none k p1] p2) b1 [] p3, .If (.Name kw.arg p4) b2 [] p5]
  s1 : fd.scope.names.lookup a1.arg = some .local
  s2 : fd.scope.names.lookup a2.arg = some .local
  s3 : fd.scope.names.lookup kw.arg = some .local
  d12 : (a1.arg == a2.arg) = false
  d23 : (a2.arg == kw.arg) = false
  b2 : (a2.arg == ("__debug__" : Str)) = false
  b3 : (kw.arg == ("__debug__" : Str)) = false
  nc : ∀ x ∈ fd.scope.names, x.2 ≠ .cell
  kind : fd.scope.kind = .function
  co : fd.scope.isCoroutine = false
  gen : fd.scope.isGenerator = false
  code : ∃ c o vs t, fd.code = .ref c ∧ W.K.lookup c = some o ∧ o.data = .fields vs ∧ vs[1]? = some (.str fd.qualname t)
section
variable {W : Wd} {n : Nat}
def updF : List AV → List AV → M AV
  | [_, .none], _ => M.pure .none
  | _, _ => M.fail
theorem SimCall.upd (ok : W.Ok) {fU T : Addr} {fd : FuncData} {a1 a2 kw : Arg} (c : CtrUpd W fU T fd a1 a2 kw) : SimCall W (n + 1) (.ref fU) [] updF := by
  intro A σ σ' G s args kws ms ks' v hA r hne hm hk' hf
  unfold updF at hf
  split at hf
  · cases hf
    obtain ⟨x, y, e, p1, p2⟩ := Reps.two hm
    cases p2
    subst e
    obtain ⟨of, hof, hfd⟩ := c.at_
    obtain ⟨ds, hpar⟩ := c.params
    obtain ⟨oT, mT, hT, hTd⟩ := c.tup
    obtain ⟨p0, k, p1', p2', b1, p3, p4, b2, p5, hbody⟩ := c.body
    obtain ⟨cda, oc, vs, tc, hco, hcd, hvs, hv1⟩ := c.code
    have X := r.kin ok
    show codeAny W.M A (.call (.ref fU) ⟨[x, .none], []⟩) _ s
    refine enterA (binds := [(a1.arg, x), (a2.arg, .none), (kw.arg, .ref s.heap.objs.size)]) (s1 := { s with heap := s.heap.push emptyDict }) hA.room1 (X _ _ hof) hfd hbody ⟨cda, oc, vs, tc, hco, X _ _ hcd, hvs, hv1⟩ c.co c.gen c.kind c.nc ?_ (fun Q E hQ => bind_kw2 hpar c.dfl (X _ _ hT) hTd c.d12 hQ) ?_
    · intro x hx
      simp only [List.mem_cons, List.not_mem_nil, or_false] at hx
      rcases hx with rfl | rfl | rfl
      · exact c.s1
      · exact c.s2
      · exact c.s3
    · intro h₀ hns k0
      have kd : (s.heap.push emptyDict).get? s.heap.objs.size = some emptyDict := Heap.get?_push_size _ rfl
      have k1 : ∀ b o, s.heap.get? b = some o → h₀.get? b = some o := fun b o q => k0 _ _ (Heap.get?_push_of_some _ q)
      have r1 : R W G σ { s with heap := h₀ , toks := s.toks + 3 } := r.keep (tk := s.toks + 3) k1
      refine ⟨r1.lim ok, ?_⟩
      have e2 : [(a1.arg, x), (a2.arg, Value.none), (kw.arg, .ref s.heap.objs.size)].reverse.lookup a2.arg = some .none := by
        show List.lookup a2.arg [(kw.arg, Value.ref s.heap.objs.size), (a2.arg, .none), (a1.arg, x)] = _
        rw [List.lookup_cons, c.d23]; simp
      have e3 : [(a1.arg, x), (a2.arg, Value.none), (kw.arg, .ref s.heap.objs.size)].reverse.lookup kw.arg = some (.ref s.heap.objs.size) := by
        show List.lookup kw.arg [(kw.arg, Value.ref s.heap.objs.size), (a2.arg, .none), (a1.arg, x)] = _
        simp
      have hk3 : (callEnv fd (s.heap.push emptyDict).objs.size fU).scope.kind = .function := c.kind
      refine PySem.wpAt_of_wpAny ?_
      have X1 := r1.kin ok
      have hsys : s.heap.objs.size ≠ sysModules := by
        obtain ⟨rp, _⟩ := r.alloc .pin (o := emptyDict) rfl (tk := s.toks)
        exact ne_of_beq_false (notSys rp ok Gh.set_self Tag.noConfusion)
      have kd2 : h₀.get? s.heap.objs.size = some emptyDict := k0 _ _ kd
      have hD : h₀.DictOf (strKind W.prog W.w) s.heap.objs.size [] := ⟨emptyDict, #[], 0, kd2, ⟨rfl, rfl, rfl⟩, rfl, (fun e he => by simp at he), .nil, List.nodup_nil⟩
      refine wpAny_execs_cons (wpAny_If (wpAny_isTrue_Compare1 (wpAny_Name (wpAny_loadName_local hk3 c.s2 hns e2 (wpAny_Constant_none (isNot_none ?_))) c.b2) rfl))
      refine wpAny_truthy_bool ?_
      refine wpAny_execs_nil ?_
      dsimp only
      refine wpAny_execs_cons (wpAny_If (wpAny_isTrue_value (wpAny_Name (wpAny_loadName_local hk3 c.s3 hns e3 ?_) c.b3) rfl))
      refine wpAny_truthy_dict (knd := strKind W.prog W.w) (beq_false_of_ne hsys) hD (by decide) ?_
      refine wpAny_execs_nil ?_
      refine wpAny_execs_nil ?_
      exact ⟨G, .refl _, r1.keep (tk := _) fun _ _ q => q, rfl⟩
  · cases hf
end
end Mine
end

section
open PySem PySem.W PySem.Calls PyProof.Rows
set_option Elab.async false
set_option maxRecDepth 20000
namespace Mine
theorem kind_dn : builtinKind "dict.__new__" = some .builtinFn := by decide +kernel
theorem split_dn : splitId "dict.__new__" = some ("dict", "__new__") := by decide +kernel
theorem args_dn (a : Value) : argsOk "dict.__new__" ⟨[a], []⟩ := by unfold argsOk; kernel_rfl
theorem newname_dn : ("__new__" == "__new__") = true := by decide +kernel

theorem ctrMk_of {K : Frag} {C fI : Addr} {oc : Value} {od : Option Addr} {cd : ClassData} {sl : Array (Option Value)} {c0 : Value} {l0 : List Value} (ho : K.lookup C = some ⟨oc, od, .cls cd, sl⟩) (hdel : cd.hasDel = false) (hl : cd.mro = c0 :: l0)
    (h4 : (sl.toList[4]?).join = some (.builtin "dict.__new__")) (hcall : specialIn K (.ref C) "__call__" = some (some (.builtin "type.__call__")))
    (htyp : instIn K (.ref C) (.type "type") = some true) (hsd : mroIn K C (.type "dict") = some true) (hself : mroIn K C (.ref C) = some true)
    (hbad : (cd.mro.any fun | .type n => !["dict", "object", "collections.defaultdict", "collections.OrderedDict"].contains n | _ => false) = false)
    (hinit : findIn K (.ref C) "__init__" = some (some (.ref fI))) (hfn : typeIn K (.ref fI) = some (.type "function")) : CtrMk K C fI := by
  have hc : clsIn K C = some cd := by unfold clsIn; rw [ho]
  have hm : ∀ M h, K.In h → Looks M h (mroOf (.ref C)) cd.mro := fun M h X => (looks_clsIn X hc).andThen .now
  have made : ∀ M h, K.In h → Looks M h (Bind.madeBy (.ref C)) (some "dict.__new__") := by
    intro M h X A Q E s k q
    unfold Bind.madeBy
    refine wpAny_bind (hm M h X A _ E s k ?_)
    rw [hl, List.forIn_cons]
    refine wpAny_bind (wpAny_bind (wpAny_bind (wpAny_bind (wpAny_loadPart (k _ _ (X _ _ ho)) (wpAny_pure ?_)))))
    dsimp only
    rw [← Array.getElem?_toList, h4]
    exact wpAny_pure (wpAny_pure (wpAny_pure q))
  have isty : ∀ M h, K.In h → Looks M h (isType (.ref C)) true := by
    intro M h X A Q E s k q
    unfold isType
    exact wpAny_bind (wpAny_loadPart (k _ _ (X _ _ ho)) (wpAny_pure q))
  have base : ∀ M h, K.In h → Looks M h (Bind.staticBase (.ref C)) (.ref C) := by
    intro M h X A Q E s k q
    unfold Bind.staticBase
    refine wpAny_bind (hm M h X A _ E s k ?_)
    rw [hl, List.forIn_cons]
    exact wpAny_bind (wpAny_bind (wpAny_bind (made M h X A _ E s k (wpAny_pure (wpAny_pure (wpAny_pure q))))))
  refine ⟨⟨_, ho, cd, rfl, hdel, by rw [hl]; rfl⟩, fun M h X => looks_specialIn X hcall, fun M h X => looks_instIn X htyp, made, ?_, isty, fun M h X => looks_mroIn X hsd, ⟨cd.mro, hm, by rw [hl]; rfl, hbad⟩, fun M h X => looks_mroIn X hself, fun M h X => looks_findIn X hinit, hfn⟩
  intro M h X A Q E s k q
  have tail : wpAny M A (match Manifest.signature? "dict.__new__" with | some sig => Bind.checkArgs "dict.__new__" sig ⟨[.ref C], []⟩ | none => pure ()) Q E s := by
    cases hsig : Manifest.signature? "dict.__new__" with
    | none => exact wpAny_pure q
    | some sig =>
      have ha := args_dn (.ref C)
      simp only [argsOk, hsig] at ha
      have h2 : Bind.checkArgs "dict.__new__" sig ⟨[.ref C], []⟩ = pure () := ha
      show wpAny M A (Bind.checkArgs "dict.__new__" sig ⟨[.ref C], []⟩) Q E s
      rw [h2]; exact wpAny_pure q
  simp only [checkBuiltinCall, kind_dn, split_dn, newname_dn, if_true]
  refine wpAny_bind (isty M h X A _ E s k ?_)
  simp only [Bool.not_true, Bool.false_eq_true, if_false]
  refine wpAny_bind (looks_mroIn X hsd A _ E s k ?_)
  simp only [Bool.not_true, Bool.false_eq_true, if_false]
  refine wpAny_bind (base M h X A _ E s k ?_)
  refine wpAny_bind (made M h X A _ E s k ?_)
  dsimp only
  rw [show (Manifest.canonical "dict.__new__" != Manifest.canonical "dict.__new__") = false from by simp]
  cases hsig : Manifest.signature? "dict.__new__" with
  | none => exact wpAny_pure q
  | some sig => rw [hsig] at tail; exact tail
end Mine
end

section
open PySem PySem.W PySem.Calls PyProof.Rows
set_option Elab.async false
set_option maxRecDepth 100000
namespace Mine
theorem look_fn_ga : Slot "function" "__getattribute__" "object.__getattribute__" :=
  .of (owner := "object") (n := "__getattribute__") (by rw [typeLookup_type, builtinLookup_eq_fast]; kernel_rfl) (by decide +kernel) (by decide +kernel) (by decide +kernel) (.inl (by decide +kernel)) (by rw [isSubtype_type]; kernel_rfl)
theorem lk_fn_class : typeLookup (.type "function") "__class__" = pure (some (.builtin "object.__class__")) := by rw [typeLookup_type, builtinLookup_eq_fast]; kernel_rfl
theorem sub_fn_class_owner : isSubtype (.type "function") (.type (".".intercalate ("object.__class__".cutAt '.').dropLast)) = pure true := by
  rw [PySem.F.owner_object_class, isSubtype_type]; kernel_rfl
section
variable {prog : Program} {w : World} {A : Around} {E : Value → Shared → Prop} {h : Heap} {g : Array GenState} {d : Drawn} {t : Nat} {os : OsState} {a : Addr} {o : Obj}
theorem fnc_get {R : Result → Shared → Prop} (hx : h.get? a = some o) (hc : o.cls = .type "function") (hq : R (.ok (.ret (.type "function"))) ⟨h, g, d, t, os⟩) :
    codeAny (model prog w) A (.call (.builtin "getset_descriptor.__get__") ⟨[.builtin "object.__class__", .ref a, .type "function"], []⟩) R ⟨h, g, d, t, os⟩ := by
  have hT : (⟨h, g, d, t, os⟩ : Shared).TypeIs (.ref a) "function" := ⟨_, hx, hc⟩
  have hT5 : (⟨h, g, d, t, os⟩ : Shared).TypeIs (.builtin "object.__class__") "getset_descriptor" := PySem.F.typeOf_object_class
  have f8 := sub_fn_class_owner
  refine codeAny_call_builtin PySem.F.slot_gs_get.plain PySem.F.entry_gs_get (PySem.F.slot_gs_get.check _ _ _ _ _ _ _ _ hT5 (PySem.F.args_gs_get _ _ _) ?_)
  repeat (any_goals (first | assumption | wp_step))
  refine ⟨Code.quiet_builtin _ (by decide +kernel), codeAny_builtin PySem.F.entry_object_class ?_⟩
  repeat (any_goals (first | assumption | wp_step))
theorem entry_ga' : entryFor table "object.__getattribute__" = some Builtin.«object.__getattribute__» := entryFor_of_tree (by kernel_rfl)
theorem args_ga' (a b : Value) : argsOk "object.__getattribute__" ⟨[a, b], []⟩ := by unfold argsOk; kernel_rfl
theorem fnc_entry {tk : Tok} {Q : Fin → Shared → Prop} (hx : h.get? a = some o) (hc : o.cls = .type "function") (hq : Q (.done (.ret (.type "function"))) ⟨h, g, d, t, os⟩) :
    wpAny (model prog w) A (Builtin.«object.__getattribute__» ⟨[.ref a, .str "__class__" tk], []⟩) Q E ⟨h, g, d, t, os⟩ := by
  have hT : (⟨h, g, d, t, os⟩ : Shared).TypeIs (.ref a) "function" := ⟨_, hx, hc⟩
  have hT5 : (⟨h, g, d, t, os⟩ : Shared).TypeIs (.builtin "object.__class__") "getset_descriptor" := PySem.F.typeOf_object_class
  have f4 := lk_fn_class
  have f5 := PySem.F.typeOf_object_class
  have f6 := PySem.F.slot_gs_get.lookup
  have f7 := PySem.F.slot_gs_set.lookup
  repeat (any_goals (first | assumption | wp_step))
  refine fnc_get hx hc ?_
  repeat (any_goals (first | assumption | wp_step))
theorem fnc_attr {Q : Option Value → Shared → Prop} (hx : h.get? a = some o) (hc : o.cls = .type "function") (hq : Q (some (.type "function")) ⟨h, g, d, t + 1, os⟩) : wpAny (model prog w) A (getAttr? (.ref a) "__class__") Q E ⟨h, g, d, t, os⟩ := by
  have hT : ∀ t, (⟨h, g, d, t, os⟩ : Shared).TypeIs (.ref a) "function" := fun _ => ⟨_, hx, hc⟩
  have f2 := look_fn_ga.lookup
  have f3 := look_fn_ga.bind (.ref a)
  have hT := hT t
  unfold getAttr? getAttrBy?
  repeat (any_goals (first | assumption | wp_step))
  rw [hc, f2]
  refine wpAny_pure ?_
  dsimp only
  refine wpAny_ite_split (fun h => ?_) (fun _ => ?_)
  · simp [onTheHeap] at h
  unfold getAttrByItsOwn
  repeat (any_goals (first | assumption | wp_step))
  have hT1 : (⟨h, g, d, t + 1, os⟩ : Shared).TypeIs (.ref a) "function" := ⟨_, hx, hc⟩
  refine codeAny_call_builtin look_fn_ga.plain entry_ga' (look_fn_ga.check _ _ _ _ _ _ _ _ hT1 (args_ga' _ _) (fnc_entry hx hc ?_))
  exact wpAny_pure (wpAny_pure hq)
theorem isn_fn {T : String} {dep : Int} {tk : Tok} {Q : Fin → Shared → Prop} (hx : h.get? a = some o) (hc : o.cls = .type "function") (hne : (Value.type "function" == Value.type T) = false) (hty : typeOf (.type T) = pure (.type "type"))
    (hsub : isSubtype (.type "function") (.type T) = pure false) (hq : Q (.done (.ret (.bool false))) ⟨h, g, d, t + 1, os⟩) :
    wpAny (model prog w) A (Builtin.«isinstance.nested» ⟨[.ref a, .type T, .int dep tk], []⟩) Q E ⟨h, g, d, t, os⟩ := by
  have hT : (⟨h, g, d, t, os⟩ : Shared).TypeIs (.ref a) "function" := ⟨_, hx, hc⟩
  repeat (any_goals (first | assumption | with_reducible apply fnc_attr hx hc | wp_step))
theorem ans_fn {T : String} (hne : (Value.type "function" == Value.type T) = false) (hty : typeOf (.type T) = pure (.type "type")) (hsub : isSubtype (.type "function") (.type T) = pure false) :
    Answers (fun s => s.TypeIs (.ref a) "function") (.ref a) (.type T) false :=
  fun _ _ _ _ _ _ s hs => by
    obtain ⟨h, g, d, t, os⟩ := s
    obtain ⟨⟨o, hx, hc⟩, hq⟩ := hs
    exact isn_fn hx hc hne hty hsub (hq (t + 1))
end
end Mine
end

section
open PySem PySem.W PySem.Calls PyProof.Rows
set_option Elab.async false
set_option maxRecDepth 100000
namespace Mine
section
variable {W : Wd} {n : Nat}
def tyB (σ : St) : AV → Option String
  | .clo _ => some "function"
  | a => tyA σ a
def knownT : List String := ["str", "bytes", "int", "list", "tuple", "dict", "set"]
def tyNm : List AV → Option (List String)
  | [] => some []
  | .mc (.type T) :: l => if T ∈ knownT then (tyNm l).map (T :: ·) else none
  | _ => none
def isiTF : List AV → List AV → M AV
  | [a, .tup ts], [] => fun σ => match tyB σ a with
    | some Tx => (match tyNm ts with
      | some Ts => some (.bool (Ts.any fun T => decide (Tx = T)), σ)
      | none => none)
    | none => none
  | _, _ => M.fail
theorem isiAny (Tx T : String) (h : Tx = "int" ∨ Tx = "str" ∨ Tx = "list" ∨ Tx = "dict" ∨ Tx = "function") (hT : T ∈ knownT) : IsiOK Tx T (decide (Tx = T)) := by
  simp only [knownT, List.mem_cons, List.not_mem_nil, or_false] at hT
  rcases hT with rfl | rfl | rfl | rfl | rfl | rfl | rfl <;> rcases h with rfl | rfl | rfl | rfl | rfl <;>
    exact ⟨by kernel_rfl, by rw [isSubtype_type]; kernel_rfl, by decide⟩
theorem tyB_five {σ : St} {a : AV} {Tx : String} (h : tyB σ a = some Tx) : Tx = "int" ∨ Tx = "str" ∨ Tx = "list" ∨ Tx = "dict" ∨ Tx = "function" := by
  unfold tyB at h
  split at h
  · cases h; simp
  · rcases tyA_four h with h | h | h | h <;> simp [h]
theorem clo_fn {G : Gh} {σ : St} {s : Shared} (r : R W G σ s) {k : Nat} {mv : Value} (p : Rep W G (.clo k) mv) : ∃ a o, mv = .ref a ∧ s.heap.get? a = some o ∧ o.cls = .type "function" := by
  obtain ⟨a, o, e, hz, sk, fd, h1, h2, _⟩ := p
  exact ⟨a, o, e, r.z hz, h2⟩
theorem tyB_ans {G : Gh} {σ : St} {s : Shared} (r : R W G σ s) {a : AV} {mv : Value} {Tx : String} (p : Rep W G a mv) (ht : tyB σ a = some Tx) :
    s.TypeIs mv Tx ∧ ∀ T ∈ knownT, Answers (fun s => s.TypeIs mv Tx) mv (.type T) (decide (Tx = T)) := by
  have h5 := tyB_five ht
  unfold tyB at ht
  split at ht
  · cases ht
    obtain ⟨x, o, e, h1, h2⟩ := clo_fn r p
    subst e
    refine ⟨⟨o, h1, h2⟩, fun T hT => ?_⟩
    have hI := isiAny "function" T h5 hT
    have hd : decide ("function" = T) = false := by
      simp only [knownT, List.mem_cons, List.not_mem_nil, or_false] at hT
      rcases hT with rfl | rfl | rfl | rfl | rfl | rfl | rfl <;> decide
    rw [hd] at hI ⊢
    exact ans_fn (hI.ne rfl) hI.meta' hI.sub
  · obtain ⟨t1, _⟩ := r.tyIs p ht
    exact ⟨t1, fun T hT => (isiAny Tx T h5 hT).ans r p ht (tyA_four ht)⟩
theorem tyNm_reps {G : Gh} : ∀ {ts : List AV} {Ts : List String} {vs : List Value}, tyNm ts = some Ts → Reps W G ts vs → vs = Ts.map .type ∧ ∀ T ∈ Ts, T ∈ knownT
  | [], Ts, vs, h, p => by cases h; cases p; exact ⟨rfl, fun T h => by cases h⟩
  | x :: l, Ts, vs, h, p => by
    unfold tyNm at h
    split at h
    · rename_i hh; cases hh
    · rename_i T l' e
      cases e
      split at h
      · rename_i hT
        cases hl : tyNm l with
        | none => rw [hl] at h; cases h
        | some Ts' =>
          rw [hl] at h; cases h
          obtain ⟨v, r, e1, e2, e3⟩ := p
          cases e2
          obtain ⟨q1, q2⟩ := tyNm_reps hl e3
          subst e1 q1
          exact ⟨rfl, fun T' h' => by rcases List.mem_cons.mp h' with rfl | h'; exact hT; exact q2 _ h'⟩
      · cases h
    · cases h
theorem answersAll {P : Shared → Prop} {x : Value} {Tx : String} : ∀ {Ts : List String}, (∀ T ∈ Ts, Answers P x (.type T) (decide (Tx = T))) → AnswersAll P x (Ts.map .type) (Ts.map fun T => decide (Tx = T))
  | [], _ => trivial
  | T :: l, h => ⟨h T (by simp), answersAll fun T' h' => h T' (by simp [h'])⟩
theorem SimV.isiT : SimV W n (.builtin "isinstance") [] isiTF := by
  intro A σ σ' G s args kws ms ks' v hA r hne p2 p3 hf
  refine ⟨.bi, ?_⟩
  unfold isiTF at hf
  split at hf
  · split at hf
    · rename_i Tx ht
      split at hf
      · rename_i Ts hT
        cases hf
        obtain ⟨x, y, e, p, q⟩ := Reps.two p2
        rw [zipNil p3]
        subst e
        obtain ⟨t, vs, _, e, hz, hr⟩ := q
        subst e
        obtain ⟨q1, q2⟩ := tyNm_reps hT hr
        obtain ⟨a1, a2⟩ := tyB_ans r p ht
        have hq := r.z hz
        refine IsiPair.tupleOf (cs := Ts.map .type) (vs := Ts.map fun T => decide (Tx = T)) (answersAll fun T h' => a2 T (q2 T h')) a1 ?_ fun tk => ?_
        · rw [hq]
          rw [← q1]
        · rw [List.any_map]
          exact .now r.tok rfl
      · cases hf
    · cases hf
  · cases hf
end
end Mine
end

section
open PySem PySem.W PySem.Calls PyProof.Rows
set_option Elab.async false
set_option maxRecDepth 20000
namespace Mine
section
variable {W : Wd} {X : Sc} {n : Nat}
/-- try the one, else the other -/
def orA {α : Type} (f g : M α) : M α := fun σ => match f σ with
  | some r => some r
  | none => g σ
theorem orA_some {α : Type} {f g : M α} {σ : St} {r : α × St} (h : orA f g σ = some r) : f σ = some r ∨ g σ = some r := by
  unfold orA at h
  split at h
  · rename_i r' e; cases h; exact .inl e
  · exact .inr h
theorem Sim.or {α β : Type} {rep : Gh → β → α → Prop} {P : Fa} {t : Env → Sem α} {f g : M β} (h1 : Sim W rep P n t f) (h2 : Sim W rep P n t g) : Sim W rep P n t (orA f g) := fun env A σ b σ' G s Pe hA r hf =>
  (orA_some hf).elim (fun h => h1 env A σ b σ' G s Pe hA r h) (fun h => h2 env A σ b σ' G s Pe hA r h)
theorem Op2.or {α β : Type} {rep : Gh → β → α → Prop} {t : Value → Value → Sem α} {f g : AV → AV → M β} (h1 : Op2 W rep n t f) (h2 : Op2 W rep n t g) : Op2 W rep n t (fun a b => orA (f a b) (g a b)) := by
  intro A σ σ' G s a b c ma mb hA r pa pb hf
  exact (orA_some hf).elim (fun h => h1 A σ σ' G s a b c ma mb hA r pa pb h) (fun h => h2 A σ σ' G s a b c ma mb hA r pa pb h)
end
end Mine
end

section
open PySem PySem.W PySem.Calls PyProof.Rows
set_option Elab.async false
set_option maxRecDepth 20000
namespace Mine
section
variable {W : Wd} {X : Sc} {n : Nat}
def zipK : List (Option Expr) → List Expr → List (Expr × Expr)
  | some k :: ks, v :: vs => (k, v) :: zipK ks vs
  | _, _ => []
theorem SimE.dictzK (ok : W.Ok) {keys : List (Option Expr)} {values : List Expr} {pos : Pos} {f : M (List (AV × AV))} (h : SimPs W X n (zipK keys values) f)
    (hsh : ∀ env, (evalEachOpt keys env).zip ((evalEach values env).map fun v => do let x ← v; standAt pos; pure x) = ((zipK keys values).map fun p => (eval p.1 env, do let x ← eval p.2 env; standAt pos; pure x)).map fun p => (some p.1, p.2)) (h0 : (zipK keys values).isEmpty = false) (hlen : (zipK keys values).length ≤ 15) :
    SimE W X n (.Dict keys values pos) (M.bind f dictZ) := SimE.dictz ok _ h hsh (fun e => by rw [e] at h0; cases h0) hlen
theorem SimE.dictK (ok : W.Ok) (site : Nat) {keys : List (Option Expr)} {values : List Expr} {pos : Pos} {f : M (List (AV × AV))} (h : SimPs W X n (zipK keys values) f)
    (hsh : ∀ env, (evalEachOpt keys env).zip ((evalEach values env).map fun v => do let x ← v; standAt pos; pure x) = ((zipK keys values).map fun p => (eval p.1 env, do let x ← eval p.2 env; standAt pos; pure x)).map fun p => (some p.1, p.2)) (h0 : (zipK keys values).isEmpty = false) (hlen : (zipK keys values).length ≤ 15) :
    SimE W X n (.Dict keys values pos) (M.bind f (dictN site)) := SimE.dict ok site _ h hsh (fun e => by rw [e] at h0; cases h0) hlen
end
theorem SimBind.kw2e {W : Wd} (ok : W.Ok) {fd : FuncData} {p1 p2 p3 k1 k2 : Str} {T : Addr} {o : Obj} {its : Array Value} {m : Nat} (hd : fd.defaults = .ref T) (ho : W.K.lookup T = some o) (hs : o.data = .seq its m) (hne : k1 ≠ k2)
    (hb : ∀ x y u v, ∃ k, bindArgs fd ⟨[x, y], [(k1, u), (k2, v)]⟩ = seqItems? fd.defaults >>= k ∧ k (some its) = (do
      let d ← alloc { cls := .type "dict", data := .dict #[] }
      for (k, v) in [(k1, u), (k2, v)] do nsSet d k v
      pure [(p1, x), (p2, y), (p3, .ref d)])) :
    SimBind W fd [p1, p2, p3] [k1, k2] (fun args kws => match args, kws with
      | [a, b], [c, d] => some [a, b, .dct [(k1, c), (k2, d)]]
      | _, _ => none) := by
  intro A σ G s args kws ms ks' vals hA r hm hk' hf
  dsimp only at hf
  split at hf
  · rename_i a b c d
    cases hf
    obtain ⟨x, y, e, q1, q2⟩ := Reps.two hm
    obtain ⟨u, v, e', q3, q4⟩ := Reps.two hk'
    subst e e'
    show wpAny W.M A (bindArgs fd ⟨[x, y], [(k1, u), (k2, v)]⟩) _ _ s
    obtain ⟨k, e1, e2⟩ := hb x y u v
    rw [e1, hd]
    refine wpAny_bind (wpAny_seqItems (r.kin ok _ _ ho) hs ?_)
    rw [e2]
    have e3 : (do
      let d ← alloc { cls := .type "dict", data := .dict #[] }
      for (k, v) in [(k1, u), (k2, v)] do nsSet d k v
      pure [(p1, x), (p2, y), (p3, Value.ref d)] : Sem _) = (do
      let d ← alloc { cls := .type "dict", data := .dict #[] }
      for (k, v) in [(k1, u), (k2, v)] do nsSet d k v
      pure d) >>= fun d => pure [(p1, x), (p2, y), (p3, Value.ref d)] := by
      simp only [bind_assoc, pure_bind]
    rw [e3]
    refine wpAny_bind (gather2 ok r hne q3 q4 fun dd G' s' l' r' p' => wpAny_pure ?_)
    exact ⟨[x, y, .ref dd], G', rfl, l', r', ⟨_, _, rfl, Rep.le q1 l', _, _, rfl, Rep.le q2 l', _, _, rfl, p', rfl⟩, rfl⟩
  · cases hf
theorem SimV.up {W : Wd} {n m : Nat} {f : Value} {ks : List Str} {g : List AV → List AV → M AV} (hm : m ≤ n) (h : SimV W m f ks g) : SimV W n f ks g :=
  fun A σ σ' G s args kws ms ks' v hA r hne h1 h2 hf => h A σ σ' G s args kws ms ks' v (hA.less hm) r hne h1 h2 hf
theorem findObj_meth {K : Frag} {C f : Addr} {od : Obj} {name : Str} (hh : hasDictIn K C = true) (ha : findIn K (.ref C) name = some (some (.ref f))) (hg : specialIn K (.ref f) "__get__" = some (some (.builtin "function.__get__"))) (ht : takesIn K (.ref f) = some false)
    (hc : copiedNames.contains name = false) (hl : PySem.W.lookIn name od = some Option.none) : findObj K C (some od) name = some (.bind (.builtin "function.__get__") (.ref f)) := by
  unfold hasDictIn at hh
  cases hcl : clsIn K C with
  | none => rw [hcl] at hh; simp at hh
  | some cd =>
    rw [hcl] at hh
    have hd : cd.hasDict = true := by simpa using hh
    have ho : PySem.W.ownOf cd (some od) name = some none := by unfold PySem.W.ownOf; rw [if_pos hd]; exact hl
    unfold findObj
    rw [hcl, Option.bind_some, ha, Option.bind_some]
    simp only [hg, ht, Option.bind_some, ho, hc, Bool.false_and, Bool.false_eq_true, if_false]
/-- the scope of a closure made by the law's frame -/
def botIx (own : List (Str × NameKind)) : List (Str × NameKind) → List (Str × Nat)
  | [] => []
  | (x, k) :: l => if k = .free then (match slotIn own x 0 with
      | some (i, .cell) => (x, i) :: botIx own l
      | _ => botIx own l) else botIx own l
def cloScp (own : List (Str × NameKind)) (s : Scope) : Sc := ⟨s, ownN s, [], botIx own s.names⟩
def cloScB (s : Scope) (ps : List Str) : Bool := s.kind == .function && !s.isCoroutine && !s.isGenerator && (s.names.all fun p => !(p.2 == .cell)) && nodupB (s.names.map (·.1)) && nodupB ps && ps.all fun p => match slotIn (ownN s) p 0 with
  | some (_, .local) => true
  | _ => false
theorem botIx_mem {own : List (Str × NameKind)} : ∀ {l : List (Str × NameKind)} {x : Str} {i : Nat}, (x, i) ∈ botIx own l → (x, NameKind.free) ∈ l ∧ own[i]? = some (x, .cell)
  | [], _, _, h => by simp [botIx] at h
  | (y, k) :: l, x, i, h => by
    have rec_ : (x, i) ∈ botIx own l → (x, NameKind.free) ∈ (y, k) :: l ∧ own[i]? = some (x, .cell) := fun h => by
      obtain ⟨a, b⟩ := botIx_mem h
      exact ⟨List.mem_cons_of_mem _ a, b⟩
    unfold botIx at h
    split at h
    · rename_i hk
      subst hk
      split at h
      · rename_i j hj
        rcases List.mem_cons.mp h with h | h
        · cases h
          obtain ⟨_, q⟩ := slotIn_get hj
          exact ⟨List.mem_cons_self .., q⟩
        · exact rec_ h
      · exact rec_ h
    · exact rec_ h
theorem cloSc_of {W : Wd} {sk : Sk} {ps : List Str} {own : List (Str × NameKind)} (hb : W.bnames = own) (h : cloScB sk.scope ps = true) : CloSc W (cloScp own sk.scope) ps sk := by
  unfold cloScB at h
  simp only [Bool.and_eq_true, Bool.not_eq_true'] at h
  obtain ⟨⟨⟨⟨⟨⟨h1, h2⟩, h3⟩, h4⟩, h5⟩, h6⟩, h7⟩ := h
  have nd := nodupB_of h5
  have nc : ∀ y ∈ sk.scope.names, y.2 ≠ .cell := fun y hy e => by
    have := List.all_eq_true.mp h4 y hy
    rw [e] at this; exact absurd this (by decide)
  refine ⟨rfl, by revert h1; cases hk : sk.scope.kind <;> first | (intro _; rfl) | (intro q; exact absurd q (by decide)), h2, h3, nc, ownN_nodup nd, nodupB_of h6, ?_, fun y hy => lookup_of_nodup nd (ownN_mem hy).1, fun p hp => ?_, rfl, fun x i hx => ?_⟩
  · intro y hy
    rcases (ownN_mem hy).2 with e | e
    · exact e
    · exact absurd e (nc y (ownN_mem hy).1)
  · have := List.all_eq_true.mp h7 p hp
    split at this
    · rename_i i hi
      exact List.mem_of_getElem? (slotIn_get hi).2
    · cases this
  · obtain ⟨a, b⟩ := botIx_mem hx
    rw [hb]; exact ⟨a, b⟩
end Mine
end

section
open PySem PySem.W PyProof.Rows
set_option Elab.async false
set_option maxRecDepth 40000
set_option maxHeartbeats 8000000
open_top hd for PySem.Challenge.rw_bj0073_04
end

section
open PySem PySem.W PySem.Calls PyProof.Rows
set_option Elab.async false
set_option maxRecDepth 100000
set_option maxHeartbeats 4000000
set_option pp.deepTerms false
namespace Mine
theorem fill : PySem.Challenge.rw_bj0073_04 = PySem.Challenge.rw_bj0073_04 ∧ hd.heap_39 = hd.heap_39 := by k_fill; exact ⟨rfl, rfl⟩
theorem cls_ring {W : Wd} {p : Params} (hK : W.K = hd.heap_39 p) : ClsOK W 615 := ⟨by rw [hK]; k_is, by rw [hK]; k_is, by rw [hK]; k_is, by rw [hK]; k_is, by rw [hK]; k_is⟩
theorem cls_meta {W : Wd} {p : Params} (hK : W.K = hd.heap_39 p) : ClsOK W 387 := ⟨by rw [hK]; k_is, by rw [hK]; k_is, by rw [hK]; k_is, by rw [hK]; k_is, by rw [hK]; k_is⟩
theorem cls_ctr {W : Wd} {p : Params} (hK : W.K = hd.heap_39 p) : CtrCls W 293 98 := by
  constructor <;> first | (rw [hK]; k_is) | exact ⟨_, by rw [hK]; k_is, by decide +kernel⟩
theorem ctr_mk {W : Wd} {p : Params} (hK : W.K = hd.heap_39 p) : CtrMk W.K 293 91 := by
  rw [hK]
  exact ctrMk_of (by k_is) rfl rfl rfl (by k_is) (by k_is) (by k_is) (by k_is) (by decide +kernel) (by k_is) (by k_is)
theorem ctr_upd {W : Wd} {p : Params} (hK : W.K = hd.heap_39 p) : ∃ T fd a1 a2 kw, CtrUpd W 136 T fd a1 a2 kw := by
  refine ⟨_, _, _, _, _, ⟨⟨_, by rw [hK]; k_is, rfl⟩, ⟨_, rfl⟩, rfl, ⟨_, _, by rw [hK]; k_is, rfl⟩, ⟨_, _, _, _, _, _, _, _, _, rfl⟩, rfl, rfl, rfl, rfl, rfl, rfl, rfl, by decide +kernel, rfl, rfl, rfl, ⟨_, _, _, _, rfl, by rw [hK]; k_is, rfl, rfl⟩⟩⟩
theorem ctr_ini {W : Wd} {p : Params} (hK : W.K = hd.heap_39 p) (mg : W.mg "super" = none) (mb : W.mb "super" = some (.type "super")) (top : (W.prog.main.scope.names.lookup ("super" : Str)).isSome = false) (file : ((W.prog.main.file : Str) == ("/claim/cut.py" : Str)) = true) :
    ∃ cc cda T fd cd a1 a2 kw, CtrIni W 293 98 91 136 cc cda T fd cd a1 a2 kw := by
  refine ⟨_, _, _, _, _, _, _, _, ⟨cls_ctr hK, ⟨_, by rw [hK]; k_is, rfl⟩, ⟨_, rfl⟩, rfl, ⟨_, _, by rw [hK]; k_is, rfl⟩, ⟨_, _, _, _, _, _, _, _, _, _, _, _, rfl⟩, rfl, rfl, rfl, rfl, rfl, rfl, rfl, rfl, rfl, rfl, rfl, by decide +kernel, rfl, rfl, rfl, rfl, rfl, rfl, ⟨_, by rw [hK]; k_is, rfl⟩, ⟨_, _, _, _, _, rfl, by rw [hK]; k_is, rfl, rfl, rfl, file⟩, mg, mb, top, by rw [hK]; k_is, by rw [hK]; k_is, by rw [hK]; kernel_rfl, by rw [hK]; k_is, by rw [hK]; k_is, by rw [hK]; k_is, ⟨_, _, by rw [hK]; k_is, rfl⟩⟩⟩
end Mine
end

section
open PySem PySem.W PySem.Calls PyProof.Rows
set_option Elab.async false
set_option maxRecDepth 100000
set_option maxHeartbeats 4000000
set_option pp.deepTerms false
namespace Mine
theorem fill2 : PySem.Challenge.rw_bj0073_04 = PySem.Challenge.rw_bj0073_04 ∧ hd.heap_39 = hd.heap_39 := by k_fill; exact ⟨rfl, rfl⟩
def gt4 : List (Str × Value) := [("Counter", .ref 293), ("KetamaRing", .ref 344), ("MetaRing", .ref 387), ("HashRing", .ref 615), ("_law_primes", .ref 626), ("_law_at", .ref 633), ("bisect_right", .builtin "_bisect.bisect_right")]
def bt4 : List (Str × Value) := [("len", .builtin "len"), ("range", .type "range"), ("str", .type "str"), ("abs", .builtin "abs"), ("isinstance", .builtin "isinstance"), ("sorted", .builtin "sorted"), ("sum", .builtin "sum"),
  ("int", .type "int"), ("bytes", .type "bytes"), ("list", .type "list"), ("tuple", .type "tuple"), ("dict", .type "dict"), ("set", .type "set")]
/-- the first def in a block -/
def defIn : List Stmt → Option Sk
  | .FunctionDef name params body _ _ _ scope _ _ _ :: _ => some ⟨name, name, params, body, scope⟩
  | _ :: l => defIn l
  | [] => none
structure E4 (W : Wd) (p : Params) : Prop where
  c : Ctx W gt4 bt4
  hK : W.K = hd.heap_39 p
  clo : ∀ fd b, (∃ o, W.K.lookup 638 = some o ∧ o.data = .func fd) → fd.body = .stmts b → W.clos 0 = defIn b ∧ W.bnames = ownN fd.scope
  mg : W.mg "super" = none
  mb : W.mb "super" = some (.type "super")
  top : (W.prog.main.scope.names.lookup ("super" : Str)).isSome = false
  file : ((W.prog.main.file : Str) == ("/claim/cut.py" : Str)) = true
theorem E4.ok {W : Wd} {p : Params} (e : E4 W p) : W.Ok := e.c.ok
section
variable {W : Wd} {X : Sc} {n : Nat} {p : Params}
theorem SimV.isiA : SimV W n (.builtin "isinstance") [] (fun l k => orA (isiTF l k) (orA (isiF "int" l k) (orA (isiF "str" l k) (isiF "dict" l k)))) := by
  intro A σ σ' G s args kws ms ks' v hA r hne p2 p3 hf
  rcases orA_some hf with h | h
  · exact SimV.isiT A σ σ' G s args kws ms ks' v hA r hne p2 p3 h
  rcases orA_some h with h | h
  · exact SimV.isi isiInt A σ σ' G s args kws ms ks' v hA r hne p2 p3 h
  rcases orA_some h with h | h
  · exact SimV.isi isiStr A σ σ' G s args kws ms ks' v hA r hne p2 p3 h
  · exact SimV.isi isiDict A σ σ' G s args kws ms ks' v hA r hne p2 p3 h
theorem at_ring_runtime (e : E4 W p) : Op1 W (Rep W) n (fun v => getAttr v "runtime" true) (getNs 615 "runtime") := Op1.ns e.ok (cls_ring e.hK) (attr := none) (by rw [e.hK]; k_is) (by rw [e.hK]; k_is)
theorem at_ring_hashi (e : E4 W p) : Op1 W (Rep W) n (fun v => getAttr v "hashi" true) (getNs 615 "hashi") := Op1.ns e.ok (cls_ring e.hK) (attr := none) (by rw [e.hK]; k_is) (by rw [e.hK]; k_is)
theorem at_ring__default_vnodes (e : E4 W p) : Op1 W (Rep W) n (fun v => getAttr v "_default_vnodes" true) (getNs 615 "_default_vnodes") := Op1.ns e.ok (cls_ring e.hK) (attr := none) (by rw [e.hK]; k_is) (by rw [e.hK]; k_is)
theorem at_ring__weight_fn (e : E4 W p) : Op1 W (Rep W) n (fun v => getAttr v "_weight_fn" true) (getNs 615 "_weight_fn") := Op1.ns e.ok (cls_ring e.hK) (attr := none) (by rw [e.hK]; k_is) (by rw [e.hK]; k_is)
theorem at_meta__distribution (e : E4 W p) : Op1 W (Rep W) n (fun v => getAttr v "_distribution" true) (getNs 387 "_distribution") := Op1.ns e.ok (cls_meta e.hK) (attr := none) (by rw [e.hK]; k_is) (by rw [e.hK]; k_is)
theorem at_meta__keys (e : E4 W p) : Op1 W (Rep W) n (fun v => getAttr v "_keys" true) (getNs 387 "_keys") := Op1.ns e.ok (cls_meta e.hK) (attr := none) (by rw [e.hK]; k_is) (by rw [e.hK]; k_is)
theorem at_meta__node_points (e : E4 W p) : Op1 W (Rep W) n (fun v => getAttr v "_node_points" true) (getNs 387 "_node_points") := Op1.ns e.ok (cls_meta e.hK) (attr := none) (by rw [e.hK]; k_is) (by rw [e.hK]; k_is)
theorem at_meta__nodes (e : E4 W p) : Op1 W (Rep W) n (fun v => getAttr v "_nodes" true) (getNs 387 "_nodes") := Op1.ns e.ok (cls_meta e.hK) (attr := none) (by rw [e.hK]; k_is) (by rw [e.hK]; k_is)
theorem at_meta__ring (e : E4 W p) : Op1 W (Rep W) n (fun v => getAttr v "_ring" true) (getNs 387 "_ring") := Op1.ns e.ok (cls_meta e.hK) (attr := none) (by rw [e.hK]; k_is) (by rw [e.hK]; k_is)
theorem at_meta_hashi (e : E4 W p) : Op1 W (Rep W) n (fun v => getAttr v "hashi" true) (getBm 387 370 "hashi") :=
  Op1.bm e.ok (cls_meta e.hK) (by rw [e.hK]; k_is) (by rw [e.hK]; k_is) fun od h => findObj_meth (by rw [e.hK]; k_is) (by rw [e.hK]; k_is) (by rw [e.hK]; k_is) (by rw [e.hK]; k_is) (by decide +kernel) h
theorem st_meta__distribution (e : E4 W p) : takerIn W.K 387 "_distribution" = some none := by rw [e.hK]; k_is
theorem st_meta__keys (e : E4 W p) : takerIn W.K 387 "_keys" = some none := by rw [e.hK]; k_is
theorem st_meta__node_points (e : E4 W p) : takerIn W.K 387 "_node_points" = some none := by rw [e.hK]; k_is
theorem st_meta__nodes (e : E4 W p) : takerIn W.K 387 "_nodes" = some none := by rw [e.hK]; k_is
theorem st_meta__ring (e : E4 W p) : takerIn W.K 387 "_ring" = some none := by rw [e.hK]; k_is
theorem st_meta__hash_fn (e : E4 W p) : takerIn W.K 387 "_hash_fn" = some none := by rw [e.hK]; k_is
theorem st_ring_runtime (e : E4 W p) : takerIn W.K 615 "runtime" = some none := by rw [e.hK]; k_is
theorem st_ring_hashi (e : E4 W p) : takerIn W.K 615 "hashi" = some none := by rw [e.hK]; k_is
theorem st_ring__default_vnodes (e : E4 W p) : takerIn W.K 615 "_default_vnodes" = some none := by rw [e.hK]; k_is
theorem st_ring__weight_fn (e : E4 W p) : takerIn W.K 615 "_weight_fn" = some none := by rw [e.hK]; k_is
end
def missing : { g // ∀ {W p}, E4 W p → SimCall W 6 (.ref 98) [] g } := by
  refine' ⟨_, fun {W p} e => SimCall.fn e.ok (ps := [("self" : Str), ("key" : Str)]) ⟨⟨_, by rw [e.hK]; k_is, rfl⟩, rfl, rfl, rfl, rfl, rfl, rfl, rfl, ⟨_,_,_,_, rfl, by rw [e.hK]; k_is, rfl, rfl⟩, fnSc_of (by kernel_rfl)⟩ (SimBind.plain 2 rfl (fun ms h => _)) _⟩
  rotate_left
  · match ms, h with
    | [a, b], _ => rfl
  · exact SimX.cons (SimS.ret SimE.int) SimX.nil
def counterV : { g // ∀ {W p}, E4 W p → SimV W 8 (.ref 293) [] g } := ⟨_, fun {W p} e => by
  obtain ⟨T, fd, a1, a2, kw, hu⟩ := ctr_upd e.hK
  obtain ⟨cc, cda, T', fd', cd, b1, b2, kw', hi⟩ := ctr_ini e.hK e.mg e.mb e.top e.file
  exact SimV.ctr (n := 7) e.ok 0 (ctr_mk e.hK) (by rw [e.hK]; k_is) (SimCall.ini (n := 6) e.ok hi (by rw [e.hK]; k_is) (fun od h => findObj_meth (by rw [e.hK]; k_is) (by rw [e.hK]; k_is) (by rw [e.hK]; k_is) (by rw [e.hK]; k_is) (by decide +kernel) h) (SimCall.upd (n := 5) e.ok hu))⟩
def placeF : { g // ∀ {W p}, E4 W p → SimF W 10 [] g } := by
  refine' ⟨_, fun {W p} e => SimF.clo (n := 9) e.ok (k := 0) (ps := [("key" : Str)]) ((e.clo _ _ ⟨_, by rw [e.hK]; k_is, rfl⟩ rfl).1.trans rfl) (cloSc_of ((e.clo _ _ ⟨_, by rw [e.hK]; k_is, rfl⟩ rfl).2) (by kernel_rfl)) (fun fd q1 q2 q3 => SimBind.plain 1 rfl (fun ms h => _)) _⟩
  rotate_left
  · match ms, h with
    | [a], _ => cases fd; dsimp only at q1 q2 q3; subst q1; subst q2; subst q3; rfl
  · exact (SimX.cons (SimS.ret (SimE.ifexp (SimB.val e.ok (SimE.callV (ks := []) (Sim.name (Sim.bui e.c rfl rfl) (by decide +kernel)) (SimI.cons (Sim.name (Sim.ownL rfl rfl) (by decide +kernel)) (SimI.cons (Sim.name (Sim.bui e.c rfl rfl) (by decide +kernel)) SimI.nil (fun _ => rfl)) (fun _ => rfl)) SimK.nil (SimV.isiA) (fun _ => rfl) (fun _ => rfl)) (fun _ => rfl)) (Sim.name (Sim.ownL rfl rfl) (by decide +kernel)) (SimE.sub (Sim.name (Sim.botF rfl rfl (by decide +kernel)) (by decide +kernel)) (Sim.name (Sim.ownL rfl rfl) (by decide +kernel)) (OpSub.get e.ok) (fun _ _ => rfl))))
 SimX.nil)
noncomputable def hashi : { g // ∀ {W p}, E4 W p → SimCall W 11 (.ref 370) [] g } := by
  refine' ⟨_, fun {W p} e => SimCall.fn e.ok (ps := [("self" : Str), ("key" : Str)]) ⟨⟨_, by rw [e.hK]; k_is, rfl⟩, rfl, rfl, rfl, rfl, rfl, rfl, rfl, ⟨_,_,_,_, rfl, by rw [e.hK]; k_is, rfl, rfl⟩, fnSc_of (by kernel_rfl)⟩ (SimBind.plain 2 rfl (fun ms h => _)) _⟩
  rotate_left
  · match ms, h with
    | [a, b], _ => rfl
  · exact (SimX.cons (SimS.ret (SimE.mcall (ks := []) (Sim.name (Sim.ownL rfl rfl) (by decide +kernel)) (SimI.cons (Sim.name (Sim.ownL rfl rfl) (by decide +kernel)) SimI.nil (fun _ => rfl)) SimK.nil (SimM.own e.ok (cls_meta e.hK) (by rw [e.hK]; k_is) (placeF.2 e)) (fun _ => rfl) (fun _ => rfl) (fun _ => ⟨_, rfl⟩)))
 SimX.nil)
noncomputable def createRing : { g // ∀ {W p}, E4 W p → SimCall W 21 (.ref 377) [] g } := by
  refine' ⟨_, fun {W p} e => SimCall.fn e.ok (ps := [("self" : Str), ("nodes" : Str)]) ⟨⟨_, by rw [e.hK]; k_is, rfl⟩, rfl, rfl, rfl, rfl, rfl, rfl, rfl, ⟨_,_,_,_, rfl, by rw [e.hK]; k_is, rfl, rfl⟩, fnSc_of (by kernel_rfl)⟩ (SimBind.plain 2 rfl (fun ms h => _)) _⟩
  rotate_left
  · match ms, h with
    | [a, b], _ => rfl
  · exact (SimX.cons (Sim.or (SimS.forItems (Sim.name (Sim.ownL rfl rfl) (by decide +kernel)) (SimT.tuple 2 (SimTs.cons (SimT.ownL rfl rfl) (SimTs.cons (SimT.ownL rfl rfl) SimTs.nil (fun _ => rfl)) (fun _ => rfl)) (fun _ => rfl) (fun _ => rfl)) (SimX.cons (SimS.assign (SimE.mcall (ks := []) (SimE.attr (Sim.name (Sim.ownL rfl rfl) (by decide +kernel)) (at_meta__node_points e) (fun _ => rfl)) (SimI.cons (Sim.name (Sim.ownL rfl rfl) (by decide +kernel)) (SimI.cons SimE.none SimI.nil (fun _ => rfl)) (fun _ => rfl)) SimK.nil (SimM.pop e.ok) (fun _ => rfl) (fun _ => rfl) (fun _ => ⟨_, rfl⟩)) (SimT.ownL rfl rfl) (fun _ _ => rfl) (fun _ _ => rfl) (fun _ => rfl))
 (SimX.cons (SimS.if (SimB.val e.ok (Sim.name (Sim.ownL rfl rfl) (by decide +kernel)) (fun _ => rfl)) (SimX.cons (SimS.for (SimIt.ofB (Sim.name (Sim.ownL rfl rfl) (by decide +kernel))) (SimT.ownL rfl rfl) (SimX.cons (SimS.if (SimB.cmp e.ok (SimE.mcall (ks := []) (SimE.attr (Sim.name (Sim.ownL rfl rfl) (by decide +kernel)) (at_meta__ring e) (fun _ => rfl)) (SimI.cons (Sim.name (Sim.ownL rfl rfl) (by decide +kernel)) SimI.nil (fun _ => rfl)) SimK.nil (SimM.dget e.ok) (fun _ => rfl) (fun _ => rfl) (fun _ => ⟨_, rfl⟩)) (Sim.name (Sim.ownL rfl rfl) (by decide +kernel)) (Op2.eq) rfl) (SimX.cons (SimS.del e.ok (SimE.attr (Sim.name (Sim.ownL rfl rfl) (by decide +kernel)) (at_meta__ring e) (fun _ => rfl)) (Sim.name (Sim.ownL rfl rfl) (by decide +kernel)))
 SimX.nil) SimX.nil)
 SimX.nil) SimX.nil (fun _ _ => rfl))
 (SimX.cons (SimS.expr (SimE.mcall (ks := []) (SimE.attr (Sim.name (Sim.ownL rfl rfl) (by decide +kernel)) (at_meta__distribution e) (fun _ => rfl)) (SimI.cons (Sim.name (Sim.ownL rfl rfl) (by decide +kernel)) (SimI.cons SimE.none SimI.nil (fun _ => rfl)) (fun _ => rfl)) SimK.nil (SimM.ctrPop e.ok (cls_ctr e.hK) (ctr_pop e.ok (cls_ctr e.hK))) (fun _ => rfl) (fun _ => rfl) (fun _ => ⟨_, rfl⟩)) (fun _ _ => rfl))
 SimX.nil)) SimX.nil)
 (SimX.cons (SimS.assign (SimE.list 0 SimI.nil) (SimT.ownL rfl rfl) (fun _ _ => rfl) (fun _ _ => rfl) (fun _ => rfl))
 (SimX.cons (SimS.for (SimIt.ofB (SimE.callV (ks := []) (Sim.name (Sim.bui e.c rfl rfl) (by decide +kernel)) (SimI.cons SimE.int (SimI.cons (SimE.binop (SimE.sub (Sim.name (Sim.ownL rfl rfl) (by decide +kernel)) SimE.str (OpSub.get e.ok) (fun _ _ => rfl)) (SimE.sub (Sim.name (Sim.ownL rfl rfl) (by decide +kernel)) SimE.str (OpSub.get e.ok) (fun _ _ => rfl)) Op2.ar) SimI.nil (fun _ => rfl)) (fun _ => rfl)) SimK.nil (SimV.range) (fun _ => rfl) (fun _ => rfl))) (SimT.ownL rfl rfl) (SimX.cons (SimS.augSub (SimE.attr (Sim.name (Sim.ownL rfl rfl) (by decide +kernel)) (at_meta__distribution e) (fun _ => rfl)) (Sim.name (Sim.ownL rfl rfl) (by decide +kernel)) (Op2g.ctrGet e.ok (cls_ctr e.hK) ((missing.2 e).up (by decide))) SimE.int Op2.iar (OpSet.ctr e.ok (cls_ctr e.hK)) (fun _ _ _ => rfl))
 (SimX.cons (SimS.assign (SimE.mcall (ks := []) (Sim.name (Sim.ownL rfl rfl) (by decide +kernel)) (SimI.cons (SimE.fstr (SimJ.cons (SimFP.val (Sim.name (Sim.ownL rfl rfl) (by decide +kernel))) (SimJ.cons SimFP.lit (SimJ.cons (SimFP.val (Sim.name (Sim.ownL rfl rfl) (by decide +kernel))) SimJ.nil (fun _ => rfl)) (fun _ => rfl)) (fun _ => rfl))) SimI.nil (fun _ => rfl)) SimK.nil (SimM.fn e.ok (cls_meta e.hK) (by rw [e.hK]; k_is) (by rw [e.hK]; k_is) (by rw [e.hK]; k_is) ((hashi.2 e).up (by decide))) (fun _ => rfl) (fun _ => rfl) (fun _ => ⟨_, rfl⟩)) (SimT.ownL rfl rfl) (fun _ _ => rfl) (fun _ _ => rfl) (fun _ => rfl))
 (SimX.cons (SimS.assign (Sim.name (Sim.ownL rfl rfl) (by decide +kernel)) (SimT.sub (SimE.attr (Sim.name (Sim.ownL rfl rfl) (by decide +kernel)) (at_meta__ring e) (fun _ => rfl)) (Sim.name (Sim.ownL rfl rfl) (by decide +kernel)) (OpSet.dict e.ok)) (fun _ _ => rfl) (fun _ _ => rfl) (fun _ => rfl))
 (SimX.cons (SimS.expr (SimE.mcall (ks := []) (Sim.name (Sim.ownL rfl rfl) (by decide +kernel)) (SimI.cons (Sim.name (Sim.ownL rfl rfl) (by decide +kernel)) SimI.nil (fun _ => rfl)) SimK.nil (SimM.append) (fun _ => rfl) (fun _ => rfl) (fun _ => ⟨_, rfl⟩)) (fun _ _ => rfl))
 SimX.nil)))) SimX.nil (fun _ _ => rfl))
 (SimX.cons (SimS.assign (Sim.name (Sim.ownL rfl rfl) (by decide +kernel)) (SimT.sub (SimE.attr (Sim.name (Sim.ownL rfl rfl) (by decide +kernel)) (at_meta__node_points e) (fun _ => rfl)) (Sim.name (Sim.ownL rfl rfl) (by decide +kernel)) (OpSet.dict e.ok)) (fun _ _ => rfl) (fun _ _ => rfl) (fun _ => rfl))
 SimX.nil))))) ⟨_, _, _, rfl⟩ (fun _ _ => rfl)) (SimS.for (SimIt.ofB (Sim.name (Sim.ownL rfl rfl) (by decide +kernel))) (SimT.tuple 2 (SimTs.cons (SimT.ownL rfl rfl) (SimTs.cons (SimT.ownL rfl rfl) SimTs.nil (fun _ => rfl)) (fun _ => rfl)) (fun _ => rfl) (fun _ => rfl)) (SimX.cons (SimS.assign (SimE.mcall (ks := []) (SimE.attr (Sim.name (Sim.ownL rfl rfl) (by decide +kernel)) (at_meta__node_points e) (fun _ => rfl)) (SimI.cons (Sim.name (Sim.ownL rfl rfl) (by decide +kernel)) (SimI.cons SimE.none SimI.nil (fun _ => rfl)) (fun _ => rfl)) SimK.nil (SimM.pop e.ok) (fun _ => rfl) (fun _ => rfl) (fun _ => ⟨_, rfl⟩)) (SimT.ownL rfl rfl) (fun _ _ => rfl) (fun _ _ => rfl) (fun _ => rfl))
 (SimX.cons (SimS.if (SimB.val e.ok (Sim.name (Sim.ownL rfl rfl) (by decide +kernel)) (fun _ => rfl)) (SimX.cons (SimS.for (SimIt.ofB (Sim.name (Sim.ownL rfl rfl) (by decide +kernel))) (SimT.ownL rfl rfl) (SimX.cons (SimS.if (SimB.cmp e.ok (SimE.mcall (ks := []) (SimE.attr (Sim.name (Sim.ownL rfl rfl) (by decide +kernel)) (at_meta__ring e) (fun _ => rfl)) (SimI.cons (Sim.name (Sim.ownL rfl rfl) (by decide +kernel)) SimI.nil (fun _ => rfl)) SimK.nil (SimM.dget e.ok) (fun _ => rfl) (fun _ => rfl) (fun _ => ⟨_, rfl⟩)) (Sim.name (Sim.ownL rfl rfl) (by decide +kernel)) (Op2.eq) rfl) (SimX.cons (SimS.del e.ok (SimE.attr (Sim.name (Sim.ownL rfl rfl) (by decide +kernel)) (at_meta__ring e) (fun _ => rfl)) (Sim.name (Sim.ownL rfl rfl) (by decide +kernel)))
 SimX.nil) SimX.nil)
 SimX.nil) SimX.nil (fun _ _ => rfl))
 (SimX.cons (SimS.expr (SimE.mcall (ks := []) (SimE.attr (Sim.name (Sim.ownL rfl rfl) (by decide +kernel)) (at_meta__distribution e) (fun _ => rfl)) (SimI.cons (Sim.name (Sim.ownL rfl rfl) (by decide +kernel)) (SimI.cons SimE.none SimI.nil (fun _ => rfl)) (fun _ => rfl)) SimK.nil (SimM.ctrPop e.ok (cls_ctr e.hK) (ctr_pop e.ok (cls_ctr e.hK))) (fun _ => rfl) (fun _ => rfl) (fun _ => ⟨_, rfl⟩)) (fun _ _ => rfl))
 SimX.nil)) SimX.nil)
 (SimX.cons (SimS.assign (SimE.list 0 SimI.nil) (SimT.ownL rfl rfl) (fun _ _ => rfl) (fun _ _ => rfl) (fun _ => rfl))
 (SimX.cons (SimS.for (SimIt.ofB (SimE.callV (ks := []) (Sim.name (Sim.bui e.c rfl rfl) (by decide +kernel)) (SimI.cons SimE.int (SimI.cons (SimE.binop (SimE.sub (Sim.name (Sim.ownL rfl rfl) (by decide +kernel)) SimE.str (OpSub.get e.ok) (fun _ _ => rfl)) (SimE.sub (Sim.name (Sim.ownL rfl rfl) (by decide +kernel)) SimE.str (OpSub.get e.ok) (fun _ _ => rfl)) Op2.ar) SimI.nil (fun _ => rfl)) (fun _ => rfl)) SimK.nil (SimV.range) (fun _ => rfl) (fun _ => rfl))) (SimT.ownL rfl rfl) (SimX.cons (SimS.augSub (SimE.attr (Sim.name (Sim.ownL rfl rfl) (by decide +kernel)) (at_meta__distribution e) (fun _ => rfl)) (Sim.name (Sim.ownL rfl rfl) (by decide +kernel)) (Op2g.ctrGet e.ok (cls_ctr e.hK) ((missing.2 e).up (by decide))) SimE.int Op2.iar (OpSet.ctr e.ok (cls_ctr e.hK)) (fun _ _ _ => rfl))
 (SimX.cons (SimS.assign (SimE.mcall (ks := []) (Sim.name (Sim.ownL rfl rfl) (by decide +kernel)) (SimI.cons (SimE.fstr (SimJ.cons (SimFP.val (Sim.name (Sim.ownL rfl rfl) (by decide +kernel))) (SimJ.cons SimFP.lit (SimJ.cons (SimFP.val (Sim.name (Sim.ownL rfl rfl) (by decide +kernel))) SimJ.nil (fun _ => rfl)) (fun _ => rfl)) (fun _ => rfl))) SimI.nil (fun _ => rfl)) SimK.nil (SimM.fn e.ok (cls_meta e.hK) (by rw [e.hK]; k_is) (by rw [e.hK]; k_is) (by rw [e.hK]; k_is) ((hashi.2 e).up (by decide))) (fun _ => rfl) (fun _ => rfl) (fun _ => ⟨_, rfl⟩)) (SimT.ownL rfl rfl) (fun _ _ => rfl) (fun _ _ => rfl) (fun _ => rfl))
 (SimX.cons (SimS.assign (Sim.name (Sim.ownL rfl rfl) (by decide +kernel)) (SimT.sub (SimE.attr (Sim.name (Sim.ownL rfl rfl) (by decide +kernel)) (at_meta__ring e) (fun _ => rfl)) (Sim.name (Sim.ownL rfl rfl) (by decide +kernel)) (OpSet.dict e.ok)) (fun _ _ => rfl) (fun _ _ => rfl) (fun _ => rfl))
 (SimX.cons (SimS.expr (SimE.mcall (ks := []) (Sim.name (Sim.ownL rfl rfl) (by decide +kernel)) (SimI.cons (Sim.name (Sim.ownL rfl rfl) (by decide +kernel)) SimI.nil (fun _ => rfl)) SimK.nil (SimM.append) (fun _ => rfl) (fun _ => rfl) (fun _ => ⟨_, rfl⟩)) (fun _ _ => rfl))
 SimX.nil)))) SimX.nil (fun _ _ => rfl))
 (SimX.cons (SimS.assign (Sim.name (Sim.ownL rfl rfl) (by decide +kernel)) (SimT.sub (SimE.attr (Sim.name (Sim.ownL rfl rfl) (by decide +kernel)) (at_meta__node_points e) (fun _ => rfl)) (Sim.name (Sim.ownL rfl rfl) (by decide +kernel)) (OpSet.dict e.ok)) (fun _ _ => rfl) (fun _ _ => rfl) (fun _ => rfl))
 SimX.nil))))) SimX.nil (fun _ _ => rfl)))
 (SimX.cons (SimS.assign (SimE.callV (ks := []) (Sim.name (Sim.bui e.c rfl rfl) (by decide +kernel)) (SimI.cons (SimE.mcall (ks := []) (SimE.attr (Sim.name (Sim.ownL rfl rfl) (by decide +kernel)) (at_meta__ring e) (fun _ => rfl)) SimI.nil SimK.nil (SimM.keys e.ok) (fun _ => rfl) (fun _ => rfl) (fun _ => ⟨_, rfl⟩)) SimI.nil (fun _ => rfl)) SimK.nil (SimV.sortedI e.ok) (fun _ => rfl) (fun _ => rfl)) (SimT.attr e.ok (cls_meta e.hK) (st_meta__keys e) (Sim.name (Sim.ownL rfl rfl) (by decide +kernel))) (fun _ _ => rfl) (fun _ _ => rfl) (fun _ => rfl))
 SimX.nil))
noncomputable def metaInit : { g // ∀ {W p}, E4 W p → SimCall W 21 (.ref 363) [] g } := by
  refine' ⟨_, fun {W p} e => SimCall.fn e.ok (ps := [("self" : Str), ("hash_fn" : Str), ("md5" : Str)]) ⟨⟨_, by rw [e.hK]; k_is, rfl⟩, rfl, rfl, rfl, rfl, rfl, rfl, rfl, ⟨_,_,_,_, rfl, by rw [e.hK]; k_is, rfl, rfl⟩, fnSc_of (by kernel_rfl)⟩ (SimBind.dflt e.ok 3 [] [] (T := 356) (by rw [e.hK]; k_is) rfl (fun _ _ _ _ => rfl) (fun ms s h q => _)) _⟩
  rotate_left
  · match ms, h with
    | [a, b, c], _ => exact BindsTo.of_defaults rfl q rfl rfl rfl
  · exact (SimX.cons (SimS.assign (SimE.callV (ks := []) (Sim.name (Sim.glob e.c rfl rfl) (by decide +kernel)) SimI.nil SimK.nil (SimV.up (by decide) (counterV.2 e)) (fun _ => rfl) (fun _ => rfl)) (SimT.attr e.ok (cls_meta e.hK) (st_meta__distribution e) (Sim.name (Sim.ownL rfl rfl) (by decide +kernel))) (fun _ _ => rfl) (fun _ _ => rfl) (fun _ => rfl))
 (SimX.cons (SimS.assign (SimE.list 0 SimI.nil) (SimT.attr e.ok (cls_meta e.hK) (st_meta__keys e) (Sim.name (Sim.ownL rfl rfl) (by decide +kernel))) (fun _ _ => rfl) (fun _ _ => rfl) (fun _ => rfl))
 (SimX.cons (SimS.assign (SimE.dict0 0) (SimT.attr e.ok (cls_meta e.hK) (st_meta__node_points e) (Sim.name (Sim.ownL rfl rfl) (by decide +kernel))) (fun _ _ => rfl) (fun _ _ => rfl) (fun _ => rfl))
 (SimX.cons (SimS.assign (SimE.dict0 0) (SimT.attr e.ok (cls_meta e.hK) (st_meta__nodes e) (Sim.name (Sim.ownL rfl rfl) (by decide +kernel))) (fun _ _ => rfl) (fun _ _ => rfl) (fun _ => rfl))
 (SimX.cons (SimS.assign (SimE.dict0I 0) (SimT.attr e.ok (cls_meta e.hK) (st_meta__ring e) (Sim.name (Sim.ownL rfl rfl) (by decide +kernel))) (fun _ _ => rfl) (fun _ _ => rfl) (fun _ => rfl))
 (SimX.cons (SimS.if (SimB.boolop (SimAll.and (SimB.val e.ok (Sim.name (Sim.ownL rfl rfl) (by decide +kernel)) (fun _ => rfl)) (SimAll.and (SimB.val e.ok (SimE.callV (ks := []) (Sim.name (Sim.bui e.c rfl rfl) (by decide +kernel)) (SimI.cons (Sim.name (Sim.ownL rfl rfl) (by decide +kernel)) (SimI.cons (SimE.tuple (SimI.cons (Sim.name (Sim.bui e.c rfl rfl) (by decide +kernel)) (SimI.cons (Sim.name (Sim.bui e.c rfl rfl) (by decide +kernel)) (SimI.cons (Sim.name (Sim.bui e.c rfl rfl) (by decide +kernel)) (SimI.cons (Sim.name (Sim.bui e.c rfl rfl) (by decide +kernel)) (SimI.cons (Sim.name (Sim.bui e.c rfl rfl) (by decide +kernel)) (SimI.cons (Sim.name (Sim.bui e.c rfl rfl) (by decide +kernel)) (SimI.cons (Sim.name (Sim.bui e.c rfl rfl) (by decide +kernel)) SimI.nil (fun _ => rfl)) (fun _ => rfl)) (fun _ => rfl)) (fun _ => rfl)) (fun _ => rfl)) (fun _ => rfl)) (fun _ => rfl))) SimI.nil (fun _ => rfl)) (fun _ => rfl)) SimK.nil (SimV.isiA) (fun _ => rfl) (fun _ => rfl)) (fun _ => rfl)) SimAll.andNil))) (SimX.cons Sim.no
 SimX.nil) SimX.nil)
 (SimX.cons (SimS.assign (SimE.or2 e.ok (Sim.name (Sim.ownL rfl rfl) (by decide +kernel)) Sim.no) (SimT.attr e.ok (cls_meta e.hK) (st_meta__hash_fn e) (Sim.name (Sim.ownL rfl rfl) (by decide +kernel))) (fun _ _ => rfl) (fun _ _ => rfl) (fun _ => rfl))
 SimX.nil)))))))
noncomputable def confNodes : { g // ∀ {W p}, E4 W p → SimCall W 21 (.ref 412) [] g } := by
  refine' ⟨_, fun {W p} e => SimCall.fn e.ok (ps := [("self" : Str), ("nodes" : Str)]) ⟨⟨_, by rw [e.hK]; k_is, rfl⟩, rfl, rfl, rfl, rfl, rfl, rfl, rfl, ⟨_,_,_,_, rfl, by rw [e.hK]; k_is, rfl, rfl⟩, fnSc_of (by kernel_rfl)⟩ (SimBind.plain 2 rfl (fun ms h => _)) _⟩
  rotate_left
  · match ms, h with
    | [a, b], _ => rfl
  · exact (SimX.cons (SimS.if (SimB.val e.ok (SimE.callV (ks := []) (Sim.name (Sim.bui e.c rfl rfl) (by decide +kernel)) (SimI.cons (Sim.name (Sim.ownL rfl rfl) (by decide +kernel)) (SimI.cons (Sim.name (Sim.bui e.c rfl rfl) (by decide +kernel)) SimI.nil (fun _ => rfl)) (fun _ => rfl)) SimK.nil (SimV.isiA) (fun _ => rfl) (fun _ => rfl)) (fun _ => rfl)) (SimX.cons Sim.no
 SimX.nil) (SimX.cons (SimS.if (SimB.not (SimB.val e.ok (SimE.callV (ks := []) (Sim.name (Sim.bui e.c rfl rfl) (by decide +kernel)) (SimI.cons (Sim.name (Sim.ownL rfl rfl) (by decide +kernel)) (SimI.cons (SimE.tuple (SimI.cons (Sim.name (Sim.bui e.c rfl rfl) (by decide +kernel)) (SimI.cons (Sim.name (Sim.bui e.c rfl rfl) (by decide +kernel)) SimI.nil (fun _ => rfl)) (fun _ => rfl))) SimI.nil (fun _ => rfl)) (fun _ => rfl)) SimK.nil (SimV.isiA) (fun _ => rfl) (fun _ => rfl)) (fun _ => rfl))) (SimX.cons Sim.no
 SimX.nil) SimX.nil)
 SimX.nil))
 (SimX.cons (SimS.assign SimE.bool (SimT.ownL rfl rfl) (fun _ _ => rfl) (fun _ _ => rfl) (fun _ => rfl))
 (SimX.cons (SimS.for (SimIt.ofB (Sim.name (Sim.ownL rfl rfl) (by decide +kernel))) (SimT.ownL rfl rfl) (SimX.cons (SimS.assign (SimE.dictK e.ok 0 (SimPs.cons SimE.str (Sim.name (Sim.ownL rfl rfl) (by decide +kernel)) (SimPs.cons SimE.str SimE.none (SimPs.cons SimE.str (Sim.name (Sim.ownL rfl rfl) (by decide +kernel)) (SimPs.cons SimE.str SimE.none (SimPs.cons SimE.str (SimE.attr (Sim.name (Sim.ownL rfl rfl) (by decide +kernel)) (at_ring__default_vnodes e) (fun _ => rfl)) (SimPs.cons SimE.str SimE.int SimPs.nil)))))) (fun _ => rfl) rfl (by decide)) (SimT.ownL rfl rfl) (fun _ _ => rfl) (fun _ _ => rfl) (fun _ => rfl))
 (SimX.cons (SimS.assign (SimE.mcall (ks := []) (SimE.attr (SimE.attr (Sim.name (Sim.ownL rfl rfl) (by decide +kernel)) (at_ring_runtime e) (fun _ => rfl)) (at_meta__nodes e) (fun _ => rfl)) (SimI.cons (Sim.name (Sim.ownL rfl rfl) (by decide +kernel)) (SimI.cons (SimE.dict0 0) SimI.nil (fun _ => rfl)) (fun _ => rfl)) SimK.nil (SimM.dget e.ok) (fun _ => rfl) (fun _ => rfl) (fun _ => ⟨_, rfl⟩)) (SimT.ownL rfl rfl) (fun _ _ => rfl) (fun _ _ => rfl) (fun _ => rfl))
 (SimX.cons (SimS.assign (Sim.name (Sim.ownL rfl rfl) (by decide +kernel)) (SimT.ownL rfl rfl) (fun _ _ => rfl) (fun _ _ => rfl) (fun _ => rfl))
 (SimX.cons (SimS.if (SimB.not (SimB.val e.ok (Sim.name (Sim.ownL rfl rfl) (by decide +kernel)) (fun _ => rfl))) (SimX.cons (SimS.assign SimE.bool (SimT.ownL rfl rfl) (fun _ _ => rfl) (fun _ _ => rfl) (fun _ => rfl))
 SimX.nil) SimX.nil)
 (SimX.cons (SimS.if (SimB.val e.ok (SimE.callV (ks := []) (Sim.name (Sim.bui e.c rfl rfl) (by decide +kernel)) (SimI.cons (Sim.name (Sim.ownL rfl rfl) (by decide +kernel)) (SimI.cons (Sim.name (Sim.bui e.c rfl rfl) (by decide +kernel)) SimI.nil (fun _ => rfl)) (fun _ => rfl)) SimK.nil (SimV.isiA) (fun _ => rfl) (fun _ => rfl)) (fun _ => rfl)) (SimX.cons (SimS.assign (SimE.sub (Sim.name (Sim.ownL rfl rfl) (by decide +kernel)) (Sim.name (Sim.ownL rfl rfl) (by decide +kernel)) (OpSub.get e.ok) (fun _ _ => rfl)) (SimT.ownL rfl rfl) (fun _ _ => rfl) (fun _ _ => rfl) (fun _ => rfl))
 (SimX.cons (SimS.if (SimB.val e.ok (SimE.callV (ks := []) (Sim.name (Sim.bui e.c rfl rfl) (by decide +kernel)) (SimI.cons (Sim.name (Sim.ownL rfl rfl) (by decide +kernel)) (SimI.cons (Sim.name (Sim.bui e.c rfl rfl) (by decide +kernel)) SimI.nil (fun _ => rfl)) (fun _ => rfl)) SimK.nil (SimV.isiA) (fun _ => rfl) (fun _ => rfl)) (fun _ => rfl)) (SimX.cons (SimS.assign (Sim.name (Sim.ownL rfl rfl) (by decide +kernel)) (SimT.sub (Sim.name (Sim.ownL rfl rfl) (by decide +kernel)) SimE.str (OpSet.dict e.ok)) (fun _ _ => rfl) (fun _ _ => rfl) (fun _ => rfl))
 SimX.nil) (SimX.cons Sim.no
 SimX.nil))
 SimX.nil)) SimX.nil)
 (SimX.cons (SimS.if (SimB.val e.ok (SimE.attr (Sim.name (Sim.ownL rfl rfl) (by decide +kernel)) (at_ring__weight_fn e) (fun _ => rfl)) (fun _ => rfl)) (SimX.cons Sim.no
 SimX.nil) SimX.nil)
 (SimX.cons (SimS.if (SimB.cmp e.ok (SimE.mcall (ks := []) (Sim.name (Sim.ownL rfl rfl) (by decide +kernel)) (SimI.cons SimE.str SimI.nil (fun _ => rfl)) SimK.nil (SimM.dget e.ok) (fun _ => rfl) (fun _ => rfl) (fun _ => ⟨_, rfl⟩)) (SimE.sub (Sim.name (Sim.ownL rfl rfl) (by decide +kernel)) SimE.str (OpSub.get e.ok) (fun _ _ => rfl)) Op2.ne rfl) (SimX.cons (SimS.assign SimE.bool (SimT.ownL rfl rfl) (fun _ _ => rfl) (fun _ _ => rfl) (fun _ => rfl))
 SimX.nil) SimX.nil)
 (SimX.cons (SimS.assign (Sim.name (Sim.ownL rfl rfl) (by decide +kernel)) (SimT.sub (SimE.attr (SimE.attr (Sim.name (Sim.ownL rfl rfl) (by decide +kernel)) (at_ring_runtime e) (fun _ => rfl)) (at_meta__nodes e) (fun _ => rfl)) (Sim.name (Sim.ownL rfl rfl) (by decide +kernel)) (OpSet.dict e.ok)) (fun _ _ => rfl) (fun _ _ => rfl) (fun _ => rfl))
 SimX.nil)))))))) SimX.nil (fun _ _ => rfl))
 (SimX.cons (SimS.ret (Sim.name (Sim.ownL rfl rfl) (by decide +kernel)))
 SimX.nil))))
noncomputable def ringInit : { g // ∀ {W p}, E4 W p → SimCall W 31 (.ref 405) [("hash_fn" : Str), ("vnodes" : Str)] g } := by
  refine' ⟨_, fun {W p} e => SimCall.fn e.ok (ps := [("self" : Str), ("nodes" : Str), ("kwargs" : Str)]) ⟨⟨_, by rw [e.hK]; k_is, rfl⟩, rfl, rfl, rfl, rfl, rfl, rfl, rfl, ⟨_,_,_,_, rfl, by rw [e.hK]; k_is, rfl, rfl⟩, fnSc_of (by kernel_rfl)⟩ (SimBind.kw2e e.ok (k1 := "hash_fn") (k2 := "vnodes") (p1 := "self") (p2 := "nodes") (p3 := "kwargs") (T := 400) _ (by rw [e.hK]; k_is) rfl (by decide +kernel) (fun x y u v => _)) _⟩
  rotate_left
  · rfl
  · exact ⟨_, rfl, rfl⟩
  · exact (SimX.cons (SimS.assign (SimE.mcall (ks := []) (Sim.name (Sim.ownL rfl rfl) (by decide +kernel)) (SimI.cons SimE.str (SimI.cons SimE.none SimI.nil (fun _ => rfl)) (fun _ => rfl)) SimK.nil (SimM.dget e.ok) (fun _ => rfl) (fun _ => rfl) (fun _ => ⟨_, rfl⟩)) (SimT.ownL rfl rfl) (fun _ _ => rfl) (fun _ _ => rfl) (fun _ => rfl))
 (SimX.cons (SimS.assign (SimE.mcall (ks := []) (Sim.name (Sim.ownL rfl rfl) (by decide +kernel)) (SimI.cons SimE.str (SimI.cons SimE.none SimI.nil (fun _ => rfl)) (fun _ => rfl)) SimK.nil (SimM.dget e.ok) (fun _ => rfl) (fun _ => rfl) (fun _ => ⟨_, rfl⟩)) (SimT.ownL rfl rfl) (fun _ _ => rfl) (fun _ _ => rfl) (fun _ => rfl))
 (SimX.cons (SimS.assign (SimE.mcall (ks := []) (Sim.name (Sim.ownL rfl rfl) (by decide +kernel)) (SimI.cons SimE.str (SimI.cons SimE.none SimI.nil (fun _ => rfl)) (fun _ => rfl)) SimK.nil (SimM.dget e.ok) (fun _ => rfl) (fun _ => rfl) (fun _ => ⟨_, rfl⟩)) (SimT.ownL rfl rfl) (fun _ _ => rfl) (fun _ _ => rfl) (fun _ => rfl))
 (SimX.cons (SimS.if (SimB.cmp e.ok (Sim.name (Sim.ownL rfl rfl) (by decide +kernel)) SimE.str (Op2.eqFS) rfl) (SimX.cons Sim.no
 (SimX.cons Sim.no
 (SimX.cons Sim.no
 SimX.nil))) (SimX.cons (SimS.if (SimB.cmp e.ok (Sim.name (Sim.ownL rfl rfl) (by decide +kernel)) SimE.none Op2.ord rfl) (SimX.cons (SimS.assign SimE.int (SimT.ownL rfl rfl) (fun _ _ => rfl) (fun _ _ => rfl) (fun _ => rfl))
 SimX.nil) SimX.nil)
 (SimX.cons (SimS.assign (SimE.callV (ks := []) (Sim.name (Sim.glob e.c rfl rfl) (by decide +kernel)) (SimI.cons (Sim.name (Sim.ownL rfl rfl) (by decide +kernel)) (SimI.cons (SimE.mcall (ks := []) (Sim.name (Sim.ownL rfl rfl) (by decide +kernel)) (SimI.cons SimE.str (SimI.cons SimE.none SimI.nil (fun _ => rfl)) (fun _ => rfl)) SimK.nil (SimM.dget e.ok) (fun _ => rfl) (fun _ => rfl) (fun _ => ⟨_, rfl⟩)) SimI.nil (fun _ => rfl)) (fun _ => rfl)) SimK.nil (SimV.cls e.ok 0 (by rw [e.hK]; k_is) (by rw [e.hK]; k_is) (by rw [e.hK]; k_is) (by rw [e.hK]; k_is) ((metaInit.2 e).up (by decide))) (fun _ => rfl) (fun _ => rfl)) (SimT.attr e.ok (cls_ring e.hK) (st_ring_runtime e) (Sim.name (Sim.ownL rfl rfl) (by decide +kernel))) (fun _ _ => rfl) (fun _ _ => rfl) (fun _ => rfl))
 SimX.nil)))
 (SimX.cons (SimS.assign (Sim.name (Sim.ownL rfl rfl) (by decide +kernel)) (SimT.attr e.ok (cls_ring e.hK) (st_ring__default_vnodes e) (Sim.name (Sim.ownL rfl rfl) (by decide +kernel))) (fun _ _ => rfl) (fun _ _ => rfl) (fun _ => rfl))
 (SimX.cons (SimS.assign (SimE.attr (SimE.attr (Sim.name (Sim.ownL rfl rfl) (by decide +kernel)) (at_ring_runtime e) (fun _ => rfl)) (at_meta_hashi e) (fun _ => rfl)) (SimT.attr e.ok (cls_ring e.hK) (st_ring_hashi e) (Sim.name (Sim.ownL rfl rfl) (by decide +kernel))) (fun _ _ => rfl) (fun _ _ => rfl) (fun _ => rfl))
 (SimX.cons (SimS.if (SimB.boolop (SimAll.and (SimB.val e.ok (Sim.name (Sim.ownL rfl rfl) (by decide +kernel)) (fun _ => rfl)) (SimAll.and (SimB.val e.ok (SimE.callV (ks := []) (Sim.name (Sim.bui e.c rfl rfl) (by decide +kernel)) (SimI.cons (Sim.name (Sim.ownL rfl rfl) (by decide +kernel)) (SimI.cons (SimE.tuple (SimI.cons (Sim.name (Sim.bui e.c rfl rfl) (by decide +kernel)) (SimI.cons (Sim.name (Sim.bui e.c rfl rfl) (by decide +kernel)) (SimI.cons (Sim.name (Sim.bui e.c rfl rfl) (by decide +kernel)) (SimI.cons (Sim.name (Sim.bui e.c rfl rfl) (by decide +kernel)) (SimI.cons (Sim.name (Sim.bui e.c rfl rfl) (by decide +kernel)) (SimI.cons (Sim.name (Sim.bui e.c rfl rfl) (by decide +kernel)) (SimI.cons (Sim.name (Sim.bui e.c rfl rfl) (by decide +kernel)) SimI.nil (fun _ => rfl)) (fun _ => rfl)) (fun _ => rfl)) (fun _ => rfl)) (fun _ => rfl)) (fun _ => rfl)) (fun _ => rfl))) SimI.nil (fun _ => rfl)) (fun _ => rfl)) SimK.nil (SimV.isiA) (fun _ => rfl) (fun _ => rfl)) (fun _ => rfl)) SimAll.andNil))) (SimX.cons Sim.no
 SimX.nil) SimX.nil)
 (SimX.cons (SimS.assign (Sim.name (Sim.ownL rfl rfl) (by decide +kernel)) (SimT.attr e.ok (cls_ring e.hK) (st_ring__weight_fn e) (Sim.name (Sim.ownL rfl rfl) (by decide +kernel))) (fun _ _ => rfl) (fun _ _ => rfl) (fun _ => rfl))
 (SimX.cons (SimS.if (SimB.val e.ok (SimE.mcall (ks := []) (Sim.name (Sim.ownL rfl rfl) (by decide +kernel)) (SimI.cons (Sim.name (Sim.ownL rfl rfl) (by decide +kernel)) SimI.nil (fun _ => rfl)) SimK.nil (SimM.fn e.ok (cls_ring e.hK) (by rw [e.hK]; k_is) (by rw [e.hK]; k_is) (by rw [e.hK]; k_is) ((confNodes.2 e).up (by decide))) (fun _ => rfl) (fun _ => rfl) (fun _ => ⟨_, rfl⟩)) (fun _ => rfl)) (SimX.cons (SimS.expr (SimE.mcall (ks := []) (SimE.attr (Sim.name (Sim.ownL rfl rfl) (by decide +kernel)) (at_ring_runtime e) (fun _ => rfl)) (SimI.cons (SimE.mcall (ks := []) (SimE.attr (SimE.attr (Sim.name (Sim.ownL rfl rfl) (by decide +kernel)) (at_ring_runtime e) (fun _ => rfl)) (at_meta__nodes e) (fun _ => rfl)) SimI.nil SimK.nil (SimM.items e.ok) (fun _ => rfl) (fun _ => rfl) (fun _ => ⟨_, rfl⟩)) SimI.nil (fun _ => rfl)) SimK.nil (SimM.fn e.ok (cls_meta e.hK) (by rw [e.hK]; k_is) (by rw [e.hK]; k_is) (by rw [e.hK]; k_is) ((createRing.2 e).up (by decide))) (fun _ => rfl) (fun _ => rfl) (fun _ => ⟨_, rfl⟩)) (fun _ _ => rfl))
 SimX.nil) SimX.nil)
 SimX.nil)))))))))
noncomputable def pNodes : { g // ∀ {W p}, E4 W p → SimCall W 6 (.ref 603) [] g } := by
  refine' ⟨_, fun {W p} e => SimCall.fn e.ok (ps := [("self" : Str)]) ⟨⟨_, by rw [e.hK]; k_is, rfl⟩, rfl, rfl, rfl, rfl, rfl, rfl, rfl, ⟨_,_,_,_, rfl, by rw [e.hK]; k_is, rfl, rfl⟩, fnSc_of (by kernel_rfl)⟩ (SimBind.plain 1 rfl (fun ms h => _)) _⟩
  rotate_left
  · match ms, h with
    | [a], _ => rfl
  · exact (SimX.cons (SimS.ret (SimE.attr (SimE.attr (Sim.name (Sim.ownL rfl rfl) (by decide +kernel)) (at_ring_runtime e) (fun _ => rfl)) (at_meta__nodes e) (fun _ => rfl)))
 SimX.nil)
theorem pr_nodes {W : Wd} {p : Params} (e : E4 W p) {n : Nat} (hn : 6 ≤ n := by decide) : Op1g W (n + 1) (fun v => getAttr v "_nodes" true) (getPr 615 pNodes.1) := Op1g.prop e.ok (cls_ring e.hK) (by rw [e.hK]; k_is) (by rw [e.hK]; k_is) (by rw [e.hK]; k_is) (by rw [e.hK]; k_is) ((pNodes.2 e).up hn)
noncomputable def pSize : { g // ∀ {W p}, E4 W p → SimCall W 6 (.ref 587) [] g } := by
  refine' ⟨_, fun {W p} e => SimCall.fn e.ok (ps := [("self" : Str)]) ⟨⟨_, by rw [e.hK]; k_is, rfl⟩, rfl, rfl, rfl, rfl, rfl, rfl, rfl, ⟨_,_,_,_, rfl, by rw [e.hK]; k_is, rfl, rfl⟩, fnSc_of (by kernel_rfl)⟩ (SimBind.plain 1 rfl (fun ms h => _)) _⟩
  rotate_left
  · match ms, h with
    | [a], _ => rfl
  · exact (SimX.cons (SimS.ret (SimE.callV (ks := []) (Sim.name (Sim.bui e.c rfl rfl) (by decide +kernel)) (SimI.cons (SimE.attr (SimE.attr (Sim.name (Sim.ownL rfl rfl) (by decide +kernel)) (at_ring_runtime e) (fun _ => rfl)) (at_meta__ring e) (fun _ => rfl)) SimI.nil (fun _ => rfl)) SimK.nil (SimV.len e.ok) (fun _ => rfl) (fun _ => rfl)))
 SimX.nil)
theorem pr_size {W : Wd} {p : Params} (e : E4 W p) {n : Nat} (hn : 6 ≤ n := by decide) : Op1g W (n + 1) (fun v => getAttr v "size" true) (getPr 615 pSize.1) := Op1g.prop e.ok (cls_ring e.hK) (by rw [e.hK]; k_is) (by rw [e.hK]; k_is) (by rw [e.hK]; k_is) (by rw [e.hK]; k_is) ((pSize.2 e).up hn)
noncomputable def setItem : { g // ∀ {W p}, E4 W p → SimCall W 31 (.ref 435) [] g } := by
  refine' ⟨_, fun {W p} e => SimCall.fn e.ok (ps := [("self" : Str), ("nodename" : Str), ("conf" : Str)]) ⟨⟨_, by rw [e.hK]; k_is, rfl⟩, rfl, rfl, rfl, rfl, rfl, rfl, rfl, ⟨_,_,_,_, rfl, by rw [e.hK]; k_is, rfl, rfl⟩, fnSc_of (by kernel_rfl)⟩ (SimBind.dflt e.ok 3 [] [] (T := 428) (by rw [e.hK]; k_is) rfl (fun _ _ _ _ => rfl) (fun ms s h q => _)) _⟩
  rotate_left
  · match ms, h with
    | [a, b, c], _ => exact BindsTo.of_defaults rfl q rfl rfl rfl
  · exact (SimX.cons (SimS.if (SimB.val e.ok (SimE.mcall (ks := []) (Sim.name (Sim.ownL rfl rfl) (by decide +kernel)) (SimI.cons (SimE.dictzK e.ok (SimPs.cons (Sim.name (Sim.ownL rfl rfl) (by decide +kernel)) (Sim.name (Sim.ownL rfl rfl) (by decide +kernel)) SimPs.nil) (fun _ => rfl) rfl (by decide)) SimI.nil (fun _ => rfl)) SimK.nil (SimM.fn e.ok (cls_ring e.hK) (by rw [e.hK]; k_is) (by rw [e.hK]; k_is) (by rw [e.hK]; k_is) ((confNodes.2 e).up (by decide))) (fun _ => rfl) (fun _ => rfl) (fun _ => ⟨_, rfl⟩)) (fun _ => rfl)) (SimX.cons (SimS.expr (SimE.mcall (ks := []) (SimE.attr (Sim.name (Sim.ownL rfl rfl) (by decide +kernel)) (at_ring_runtime e) (fun _ => rfl)) (SimI.cons (SimE.listz (SimI.cons (SimE.tuple (SimI.cons (Sim.name (Sim.ownL rfl rfl) (by decide +kernel)) (SimI.cons (SimE.sub (SimE.attrG (Sim.name (Sim.ownL rfl rfl) (by decide +kernel)) (pr_nodes e) (fun _ => rfl)) (Sim.name (Sim.ownL rfl rfl) (by decide +kernel)) (OpSub.get e.ok) (fun _ _ => rfl)) SimI.nil (fun _ => rfl)) (fun _ => rfl))) SimI.nil (fun _ => rfl))) SimI.nil (fun _ => rfl)) SimK.nil (SimM.fn e.ok (cls_meta e.hK) (by rw [e.hK]; k_is) (by rw [e.hK]; k_is) (by rw [e.hK]; k_is) ((createRing.2 e).up (by decide))) (fun _ => rfl) (fun _ => rfl) (fun _ => ⟨_, rfl⟩)) (fun _ _ => rfl))
 SimX.nil) SimX.nil)
 SimX.nil)
noncomputable def getPos : { g // ∀ {W p}, E4 W p → SimCall W 21 (.ref 442) [] g } := by
  refine' ⟨_, fun {W p} e => SimCall.fn e.ok (ps := [("self" : Str), ("key" : Str)]) ⟨⟨_, by rw [e.hK]; k_is, rfl⟩, rfl, rfl, rfl, rfl, rfl, rfl, rfl, ⟨_,_,_,_, rfl, by rw [e.hK]; k_is, rfl, rfl⟩, fnSc_of (by kernel_rfl)⟩ (SimBind.plain 2 rfl (fun ms h => _)) _⟩
  rotate_left
  · match ms, h with
    | [a, b], _ => rfl
  · exact (SimX.cons (SimS.assign (SimE.callV (ks := []) (Sim.name (Sim.glob e.c rfl rfl) (by decide +kernel)) (SimI.cons (SimE.attr (SimE.attr (Sim.name (Sim.ownL rfl rfl) (by decide +kernel)) (at_ring_runtime e) (fun _ => rfl)) (at_meta__keys e) (fun _ => rfl)) (SimI.cons (SimE.mcall (ks := []) (Sim.name (Sim.ownL rfl rfl) (by decide +kernel)) (SimI.cons (Sim.name (Sim.ownL rfl rfl) (by decide +kernel)) SimI.nil (fun _ => rfl)) SimK.nil (SimM.own e.ok (cls_ring e.hK) (by rw [e.hK]; k_is) (SimF.bm e.ok (by rw [e.hK]; k_is) ((hashi.2 e).up (by decide)))) (fun _ => rfl) (fun _ => rfl) (fun _ => ⟨_, rfl⟩)) SimI.nil (fun _ => rfl)) (fun _ => rfl)) SimK.nil (SimV.bis) (fun _ => rfl) (fun _ => rfl)) (SimT.ownL rfl rfl) (fun _ _ => rfl) (fun _ _ => rfl) (fun _ => rfl))
 (SimX.cons (SimS.if (SimB.cmp e.ok (Sim.name (Sim.ownL rfl rfl) (by decide +kernel)) (SimE.callV (ks := []) (Sim.name (Sim.bui e.c rfl rfl) (by decide +kernel)) (SimI.cons (SimE.attr (SimE.attr (Sim.name (Sim.ownL rfl rfl) (by decide +kernel)) (at_ring_runtime e) (fun _ => rfl)) (at_meta__keys e) (fun _ => rfl)) SimI.nil (fun _ => rfl)) SimK.nil (SimV.len e.ok) (fun _ => rfl) (fun _ => rfl)) (Op2.eq) rfl) (SimX.cons (SimS.ret SimE.int)
 SimX.nil) (SimX.cons (SimS.ret (Sim.name (Sim.ownL rfl rfl) (by decide +kernel)))
 SimX.nil))
 SimX.nil))
noncomputable def get_ : { g // ∀ {W p}, E4 W p → SimCall W 31 (.ref 449) [] g } := by
  refine' ⟨_, fun {W p} e => SimCall.fn e.ok (ps := [("self" : Str), ("key" : Str), ("what" : Str)]) ⟨⟨_, by rw [e.hK]; k_is, rfl⟩, rfl, rfl, rfl, rfl, rfl, rfl, rfl, ⟨_,_,_,_, rfl, by rw [e.hK]; k_is, rfl, rfl⟩, fnSc_of (by kernel_rfl)⟩ (SimBind.plain 3 rfl (fun ms h => _)) _⟩
  rotate_left
  · match ms, h with
    | [a, b, c], _ => rfl
  · exact (SimX.cons (SimS.if (SimB.not (SimB.val e.ok (SimE.attr (SimE.attr (Sim.name (Sim.ownL rfl rfl) (by decide +kernel)) (at_ring_runtime e) (fun _ => rfl)) (at_meta__ring e) (fun _ => rfl)) (fun _ => rfl))) (SimX.cons (SimS.ret SimE.none)
 SimX.nil) SimX.nil)
 (SimX.cons (SimS.assign (SimE.mcall (ks := []) (Sim.name (Sim.ownL rfl rfl) (by decide +kernel)) (SimI.cons (Sim.name (Sim.ownL rfl rfl) (by decide +kernel)) SimI.nil (fun _ => rfl)) SimK.nil (SimM.fn e.ok (cls_ring e.hK) (by rw [e.hK]; k_is) (by rw [e.hK]; k_is) (by rw [e.hK]; k_is) ((getPos.2 e).up (by decide))) (fun _ => rfl) (fun _ => rfl) (fun _ => ⟨_, rfl⟩)) (SimT.ownL rfl rfl) (fun _ _ => rfl) (fun _ _ => rfl) (fun _ => rfl))
 (SimX.cons (SimS.if (SimB.cmp e.ok (Sim.name (Sim.ownL rfl rfl) (by decide +kernel)) SimE.str (Op2.eq) rfl) (SimX.cons (SimS.ret (Sim.name (Sim.ownL rfl rfl) (by decide +kernel)))
 SimX.nil) SimX.nil)
 (SimX.cons (SimS.assign (SimE.sub (SimE.attr (SimE.attr (Sim.name (Sim.ownL rfl rfl) (by decide +kernel)) (at_ring_runtime e) (fun _ => rfl)) (at_meta__ring e) (fun _ => rfl)) (SimE.sub (SimE.attr (SimE.attr (Sim.name (Sim.ownL rfl rfl) (by decide +kernel)) (at_ring_runtime e) (fun _ => rfl)) (at_meta__keys e) (fun _ => rfl)) (Sim.name (Sim.ownL rfl rfl) (by decide +kernel)) (OpSub.get e.ok) (fun _ _ => rfl)) (OpSub.get e.ok) (fun _ _ => rfl)) (SimT.ownL rfl rfl) (fun _ _ => rfl) (fun _ _ => rfl) (fun _ => rfl))
 (SimX.cons (SimS.if (SimB.cmp e.ok (Sim.name (Sim.ownL rfl rfl) (by decide +kernel)) (SimE.listz (SimI.cons SimE.str (SimI.cons SimE.str (SimI.cons SimE.str (SimI.cons SimE.str SimI.nil (fun _ => rfl)) (fun _ => rfl)) (fun _ => rfl)) (fun _ => rfl))) (Op2.in e.ok) rfl) (SimX.cons (SimS.ret (SimE.sub (SimE.sub (SimE.attr (SimE.attr (Sim.name (Sim.ownL rfl rfl) (by decide +kernel)) (at_ring_runtime e) (fun _ => rfl)) (at_meta__nodes e) (fun _ => rfl)) (Sim.name (Sim.ownL rfl rfl) (by decide +kernel)) (OpSub.get e.ok) (fun _ _ => rfl)) (Sim.name (Sim.ownL rfl rfl) (by decide +kernel)) (OpSub.get e.ok) (fun _ _ => rfl)))
 SimX.nil) (SimX.cons (SimS.if (SimB.cmp e.ok (Sim.name (Sim.ownL rfl rfl) (by decide +kernel)) SimE.str (Op2.eq) rfl) (SimX.cons (SimS.ret (SimE.sub (SimE.attr (SimE.attr (Sim.name (Sim.ownL rfl rfl) (by decide +kernel)) (at_ring_runtime e) (fun _ => rfl)) (at_meta__nodes e) (fun _ => rfl)) (Sim.name (Sim.ownL rfl rfl) (by decide +kernel)) (OpSub.get e.ok) (fun _ _ => rfl)))
 SimX.nil) (SimX.cons (SimS.if (SimB.cmp e.ok (Sim.name (Sim.ownL rfl rfl) (by decide +kernel)) SimE.str (Op2.eq) rfl) (SimX.cons (SimS.ret (Sim.name (Sim.ownL rfl rfl) (by decide +kernel)))
 SimX.nil) (SimX.cons (SimS.if (SimB.cmp e.ok (Sim.name (Sim.ownL rfl rfl) (by decide +kernel)) SimE.str (Op2.eq) rfl) (SimX.cons (SimS.ret (SimE.tuple (SimI.cons (SimE.sub (SimE.attr (SimE.attr (Sim.name (Sim.ownL rfl rfl) (by decide +kernel)) (at_ring_runtime e) (fun _ => rfl)) (at_meta__keys e) (fun _ => rfl)) (Sim.name (Sim.ownL rfl rfl) (by decide +kernel)) (OpSub.get e.ok) (fun _ _ => rfl)) (SimI.cons (Sim.name (Sim.ownL rfl rfl) (by decide +kernel)) SimI.nil (fun _ => rfl)) (fun _ => rfl))))
 SimX.nil) SimX.nil)
 SimX.nil))
 SimX.nil))
 SimX.nil))
 SimX.nil)))))
noncomputable def getServer : { g // ∀ {W p}, E4 W p → SimCall W 41 (.ref 526) [] g } := by
  refine' ⟨_, fun {W p} e => SimCall.fn e.ok (ps := [("self" : Str), ("key" : Str)]) ⟨⟨_, by rw [e.hK]; k_is, rfl⟩, rfl, rfl, rfl, rfl, rfl, rfl, rfl, ⟨_,_,_,_, rfl, by rw [e.hK]; k_is, rfl, rfl⟩, fnSc_of (by kernel_rfl)⟩ (SimBind.plain 2 rfl (fun ms h => _)) _⟩
  rotate_left
  · match ms, h with
    | [a, b], _ => rfl
  · exact (SimX.cons (SimS.ret (SimE.mcall (ks := []) (Sim.name (Sim.ownL rfl rfl) (by decide +kernel)) (SimI.cons (Sim.name (Sim.ownL rfl rfl) (by decide +kernel)) (SimI.cons SimE.str SimI.nil (fun _ => rfl)) (fun _ => rfl)) SimK.nil (SimM.fn e.ok (cls_ring e.hK) (by rw [e.hK]; k_is) (by rw [e.hK]; k_is) (by rw [e.hK]; k_is) ((get_.2 e).up (by decide))) (fun _ => rfl) (fun _ => rfl) (fun _ => ⟨_, rfl⟩)))
 SimX.nil)
noncomputable def getNodePos : { g // ∀ {W p}, E4 W p → SimCall W 41 (.ref 498) [] g } := by
  refine' ⟨_, fun {W p} e => SimCall.fn e.ok (ps := [("self" : Str), ("key" : Str)]) ⟨⟨_, by rw [e.hK]; k_is, rfl⟩, rfl, rfl, rfl, rfl, rfl, rfl, rfl, ⟨_,_,_,_, rfl, by rw [e.hK]; k_is, rfl, rfl⟩, fnSc_of (by kernel_rfl)⟩ (SimBind.plain 2 rfl (fun ms h => _)) _⟩
  rotate_left
  · match ms, h with
    | [a, b], _ => rfl
  · exact (SimX.cons (SimS.ret (SimE.mcall (ks := []) (Sim.name (Sim.ownL rfl rfl) (by decide +kernel)) (SimI.cons (Sim.name (Sim.ownL rfl rfl) (by decide +kernel)) (SimI.cons SimE.str SimI.nil (fun _ => rfl)) (fun _ => rfl)) SimK.nil (SimM.fn e.ok (cls_ring e.hK) (by rw [e.hK]; k_is) (by rw [e.hK]; k_is) (by rw [e.hK]; k_is) ((get_.2 e).up (by decide))) (fun _ => rfl) (fun _ => rfl) (fun _ => ⟨_, rfl⟩)))
 SimX.nil)
noncomputable def lawPrimes : { g // ∀ {W p}, E4 W p → SimCall W 6 (.ref 626) [] g } := by
  refine' ⟨_, fun {W p} e => SimCall.fn e.ok (ps := []) ⟨⟨_, by rw [e.hK]; k_is, rfl⟩, rfl, rfl, rfl, rfl, rfl, rfl, rfl, ⟨_,_,_,_, rfl, by rw [e.hK]; k_is, rfl, rfl⟩, fnSc_of (by kernel_rfl)⟩ (SimBind.plain 0 rfl (fun ms h => _)) _⟩
  rotate_left
  · match ms, h with
    | [], _ => rfl
  · exact (SimX.cons (SimS.ret (SimE.listz (SimI.cons SimE.int (SimI.cons SimE.int (SimI.cons SimE.int (SimI.cons SimE.int (SimI.cons SimE.int SimI.nil (fun _ => rfl)) (fun _ => rfl)) (fun _ => rfl)) (fun _ => rfl)) (fun _ => rfl))))
 SimX.nil)
noncomputable def lawAt : { g // ∀ {W p}, E4 W p → SimCall W 6 (.ref 633) [] g } := by
  refine' ⟨_, fun {W p} e => SimCall.fn e.ok (ps := [("script" : Str), ("k" : Str), ("other" : Str)]) ⟨⟨_, by rw [e.hK]; k_is, rfl⟩, rfl, rfl, rfl, rfl, rfl, rfl, rfl, ⟨_,_,_,_, rfl, by rw [e.hK]; k_is, rfl, rfl⟩, fnSc_of (by kernel_rfl)⟩ (SimBind.plain 3 rfl (fun ms h => _)) _⟩
  rotate_left
  · match ms, h with
    | [a, b, c], _ => rfl
  · exact (SimX.cons (SimS.ret (SimE.ifexp (SimB.cmp e.ok (Sim.name (Sim.ownL rfl rfl) (by decide +kernel)) (SimE.callV (ks := []) (Sim.name (Sim.bui e.c rfl rfl) (by decide +kernel)) (SimI.cons (Sim.name (Sim.ownL rfl rfl) (by decide +kernel)) SimI.nil (fun _ => rfl)) SimK.nil (SimV.len e.ok) (fun _ => rfl) (fun _ => rfl)) Op2.ord rfl) (SimE.sub (Sim.name (Sim.ownL rfl rfl) (by decide +kernel)) (Sim.name (Sim.ownL rfl rfl) (by decide +kernel)) (OpSub.get e.ok) (fun _ _ => rfl)) (Sim.name (Sim.ownL rfl rfl) (by decide +kernel))))
 SimX.nil)
end Mine
end

section
open PySem PySem.W PySem.Calls PyProof.Rows
set_option Elab.async false
set_option maxRecDepth 100000
set_option maxHeartbeats 4000000
set_option pp.deepTerms false
namespace Mine
def lawB : { q : List Stmt × Scope // ∀ p, ∃ o fd, (hd.heap_39 p).lookup 638 = some o ∧ o.data = .func fd ∧ fd.body = .stmts q.1 ∧ fd.scope = q.2 } := by
  refine' ⟨(_, _), fun p => ⟨_, _, by k_is, rfl, rfl, rfl⟩⟩
noncomputable def lawW : { g // ∀ {W p} (e : E4 W p) (c P : Addr) (T : TopOK W c P), SimLaw W (fnSc lawB.1.2) c P 60 #[] lawB.1.1 g } := by
  refine' ⟨?g, fun {W p} e c P T => ?h⟩
  case' h => unfold lawB
  case' h => dsimp only
  case' h => refine' SimLaw.cons (SimS.assign (SimE.callV (ks := []) (Sim.name (Sim.glob e.c rfl rfl) (by decide +kernel)) (SimI.cons (Sim.name (Sim.ownL rfl rfl) (by decide +kernel)) (SimI.cons SimE.int (SimI.cons SimE.int SimI.nil (fun _ => rfl)) (fun _ => rfl)) (fun _ => rfl)) SimK.nil (SimV.fn e.ok (by rw [e.hK]; k_is) ((lawAt.2 e).up (by decide))) (fun _ => rfl) (fun _ => rfl)) (SimT.ownL rfl rfl) (fun _ _ => rfl) (fun _ _ => rfl) (fun _ => rfl)) ?h1
  case' h1 => refine' SimLaw.cons (SimS.assign (SimE.sub (SimE.callV (ks := []) (Sim.name (Sim.glob e.c rfl rfl) (by decide +kernel)) SimI.nil SimK.nil (SimV.fn e.ok (by rw [e.hK]; k_is) ((lawPrimes.2 e).up (by decide))) (fun _ => rfl) (fun _ => rfl)) (SimE.binop (Sim.name (Sim.ownL rfl rfl) (by decide +kernel)) SimE.int Op2.ar) (OpSub.get e.ok) (fun _ _ => rfl)) (SimT.ownC rfl rfl) (fun _ _ => rfl) (fun _ _ => rfl) (fun _ => rfl)) ?h2
  case' h2 => refine' SimLaw.cons (SimS.assign (SimE.sub (SimE.callV (ks := []) (Sim.name (Sim.glob e.c rfl rfl) (by decide +kernel)) SimI.nil SimK.nil (SimV.fn e.ok (by rw [e.hK]; k_is) ((lawPrimes.2 e).up (by decide))) (fun _ => rfl) (fun _ => rfl)) (SimE.binop (SimE.binop (SimE.binop (SimE.binop (Sim.name (Sim.ownL rfl rfl) (by decide +kernel)) SimE.int Op2.ar) SimE.int Op2.ar) (SimE.binop (SimE.binop (Sim.name (Sim.ownL rfl rfl) (by decide +kernel)) SimE.int Op2.ar) SimE.int Op2.ar) Op2.ar) SimE.int Op2.ar) (OpSub.get e.ok) (fun _ _ => rfl)) (SimT.ownC rfl rfl) (fun _ _ => rfl) (fun _ _ => rfl) (fun _ => rfl)) ?h3
  case' h3 => refine' SimLaw.cons (SimS.assign (SimE.tuple (SimI.cons (SimE.binop SimE.int (SimE.callV (ks := []) (Sim.name (Sim.bui e.c rfl rfl) (by decide +kernel)) (SimI.cons (SimE.callV (ks := []) (Sim.name (Sim.glob e.c rfl rfl) (by decide +kernel)) (SimI.cons (Sim.name (Sim.ownL rfl rfl) (by decide +kernel)) (SimI.cons SimE.int (SimI.cons SimE.int SimI.nil (fun _ => rfl)) (fun _ => rfl)) (fun _ => rfl)) SimK.nil (SimV.fn e.ok (by rw [e.hK]; k_is) ((lawAt.2 e).up (by decide))) (fun _ => rfl) (fun _ => rfl)) SimI.nil (fun _ => rfl)) SimK.nil (SimV.abs) (fun _ => rfl) (fun _ => rfl)) Op2.ar) (SimI.cons (SimE.callV (ks := []) (Sim.name (Sim.glob e.c rfl rfl) (by decide +kernel)) (SimI.cons (Sim.name (Sim.ownL rfl rfl) (by decide +kernel)) (SimI.cons SimE.int (SimI.cons SimE.int SimI.nil (fun _ => rfl)) (fun _ => rfl)) (fun _ => rfl)) SimK.nil (SimV.fn e.ok (by rw [e.hK]; k_is) ((lawAt.2 e).up (by decide))) (fun _ => rfl) (fun _ => rfl)) SimI.nil (fun _ => rfl)) (fun _ => rfl))) (SimT.tuple 2 (SimTs.cons (SimT.ownC rfl rfl) (SimTs.cons (SimT.ownC rfl rfl) SimTs.nil (fun _ => rfl)) (fun _ => rfl)) (fun _ => rfl) (fun _ => rfl)) (fun _ _ => rfl) (fun env h => by unfold swappedStores Env.kindOf Env.blockKind; rw [h]; rfl) (fun _ => rfl)) ?h4
  case' h4 => refine' SimLaw.cons (SimS.assign (SimE.dict0 0) (SimT.ownC rfl rfl) (fun _ _ => rfl) (fun _ _ => rfl) (fun _ => rfl)) ?h5
  case' h5 => refine' SimLaw.cons (SimS.for (SimIt.ofB (SimE.tuple (SimI.cons (SimE.tuple (SimI.cons (Sim.name (Sim.ownC rfl rfl) (by decide +kernel)) (SimI.cons (Sim.name (Sim.ownC rfl rfl) (by decide +kernel)) SimI.nil (fun _ => rfl)) (fun _ => rfl))) (SimI.cons (SimE.tuple (SimI.cons (Sim.name (Sim.ownC rfl rfl) (by decide +kernel)) (SimI.cons (Sim.name (Sim.ownC rfl rfl) (by decide +kernel)) SimI.nil (fun _ => rfl)) (fun _ => rfl))) SimI.nil (fun _ => rfl)) (fun _ => rfl)))) (SimT.tuple 2 (SimTs.cons (SimT.ownC rfl rfl) (SimTs.cons (SimT.ownC rfl rfl) SimTs.nil (fun _ => rfl)) (fun _ => rfl)) (fun _ => rfl) (fun _ => rfl)) (SimX.cons (SimS.for (SimIt.ofB (SimE.callV (ks := []) (Sim.name (Sim.bui e.c rfl rfl) (by decide +kernel)) (SimI.cons (Sim.name (Sim.ownC rfl rfl) (by decide +kernel)) SimI.nil (fun _ => rfl)) SimK.nil (SimV.range) (fun _ => rfl) (fun _ => rfl))) (SimT.ownL rfl rfl) (SimX.cons (SimS.assign (SimE.binop (Sim.name (Sim.ownC rfl rfl) (by decide +kernel)) (SimE.binop (SimE.binop (Sim.name (Sim.ownC rfl rfl) (by decide +kernel)) (Sim.name (Sim.ownC rfl rfl) (by decide +kernel)) Op2.ar) (Sim.name (Sim.ownL rfl rfl) (by decide +kernel)) Op2.ar) Op2.ar) (SimT.sub (Sim.name (Sim.ownC rfl rfl) (by decide +kernel)) (SimE.binop (SimE.binop (SimE.callV (ks := []) (Sim.name (Sim.bui e.c rfl rfl) (by decide +kernel)) (SimI.cons (Sim.name (Sim.ownC rfl rfl) (by decide +kernel)) SimI.nil (fun _ => rfl)) SimK.nil (SimV.str) (fun _ => rfl) (fun _ => rfl)) SimE.str Op2.ar) (SimE.callV (ks := []) (Sim.name (Sim.bui e.c rfl rfl) (by decide +kernel)) (SimI.cons (Sim.name (Sim.ownL rfl rfl) (by decide +kernel)) SimI.nil (fun _ => rfl)) SimK.nil (SimV.str) (fun _ => rfl) (fun _ => rfl)) Op2.ar) (OpSet.dict e.ok)) (fun _ _ => rfl) (fun _ _ => rfl) (fun _ => rfl))
 SimX.nil) SimX.nil (fun _ _ => rfl))
 SimX.nil) SimX.nil (fun _ _ => rfl)) ?h6
  case' h6 => refine' SimLaw.def (fname := "place") e.ok T (k := 0) ((e.clo _ _ ⟨_, by rw [e.hK]; k_is, rfl⟩ rfl).1.trans rfl) rfl rfl rfl (by intro env; rfl) trivial rfl (fun x hx => by simp at hx; subst hx; decide +kernel) (SimN.ownL rfl rfl) (fun c' => ?h7)
  case' h7 => refine' SimLaw.of ?h8
  case' h8 => exact (SimX.cons (SimS.assign (SimE.callV (ks := [("hash_fn" : Str), ("vnodes" : Str)]) (Sim.name (Sim.glob e.c rfl rfl) (by decide +kernel)) (SimI.cons (SimE.dictzK e.ok (SimPs.cons (SimE.callV (ks := []) (Sim.name (Sim.bui e.c rfl rfl) (by decide +kernel)) (SimI.cons (Sim.name (Sim.ownC rfl rfl) (by decide +kernel)) SimI.nil (fun _ => rfl)) SimK.nil (SimV.str) (fun _ => rfl) (fun _ => rfl)) (Sim.name (Sim.ownC rfl rfl) (by decide +kernel)) (SimPs.cons (SimE.callV (ks := []) (Sim.name (Sim.bui e.c rfl rfl) (by decide +kernel)) (SimI.cons (Sim.name (Sim.ownC rfl rfl) (by decide +kernel)) SimI.nil (fun _ => rfl)) SimK.nil (SimV.str) (fun _ => rfl) (fun _ => rfl)) (Sim.name (Sim.ownC rfl rfl) (by decide +kernel)) SimPs.nil)) (fun _ => rfl) rfl (by decide)) SimI.nil (fun _ => rfl)) (SimK.cons (Sim.name (Sim.ownL rfl rfl) (by decide +kernel)) (SimK.cons SimE.int SimK.nil)) (SimV.cls e.ok 0 (by rw [e.hK]; k_is) (by rw [e.hK]; k_is) (by rw [e.hK]; k_is) (by rw [e.hK]; k_is) ((ringInit.2 e).up (by decide))) (fun _ => rfl) (fun _ => rfl)) (SimT.ownC rfl rfl) (fun _ _ => rfl) (fun _ _ => rfl) (fun _ => rfl))
 (SimX.cons (SimS.if (SimB.cmp e.ok (SimE.attrG (Sim.name (Sim.ownC rfl rfl) (by decide +kernel)) (pr_size e) (fun _ => rfl)) (SimE.binop (SimE.binop (Sim.name (Sim.ownC rfl rfl) (by decide +kernel)) (Sim.name (Sim.ownC rfl rfl) (by decide +kernel)) Op2.ar) SimE.int Op2.ar) Op2.ne rfl) (SimX.cons (SimS.ret SimE.bool)
 SimX.nil) SimX.nil)
 (SimX.cons (SimS.for (SimIt.ofB (SimE.tuple (SimI.cons (SimE.tuple (SimI.cons (Sim.name (Sim.ownC rfl rfl) (by decide +kernel)) (SimI.cons (Sim.name (Sim.ownC rfl rfl) (by decide +kernel)) SimI.nil (fun _ => rfl)) (fun _ => rfl))) (SimI.cons (SimE.tuple (SimI.cons (Sim.name (Sim.ownC rfl rfl) (by decide +kernel)) (SimI.cons (Sim.name (Sim.ownC rfl rfl) (by decide +kernel)) SimI.nil (fun _ => rfl)) (fun _ => rfl))) SimI.nil (fun _ => rfl)) (fun _ => rfl)))) (SimT.tuple 2 (SimTs.cons (SimT.ownC rfl rfl) (SimTs.cons (SimT.ownC rfl rfl) SimTs.nil (fun _ => rfl)) (fun _ => rfl)) (fun _ => rfl) (fun _ => rfl)) (SimX.cons (SimS.for (SimIt.ofB (SimE.callV (ks := []) (Sim.name (Sim.bui e.c rfl rfl) (by decide +kernel)) (SimI.cons SimE.int (SimI.cons (Sim.name (Sim.ownC rfl rfl) (by decide +kernel)) SimI.nil (fun _ => rfl)) (fun _ => rfl)) SimK.nil (SimV.range) (fun _ => rfl) (fun _ => rfl))) (SimT.ownL rfl rfl) (SimX.cons (SimS.assign (SimE.binop (SimE.binop (Sim.name (Sim.ownC rfl rfl) (by decide +kernel)) (SimE.binop (SimE.binop (Sim.name (Sim.ownC rfl rfl) (by decide +kernel)) (Sim.name (Sim.ownC rfl rfl) (by decide +kernel)) Op2.ar) (Sim.name (Sim.ownL rfl rfl) (by decide +kernel)) Op2.ar) Op2.ar) SimE.int Op2.ar) (SimT.ownL rfl rfl) (fun _ _ => rfl) (fun _ _ => rfl) (fun _ => rfl))
 (SimX.cons (SimS.if (SimB.cmp e.ok (SimE.mcall (ks := []) (Sim.name (Sim.ownC rfl rfl) (by decide +kernel)) (SimI.cons (Sim.name (Sim.ownL rfl rfl) (by decide +kernel)) SimI.nil (fun _ => rfl)) SimK.nil (SimM.fn e.ok (cls_ring e.hK) (by rw [e.hK]; k_is) (by rw [e.hK]; k_is) (by rw [e.hK]; k_is) ((getServer.2 e).up (by decide))) (fun _ => rfl) (fun _ => rfl) (fun _ => ⟨_, rfl⟩)) (SimE.tuple (SimI.cons (SimE.binop (Sim.name (Sim.ownL rfl rfl) (by decide +kernel)) SimE.int Op2.ar) (SimI.cons (SimE.callV (ks := []) (Sim.name (Sim.bui e.c rfl rfl) (by decide +kernel)) (SimI.cons (Sim.name (Sim.ownC rfl rfl) (by decide +kernel)) SimI.nil (fun _ => rfl)) SimK.nil (SimV.str) (fun _ => rfl) (fun _ => rfl)) SimI.nil (fun _ => rfl)) (fun _ => rfl))) Op2.ne rfl) (SimX.cons (SimS.ret SimE.bool)
 SimX.nil) SimX.nil)
 SimX.nil)) SimX.nil (fun _ _ => rfl))
 SimX.nil) SimX.nil (fun _ _ => rfl))
 (SimX.cons (SimS.assign (SimE.comp (subSc_of (by kernel_rfl)) (SimIt.ofB (SimE.callV (ks := []) (Sim.name (Sim.bui e.c rfl rfl) (by decide +kernel)) (SimI.cons SimE.int (SimI.cons (Sim.name (Sim.ownC rfl rfl) (by decide +kernel)) SimI.nil (fun _ => rfl)) (fun _ => rfl)) SimK.nil (SimV.range) (fun _ => rfl) (fun _ => rfl))) (SimT.ownL rfl rfl) SimC.nil (SimE.mcall (ks := []) (Sim.name (by first | exact Sim.upF rfl rfl (by decide +kernel) | exact Sim.upC rfl rfl (by decide +kernel)) (by decide +kernel)) (SimI.cons (SimE.binop (SimE.binop (Sim.name (by first | exact Sim.upF rfl rfl (by decide +kernel) | exact Sim.upC rfl rfl (by decide +kernel)) (by decide +kernel)) (SimE.binop (SimE.binop (Sim.name (by first | exact Sim.upF rfl rfl (by decide +kernel) | exact Sim.upC rfl rfl (by decide +kernel)) (by decide +kernel)) (Sim.name (by first | exact Sim.upF rfl rfl (by decide +kernel) | exact Sim.upC rfl rfl (by decide +kernel)) (by decide +kernel)) Op2.ar) (Sim.name (Sim.ownL rfl rfl) (by decide +kernel)) Op2.ar) Op2.ar) SimE.int Op2.ar) SimI.nil (fun _ => rfl)) SimK.nil (SimM.fn e.ok (cls_ring e.hK) (by rw [e.hK]; k_is) (by rw [e.hK]; k_is) (by rw [e.hK]; k_is) ((getNodePos.2 e).up (by decide))) (fun _ => rfl) (fun _ => rfl) (fun _ => ⟨_, rfl⟩)) (fun _ _ => rfl)) (SimT.ownC rfl rfl) (fun env h => by unfold swapsWith Env.kindOf Env.blockKind; rw [h]; rfl) (fun _ _ => rfl) (fun _ => rfl))
 (SimX.cons (SimS.compUse (subSc_of (by kernel_rfl)) (SimIt.ofB (SimE.callV (ks := []) (Sim.name (Sim.bui e.c rfl rfl) (by decide +kernel)) (SimI.cons SimE.int (SimI.cons (Sim.name (Sim.ownC rfl rfl) (by decide +kernel)) SimI.nil (fun _ => rfl)) (fun _ => rfl)) SimK.nil (SimV.range) (fun _ => rfl) (fun _ => rfl))) (SimT.ownL rfl rfl) SimC.nil (SimE.mcall (ks := []) (Sim.name (by first | exact Sim.upF rfl rfl (by decide +kernel) | exact Sim.upC rfl rfl (by decide +kernel)) (by decide +kernel)) (SimI.cons (SimE.binop (SimE.binop (Sim.name (by first | exact Sim.upF rfl rfl (by decide +kernel) | exact Sim.upC rfl rfl (by decide +kernel)) (by decide +kernel)) (SimE.binop (SimE.binop (Sim.name (by first | exact Sim.upF rfl rfl (by decide +kernel) | exact Sim.upC rfl rfl (by decide +kernel)) (by decide +kernel)) (Sim.name (by first | exact Sim.upF rfl rfl (by decide +kernel) | exact Sim.upC rfl rfl (by decide +kernel)) (by decide +kernel)) Op2.ar) (Sim.name (Sim.ownL rfl rfl) (by decide +kernel)) Op2.ar) Op2.ar) SimE.int Op2.ar) SimI.nil (fun _ => rfl)) SimK.nil (SimM.fn e.ok (cls_ring e.hK) (by rw [e.hK]; k_is) (by rw [e.hK]; k_is) (by rw [e.hK]; k_is) ((getNodePos.2 e).up (by decide))) (fun _ => rfl) (fun _ => rfl) (fun _ => ⟨_, rfl⟩)) (fun _ _ => rfl) (slotIn_get (n := 0) rfl).2 rfl (fun env h => by unfold swapsWith Env.kindOf Env.blockKind; rw [h]; rfl))
 (SimX.cons (SimS.if (SimB.boolop (SimAll.or (SimB.cmp e.ok (Sim.name (Sim.ownC rfl rfl) (by decide +kernel)) (SimE.comp (subSc_of (by kernel_rfl)) (SimIt.ofB (SimE.callV (ks := []) (Sim.name (Sim.bui e.c rfl rfl) (by decide +kernel)) (SimI.cons SimE.int (SimI.cons (Sim.name (Sim.ownC rfl rfl) (by decide +kernel)) SimI.nil (fun _ => rfl)) (fun _ => rfl)) SimK.nil (SimV.range) (fun _ => rfl) (fun _ => rfl))) (SimT.ownL rfl rfl) SimC.nil (SimE.binop (Sim.name (Sim.ownL rfl rfl) (by decide +kernel)) (SimE.binop (SimE.binop (Sim.name (Sim.ownL rfl rfl) (by decide +kernel)) (Sim.name (by first | exact Sim.upF rfl rfl (by decide +kernel) | exact Sim.upC rfl rfl (by decide +kernel)) (by decide +kernel)) Op2.ar) (Sim.name (by first | exact Sim.upF rfl rfl (by decide +kernel) | exact Sim.upC rfl rfl (by decide +kernel)) (by decide +kernel)) Op2.ar) Op2.ar) (fun _ _ => rfl)) Op2.ne rfl) (SimAll.or (SimB.cmp e.ok (Sim.name (Sim.ownL rfl rfl) (by decide +kernel)) (SimE.comp (subSc_of (by kernel_rfl)) (SimIt.ofB (SimE.callV (ks := []) (Sim.name (Sim.bui e.c rfl rfl) (by decide +kernel)) (SimI.cons SimE.int (SimI.cons (SimE.binop (SimE.binop (Sim.name (Sim.ownC rfl rfl) (by decide +kernel)) (Sim.name (Sim.ownC rfl rfl) (by decide +kernel)) Op2.ar) SimE.int Op2.ar) SimI.nil (fun _ => rfl)) (fun _ => rfl)) SimK.nil (SimV.range) (fun _ => rfl) (fun _ => rfl))) (SimT.ownL rfl rfl) (SimC.cons (SimB.cmp e.ok (Sim.name (Sim.ownL rfl rfl) (by decide +kernel)) (Sim.name (by first | exact Sim.upF rfl rfl (by decide +kernel) | exact Sim.upC rfl rfl (by decide +kernel)) (by decide +kernel)) (Op2.notIn e.ok) rfl) SimC.nil) (Sim.name (Sim.ownL rfl rfl) (by decide +kernel)) (fun _ _ => rfl)) Op2.ne rfl) SimAll.orNil))) (SimX.cons (SimS.ret SimE.bool)
 SimX.nil) SimX.nil)
 (SimX.cons (SimS.assign (SimE.binop (SimE.binop (Sim.name (Sim.ownC rfl rfl) (by decide +kernel)) SimE.int Op2.ar) SimE.int Op2.ar) (SimT.sub (Sim.name (Sim.ownC rfl rfl) (by decide +kernel)) (SimE.callV (ks := []) (Sim.name (Sim.bui e.c rfl rfl) (by decide +kernel)) (SimI.cons (Sim.name (Sim.ownC rfl rfl) (by decide +kernel)) SimI.nil (fun _ => rfl)) SimK.nil (SimV.str) (fun _ => rfl) (fun _ => rfl)) (OpSet.inst (C := 615) (f := 435) e.ok (by rw [e.hK]; k_is) (by rw [e.hK]; k_is) (by rw [e.hK]; k_is) ((setItem.2 e).up (by decide)))) (fun _ _ => rfl) (fun _ _ => rfl) (fun _ => rfl))
 (SimX.cons (SimS.assign (SimE.binop (SimE.binop (Sim.name (Sim.ownC rfl rfl) (by decide +kernel)) SimE.int Op2.ar) SimE.int Op2.ar) (SimT.sub (Sim.name (Sim.ownC rfl rfl) (by decide +kernel)) (SimE.callV (ks := []) (Sim.name (Sim.bui e.c rfl rfl) (by decide +kernel)) (SimI.cons (Sim.name (Sim.ownC rfl rfl) (by decide +kernel)) SimI.nil (fun _ => rfl)) SimK.nil (SimV.str) (fun _ => rfl) (fun _ => rfl)) (OpSet.inst (C := 615) (f := 435) e.ok (by rw [e.hK]; k_is) (by rw [e.hK]; k_is) (by rw [e.hK]; k_is) ((setItem.2 e).up (by decide)))) (fun _ _ => rfl) (fun _ _ => rfl) (fun _ => rfl))
 (SimX.cons (SimS.if (SimB.cmp e.ok (SimE.binop SimE.int (SimE.attrG (Sim.name (Sim.ownC rfl rfl) (by decide +kernel)) (pr_size e) (fun _ => rfl)) Op2.ar) (SimE.binop (Sim.name (Sim.ownC rfl rfl) (by decide +kernel)) (Sim.name (Sim.ownC rfl rfl) (by decide +kernel)) Op2.ar) Op2.ne rfl) (SimX.cons (SimS.ret SimE.bool)
 SimX.nil) SimX.nil)
 (SimX.cons (SimS.assign SimE.int (SimT.ownL rfl rfl) (fun _ _ => rfl) (fun _ _ => rfl) (fun _ => rfl))
 (SimX.cons (SimS.for (SimIt.ofB (SimE.tuple (SimI.cons (SimE.tuple (SimI.cons (Sim.name (Sim.ownC rfl rfl) (by decide +kernel)) (SimI.cons (Sim.name (Sim.ownC rfl rfl) (by decide +kernel)) SimI.nil (fun _ => rfl)) (fun _ => rfl))) (SimI.cons (SimE.tuple (SimI.cons (Sim.name (Sim.ownC rfl rfl) (by decide +kernel)) (SimI.cons (Sim.name (Sim.ownC rfl rfl) (by decide +kernel)) SimI.nil (fun _ => rfl)) (fun _ => rfl))) SimI.nil (fun _ => rfl)) (fun _ => rfl)))) (SimT.tuple 2 (SimTs.cons (SimT.ownC rfl rfl) (SimTs.cons (SimT.ownC rfl rfl) SimTs.nil (fun _ => rfl)) (fun _ => rfl)) (fun _ => rfl) (fun _ => rfl)) (SimX.cons (SimS.assign (SimE.callV (ks := []) (Sim.name (Sim.bui e.c rfl rfl) (by decide +kernel)) (SimI.cons (SimE.comp (subSc_of (by kernel_rfl)) (SimIt.ofB (SimE.callV (ks := []) (Sim.name (Sim.bui e.c rfl rfl) (by decide +kernel)) (SimI.cons SimE.int (SimI.cons (SimE.binop (SimE.binop (Sim.name (Sim.ownC rfl rfl) (by decide +kernel)) SimE.int Op2.ar) SimE.int Op2.ar) SimI.nil (fun _ => rfl)) (fun _ => rfl)) SimK.nil (SimV.range) (fun _ => rfl) (fun _ => rfl))) (SimT.ownL rfl rfl) SimC.nil (SimE.binop (SimE.mcall (ks := []) (Sim.name (by first | exact Sim.upF rfl rfl (by decide +kernel) | exact Sim.upC rfl rfl (by decide +kernel)) (by decide +kernel)) (SimI.cons (SimE.binop (SimE.binop (Sim.name (by first | exact Sim.upF rfl rfl (by decide +kernel) | exact Sim.upC rfl rfl (by decide +kernel)) (by decide +kernel)) (SimE.binop (SimE.binop (Sim.name (by first | exact Sim.upF rfl rfl (by decide +kernel) | exact Sim.upC rfl rfl (by decide +kernel)) (by decide +kernel)) (Sim.name (by first | exact Sim.upF rfl rfl (by decide +kernel) | exact Sim.upC rfl rfl (by decide +kernel)) (by decide +kernel)) Op2.ar) (Sim.name (Sim.ownL rfl rfl) (by decide +kernel)) Op2.ar) Op2.ar) SimE.int Op2.ar) SimI.nil (fun _ => rfl)) SimK.nil (SimM.fn e.ok (cls_ring e.hK) (by rw [e.hK]; k_is) (by rw [e.hK]; k_is) (by rw [e.hK]; k_is) ((getNodePos.2 e).up (by decide))) (fun _ => rfl) (fun _ => rfl) (fun _ => ⟨_, rfl⟩)) (Sim.name (Sim.ownL rfl rfl) (by decide +kernel)) Op2.ar) (fun _ _ => rfl)) SimI.nil (fun _ => rfl)) SimK.nil (SimV.sum) (fun _ => rfl) (fun _ => rfl)) (SimT.ownL rfl rfl) (fun _ _ => rfl) (fun _ _ => rfl) (fun _ => rfl))
 (SimX.cons (SimS.augName (Sim.ownL rfl rfl) (Sim.name (Sim.ownL rfl rfl) (by decide +kernel)) Op2.iar (SimN.ownL rfl rfl))
 (SimX.cons (SimS.if (SimB.cmp e.ok (SimE.cmp (SimE.binop (Sim.name (Sim.ownL rfl rfl) (by decide +kernel)) SimE.int Op2.ar) SimE.int (Op2.eq) rfl) (SimE.cmp (SimE.binop (Sim.name (Sim.ownC rfl rfl) (by decide +kernel)) (Sim.name (Sim.ownC rfl rfl) (by decide +kernel)) Op2.ar) (SimE.comp (subSc_of (by kernel_rfl)) (SimIt.ofB (SimE.callV (ks := []) (Sim.name (Sim.bui e.c rfl rfl) (by decide +kernel)) (SimI.cons SimE.int (SimI.cons (Sim.name (Sim.ownC rfl rfl) (by decide +kernel)) SimI.nil (fun _ => rfl)) (fun _ => rfl)) SimK.nil (SimV.range) (fun _ => rfl) (fun _ => rfl))) (SimT.ownL rfl rfl) SimC.nil (SimE.binop (SimE.binop (Sim.name (Sim.ownL rfl rfl) (by decide +kernel)) (Sim.name (Sim.ownL rfl rfl) (by decide +kernel)) Op2.ar) (Sim.name (by first | exact Sim.upF rfl rfl (by decide +kernel) | exact Sim.upC rfl rfl (by decide +kernel)) (by decide +kernel)) Op2.ar) (fun _ _ => rfl)) (Op2.in e.ok) rfl) Op2.ne rfl) (SimX.cons (SimS.ret SimE.bool)
 SimX.nil) SimX.nil)
 SimX.nil))) SimX.nil (fun _ _ => rfl))
 (SimX.cons (SimS.ret (SimE.cmp (SimE.binop SimE.int (Sim.name (Sim.ownL rfl rfl) (by decide +kernel)) Op2.ar) (SimE.binop (SimE.binop (Sim.name (Sim.ownC rfl rfl) (by decide +kernel)) SimE.int Op2.ar) (SimE.binop (Sim.name (Sim.ownC rfl rfl) (by decide +kernel)) SimE.int Op2.ar) Op2.ar) (Op2.eq) rfl))
 SimX.nil))))))))))))
end Mine
end

section
open PySem PySem.W PySem.Calls PyProof.Rows
set_option Elab.async false
set_option maxRecDepth 20000
set_option linter.unusedVariables false
set_option linter.unusedSectionVars false
set_option linter.unusedSimpArgs false
namespace Mine
/-! a second reading of the shallow programs: ints are sums of unknowns, objects lie in a list -/
abbrev Aff := List Int
abbrev Key := List Nat
inductive SV where
  | none
  | bool (b : Bool)
  | int (a : Aff)
  | str (x : Key)
  | tup (l : List SV)
  | lst (l : List SV)
  | dct (l : List (Key × SV))
  | ref (n : Nat)
  | mc (v : Value)
  | ty (k : Nat)
  | inst (C : Addr) (n : Nat)
  | clo (k : Nat)
  | bm (f : Addr) (self : SV)
  | rng (a b c : Int)
  | view (k : Nat) (a : SV)
inductive SO where
  | list (l : List SV)
  | dictI (l : List (Aff × SV))
  | dictS (l : List (Key × SV))
  | ctr (C : Addr) (l : List (Key × SV))
  | ns (l : List (Key × SV))
structure SSt where
  fs : List (List (Option SV))
  ob : List (Option SO)
abbrev Q (α : Type) := SSt → Option (α × SSt)
def Q.pure {α} (a : α) : Q α := fun τ => some (a, τ)
def Q.bind {α β} (f : Q α) (g : α → Q β) : Q β := fun τ => match f τ with
  | none => none
  | some (a, τ') => g a τ'
def Q.fail {α} : Q α := fun _ => none
inductive SFl where
  | next | brk | cont
  | ret (v : SV)

def evG (ρ : Nat → Int) : Nat → Aff → Int
  | _, [] => 0
  | i, c :: cs => c * ρ i + evG ρ (i + 1) cs
def evA (ρ : Nat → Int) (a : Aff) : Int := evG ρ 0 a
def evS (x : Key) : Str := ⟨x.toArray⟩
def tyNa : Nat → String
  | 1 => "int"
  | 2 => "str"
  | 3 => "list"
  | 4 => "dict"
  | 6 => "bytes"
  | 7 => "tuple"
  | 8 => "set"
  | _ => "function"
mutual
def ev (ρ : Nat → Int) : SV → AV
  | .none => .none
  | .bool b => .bool b
  | .int a => .int (evA ρ a)
  | .str x => .str (evS x)
  | .tup l => .tup (evL ρ l)
  | .lst l => .lst (evL ρ l)
  | .dct l => .dct (evD ρ l)
  | .ref n => .ref (0, n)
  | .mc v => .mc v
  | .ty k => .mc (.type (tyNa k))
  | .inst C n => .inst C (0, n)
  | .clo k => .clo k
  | .bm f s => .bm f (ev ρ s)
  | .rng a b c => .rng a b c
  | .view k a => .view k (ev ρ a)
def evL (ρ : Nat → Int) : List SV → List AV
  | [] => []
  | a :: l => ev ρ a :: evL ρ l
def evD (ρ : Nat → Int) : List (Key × SV) → List (Str × AV)
  | [] => []
  | (x, a) :: l => (evS x, ev ρ a) :: evD ρ l
end
def evI (ρ : Nat → Int) : List (Aff × SV) → List (Int × AV)
  | [] => []
  | (x, a) :: l => (evA ρ x, ev ρ a) :: evI ρ l
def evO (ρ : Nat → Int) : SO → AO
  | .list l => .list (evL ρ l)
  | .dictI l => .dictI (evI ρ l)
  | .dictS l => .dictS (evD ρ l)
  | .ctr C l => .ctr C (evD ρ l)
  | .ns l => .ns (evD ρ l)
def evFl (ρ : Nat → Int) : SFl → AFl
  | .next => .next
  | .brk => .brk
  | .cont => .cont
  | .ret v => .ret (ev ρ v)
def SSt.get (τ : SSt) (n : Nat) : Option SO := match τ.ob[n]? with
  | some o => o
  | none => none
def SSt.put (τ : SSt) (n : Nat) (o : Option SO) : SSt := { τ with ob := τ.ob.set n o }
def evF (ρ : Nat → Int) (f : List (Option SV)) : Frm := f.map fun o => o.map (ev ρ)
def evSt (ρ : Nat → Int) (τ : SSt) : St := ⟨τ.fs.map (evF ρ), fun h => if h.1 = 0 then (τ.get h.2).map (evO ρ) else none, τ.ob.length⟩
def Hom (ρ : Nat → Int) {α β : Type} (e : β → α) (f : M α) (g : Q β) : Prop := ∀ τ b τ', g τ = some (b, τ') → f (evSt ρ τ) = some (e b, evSt ρ τ')

section
variable {ρ : Nat → Int}
theorem evL_length : ∀ l : List SV, (evL ρ l).length = l.length
  | [] => rfl
  | _ :: l => by simp [evL, evL_length l]
theorem evD_length : ∀ l : List (Key × SV), (evD ρ l).length = l.length
  | [] => rfl
  | (_, _) :: l => by simp [evD, evD_length l]
theorem evI_length : ∀ l : List (Aff × SV), (evI ρ l).length = l.length
  | [] => rfl
  | (_, _) :: l => by simp [evI, evI_length l]
theorem evL_map : ∀ l : List SV, evL ρ l = l.map (ev ρ)
  | [] => rfl
  | _ :: l => by simp [evL, evL_map l]
theorem evL_get (l : List SV) (i : Nat) : (evL ρ l)[i]? = (l[i]?).map (ev ρ) := by rw [evL_map]; simp
theorem evL_append (l l' : List SV) : evL ρ (l ++ l') = evL ρ l ++ evL ρ l' := by simp [evL_map]
theorem evD_append : ∀ l l' : List (Key × SV), evD ρ (l ++ l') = evD ρ l ++ evD ρ l'
  | [], _ => rfl
  | (_, _) :: l, l' => by simp [evD, evD_append l l']
theorem evI_append : ∀ l l' : List (Aff × SV), evI ρ (l ++ l') = evI ρ l ++ evI ρ l'
  | [], _ => rfl
  | (_, _) :: l, l' => by simp [evI, evI_append l l']
theorem evS_inj {x y : Key} (h : evS x = evS y) : x = y := by
  unfold evS at h
  have := congrArg Str.cps h
  simpa using this
theorem evS_length (x : Key) : (evS x).length = x.length := by simp [evS, Str.length]
theorem evS_append (x y : Key) : evS (x ++ y) = evS x ++ evS y := by
  show _ = Str.append _ _
  simp [evS, Str.append]
theorem get_ev {τ : SSt} {n : Nat} {o : SO} (h : τ.get n = some o) : (evSt ρ τ).st (0, n) = some (evO ρ o) := by simp [evSt, h]
theorem get_lt {τ : SSt} {n : Nat} {o : SO} (h : τ.get n = some o) : n < τ.ob.length := by
  unfold SSt.get at h
  split at h
  · rename_i e; exact (List.getElem?_eq_some_iff.mp e).1
  · cases h
theorem put_get {τ : SSt} {n m : Nat} {o : Option SO} (h : n < τ.ob.length) : (τ.put n o).get m = if m = n then o else τ.get m := by
  unfold SSt.put SSt.get
  dsimp only
  by_cases e : m = n
  · subst e; rw [List.getElem?_set_self h, if_pos rfl]
  · rw [List.getElem?_set_ne (Ne.symm e), if_neg e]
theorem put_ev' {τ : SSt} {n : Nat} {o : Option SO} (h : n < τ.ob.length) : ({ evSt ρ τ with st := fun m => if m = (0, n) then o.map (evO ρ) else (evSt ρ τ).st m } : St) = evSt ρ (τ.put n o) := by
  unfold evSt
  simp only [St.mk.injEq]
  refine ⟨rfl, ?_, by simp [SSt.put]⟩
  funext ⟨a, b⟩
  dsimp only
  by_cases ha : a = 0
  · subst ha
    rw [put_get h]
    by_cases hb : b = n
    · subst hb; simp
    · simp [hb]
  · simp [ha]
theorem put_ev {τ : SSt} {n : Nat} {o : SO} (h : n < τ.ob.length) : ({ evSt ρ τ with st := fun m => if m = (0, n) then some (evO ρ o) else (evSt ρ τ).st m } : St) = evSt ρ (τ.put n (some o)) := put_ev' (o := some o) h

theorem Hom.pure {α β : Type} {e : β → α} {a : α} {b : β} (h : a = e b) : Hom ρ e (M.pure a) (Q.pure b) := by
  intro τ b' τ' hq
  cases hq
  rw [h]; rfl
theorem Hom.fail {α β : Type} {e : β → α} {f : M α} : Hom ρ e f (Q.fail : Q β) := by
  intro τ b' τ' hq; cases hq
theorem Hom.bind {α β γ δ : Type} {e1 : β → α} {e2 : δ → γ} {f : M α} {f' : Q β} {k : α → M γ} {k' : β → Q δ} (h1 : Hom ρ e1 f f') (h2 : ∀ b, Hom ρ e2 (k (e1 b)) (k' b)) : Hom ρ e2 (M.bind f k) (Q.bind f' k') := by
  intro τ d τ' hq
  unfold Q.bind at hq
  split at hq
  · cases hq
  · rename_i b τ1 h
    unfold M.bind
    rw [h1 _ _ _ h]
    exact h2 b _ _ _ hq
theorem Hom.cond {α β : Type} {e : β → α} {f g : M α} {f' g' : Q β} {b : Bool} (h1 : Hom ρ e f f') (h2 : Hom ρ e g g') : Hom ρ e (bif b then f else g) (bif b then f' else g') := by
  cases b <;> assumption
def Q.or {α : Type} (f g : Q α) : Q α := fun τ => match f τ with
  | some r => some r
  | none => g τ
def Qldv (k i : Nat) : Q SV := fun τ => match τ.fs[k]? with
  | some f => (match f[i]? with
    | some (some v) => some (v, τ)
    | _ => none)
  | none => none
theorem Hom.ldv {k i : Nat} : Hom ρ (ev ρ) (ldv k i) (Qldv k i) := by
  intro τ v τ' h
  unfold Qldv at h
  split at h
  · rename_i f hf
    split at h
    · rename_i v' hv
      cases h
      unfold Mine.ldv
      simp [evSt, hf, evF, hv]
    · cases h
  · cases h
def Qldb (i : Nat) : Q SV := fun τ => match τ.fs.getLast? with
  | some f => (match f[i]? with
    | some (some v) => some (v, τ)
    | _ => none)
  | none => none
theorem Hom.ldb {i : Nat} : Hom ρ (ev ρ) (ldb i) (Qldb i) := by
  intro τ v τ' h
  unfold Qldb at h
  split at h
  · rename_i f hf
    split at h
    · rename_i v' hv
      cases h
      unfold Mine.ldb
      simp [evSt, hf, evF, hv, List.getLast?_map]
    · cases h
  · cases h
def Qstv (i : Nat) (v : SV) : Q Unit := fun τ => match τ.fs with
  | f :: r => some ((), { τ with fs := f.set i (some v) :: r })
  | [] => none
theorem Hom.stv {i : Nat} {v : SV} : Hom ρ id (stv i (ev ρ v)) (Qstv i v) := by
  intro τ u τ' h
  unfold Qstv at h
  split at h
  · rename_i f r hf
    cases h
    unfold Mine.stv
    have e : (evSt ρ τ).fs = evF ρ f :: r.map (evF ρ) := by simp [evSt, hf]
    rw [e]
    simp only [evSt, evF, List.map_cons, List.map_set, Option.map_some, id]
    rfl
  · cases h
/-- a frame at a call: where each own name stands among the arguments -/
def Qfn (ix : List (Option Nat)) (fb : Q SFl) (vals : List SV) : Q SV := fun τ => match fb { τ with fs := (ix.map fun o => o.bind fun i => vals[i]?) :: τ.fs } with
  | some (fl, τ') => some (match fl with
    | .ret v => v
    | _ => .none, { τ' with fs := τ'.fs.tail })
  | none => none
def ixOf (ps : List Str) (x : Str) : Option Nat := match ps with
  | [] => none
  | p :: l => if p = x then some 0 else (ixOf l x).map (· + 1)
theorem ixOf_get : ∀ (ps : List Str) (vals : List AV) (x : Str), (ps.zip vals).lookup x = (ixOf ps x).bind fun i => vals[i]?
  | [], vals, x => by simp [ixOf]
  | p :: l, [], x => by simp
  | p :: l, v :: vals, x => by
    rw [List.zip_cons_cons, List.lookup_cons]
    unfold ixOf
    by_cases h : p = x
    · subst h; simp
    · have : (x == p) = false := by simp [Ne.symm h]
      rw [this, if_neg h]
      dsimp only
      rw [ixOf_get l vals x]
      cases ixOf l x <;> simp
theorem Hom.fnA {names : List (Str × NameKind)} {ps : List Str} {fb : M AFl} {fb' : Q SFl} {ix : List (Option Nat)} {vals : List SV} (hix : names.map (fun p => ixOf ps p.1) = ix) (h : Hom ρ (evFl ρ) fb fb') : Hom ρ (ev ρ) (fnA names ps fb (evL ρ vals)) (Qfn ix fb' vals) := by
  intro τ v τ' hq
  unfold Qfn at hq
  split at hq
  · rename_i fl τ1 h1
    cases hq
    have h2 := h _ _ _ h1
    have e : ({ evSt ρ τ with fs := initF names (ps.zip (evL ρ vals)) :: (evSt ρ τ).fs } : St) = evSt ρ { τ with fs := (ix.map fun o => o.bind fun i => vals[i]?) :: τ.fs } := by
      simp only [evSt, List.map_cons, St.mk.injEq, List.cons.injEq, and_true, true_and]
      constructor
      · subst hix
        simp only [initF, evF, List.map_map]
        refine List.map_congr_left fun p _ => ?_
        simp only [Function.comp]
        rw [ixOf_get]
        cases ixOf ps p.1 with
        | none => rfl
        | some i => simp [evL_get]
      · funext h; rfl
    unfold Mine.fnA
    rw [e, h2]
    simp only [Option.some.injEq, Prod.mk.injEq]
    constructor
    · cases fl <;> rfl
    · simp only [evSt, List.map_tail]; rfl
  · cases hq
end
end Mine
end

section
open PySem PySem.W PySem.Calls PyProof.Rows
set_option Elab.async false
set_option maxRecDepth 20000
set_option linter.unusedVariables false
set_option linter.unusedSectionVars false
set_option linter.unusedSimpArgs false
namespace Mine
def kEq : Key → Key → Bool
  | [], [] => true
  | a :: l, b :: r => Nat.beq a b && kEq l r
  | _, _ => false
theorem kEq_iff : ∀ {a b : Key}, kEq a b = true ↔ a = b
  | [], [] => by simp [kEq]
  | [], _ :: _ => by simp [kEq]
  | _ :: _, [] => by simp [kEq]
  | a :: l, b :: r => by
    unfold kEq
    rw [Bool.and_eq_true, kEq_iff, List.cons.injEq, Nat.beq_eq]
def kget : List (Key × SV) → Key → Option SV
  | [], _ => none
  | (y, v) :: l, x => bif kEq y x then some v else kget l x
def khas : List (Key × SV) → Key → Bool
  | [], _ => false
  | (y, v) :: l, x => kEq y x || khas l x
def kmap : List (Key × SV) → Key → SV → List (Key × SV)
  | [], _, _ => []
  | (y, v) :: l, x, w => (bif kEq y x then (y, w) else (y, v)) :: kmap l x w
def kset (l : List (Key × SV)) (x : Key) (v : SV) : List (Key × SV) := bif khas l x then kmap l x v else l ++ [(x, v)]
def kdel : List (Key × SV) → Key → List (Key × SV)
  | [], _ => []
  | (y, v) :: l, x => bif kEq y x then kdel l x else (y, v) :: kdel l x
def kput : List (Key × SV) → Key → SV → List (Key × SV)
  | [], x, v => [(x, v)]
  | (y, w) :: l, x, v => bif kEq y x then (y, v) :: l else (y, w) :: kput l x v
section
variable {ρ : Nat → Int}
theorem kEq_false {a b : Key} (h : kEq a b = false) : evS a ≠ evS b := fun e => by
  rw [kEq_iff.mpr (evS_inj e)] at h; cases h
theorem kEq_true {a b : Key} (h : kEq a b = true) : evS a = evS b := by rw [kEq_iff.mp h]
theorem kget_ev : ∀ (l : List (Key × SV)) (x : Key), getK (evD ρ l) (evS x) = (kget l x).map (ev ρ)
  | [], _ => rfl
  | (y, v) :: l, x => by
    have ih := kget_ev l x
    unfold getK at ih ⊢
    unfold evD kget
    rw [List.find?_cons]
    cases h : kEq y x with
    | true => simp [kEq_true h]
    | false => simp only [kEq_false h, decide_false, cond_false]; exact ih
theorem klook_ev : ∀ (l : List (Key × SV)) (x : Key), (evD ρ l).lookup (evS x) = (kget l x).map (ev ρ)
  | [], _ => rfl
  | (y, v) :: l, x => by
    unfold evD kget
    rw [List.lookup_cons]
    cases h : kEq y x with
    | true => simp [kEq_true h]
    | false =>
      have : (evS x == evS y) = false := by simp [Ne.symm (kEq_false h)]
      rw [this]; exact klook_ev l x
theorem khas_ev : ∀ (l : List (Key × SV)) (x : Key), ((evD ρ l).any fun kv => decide (kv.1 = evS x)) = khas l x
  | [], _ => rfl
  | (y, v) :: l, x => by
    unfold evD khas
    rw [List.any_cons, khas_ev l x]
    cases h : kEq y x with
    | true => simp [kEq_true h]
    | false => simp [kEq_false h]
theorem kmap_ev : ∀ (l : List (Key × SV)) (x : Key) (v : SV), ((evD ρ l).map fun kv => if kv.1 = evS x then (kv.1, ev ρ v) else kv) = evD ρ (kmap l x v)
  | [], _, _ => rfl
  | (y, w) :: l, x, v => by
    unfold kmap
    rw [evD, List.map_cons, kmap_ev l x v]
    cases h : kEq y x with
    | true => simp [kEq_true h, evD]
    | false => simp [kEq_false h, evD]
theorem kset_ev (l : List (Key × SV)) (x : Key) (v : SV) : setK (evD ρ l) (evS x) (ev ρ v) = evD ρ (kset l x v) := by
  unfold setK kset
  rw [khas_ev]
  cases khas l x with
  | true => simp only [if_true, cond_true]; exact kmap_ev l x v
  | false => simp only [Bool.false_eq_true, if_false, cond_false]; rw [evD_append]; rfl
theorem kdel_ev : ∀ (l : List (Key × SV)) (x : Key), delK (evD ρ l) (evS x) = evD ρ (kdel l x)
  | [], _ => rfl
  | (y, w) :: l, x => by
    have ih := kdel_ev l x
    unfold delK at ih ⊢
    unfold kdel
    rw [evD, List.filter_cons]
    cases h : kEq y x with
    | true => simp only [kEq_true h, ne_eq, not_true, decide_false, Bool.false_eq_true, if_false, cond_true]; rw [← kEq_true h]; rw [← kEq_true h] at ih; exact ih
    | false => simp only [ne_eq, kEq_false h, not_false_iff, decide_true, if_true, cond_false]; rw [ih]; rfl
theorem kput_ev : ∀ (l : List (Key × SV)) (x : Key) (v : SV), nsPut (evD ρ l) (evS x) (ev ρ v) = evD ρ (kput l x v)
  | [], _, _ => rfl
  | (y, w) :: l, x, v => by
    unfold kput
    rw [evD, nsPut]
    cases h : kEq y x with
    | true => simp [kEq_true h, evD]
    | false => simp [kEq_false h, evD, kput_ev l x v]

/-! instances -/
def Qgns (C : Addr) (x : Key) (a : SV) : Q SV := fun τ => match a with
  | .inst C' h => bif Nat.beq C' C then (match τ.get h with
    | some (.ns l) => (match kget l x with
      | some (.mc _) => none
      | some (.ty _) => none
      | some v => some (v, τ)
      | none => none)
    | _ => none) else none
  | _ => none
theorem noMc_ev {v : SV} (h : ∀ w, v ≠ .mc w) (h' : ∀ w, v ≠ .ty w) : noMc (ev ρ v) = true := by
  cases v <;> first | rfl | exact absurd rfl (h _) | exact absurd rfl (h' _)
theorem Hom.getNs {C : Addr} {x : Str} {kx : Key} {a : SV} (hx : x = evS kx) : Hom ρ (ev ρ) (getNs C x (ev ρ a)) (Qgns C kx a) := by
  intro τ v τ' h
  subst hx
  unfold Qgns at h
  split at h
  · rename_i C' n
    cases hc : Nat.beq C' C with
    | false => rw [hc] at h; cases h
    | true =>
      rw [hc] at h
      have := Nat.eq_of_beq_eq_true hc
      subst this
      dsimp only [cond_true] at h
      split at h
      · rename_i l hl
        split at h
        · cases h
        · cases h
        · rename_i v' hne hne' hv
          cases h
          unfold Mine.getNs
          simp only [ev, if_true, get_ev hl, evO, klook_ev, hv, Option.map_some]
          rw [if_pos (noMc_ev (fun w e => hne w e) fun w e => hne' w e)]
        · cases h
      · cases h
  · cases h
def Qsns (C : Addr) (x : Key) (a v : SV) : Q Unit := fun τ => match a with
  | .inst C' h => bif Nat.beq C' C then (match τ.get h with
    | some (.ns l) => if l.length ≤ 100 then some ((), τ.put h (some (.ns (kput l x v)))) else none
    | _ => none) else none
  | _ => none
theorem Hom.setNs {C : Addr} {x : Str} {kx : Key} {a v : SV} (hx : x = evS kx) : Hom ρ id (setNs C x (ev ρ a) (ev ρ v)) (Qsns C kx a v) := by
  intro τ u τ' h
  subst hx
  unfold Qsns at h
  split at h
  · rename_i C' n
    cases hc : Nat.beq C' C with
    | false => rw [hc] at h; cases h
    | true =>
      rw [hc] at h
      have := Nat.eq_of_beq_eq_true hc
      subst this
      dsimp only [cond_true] at h
      split at h
      · rename_i l hl
        split at h
        · rename_i hlen
          cases h
          unfold Mine.setNs
          simp only [ev, if_true, get_ev hl, evO, evD_length, if_pos hlen, kput_ev]
          rw [← put_ev (get_lt hl)]; rfl
        · cases h
      · cases h
  · cases h
def Qgpr (C : Addr) (g : List SV → List SV → Q SV) (a : SV) : Q SV := fun τ => match a with
  | .inst C' h => bif Nat.beq C' C then (match τ.get h with
    | some (.ns _) => (match g [a] [] τ with
      | some (.mc _, _) => none
      | some (.ty _, _) => none
      | r => r)
    | _ => none) else none
  | _ => none
theorem Hom.getPr {C : Addr} {g : List AV → List AV → M AV} {g' : List SV → List SV → Q SV} {a : SV} (hg : ∀ l k, Hom ρ (ev ρ) (g (evL ρ l) (evL ρ k)) (g' l k)) : Hom ρ (ev ρ) (getPr C g (ev ρ a)) (Qgpr C g' a) := by
  intro τ v τ' h
  unfold Qgpr at h
  split at h
  · rename_i C' n
    cases hc : Nat.beq C' C with
    | false => rw [hc] at h; cases h
    | true =>
      rw [hc] at h
      have := Nat.eq_of_beq_eq_true hc
      subst this
      dsimp only [cond_true] at h
      split at h
      · rename_i l hl
        split at h
        · cases h
        · cases h
        · rename_i hne hne'
          have h2 := hg [.inst C' n] [] _ _ _ h
          unfold Mine.getPr
          simp only [ev, if_true, get_ev hl, evO]
          simp only [evL, ev] at h2
          unfold M.bind
          rw [h2]
          dsimp only
          rw [if_pos (noMc_ev (fun w e => hne w τ' (by rw [h, e])) fun w e => hne' w τ' (by rw [h, e]))]
          rfl
      · cases h
  · cases h
def Qgbm (C f : Addr) (x : Key) (a : SV) : Q SV := fun τ => match a with
  | .inst C' h => bif Nat.beq C' C then (match τ.get h with
    | some (.ns l) => (match kget l x with
      | none => some (.bm f a, τ)
      | some _ => none)
    | _ => none) else none
  | _ => none
theorem Hom.getBm {C f : Addr} {x : Str} {kx : Key} {a : SV} (hx : x = evS kx) : Hom ρ (ev ρ) (getBm C f x (ev ρ a)) (Qgbm C f kx a) := by
  intro τ v τ' h
  subst hx
  unfold Qgbm at h
  split at h
  · rename_i C' n
    cases hc : Nat.beq C' C with
    | false => rw [hc] at h; cases h
    | true =>
      rw [hc] at h
      have := Nat.eq_of_beq_eq_true hc
      subst this
      dsimp only [cond_true] at h
      split at h
      · rename_i l hl
        split at h
        · rename_i hv
          cases h
          unfold Mine.getBm
          simp only [ev, if_true, get_ev hl, evO, klook_ev, hv, Option.map_none]
        · cases h
      · cases h
  · cases h
def Qself (C : Addr) (x : Key) (a : SV) : Q SV := fun τ => match a with
  | .inst C' h => bif Nat.beq C' C then (match τ.get h with
    | some (.ns l) => (match kget l x with
      | none => some (a, τ)
      | some _ => none)
    | _ => none) else none
  | _ => none
theorem Hom.selfIn {C : Addr} {x : Str} {kx : Key} {a : SV} (hx : x = evS kx) : Hom ρ (ev ρ) (selfIn C x (ev ρ a)) (Qself C kx a) := by
  intro τ v τ' h
  subst hx
  unfold Qself at h
  split at h
  · rename_i C' n
    cases hc : Nat.beq C' C with
    | false => rw [hc] at h; cases h
    | true =>
      rw [hc] at h
      have := Nat.eq_of_beq_eq_true hc
      subst this
      dsimp only [cond_true] at h
      split at h
      · rename_i l hl
        split at h
        · rename_i hv
          cases h
          unfold Mine.selfIn
          simp only [ev, if_true, get_ev hl, evO, klook_ev, hv, Option.map_none]
        · cases h
      · cases h
  · cases h
def Qbm (f : Addr) (g : List SV → List SV → Q SV) : SV → List SV → List SV → Q SV
  | .bm f' self, args, kws => bif Nat.beq f' f then g (self :: args) kws else Q.fail
  | _, _, _ => Q.fail
theorem Hom.bmF {f : Addr} {g : List AV → List AV → M AV} {g' : List SV → List SV → Q SV} {a : SV} {l k : List SV} (hg : ∀ l k, Hom ρ (ev ρ) (g (evL ρ l) (evL ρ k)) (g' l k)) : Hom ρ (ev ρ) (bmF f g (ev ρ a) (evL ρ l) (evL ρ k)) (Qbm f g' a l k) := by
  cases a <;> try exact Hom.fail
  rename_i f' s
  unfold Qbm Mine.bmF
  simp only [ev]
  cases hc : Nat.beq f' f with
  | false => exact Hom.fail
  | true =>
    have := Nat.eq_of_beq_eq_true hc
    subst this
    rw [if_pos rfl]
    exact hg (s :: l) k
def QsetI (C : Addr) (g : List SV → List SV → Q SV) (a b v : SV) : Q Unit := fun τ => match a with
  | .inst C' h => bif Nat.beq C' C then (match τ.get h with
    | some (.ns _) => (match g [a, b, v] [] τ with
      | some (_, τ') => some ((), τ')
      | none => none)
    | _ => none) else none
  | _ => none
theorem Hom.setI {C : Addr} {g : List AV → List AV → M AV} {g' : List SV → List SV → Q SV} {a b v : SV} (hg : ∀ l k, Hom ρ (ev ρ) (g (evL ρ l) (evL ρ k)) (g' l k)) : Hom ρ id (setI C g (ev ρ a) (ev ρ b) (ev ρ v)) (QsetI C g' a b v) := by
  intro τ u τ' h
  unfold QsetI at h
  split at h
  · rename_i C' n
    cases hc : Nat.beq C' C with
    | false => rw [hc] at h; cases h
    | true =>
      rw [hc] at h
      have := Nat.eq_of_beq_eq_true hc
      subst this
      dsimp only [cond_true] at h
      split at h
      · rename_i l hl
        split at h
        · rename_i w τ1 hw
          cases h
          have h2 := hg [.inst C' n, b, v] [] _ _ _ hw
          unfold Mine.setI
          simp only [ev, if_true, get_ev hl, evO]
          simp only [evL, ev] at h2
          rw [h2]; rfl
        · cases h
      · cases h
  · cases h
end
end Mine
end

section
open PySem PySem.W PySem.Calls PyProof.Rows
set_option Elab.async false
set_option maxRecDepth 20000
set_option linter.unusedVariables false
set_option linter.unusedSectionVars false
set_option linter.unusedSimpArgs false
namespace Mine
section
variable {ρ : Nat → Int}
/-! new objects -/
def Qnew (o : SO) : Q Nat := fun τ => some (τ.ob.length, { τ with ob := τ.ob ++ [some o] })
theorem new_ev {τ : SSt} {o : SO} : ({ evSt ρ τ with st := fun m => if m = (0, (evSt ρ τ).cnt) then some (evO ρ o) else (evSt ρ τ).st m, cnt := (evSt ρ τ).cnt + 1 } : St) = evSt ρ { τ with ob := τ.ob ++ [some o] } := by
  unfold evSt
  simp only [St.mk.injEq]
  refine ⟨trivial, ?_, by simp⟩
  funext ⟨a, b⟩
  dsimp only
  by_cases ha : a = 0
  · subst ha
    unfold SSt.get
    dsimp only
    rcases Nat.lt_trichotomy b τ.ob.length with hb | hb | hb
    · rw [List.getElem?_append_left hb]
      simp [Nat.ne_of_lt hb]
    · subst hb; simp
    · rw [List.getElem?_eq_none (l := τ.ob ++ [some o]) (by rw [List.length_append]; simp; omega), List.getElem?_eq_none (l := τ.ob) (by omega)]
      simp [Nat.ne_of_gt hb]
  · simp [ha]
theorem Hom.alloc {o : SO} : Hom ρ (fun n => (0, n)) (allocA 0 (evO ρ o)) (Qnew o) := by
  intro τ n τ' h
  cases h
  unfold Mine.allocA
  rw [← new_ev]
  rfl
def Qmake (C : Addr) (g : List SV → List SV → Q SV) (args kws : List SV) : Q SV := Q.bind (Qnew (.ns [])) fun h => Q.bind (g (.inst C h :: args) kws) fun v => match v with
  | .none => Q.pure (.inst C h)
  | _ => Q.fail
theorem Hom.makeF {C : Addr} {g : List AV → List AV → M AV} {g' : List SV → List SV → Q SV} {l k : List SV} (hg : ∀ l k, Hom ρ (ev ρ) (g (evL ρ l) (evL ρ k)) (g' l k)) : Hom ρ (ev ρ) (makeF C 0 g (evL ρ l) (evL ρ k)) (Qmake C g' l k) := by
  unfold Mine.makeF Qmake
  refine Hom.bind (Hom.alloc (o := .ns [])) fun h => Hom.bind (e1 := ev ρ) (hg (.inst C h :: l) k) fun v => ?_
  cases v <;> first | exact Hom.fail | exact Hom.pure rfl
def Qcmake (C : Addr) (g : List SV → List SV → Q SV) (args kws : List SV) : Q SV := match args, kws with
  | [], [] => Q.bind (Qnew (.ctr C [])) fun h => Q.bind (g [.ref h] []) fun v => match v with
    | .none => Q.pure (.ref h)
    | _ => Q.fail
  | _, _ => Q.fail
theorem Hom.ctrMake {C : Addr} {g : List AV → List AV → M AV} {g' : List SV → List SV → Q SV} {l k : List SV} (hg : ∀ l k, Hom ρ (ev ρ) (g (evL ρ l) (evL ρ k)) (g' l k)) : Hom ρ (ev ρ) (ctrMakeF C 0 g (evL ρ l) (evL ρ k)) (Qcmake C g' l k) := by
  unfold Qcmake
  split
  · unfold Mine.ctrMakeF
    refine Hom.bind (Hom.alloc (o := .ctr C [])) fun h => Hom.bind (e1 := ev ρ) (hg [.ref h] []) fun v => ?_
    cases v <;> first | exact Hom.fail | exact Hom.pure rfl
  · exact Hom.fail
/-- the counter's own __init__ does nothing more -/
def Qini (C : Addr) (args kws : List SV) : Q SV := fun τ => match args with
  | [.ref h] => (match τ.get h with
    | some (.ctr C' l) => bif Nat.beq C' C then some (.none, τ) else none
    | _ => none)
  | _ => none
theorem Hom.ini {C : Addr} {l k : List SV} : Hom ρ (ev ρ) ((fun args _ => match args with
      | [a] => iniF C updF a
      | _ => M.fail) (evL ρ l) (evL ρ k)) (Qini C l k) := by
  intro τ v τ' h
  unfold Qini at h
  split at h
  · rename_i n
    split at h
    · rename_i C' l' hl
      cases hc : Nat.beq C' C with
      | false => rw [hc] at h; cases h
      | true =>
        rw [hc] at h
        have := Nat.eq_of_beq_eq_true hc
        subst this
        cases h
        show Mine.iniF C' updF (.ref (0, n)) _ = _
        unfold Mine.iniF
        simp only [get_ev hl, evO, if_true, updF, M.pure]
        rfl
    · cases h
  · cases h

/-! dicts by str keys, lists -/
def tyS (τ : SSt) : SV → Nat
  | .int _ => 1
  | .str _ => 2
  | .lst _ => 3
  | .dct _ => 4
  | .clo _ => 5
  | .ref n => (match τ.get n with
    | some (.list _) => 3
    | some (.dictI _) => 4
    | some (.dictS _) => 4
    | _ => 0)
  | _ => 0
def tyOf : Nat → Option String
  | 1 => some "int"
  | 2 => some "str"
  | 3 => some "list"
  | 4 => some "dict"
  | _ => none
theorem tyS_ev {τ : SSt} {a : SV} {k : Nat} (h : tyS τ a = k) (h5 : k ≠ 5) (h0 : k ≠ 0) : tyA (evSt ρ τ) (ev ρ a) = tyOf k := by
  subst h
  cases a with
  | int => rfl
  | str => rfl
  | lst => rfl
  | dct => rfl
  | clo => exact absurd rfl h5
  | ref n =>
    show tyA (evSt ρ τ) (.ref (0, n)) = _
    cases hg : τ.get n with
    | none => exact absurd (by unfold tyS; dsimp only; rw [hg]) h0
    | some o =>
      cases o with
      | list l => unfold tyA tyS; dsimp only; rw [hg, get_ev hg]; rfl
      | dictI l => unfold tyA tyS; dsimp only; rw [hg, get_ev hg]; rfl
      | dictS l => unfold tyA tyS; dsimp only; rw [hg, get_ev hg]; rfl
      | ctr C l => exact absurd (by unfold tyS; dsimp only; rw [hg]) h0
      | ns l => exact absurd (by unfold tyS; dsimp only; rw [hg]) h0
  | _ => exact absurd rfl h0
def QpreT (k : Nat) (a : SV) : Q SV := fun τ => bif Nat.beq (tyS τ a) k then some (a, τ) else none
theorem Hom.preT {T : String} {k : Nat} {a : SV} (hT : tyOf k = some T := by rfl) (h5 : k ≠ 5 := by decide) (h0 : k ≠ 0 := by decide) : Hom ρ (ev ρ) (preT T (ev ρ a)) (QpreT k a) := by
  intro τ v τ' h
  unfold QpreT at h
  cases hc : Nat.beq (tyS τ a) k with
  | false => rw [hc] at h; cases h
  | true =>
    rw [hc] at h
    cases h
    unfold Mine.preT
    rw [tyS_ev (Nat.eq_of_beq_eq_true hc) h5 h0, hT, if_pos rfl]
def QpreC (C : Addr) (a : SV) : Q SV := fun τ => match a with
  | .ref h => (match τ.get h with
    | some (.ctr C' _) => bif Nat.beq C' C then some (a, τ) else none
    | _ => none)
  | _ => none
theorem Hom.preCtr {C : Addr} {a : SV} : Hom ρ (ev ρ) (preCtr C (ev ρ a)) (QpreC C a) := by
  intro τ v τ' h
  unfold QpreC at h
  split at h
  · rename_i n
    split at h
    · rename_i C' l hl
      cases hc : Nat.beq C' C with
      | false => rw [hc] at h; cases h
      | true =>
        rw [hc] at h
        have := Nat.eq_of_beq_eq_true hc
        subst this
        cases h
        unfold Mine.preCtr
        simp only [ev, get_ev hl, evO, if_true]
    · cases h
  · cases h
def Qnk (g : SV → List SV → Q SV) (b : SV) (l k : List SV) : Q SV := match k with
  | [] => g b l
  | _ => Q.fail
theorem Hom.noKw {g : AV → List AV → M AV} {g' : SV → List SV → Q SV} {b : SV} {l k : List SV} (hg : Hom ρ (ev ρ) (g (ev ρ b) (evL ρ l)) (g' b l)) : Hom ρ (ev ρ) (noKw g (ev ρ b) (evL ρ l) (evL ρ k)) (Qnk g' b l k) := by
  cases k with
  | nil => exact hg
  | cons => exact Hom.fail
def Qpop : SV → List SV → Q SV
  | .ref m, .str x :: rest => fun τ => match τ.get m with
    | some (.dictS l) => if l.length ≤ 2 ^ 20 then (match kget l x, rest with
      | some v, [] => some (v, τ.put m (some (.dictS (kdel l x))))
      | some v, [_] => some (v, τ.put m (some (.dictS (kdel l x))))
      | none, [d] => some (d, τ)
      | _, _ => none) else none
    | _ => none
  | _, _ => Q.fail
theorem Hom.popF {b : SV} {l : List SV} : Hom ρ (ev ρ) (popF (ev ρ b) (evL ρ l)) (Qpop b l) := by
  unfold Qpop
  split
  · rename_i m x rest
    intro τ v τ' h
    dsimp only at h
    split at h
    · rename_i d hd
      split at h
      · rename_i hlen
        show Mine.popF (.ref (0, m)) (.str (evS x) :: evL ρ rest) _ = _
        unfold Mine.popF
        simp only [get_ev hd, evO, evD_length, if_pos hlen, kget_ev, kdel_ev]
        split at h
        · rename_i v' hv
          cases h
          rw [hv]
          simp only [Option.map_some, evL]
          rw [← put_ev (get_lt hd)]; rfl
        · rename_i v' w hv
          cases h
          rw [hv]
          simp only [Option.map_some, evL]
          rw [← put_ev (get_lt hd)]; rfl
        · rename_i d' hv
          cases h
          rw [hv]
          rfl
        · cases h
      · cases h
    · cases h
  · exact Hom.fail
def Qcpop (C : Addr) : SV → List SV → Q SV
  | .ref m, .str x :: rest => fun τ => match τ.get m with
    | some (.ctr C' l) => if C' = C ∧ l.length ≤ 1000 then (match kget l x, rest with
      | some v, [] => some (v, τ.put m (some (.ctr C' (kdel l x))))
      | some v, [_] => some (v, τ.put m (some (.ctr C' (kdel l x))))
      | none, [d] => some (d, τ)
      | _, _ => none) else none
    | _ => none
  | _, _ => Q.fail
theorem Hom.ctrPop {C : Addr} {b : SV} {l : List SV} : Hom ρ (ev ρ) (ctrPop C (ev ρ b) (evL ρ l)) (Qcpop C b l) := by
  unfold Qcpop
  split
  · rename_i m x rest
    intro τ v τ' h
    dsimp only at h
    split at h
    · rename_i C' d hd
      split at h
      · rename_i hlen
        show Mine.ctrPop C (.ref (0, m)) (.str (evS x) :: evL ρ rest) _ = _
        unfold Mine.ctrPop
        simp only [get_ev hd, evO, evD_length, if_pos hlen, kget_ev, kdel_ev]
        split at h
        · rename_i v' hv
          cases h
          rw [hv]
          simp only [Option.map_some, evL]
          rw [← put_ev (get_lt hd)]; rfl
        · rename_i v' w hv
          cases h
          rw [hv]
          simp only [Option.map_some, evL]
          rw [← put_ev (get_lt hd)]; rfl
        · rename_i d' hv
          cases h
          rw [hv]
          rfl
        · cases h
      · cases h
    · cases h
  · exact Hom.fail
def Qcset (C : Addr) : SV → SV → SV → Q Unit
  | .ref m, .str x, v => fun τ => match τ.get m with
    | some (.ctr C' l) => if C' = C ∧ l.length ≤ 1000 then some ((), τ.put m (some (.ctr C' (kset l x v)))) else none
    | _ => none
  | _, _, _ => Q.fail
theorem Hom.ctrSet {C : Addr} {a b v : SV} : Hom ρ id (ctrSet C (ev ρ a) (ev ρ b) (ev ρ v)) (Qcset C a b v) := by
  unfold Qcset
  split
  · rename_i m x
    intro τ v' τ' h
    dsimp only at h
    split at h
    · rename_i C' d hd
      split at h
      · rename_i hlen
        cases h
        show Mine.ctrSet C (.ref (0, m)) (.str (evS x)) (ev ρ v) _ = _
        unfold Mine.ctrSet
        simp only [get_ev hd, evO, evD_length, if_pos hlen, kset_ev]
        rw [← put_ev (get_lt hd)]; rfl
      · cases h
    · cases h
  · exact Hom.fail
def Qcget (C : Addr) (g : List SV → List SV → Q SV) : SV → SV → Q SV
  | .ref m, .str x => fun τ => match τ.get m with
    | some (.ctr C' l) => if C' = C then (match kget l x with
      | some v => some (v, τ)
      | none => g [.ref m, .str x] [] τ) else none
    | _ => none
  | _, _ => Q.fail
theorem Hom.ctrGet {C : Addr} {g : List AV → List AV → M AV} {g' : List SV → List SV → Q SV} {a b : SV} (hg : ∀ l k, Hom ρ (ev ρ) (g (evL ρ l) (evL ρ k)) (g' l k)) : Hom ρ (ev ρ) (ctrGet C g (ev ρ a) (ev ρ b)) (Qcget C g' a b) := by
  unfold Qcget
  split
  · rename_i m x
    intro τ v' τ' h
    dsimp only at h
    split at h
    · rename_i C' d hd
      split at h
      · rename_i hlen
        show Mine.ctrGet C g (.ref (0, m)) (.str (evS x)) _ = _
        unfold Mine.ctrGet
        simp only [get_ev hd, evO, if_pos hlen, kget_ev]
        split at h
        · rename_i v hv
          cases h
          rw [hv]; rfl
        · rename_i hv
          rw [hv]
          exact hg [.ref m, .str x] [] _ _ _ h
      · cases h
    · cases h
  · exact Hom.fail
def Qview (k : Nat) : SV → List SV → Q SV
  | a, [] => fun τ => bif Nat.beq (tyS τ a) 4 then some (.view k a, τ) else none
  | _, _ => Q.fail
theorem Hom.viewF {k : Nat} {b : SV} {l : List SV} : Hom ρ (ev ρ) (viewF k (ev ρ b) (evL ρ l)) (Qview k b l) := by
  cases l with
  | cons => exact Hom.fail
  | nil =>
    intro τ v τ' h
    unfold Qview at h
    cases hc : Nat.beq (tyS τ b) 4 with
    | false => simp only [hc] at h; cases h
    | true =>
      simp only [hc] at h
      cases h
      show (if tyA _ _ = some "dict" then _ else _) = _
      rw [if_pos (show tyA (evSt ρ τ) (ev ρ b) = some "dict" from tyS_ev (Nat.eq_of_beq_eq_true hc) (by decide) (by decide))]
      rfl
def Qapp : SV → List SV → Q SV
  | .ref m, [x] => fun τ => match τ.get m with
    | some (.list l) => if l.length ≤ 2 ^ 20 then some (.none, τ.put m (some (.list (l ++ [x])))) else none
    | _ => none
  | _, _ => Q.fail
theorem Hom.appendF {b : SV} {l : List SV} : Hom ρ (ev ρ) (appendF (ev ρ b) (evL ρ l)) (Qapp b l) := by
  unfold Qapp
  split
  · rename_i m x
    intro τ v τ' h
    dsimp only at h
    split at h
    · rename_i d hd
      split at h
      · rename_i hlen
        cases h
        show Mine.appendF (.ref (0, m)) [ev ρ x] _ = _
        unfold Mine.appendF
        simp only [get_ev hd, evO, evL_length, if_pos hlen]
        rw [← put_ev (get_lt hd)]
        simp only [evO, evL_append]
        rfl
      · cases h
    · cases h
  · exact Hom.fail
def Qtup (l : List SV) : Q SV := if l.length ≤ 1000 then Q.pure (.tup l) else Q.fail
theorem Hom.mkT {l : List SV} : Hom ρ (ev ρ) (mkT (evL ρ l)) (Qtup l) := by
  unfold Mine.mkT Qtup
  rw [evL_length]
  split
  · exact Hom.pure rfl
  · exact Hom.fail
def Qlst (l : List SV) : Q SV := if l.length ≤ 1000 then Q.pure (.lst l) else Q.fail
theorem Hom.mkL {l : List SV} : Hom ρ (ev ρ) (mkL (evL ρ l)) (Qlst l) := by
  unfold Mine.mkL Qlst
  rw [evL_length]
  split
  · exact Hom.pure rfl
  · exact Hom.fail
def Qlive (l : List SV) : Q SV := if l.length ≤ 1000 then Q.bind (Qnew (.list l)) fun h => Q.pure (.ref h) else Q.fail
theorem Hom.live {l : List SV} : Hom ρ (ev ρ) (if (evL ρ l).length ≤ 1000 then M.bind (allocA 0 (.list (evL ρ l))) fun h => M.pure (.ref h) else M.fail) (Qlive l) := by
  unfold Qlive
  rw [evL_length]
  split
  · exact Hom.bind (Hom.alloc (o := .list l)) fun h => Hom.pure rfl
  · exact Hom.fail
def Qd0 : Q SV := Q.bind (Qnew (.dictS [])) fun h => Q.pure (.ref h)
theorem Hom.d0 : Hom ρ (ev ρ) (M.bind (allocA 0 (.dictS [])) fun h => M.pure (.ref h)) Qd0 := Hom.bind (Hom.alloc (o := .dictS [])) fun h => Hom.pure rfl
def Qd0I : Q SV := Q.bind (Qnew (.dictI [])) fun h => Q.pure (.ref h)
theorem Hom.d0I : Hom ρ (ev ρ) (M.bind (allocA 0 (.dictI [])) fun h => M.pure (.ref h)) Qd0I := Hom.bind (Hom.alloc (o := .dictI [])) fun h => Hom.pure rfl
/-! displays -/
def evP (ρ : Nat → Int) (l : List (SV × SV)) : List (AV × AV) := l.map fun p => (ev ρ p.1, ev ρ p.2)
def skS : List (SV × SV) → Option (List (Key × SV))
  | [] => some []
  | (a, b) :: l => match a, skS l with
    | .str x, some r => some ((x, b) :: r)
    | _, _ => none
theorem skS_ev : ∀ {l : List (SV × SV)} {m : List (Key × SV)}, skS l = some m → strKs (evP ρ l) = some (evD ρ m)
  | [], m, h => by cases h; rfl
  | (a, b) :: l, m, h => by
    unfold skS at h
    split at h
    · rename_i x r hr
      cases h
      show strKs ((.str (evS x), ev ρ b) :: evP ρ l) = _
      unfold strKs
      rw [skS_ev hr]
      rfl
    · cases h
def kmerge (l m : List (Key × SV)) : List (Key × SV) := m.foldl (fun acc kv => kset acc kv.1 kv.2) l
theorem kmerge_ev : ∀ (m l : List (Key × SV)), mergeK (evD ρ l) (evD ρ m) = evD ρ (kmerge l m)
  | [], l => rfl
  | (x, v) :: m, l => by
    have := kmerge_ev m (kset l x v)
    unfold mergeK kmerge at this ⊢
    rw [evD, List.foldl_cons, List.foldl_cons]
    dsimp only
    rw [kset_ev]; exact this
def QdZ (l : List (SV × SV)) : Q SV := fun τ => match skS l with
  | some m => some (.dct (kmerge [] m), τ)
  | none => none
theorem Hom.dictZ {l : List (SV × SV)} : Hom ρ (ev ρ) (dictZ (evP ρ l)) (QdZ l) := by
  intro τ v τ' h
  unfold QdZ at h
  split at h
  · rename_i m hm
    cases h
    unfold Mine.dictZ
    rw [skS_ev hm]
    dsimp only
    rw [show mergeK [] (evD ρ m) = _ from kmerge_ev m []]
    rfl
  · cases h
def QdN (l : List (SV × SV)) : Q SV := match skS l with
  | some m => Q.bind (Qnew (.dictS (kmerge [] m))) fun h => Q.pure (.ref h)
  | none => Q.fail
theorem Hom.dictN {l : List (SV × SV)} : Hom ρ (ev ρ) (dictN 0 (evP ρ l)) (QdN l) := by
  unfold QdN
  split
  · rename_i m hm
    unfold Mine.dictN
    rw [skS_ev hm]
    dsimp only
    rw [show mergeK [] (evD ρ m) = _ from kmerge_ev m []]
    exact Hom.bind (Hom.alloc (o := .dictS (kmerge [] m))) fun h => Hom.pure rfl
  · exact Hom.fail
/-! targets -/
def QtTup (k : Nat) (g : List SV → Q Unit) : SV → Q Unit
  | .tup l => if l.length = k then g l else Q.fail
  | _ => Q.fail
theorem Hom.tgtTup {k : Nat} {g : List AV → M Unit} {g' : List SV → Q Unit} {v : SV} (hg : ∀ l, Hom ρ id (g (evL ρ l)) (g' l)) : Hom ρ id (tgtTup k g (ev ρ v)) (QtTup k g' v) := by
  cases v <;> try exact Hom.fail
  rename_i l
  show Hom ρ id (if (evL ρ l).length = k then g (evL ρ l) else M.fail) (if l.length = k then g' l else Q.fail)
  rw [evL_length]
  split
  · exact hg l
  · exact Hom.fail
def QtCons (f : SV → Q Unit) (g : List SV → Q Unit) : List SV → Q Unit
  | a :: l => Q.bind (f a) fun _ => g l
  | [] => Q.fail
theorem Hom.tgtCons {f : AV → M Unit} {g : List AV → M Unit} {f' : SV → Q Unit} {g' : List SV → Q Unit} {l : List SV} (hf : ∀ v, Hom ρ id (f (ev ρ v)) (f' v)) (hg : ∀ l, Hom ρ id (g (evL ρ l)) (g' l)) : Hom ρ id (tgtCons f g (evL ρ l)) (QtCons f' g' l) := by
  cases l with
  | nil => exact Hom.fail
  | cons a l => exact Hom.bind (hf a) fun _ => hg l
def QtNil : List SV → Q Unit
  | [] => Q.pure ()
  | _ => Q.fail
theorem Hom.tgtNil {l : List SV} : Hom ρ id (tgtNil (evL ρ l)) (QtNil l) := by
  cases l with
  | nil => exact Hom.pure rfl
  | cons => exact Hom.fail
def Qseq (f g : Q SFl) : Q SFl := Q.bind f fun
  | .next => g
  | fl => Q.pure fl
end
end Mine
end

section
open PySem PySem.W PySem.Calls PyProof.Rows
set_option Elab.async false
set_option maxRecDepth 20000
set_option linter.unusedVariables false
set_option linter.unusedSectionVars false
set_option linter.unusedSimpArgs false
namespace Mine
/-! sums of unknowns; some unknowns have a least value -/
abbrev LBs := List (Option Int)
structure LBok (Λ : LBs) (ρ : Nat → Int) : Prop where
  one : ρ 0 = 1
  lb : ∀ i b, Λ[i]? = some (some b) → b ≤ ρ i
def addG : Aff → Aff → Aff
  | [], b => b
  | a :: l, [] => a :: l
  | a :: l, b :: r => (a + b) :: addG l r
def negG : Aff → Aff
  | [] => []
  | a :: l => -a :: negG l
def smulG (c : Int) : Aff → Aff
  | [] => []
  | a :: l => c * a :: smulG c l
def subG (a b : Aff) : Aff := addG a (negG b)
def allZ : Aff → Bool
  | [] => true
  | a :: l => bif a == 0 then allZ l else false
def constA : Aff → Option Int
  | [] => some 0
  | a :: l => bif allZ l then some a else none
def minG (Λ : LBs) : Nat → Aff → Option Int
  | _, [] => some 0
  | i, c :: cs => match minG Λ (i + 1) cs with
    | none => none
    | some m => if c = 0 then some m else if i = 0 then some (c + m) else if 0 < c then (match Λ[i]? with
      | some (some b) => some (c * b + m)
      | _ => none) else none
def geQ (Λ : LBs) (k : Int) (a : Aff) : Bool := match minG Λ 0 a with
  | some m => decide (k ≤ m)
  | none => false
def ltQ (Λ : LBs) (a b : Aff) : Option Bool := bif geQ Λ 1 (subG b a) then some true else bif geQ Λ 0 (subG a b) then some false else none
def eqQ (Λ : LBs) (a b : Aff) : Option Bool := bif allZ (subG a b) then some true else bif geQ Λ 1 (subG a b) || geQ Λ 1 (subG b a) then some false else none
section
variable {ρ : Nat → Int} {Λ : LBs}
theorem evG_add : ∀ (a b : Aff) (i : Nat), evG ρ i (addG a b) = evG ρ i a + evG ρ i b
  | [], b, i => by simp [addG, evG]
  | a :: l, [], i => by simp [addG, evG]
  | a :: l, b :: r, i => by simp only [addG, evG, evG_add l r]; rw [Int.add_mul]; omega
theorem evG_neg : ∀ (a : Aff) (i : Nat), evG ρ i (negG a) = -evG ρ i a
  | [], i => by simp [negG, evG]
  | a :: l, i => by simp only [negG, evG, evG_neg l]; rw [Int.neg_mul]; omega
theorem evG_smul (c : Int) : ∀ (a : Aff) (i : Nat), evG ρ i (smulG c a) = c * evG ρ i a
  | [], i => by simp [smulG, evG]
  | a :: l, i => by simp only [smulG, evG, evG_smul c l]; rw [Int.mul_add, Int.mul_assoc]
theorem evA_sub (a b : Aff) : evA ρ (subG a b) = evA ρ a - evA ρ b := by
  unfold evA subG; rw [evG_add, evG_neg]; omega
theorem evG_allZ : ∀ (a : Aff) (i : Nat), allZ a = true → evG ρ i a = 0
  | [], i, _ => rfl
  | a :: l, i, h => by
    unfold allZ at h
    cases e : a == 0 with
    | false => rw [e] at h; cases h
    | true => rw [e] at h; rw [evG, evG_allZ l _ h, beq_iff_eq.mp e]; simp
theorem constA_ev (H : LBok Λ ρ) {a : Aff} {c : Int} (h : constA a = some c) : evA ρ a = c := by
  cases a with
  | nil => cases h; rfl
  | cons a l =>
    unfold constA at h
    dsimp only at h
    cases e : allZ l with
    | false => rw [e] at h; cases h
    | true => rw [e] at h; cases h; unfold evA; rw [evG, evG_allZ _ _ e, H.one]; simp
theorem minG_le (H : LBok Λ ρ) : ∀ (a : Aff) (i : Nat) (m : Int), minG Λ i a = some m → m ≤ evG ρ i a
  | [], i, m, h => by cases h; exact Int.le_refl _
  | c :: cs, i, m, h => by
    unfold minG at h
    split at h
    · cases h
    · rename_i m' hm
      have ih := minG_le H cs (i + 1) m' hm
      rw [evG]
      split at h
      · rename_i hc; cases h; subst hc; rw [Int.zero_mul]; omega
      · split at h
        · rename_i hi; cases h; subst hi; rw [H.one]; omega
        · split at h
          · rename_i hc
            split at h
            · rename_i b hb
              cases h
              have := Int.mul_le_mul_of_nonneg_left (H.lb _ _ hb) (Int.le_of_lt hc)
              omega
            · cases h
          · cases h
theorem geQ_le (H : LBok Λ ρ) {k : Int} {a : Aff} (h : geQ Λ k a = true) : k ≤ evA ρ a := by
  unfold geQ at h
  split at h
  · rename_i m hm
    exact Int.le_trans (of_decide_eq_true h) (minG_le H _ _ _ hm)
  · cases h
theorem ltQ_ev (H : LBok Λ ρ) {a b : Aff} {r : Bool} (h : ltQ Λ a b = some r) : decide (evA ρ a < evA ρ b) = r := by
  unfold ltQ at h
  cases e : geQ Λ 1 (subG b a) with
  | true =>
    rw [e] at h; cases h
    have := geQ_le H e
    rw [evA_sub] at this
    exact decide_eq_true (by omega)
  | false =>
    rw [e] at h
    cases e' : geQ Λ 0 (subG a b) with
    | true =>
      rw [e'] at h; cases h
      have := geQ_le H e'
      rw [evA_sub] at this
      exact decide_eq_false (by omega)
    | false => rw [e'] at h; cases h
theorem eqQ_ev (H : LBok Λ ρ) {a b : Aff} {r : Bool} (h : eqQ Λ a b = some r) : decide (evA ρ a = evA ρ b) = r := by
  unfold eqQ at h
  cases e : allZ (subG a b) with
  | true =>
    rw [e] at h; cases h
    have := evG_allZ (ρ := ρ) (subG a b) 0 e
    have h2 := evA_sub (ρ := ρ) a b
    unfold evA at h2 ⊢
    exact decide_eq_true (by omega)
  | false =>
    rw [e] at h
    cases e' : geQ Λ 1 (subG a b) with
    | true =>
      rw [e'] at h; cases h
      have := geQ_le H e'
      rw [evA_sub] at this
      exact decide_eq_false (by omega)
    | false =>
      rw [e'] at h
      cases e2 : geQ Λ 1 (subG b a) with
      | true =>
        rw [e2] at h; cases h
        have := geQ_le H e2
        rw [evA_sub] at this
        exact decide_eq_false (by omega)
      | false => rw [e2] at h; cases h
theorem evA_const (H : LBok Λ ρ) (c : Int) : evA ρ [c] = c := by simp [evA, evG, H.one]

/-! arithmetic -/
def Qar : Operator → SV → SV → Q SV
  | .Add, .int a, .int b => Q.pure (.int (addG a b))
  | .Sub, .int a, .int b => Q.pure (.int (subG a b))
  | .Mult, .int a, .int b => match constA a with
    | some c => if smallI c = true then Q.pure (.int (smulG c b)) else Q.fail
    | none => (match constA b with
      | some c => if smallI c = true then Q.pure (.int (smulG c a)) else Q.fail
      | none => Q.fail)
  | .FloorDiv, .int a, .int b => match constA a, constA b with
    | some x, some y => if y ≠ 0 ∧ y.natAbs < 1073741824 then Q.pure (.int [x.fdiv y]) else Q.fail
    | _, _ => Q.fail
  | .Mod, .int a, .int b => match constA a, constA b with
    | some x, some y => if y ≠ 0 then Q.pure (.int [x.fmod y]) else Q.fail
    | _, _ => Q.fail
  | .Add, .str x, .str y => if x.length + y.length ≤ 2 ^ 20 then Q.pure (.str (x ++ y)) else Q.fail
  | _, _, _ => Q.fail
theorem Hom.ar (H : LBok Λ ρ) {op : Operator} {a b : SV} : Hom ρ (ev ρ) (arA op (ev ρ a) (ev ρ b)) (Qar op a b) := by
  unfold Qar
  split
  · exact Hom.pure (by show AV.int _ = AV.int _; rw [show evA ρ (addG _ _) = _ from evG_add _ _ 0]; rfl)
  · exact Hom.pure (by show AV.int _ = AV.int _; rw [evA_sub])
  · rename_i a b
    split
    · rename_i c hc
      split
      · rename_i hs
        show Hom ρ _ (if smallI (evA ρ a) || smallI (evA ρ b) then M.pure _ else _) _
        rw [constA_ev H hc, hs]
        exact Hom.pure (by show AV.int _ = AV.int _; rw [show evA ρ (smulG c b) = _ from evG_smul c b 0]; rfl)
      · exact Hom.fail
    · split
      · rename_i c hc
        split
        · rename_i hs
          show Hom ρ _ (if smallI (evA ρ a) || smallI (evA ρ b) then M.pure _ else _) _
          rw [constA_ev H hc, hs, Bool.or_true]
          exact Hom.pure (by show AV.int _ = AV.int _; rw [show evA ρ (smulG c a) = _ from evG_smul c a 0, Int.mul_comm]; rfl)
        · exact Hom.fail
      · exact Hom.fail
  · split
    · rename_i x y hx hy
      split
      · rename_i hc
        unfold Mine.arA
        simp only [ev]
        rw [constA_ev H hx, constA_ev H hy, if_pos hc]
        exact Hom.pure (by show AV.int _ = AV.int _; rw [evA_const H])
      · exact Hom.fail
    · exact Hom.fail
  · split
    · rename_i x y hx hy
      split
      · rename_i hc
        unfold Mine.arA
        simp only [ev]
        rw [constA_ev H hx, constA_ev H hy, if_pos hc]
        exact Hom.pure (by show AV.int _ = AV.int _; rw [evA_const H])
      · exact Hom.fail
    · exact Hom.fail
  · rename_i x y
    split
    · rename_i hl
      show Hom ρ _ (if (evS x).length + (evS y).length ≤ 2 ^ 20 then M.pure _ else _) _
      rw [evS_length, evS_length, if_pos hl]
      exact Hom.pure (by show AV.str _ = AV.str _; rw [evS_append])
    · exact Hom.fail
  · exact Hom.fail
def Qiar : Operator → SV → SV → Q SV
  | .Add, .int a, .int b => Q.pure (.int (addG a b))
  | .Sub, .int a, .int b => Q.pure (.int (subG a b))
  | _, _, _ => Q.fail
theorem Hom.iar (H : LBok Λ ρ) {op : Operator} {a b : SV} : Hom ρ (ev ρ) (iarA op (ev ρ a) (ev ρ b)) (Qiar op a b) := by
  unfold Qiar
  split
  · exact Hom.pure (by show AV.int _ = AV.int _; rw [show evA ρ (addG _ _) = _ from evG_add _ _ 0]; rfl)
  · exact Hom.pure (by show AV.int _ = AV.int _; rw [evA_sub])
  · exact Hom.fail
def Qun : UnaryOp → SV → Q SV
  | .USub, .int a => Q.pure (.int (negG a))
  | _, _ => Q.fail
theorem Hom.un (H : LBok Λ ρ) {op : UnaryOp} {a : SV} : Hom ρ (ev ρ) (unA op (ev ρ a)) (Qun op a) := by
  unfold Qun
  split
  · exact Hom.pure (by show AV.int _ = AV.int _; rw [show evA ρ (negG _) = _ from evG_neg _ 0]; rfl)
  · exact Hom.fail
def isN : SV → Option Bool
  | .none => some true
  | .int _ | .str _ | .bool _ | .clo _ | .lst _ | .ref _ | .dct _ => some false
  | _ => Option.none
theorem isN_ev {a : SV} {r : Bool} (h : isN a = some r) : ordA .Is (ev ρ a) .none = M.pure (.bool r) ∧ isNotA (ev ρ a) .none = M.pure (.bool !r) := by
  cases a <;> first | (cases h; exact ⟨rfl, rfl⟩) | cases h
theorem Hom.isn1 {a : SV} {r : Bool} (hr : isN a = some r) : Hom ρ (ev ρ) (ordA .Is (ev ρ a) (ev ρ .none)) (Q.pure (.bool r)) := by
  show Hom ρ _ (ordA .Is (ev ρ a) .none) _
  rw [(isN_ev hr).1]; exact Hom.pure rfl
theorem Hom.isn2 {a : SV} {r : Bool} (hr : isN a = some r) : Hom ρ (ev ρ) (isNotA (ev ρ a) (ev ρ .none)) (Q.pure (.bool !r)) := by
  show Hom ρ _ (isNotA (ev ρ a) .none) _
  rw [(isN_ev hr).2]; exact Hom.pure rfl
def Qord (Λ : LBs) : CmpOp → SV → SV → Q SV
  | .Lt, .int a, .int b => match ltQ Λ a b with
    | some r => Q.pure (.bool r)
    | none => Q.fail
  | .LtE, .int a, .int b => match ltQ Λ b a with
    | some r => Q.pure (.bool !r)
    | none => Q.fail
  | .Gt, .int a, .int b => match ltQ Λ b a with
    | some r => Q.pure (.bool r)
    | none => Q.fail
  | .GtE, .int a, .int b => match ltQ Λ a b with
    | some r => Q.pure (.bool !r)
    | none => Q.fail
  | .Is, a, .none => match isN a with
    | some r => Q.pure (.bool r)
    | none => Q.fail
  | _, _, _ => Q.fail
theorem not_lt_dec {a b : Int} {r : Bool} (h : decide (b < a) = r) : decide (a ≤ b) = !r := by
  subst h
  by_cases h : b < a
  · simp [h]
  · simp [h, Int.not_lt.mp h]
theorem Hom.ord (H : LBok Λ ρ) {op : CmpOp} {a b : SV} : Hom ρ (ev ρ) (ordA op (ev ρ a) (ev ρ b)) (Qord Λ op a b) := by
  unfold Qord
  split
  · split
    · rename_i r hr
      exact Hom.pure (by show AV.bool _ = AV.bool _; rw [ltQ_ev H hr])
    · exact Hom.fail
  · split
    · rename_i r hr
      exact Hom.pure (by show AV.bool _ = AV.bool _; rw [not_lt_dec (ltQ_ev H hr)])
    · exact Hom.fail
  · split
    · rename_i r hr
      exact Hom.pure (by show AV.bool _ = AV.bool _; rw [ltQ_ev H hr])
    · exact Hom.fail
  · split
    · rename_i r hr
      exact Hom.pure (by show AV.bool _ = AV.bool _; rw [not_lt_dec (ltQ_ev H hr)])
    · exact Hom.fail
  · rename_i a
    split
    · rename_i r hr
      exact Hom.isn1 hr
    · exact Hom.fail
  · exact Hom.fail
def QisNot : SV → SV → Q SV
  | a, .none => match isN a with
    | some r => Q.pure (.bool !r)
    | none => Q.fail
  | _, _ => Q.fail
theorem Hom.isNot {a b : SV} : Hom ρ (ev ρ) (isNotA (ev ρ a) (ev ρ b)) (QisNot a b) := by
  unfold QisNot
  split
  · rename_i a
    split
    · rename_i r hr
      exact Hom.isn2 hr
    · exact Hom.fail
  · exact Hom.fail
def QeqFS (a b : SV) : Q SV := match a, b with
  | .clo _, .str _ => Q.pure (.bool false)
  | _, _ => Q.fail
theorem Hom.eqFS {a b : SV} : Hom ρ (ev ρ) (eqFS (ev ρ a) (ev ρ b)) (QeqFS a b) := by
  unfold QeqFS
  split
  · exact Hom.pure rfl
  · exact Hom.fail

/-! equality -/
def okS : Key → Bool
  | [] => true
  | a :: l => Nat.blt a 1114112 && okS l
theorem okS_all : ∀ {x : Key}, okS x = true → x.all (fun c => decide (c < 0x110000)) = true
  | [], _ => rfl
  | a :: l, h => by
    unfold okS at h
    rw [Bool.and_eq_true] at h
    rw [List.all_cons, okS_all h.2, Bool.and_true]
    exact decide_eq_true (Nat.le_of_ble_eq_true h.1)
theorem okS_ev {x : Key} (h : okS x = true) : (PyData.str (evS x)).canLay0 = true := by
  show (evS x).cps.all (fun c => decide (c < 0x110000)) = true
  rw [← Array.all_toList]
  exact okS_all h
def atomEq (Λ : LBs) : SV → SV → Option Bool
  | .int a, .int b => eqQ Λ a b
  | .str x, .str y => bif okS x && okS y then some (kEq x y) else none
  | .none, .none => some true
  | .bool a, .bool b => some (a == b)
  | .none, .int _ => some false
  | .int _, .none => some false
  | .none, .str y => bif okS y then some false else none
  | .str x, .none => bif okS x then some false else none
  | .int _, .str y => bif okS y then some false else none
  | .str x, .int _ => bif okS x then some false else none
  | _, _ => none
structure AtEq (d d' : PyData) (r : Bool) : Prop where
  l1 : d.canLay0 = true
  l2 : d'.canLay0 = true
  z1 : d.depth = 0
  z2 : d'.depth = 0
  eq : PyData.eqv d d' = r
theorem kEq_dec {x y : Key} : (evS x == evS y) = kEq x y := by
  cases h : kEq x y with
  | true => simp [kEq_true h]
  | false => simp [kEq_false h]
theorem atomEq_ev (H : LBok Λ ρ) {a b : SV} {r : Bool} (h : atomEq Λ a b = some r) : ∃ d d', toD (ev ρ a) = some d ∧ toD (ev ρ b) = some d' ∧ AtEq d d' r := by
  unfold atomEq at h
  split at h
  · rename_i a b
    exact ⟨.int (evA ρ a), .int (evA ρ b), rfl, rfl, ⟨rfl, rfl, rfl, rfl, by
      have := eqQ_ev H h
      show (evA ρ a == evA ρ b) = r
      rw [← this]; rfl⟩⟩
  · rename_i x y
    cases e : okS x && okS y with
    | false => rw [e] at h; cases h
    | true =>
      rw [e] at h; cases h
      rw [Bool.and_eq_true] at e
      exact ⟨.str (evS x), .str (evS y), rfl, rfl, ⟨okS_ev e.1, okS_ev e.2, rfl, rfl, kEq_dec⟩⟩
  · cases h; exact ⟨.none, .none, rfl, rfl, ⟨rfl, rfl, rfl, rfl, rfl⟩⟩
  · cases h; exact ⟨.bool _, .bool _, rfl, rfl, ⟨rfl, rfl, rfl, rfl, rfl⟩⟩
  · cases h; exact ⟨.none, .int _, rfl, rfl, ⟨rfl, rfl, rfl, rfl, rfl⟩⟩
  · cases h; exact ⟨.int _, .none, rfl, rfl, ⟨rfl, rfl, rfl, rfl, rfl⟩⟩
  · rename_i y
    cases e : okS y with
    | false => rw [e] at h; cases h
    | true => rw [e] at h; cases h; exact ⟨.none, .str (evS y), rfl, rfl, ⟨rfl, okS_ev e, rfl, rfl, rfl⟩⟩
  · rename_i y
    cases e : okS y with
    | false => rw [e] at h; cases h
    | true => rw [e] at h; cases h; exact ⟨.str (evS y), .none, rfl, rfl, ⟨okS_ev e, rfl, rfl, rfl, rfl⟩⟩
  · rename_i y
    cases e : okS y with
    | false => rw [e] at h; cases h
    | true => rw [e] at h; cases h; exact ⟨.int _, .str (evS y), rfl, rfl, ⟨rfl, okS_ev e, rfl, rfl, rfl⟩⟩
  · rename_i y _
    cases e : okS y with
    | false => rw [e] at h; cases h
    | true => rw [e] at h; cases h; exact ⟨.str (evS y), .int _, rfl, rfl, ⟨okS_ev e, rfl, rfl, rfl, rfl⟩⟩
  · cases h
def allEq (Λ : LBs) : List SV → List SV → Option Bool
  | [], [] => some true
  | a :: l, b :: r => match atomEq Λ a b, allEq Λ l r with
    | some x, some y => some (x && y)
    | _, _ => none
  | _, _ => none
structure AllEq (d d' : List PyData) (r : Bool) : Prop where
  l1 : PyData.canLayAll0 d = true
  l2 : PyData.canLayAll0 d' = true
  z1 : PyData.depthAll d = 0
  z2 : PyData.depthAll d' = 0
  eq : PyData.eqvAll d d' = r
theorem allEq_ev (H : LBok Λ ρ) : ∀ {a b : List SV} {r : Bool}, allEq Λ a b = some r → ∃ d d', toDs (evL ρ a) = some d ∧ toDs (evL ρ b) = some d' ∧ AllEq d d' r
  | [], [], r, h => by cases h; exact ⟨[], [], rfl, rfl, ⟨rfl, rfl, rfl, rfl, rfl⟩⟩
  | [], _ :: _, r, h => by cases h
  | _ :: _, [], r, h => by cases h
  | a :: l, b :: m, r, h => by
    unfold allEq at h
    split at h
    · rename_i x y hx hy
      cases h
      obtain ⟨d, d', q1, q2, q⟩ := atomEq_ev H hx
      obtain ⟨ds, ds', p1, p2, p⟩ := allEq_ev H hy
      refine ⟨d :: ds, d' :: ds', ?_, ?_, ?_⟩
      · show toDs (ev ρ a :: evL ρ l) = _
        unfold toDs; rw [q1, p1]
      · show toDs (ev ρ b :: evL ρ m) = _
        unfold toDs; rw [q2, p2]
      · refine ⟨?_, ?_, ?_, ?_, ?_⟩
        · unfold PyData.canLayAll0; rw [q.l1, p.l1]; rfl
        · unfold PyData.canLayAll0; rw [q.l2, p.l2]; rfl
        · unfold PyData.depthAll; rw [q.z1, p.z1]; rfl
        · unfold PyData.depthAll; rw [q.z2, p.z2]; rfl
        · unfold PyData.eqvAll; rw [q.eq, p.eq]
    · cases h
def viewS (τ : SSt) : SV → Option (List SV)
  | .lst l => some l
  | .ref n => (match τ.get n with
    | some (.list l) => some l
    | _ => none)
  | _ => none
theorem viewS_ev {τ : SSt} {a : SV} : viewL (evSt ρ τ) (ev ρ a) = (viewS τ a).map (evL ρ) := by
  cases a with
  | lst l => rfl
  | ref n =>
    show viewL (evSt ρ τ) (.ref (0, n)) = _
    unfold viewL viewS
    dsimp only
    cases hg : τ.get n with
    | none => simp [evSt, hg]
    | some o => rw [get_ev hg]; cases o <;> rfl
  | _ => rfl
def eqTop (Λ : LBs) (τ : SSt) (a b : SV) : Option Bool := match viewS τ a, viewS τ b with
  | some l, some r => allEq Λ l r
  | none, none => (match a, b with
    | .tup l, .tup r => allEq Λ l r
    | a, b => atomEq Λ a b)
  | _, _ => none
theorem eqTop_ev (H : LBok Λ ρ) {τ : SSt} {a b : SV} {r : Bool} (h : eqTop Λ τ a b = some r) : ∃ d d', viewD (evSt ρ τ) (ev ρ a) = some d ∧ viewD (evSt ρ τ) (ev ρ b) = some d' ∧ dOk d = true ∧ dOk d' = true ∧ PyData.eqv d d' = r := by
  unfold eqTop at h
  unfold viewD
  rw [viewS_ev, viewS_ev]
  split at h
  · rename_i l m hl hm
    rw [hl, hm]
    obtain ⟨d, d', p1, p2, p⟩ := allEq_ev H h
    refine ⟨.list d, .list d', by simp [p1], by simp [p2], ?_, ?_, p.eq⟩
    · unfold dOk PyData.canLay0 PyData.depth; rw [p.l1, p.z1]; rfl
    · unfold dOk PyData.canLay0 PyData.depth; rw [p.l2, p.z2]; rfl
  · rename_i hl hm
    rw [hl, hm]
    dsimp only [Option.map_none]
    split at h
    · rename_i l m
      obtain ⟨d, d', p1, p2, p⟩ := allEq_ev H h
      refine ⟨.tuple d, .tuple d', ?_, ?_, ?_, ?_, p.eq⟩
      · show toD (.tup (evL ρ l)) = _
        unfold toD; rw [p1]; rfl
      · show toD (.tup (evL ρ m)) = _
        unfold toD; rw [p2]; rfl
      · unfold dOk PyData.canLay0 PyData.depth; rw [p.l1, p.z1]; rfl
      · unfold dOk PyData.canLay0 PyData.depth; rw [p.l2, p.z2]; rfl
    · obtain ⟨d, d', p1, p2, p⟩ := atomEq_ev H h
      refine ⟨d, d', p1, p2, ?_, ?_, p.eq⟩
      · unfold dOk; rw [p.l1, p.z1]; rfl
      · unfold dOk; rw [p.l2, p.z2]; rfl
  · cases h
def Qeq (Λ : LBs) (a b : SV) : Q SV := fun τ => match eqTop Λ τ a b with
  | some r => some (.bool r, τ)
  | none => none
def Qne (Λ : LBs) (a b : SV) : Q SV := fun τ => match eqTop Λ τ a b with
  | some r => some (.bool !r, τ)
  | none => none
theorem Hom.eq (H : LBok Λ ρ) {a b : SV} : Hom ρ (ev ρ) (eqA (ev ρ a) (ev ρ b)) (Qeq Λ a b) := by
  intro τ v τ' h
  unfold Qeq at h
  split at h
  · rename_i r hr
    cases h
    obtain ⟨d, d', p1, p2, p3, p4, p5⟩ := eqTop_ev H hr
    unfold eqA
    simp only [p1, p2, p3, p4, p5, Bool.and_self, if_true]
    rfl
  · cases h
theorem Hom.ne (H : LBok Λ ρ) {a b : SV} : Hom ρ (ev ρ) (neA (ev ρ a) (ev ρ b)) (Qne Λ a b) := by
  intro τ v τ' h
  unfold Qne at h
  split at h
  · rename_i r hr
    cases h
    obtain ⟨d, d', p1, p2, p3, p4, p5⟩ := eqTop_ev H hr
    unfold neA
    simp only [p1, p2, p3, p4, p5, Bool.and_self, if_true]
    rfl
  · cases h
def anyEq (Λ : LBs) (a : SV) : List SV → Option Bool
  | [] => some false
  | b :: l => match atomEq Λ b a, anyEq Λ a l with
    | some x, some y => some (x || y)
    | _, _ => none
theorem anyEq_ev (H : LBok Λ ρ) {a : SV} {d : PyData} (ha : toD (ev ρ a) = some d) : ∀ {l : List SV} {r : Bool}, anyEq Λ a l = some r → ∃ ds, toDs (evL ρ l) = some ds ∧ ds.all dOk = true ∧ (ds.any fun x => PyData.eqv x d) = r
  | [], r, h => by cases h; exact ⟨[], rfl, rfl, rfl⟩
  | b :: l, r, h => by
    unfold anyEq at h
    split at h
    · rename_i x y hx hy
      cases h
      obtain ⟨db, da, q1, q2, q⟩ := atomEq_ev H hx
      rw [ha] at q2; cases q2
      obtain ⟨ds, p1, p2, p3⟩ := anyEq_ev H ha hy
      refine ⟨db :: ds, ?_, ?_, ?_⟩
      · show toDs (ev ρ b :: evL ρ l) = _
        unfold toDs; rw [q1, p1]
      · rw [List.all_cons, p2, Bool.and_true]
        unfold dOk; rw [q.l1, q.z1]; rfl
      · rw [List.any_cons, p3, q.eq]
    · cases h
def isAtom : SV → Bool
  | .int _ => true
  | .str x => okS x
  | .none => true
  | .bool _ => true
  | _ => false
theorem isAtom_ev {a : SV} (h : isAtom a = true) : ∃ d, toD (ev ρ a) = some d ∧ dOk d = true := by
  cases a <;> first | cases h | skip
  · exact ⟨.none, rfl, rfl⟩
  · exact ⟨.bool _, rfl, rfl⟩
  · exact ⟨.int _, rfl, rfl⟩
  · rename_i x
    exact ⟨.str (evS x), rfl, by unfold dOk; rw [okS_ev h]; rfl⟩
def Qin (Λ : LBs) (neg : Bool) (a b : SV) : Q SV := fun τ => match viewS τ b with
  | some l => bif isAtom a then (match anyEq Λ a l with
    | some r => some (.bool (bif neg then !r else r), τ)
    | none => none) else none
  | none => none
theorem Hom.in (H : LBok Λ ρ) {a b : SV} : Hom ρ (ev ρ) (inA (ev ρ a) (ev ρ b)) (Qin Λ false a b) := by
  intro τ v τ' h
  unfold Qin at h
  split at h
  · rename_i l hl
    cases ha : isAtom a with
    | false => rw [ha] at h; cases h
    | true =>
      rw [ha] at h
      dsimp only [cond_true] at h
      split at h
      · rename_i r hr
        cases h
        obtain ⟨d, q1, q2⟩ := isAtom_ev (ρ := ρ) ha
        obtain ⟨ds, p1, p2, p3⟩ := anyEq_ev H q1 hr
        unfold inA
        simp only [viewS_ev, hl, Option.map_some, q1, p1, p2, p3, q2, Bool.and_self, if_true]
        rfl
      · cases h
  · cases h
theorem Hom.notIn (H : LBok Λ ρ) {a b : SV} : Hom ρ (ev ρ) (notInA (ev ρ a) (ev ρ b)) (Qin Λ true a b) := by
  intro τ v τ' h
  unfold Qin at h
  split at h
  · rename_i l hl
    cases ha : isAtom a with
    | false => rw [ha] at h; cases h
    | true =>
      rw [ha] at h
      dsimp only [cond_true] at h
      split at h
      · rename_i r hr
        cases h
        obtain ⟨d, q1, q2⟩ := isAtom_ev (ρ := ρ) ha
        obtain ⟨ds, p1, p2, p3⟩ := anyEq_ev H q1 hr
        unfold notInA
        simp only [viewS_ev, hl, Option.map_some, q1, p1, p2, p3, q2, Bool.and_self, if_true]
        rfl
      · cases h
  · cases h
end
end Mine
end

section
open PySem PySem.W PySem.Calls PyProof.Rows
set_option Elab.async false
set_option maxRecDepth 20000
set_option linter.unusedVariables false
set_option linter.unusedSectionVars false
set_option linter.unusedSimpArgs false
namespace Mine
/-! dicts by int keys -/
def iget (Λ : LBs) : List (Aff × SV) → Aff → Option (Option SV)
  | [], _ => some none
  | (y, v) :: l, x => match eqQ Λ y x with
    | some true => some (some v)
    | some false => iget Λ l x
    | none => none
def imap (Λ : LBs) : List (Aff × SV) → Aff → SV → Option (Bool × List (Aff × SV))
  | [], _, _ => some (false, [])
  | (y, w) :: l, x, v => match eqQ Λ y x, imap Λ l x v with
    | some true, some (_, r) => some (true, (y, v) :: r)
    | some false, some (b, r) => some (b, (y, w) :: r)
    | _, _ => none
def iset (Λ : LBs) (l : List (Aff × SV)) (x : Aff) (v : SV) : Option (List (Aff × SV)) := match imap Λ l x v with
  | some (true, r) => some r
  | some (false, r) => some (l ++ [(x, v)])
  | none => none
def idel (Λ : LBs) : List (Aff × SV) → Aff → Option (List (Aff × SV))
  | [], _ => some []
  | (y, w) :: l, x => match eqQ Λ y x, idel Λ l x with
    | some true, some r => some r
    | some false, some r => some ((y, w) :: r)
    | _, _ => none
section
variable {ρ : Nat → Int} {Λ : LBs}
theorem eqQ_t (H : LBok Λ ρ) {a b : Aff} (h : eqQ Λ a b = some true) : evA ρ a = evA ρ b := of_decide_eq_true (eqQ_ev H h)
theorem eqQ_f (H : LBok Λ ρ) {a b : Aff} (h : eqQ Λ a b = some false) : evA ρ a ≠ evA ρ b := of_decide_eq_false (eqQ_ev H h)
theorem iget_ev (H : LBok Λ ρ) : ∀ {l : List (Aff × SV)} {x : Aff} {o : Option SV}, iget Λ l x = some o → getK (evI ρ l) (evA ρ x) = o.map (ev ρ)
  | [], x, o, h => by cases h; rfl
  | (y, v) :: l, x, o, h => by
    unfold iget at h
    unfold getK evI
    rw [List.find?_cons]
    split at h
    · rename_i e; cases h; simp [eqQ_t H e]
    · rename_i e
      have := iget_ev H h
      unfold getK at this
      simp only [eqQ_f H e, decide_false]; exact this
    · cases h
theorem imap_ev (H : LBok Λ ρ) : ∀ {l : List (Aff × SV)} {x : Aff} {v : SV} {b : Bool} {r : List (Aff × SV)}, imap Λ l x v = some (b, r) →
    ((evI ρ l).any fun kv => decide (kv.1 = evA ρ x)) = b ∧ ((evI ρ l).map fun kv => if kv.1 = evA ρ x then (kv.1, ev ρ v) else kv) = evI ρ r
  | [], x, v, b, r, h => by cases h; exact ⟨rfl, rfl⟩
  | (y, w) :: l, x, v, b, r, h => by
    unfold imap at h
    split at h
    · rename_i b' r' e1 e2
      cases h
      obtain ⟨p1, p2⟩ := imap_ev H e2
      rw [evI, List.any_cons, List.map_cons, p2]
      simp [eqQ_t H e1, evI]
    · rename_i b' r' e1 e2
      cases h
      obtain ⟨p1, p2⟩ := imap_ev H e2
      rw [evI, List.any_cons, List.map_cons, p2, p1]
      simp [eqQ_f H e1, evI]
    · cases h
theorem iset_ev (H : LBok Λ ρ) {l : List (Aff × SV)} {x : Aff} {v : SV} {r : List (Aff × SV)} (h : iset Λ l x v = some r) : setK (evI ρ l) (evA ρ x) (ev ρ v) = evI ρ r := by
  unfold iset at h
  unfold setK
  split at h
  · rename_i r' e; cases h
    obtain ⟨p1, p2⟩ := imap_ev H e
    rw [p1, if_pos rfl]; exact p2
  · rename_i r' e; cases h
    obtain ⟨p1, p2⟩ := imap_ev H e
    rw [p1, if_neg (by decide), evI_append]; rfl
  · cases h
theorem idel_ev (H : LBok Λ ρ) : ∀ {l : List (Aff × SV)} {x : Aff} {r : List (Aff × SV)}, idel Λ l x = some r → delK (evI ρ l) (evA ρ x) = evI ρ r
  | [], x, r, h => by cases h; rfl
  | (y, w) :: l, x, r, h => by
    unfold idel at h
    split at h
    · rename_i r' e1 e2
      cases h
      have := idel_ev H e2
      unfold delK at this ⊢
      rw [evI, List.filter_cons]
      simp only [eqQ_t H e1, ne_eq, not_true, decide_false, Bool.false_eq_true, if_false]; exact this
    · rename_i r' e1 e2
      cases h
      have := idel_ev H e2
      unfold delK at this ⊢
      rw [evI, List.filter_cons]
      simp only [eqQ_f H e1, ne_eq, not_false_iff, decide_true, if_true]; rw [this]; rfl
    · cases h
def Qset (Λ : LBs) : SV → SV → SV → Q Unit
  | .ref n, .int i, v => fun τ => match τ.get n with
    | some (.dictI l) => if l.length ≤ 2 ^ 20 then (match iset Λ l i v with
      | some r => some ((), τ.put n (some (.dictI r)))
      | none => none) else none
    | _ => none
  | .ref n, .str x, v => fun τ => match τ.get n with
    | some (.dictS l) => if l.length ≤ 2 ^ 20 then some ((), τ.put n (some (.dictS (kset l x v)))) else none
    | _ => none
  | _, _, _ => Q.fail
theorem Hom.setIt (H : LBok Λ ρ) {a b v : SV} : Hom ρ id (setItA (ev ρ a) (ev ρ b) (ev ρ v)) (Qset Λ a b v) := by
  unfold Qset
  split
  · rename_i n i
    intro τ u τ' h
    dsimp only at h
    split at h
    · rename_i l hl
      split at h
      · rename_i hlen
        split at h
        · rename_i r hr
          cases h
          show setItA (.ref (0, n)) (.int (evA ρ i)) (ev ρ v) _ = _
          unfold setItA
          simp only [get_ev hl, evO, evI_length, if_pos hlen, iset_ev H hr]
          rw [← put_ev (get_lt hl)]; rfl
        · cases h
      · cases h
    · cases h
  · rename_i n x
    intro τ u τ' h
    dsimp only at h
    split at h
    · rename_i l hl
      split at h
      · rename_i hlen
        cases h
        show setItA (.ref (0, n)) (.str (evS x)) (ev ρ v) _ = _
        unfold setItA
        simp only [get_ev hl, evO, evD_length, if_pos hlen, kset_ev]
        rw [← put_ev (get_lt hl)]; rfl
      · cases h
    · cases h
  · exact Hom.fail
def Qdel (Λ : LBs) : SV → SV → Q Unit
  | .ref n, .int i => fun τ => match τ.get n with
    | some (.dictI l) => if l.length ≤ 2 ^ 20 then (match iget Λ l i, idel Λ l i with
      | some (some _), some r => some ((), τ.put n (some (.dictI r)))
      | _, _ => none) else none
    | _ => none
  | _, _ => Q.fail
theorem Hom.delIt (H : LBok Λ ρ) {a b : SV} : Hom ρ id (delItA (ev ρ a) (ev ρ b)) (Qdel Λ a b) := by
  unfold Qdel
  split
  · rename_i n i
    intro τ u τ' h
    dsimp only at h
    split at h
    · rename_i l hl
      split at h
      · rename_i hlen
        split at h
        · rename_i v r hg hr
          cases h
          show delItA (.ref (0, n)) (.int (evA ρ i)) _ = _
          unfold delItA
          simp only [get_ev hl, evO, evI_length, iget_ev H hg, idel_ev H hr, Option.map_some, Option.isSome_some]
          rw [if_pos ⟨hlen, trivial⟩, ← put_ev (get_lt hl)]; rfl
        · cases h
      · cases h
    · cases h
  · exact Hom.fail
def dgetS (Λ : LBs) (τ : SSt) : SV → SV → Option (Option SV)
  | .ref n, .int i => (match τ.get n with
    | some (.dictI l) => iget Λ l i
    | _ => none)
  | .ref n, .str x => (match τ.get n with
    | some (.dictS l) => some (kget l x)
    | _ => none)
  | .dct l, .str x => some (kget l x)
  | _, _ => none
theorem dgetS_ev (H : LBok Λ ρ) {τ : SSt} {a b : SV} {o : Option SV} (h : dgetS Λ τ a b = some o) : dget (evSt ρ τ) (ev ρ a) (ev ρ b) = some (o.map (ev ρ)) := by
  unfold dgetS at h
  split at h
  · rename_i n i
    split at h
    · rename_i l hl
      show dget _ (.ref (0, n)) (.int (evA ρ i)) = _
      unfold dget
      simp only [get_ev hl, evO, iget_ev H h]
    · cases h
  · rename_i n x
    split at h
    · rename_i l hl
      cases h
      show dget _ (.ref (0, n)) (.str (evS x)) = _
      unfold dget
      simp only [get_ev hl, evO, kget_ev]
    · cases h
  · rename_i l x
    cases h
    show dget _ (.dct (evD ρ l)) (.str (evS x)) = _
    unfold dget
    simp only [kget_ev]
  · cases h
def Qdget (Λ : LBs) : SV → List SV → Q SV
  | a, [k] => fun τ => match dgetS Λ τ a k with
    | some (some v) => some (v, τ)
    | some none => some (.none, τ)
    | none => none
  | a, [k, d] => fun τ => match dgetS Λ τ a k with
    | some (some v) => some (v, τ)
    | some none => some (d, τ)
    | none => none
  | _, _ => Q.fail
theorem Hom.dgetF (H : LBok Λ ρ) {b : SV} {l : List SV} : Hom ρ (ev ρ) (dgetF (ev ρ b) (evL ρ l)) (Qdget Λ b l) := by
  unfold Qdget
  split
  · rename_i k
    intro τ v τ' h
    dsimp only at h
    show (dget _ (ev ρ b) (ev ρ k)).map _ = _
    split at h
    · rename_i w hw; cases h; rw [dgetS_ev H hw]; rfl
    · rename_i hw; cases h; rw [dgetS_ev H hw]; rfl
    · cases h
  · rename_i k d
    intro τ v τ' h
    dsimp only at h
    show (dget _ (ev ρ b) (ev ρ k)).map _ = _
    split at h
    · rename_i w hw; cases h; rw [dgetS_ev H hw]; rfl
    · rename_i hw; cases h; rw [dgetS_ev H hw]; rfl
    · cases h
  · exact Hom.fail
def atS (l : List SV) (a : Aff) : Option SV := match constA a with
  | some i => (match idxN i l.length with
    | some j => l[j]?
    | none => none)
  | none => none
theorem atS_ev (H : LBok Λ ρ) {l : List SV} {a : Aff} {v : SV} (h : atS l a = some v) : atL (evL ρ l) (evA ρ a) = some (ev ρ v) := by
  unfold atS at h
  split at h
  · rename_i i hi
    unfold atL
    rw [constA_ev H hi, evL_length]
    split at h
    · rename_i j hj
      first | (rw [hj]; dsimp only; rw [evL_get, h]; rfl) | (rw [evL_get, h]; rfl)
    · cases h
  · cases h
def Qget (Λ : LBs) : SV → SV → Q SV
  | .tup l, .int i => fun τ => (atS l i).map (·, τ)
  | .lst l, .int i => fun τ => (atS l i).map (·, τ)
  | .dct l, .str x => fun τ => (kget l x).map (·, τ)
  | .ref n, .int i => fun τ => match τ.get n with
    | some (.list l) => (atS l i).map (·, τ)
    | some (.dictI l) => (match iget Λ l i with
      | some (some v) => some (v, τ)
      | _ => none)
    | _ => none
  | .ref n, .str x => fun τ => match τ.get n with
    | some (.dictS l) => (kget l x).map (·, τ)
    | _ => none
  | _, _ => Q.fail
theorem Hom.getA (H : LBok Λ ρ) {a b : SV} : Hom ρ (ev ρ) (getA (ev ρ a) (ev ρ b)) (Qget Λ a b) := by
  unfold Qget
  split
  · rename_i l i
    intro τ v τ' h
    obtain ⟨w, hw, e⟩ := Option.map_eq_some_iff.mp h
    cases e
    show (atL (evL ρ l) (evA ρ i)).map _ = _
    rw [atS_ev H hw]; rfl
  · rename_i l i
    intro τ v τ' h
    obtain ⟨w, hw, e⟩ := Option.map_eq_some_iff.mp h
    cases e
    show (atL (evL ρ l) (evA ρ i)).map _ = _
    rw [atS_ev H hw]; rfl
  · rename_i l x
    intro τ v τ' h
    obtain ⟨w, hw, e⟩ := Option.map_eq_some_iff.mp h
    cases e
    show (getK (evD ρ l) (evS x)).map _ = _
    rw [kget_ev, hw]; rfl
  · rename_i n i
    intro τ v τ' h
    dsimp only at h
    show Mine.getA (.ref (0, n)) (.int (evA ρ i)) _ = _
    unfold Mine.getA
    split at h
    · rename_i l hl
      obtain ⟨w, hw, e⟩ := Option.map_eq_some_iff.mp h
      cases e
      simp only [get_ev hl, evO]
      rw [atS_ev H hw]; rfl
    · rename_i l hl
      split at h
      · rename_i w hw
        cases h
        simp only [get_ev hl, evO]
        rw [iget_ev H hw]; rfl
      · cases h
    · cases h
  · rename_i n x
    intro τ v τ' h
    dsimp only at h
    show Mine.getA (.ref (0, n)) (.str (evS x)) _ = _
    unfold Mine.getA
    split at h
    · rename_i l hl
      obtain ⟨w, hw, e⟩ := Option.map_eq_some_iff.mp h
      cases e
      simp only [get_ev hl, evO]
      rw [kget_ev, hw]; rfl
    · cases h
  · exact Hom.fail
/-! truth, len, range, abs -/
def leB (a b : Nat) : Bool := Nat.ble a b
def Qtr (Λ : LBs) : SV → Q Bool
  | .none => Q.pure false
  | .bool b => Q.pure b
  | .int a => match eqQ Λ a [] with
    | some r => Q.pure (!r)
    | none => Q.fail
  | .clo _ => Q.pure true
  | .lst l => if l.length ≤ 2 ^ 40 then Q.pure (l.length != 0) else Q.fail
  | .dct l => if l.length ≤ 2 ^ 40 then Q.pure (l.length != 0) else Q.fail
  | .ref n => fun τ => match τ.get n with
    | some (.list l) => if l.length ≤ 2 ^ 40 then some (l.length != 0, τ) else none
    | some (.dictI l) => if l.length ≤ 2 ^ 40 then some (l.length != 0, τ) else none
    | some (.dictS l) => if l.length ≤ 2 ^ 40 then some (l.length != 0, τ) else none
    | _ => none
  | _ => Q.fail
theorem Hom.trA (H : LBok Λ ρ) {a : SV} : Hom ρ id (trA (ev ρ a)) (Qtr Λ a) := by
  unfold Qtr
  split
  · exact Hom.pure rfl
  · exact Hom.pure rfl
  · rename_i a
    split
    · rename_i r hr
      refine Hom.pure ?_
      have := eqQ_ev H hr
      show (evA ρ a != 0) = !r
      rw [← this]
      show (!(evA ρ a == 0)) = !decide (evA ρ a = 0)
      rfl
    · exact Hom.fail
  · exact Hom.pure rfl
  · rename_i l
    show Hom ρ id (if (evL ρ l).length ≤ 2 ^ 40 then _ else _) _
    rw [evL_length]
    split
    · exact Hom.pure rfl
    · exact Hom.fail
  · rename_i l
    show Hom ρ id (if (evD ρ l).length ≤ 2 ^ 40 then _ else _) _
    rw [evD_length]
    split
    · exact Hom.pure rfl
    · exact Hom.fail
  · rename_i n
    intro τ v τ' h
    dsimp only at h
    show Mine.trA (.ref (0, n)) _ = _
    unfold Mine.trA
    split at h
    · rename_i l hl
      split at h
      · rename_i hlen; cases h; simp only [get_ev hl, evO, evL_length, if_pos hlen]; rfl
      · cases h
    · rename_i l hl
      split at h
      · rename_i hlen; cases h; simp only [get_ev hl, evO, evI_length, if_pos hlen]; rfl
      · cases h
    · rename_i l hl
      split at h
      · rename_i hlen; cases h; simp only [get_ev hl, evO, evD_length, if_pos hlen]; rfl
      · cases h
    · cases h
  · exact Hom.fail
def Qlen : List SV → List SV → Q SV
  | [a], [] => fun τ => match a with
    | .lst l => if l.length < 2 ^ 40 then some (.int [(l.length : Int)], τ) else none
    | .dct l => if l.length < 2 ^ 40 then some (.int [(l.length : Int)], τ) else none
    | .ref n => (match τ.get n with
      | some (.list l) => if l.length < 2 ^ 40 then some (.int [(l.length : Int)], τ) else none
      | some (.dictI l) => if l.length < 2 ^ 40 then some (.int [(l.length : Int)], τ) else none
      | some (.dictS l) => if l.length < 2 ^ 40 then some (.int [(l.length : Int)], τ) else none
      | _ => none)
    | _ => none
  | _, _ => Q.fail
theorem Hom.lenF (H : LBok Λ ρ) {l k : List SV} : Hom ρ (ev ρ) (lenF (evL ρ l) (evL ρ k)) (Qlen l k) := by
  unfold Qlen
  split
  · rename_i a
    intro τ v τ' h
    dsimp only at h
    have e : ∀ n : Nat, ev ρ (.int [(n : Int)]) = .int n := fun n => by show AV.int _ = _; rw [evA_const H]
    split at h
    · rename_i l
      split at h
      · rename_i hlen; cases h
        show (if (evL ρ l).length < 2 ^ 40 then _ else _) = _
        rw [evL_length, if_pos hlen, e]
      · cases h
    · rename_i l
      split at h
      · rename_i hlen; cases h
        show (if (evD ρ l).length < 2 ^ 40 then _ else _) = _
        rw [evD_length, if_pos hlen, e]
      · cases h
    · rename_i n
      show Mine.lenF [.ref (0, n)] [] _ = _
      unfold Mine.lenF
      split at h
      · rename_i l hl
        split at h
        · rename_i hlen; cases h; simp only [get_ev hl, evO, evL_length, if_pos hlen, e]
        · cases h
      · rename_i l hl
        split at h
        · rename_i hlen; cases h; simp only [get_ev hl, evO, evI_length, if_pos hlen, e]
        · cases h
      · rename_i l hl
        split at h
        · rename_i hlen; cases h; simp only [get_ev hl, evO, evD_length, if_pos hlen, e]
        · cases h
      · cases h
    · cases h
  · exact Hom.fail
def Qrange : List SV → List SV → Q SV
  | [.int b], [] => match constA b with
    | some y => Q.pure (.rng 0 y 1)
    | none => Q.fail
  | [.int a, .int b], [] => match constA a, constA b with
    | some x, some y => Q.pure (.rng x y 1)
    | _, _ => Q.fail
  | _, _ => Q.fail
theorem Hom.rangeF (H : LBok Λ ρ) {l k : List SV} : Hom ρ (ev ρ) (rangeF (evL ρ l) (evL ρ k)) (Qrange l k) := by
  unfold Qrange
  split
  · split
    · rename_i y hy
      exact Hom.pure (by show AV.rng 0 _ 1 = _; rw [constA_ev H hy]; rfl)
    · exact Hom.fail
  · split
    · rename_i x y hx hy
      exact Hom.pure (by show AV.rng _ _ 1 = _; rw [constA_ev H hx, constA_ev H hy]; rfl)
    · exact Hom.fail
  · exact Hom.fail
def Qabs (Λ : LBs) : List SV → List SV → Q SV
  | [.int a], [] => match ltQ Λ a [] with
    | some true => Q.pure (.int (negG a))
    | some false => Q.pure (.int a)
    | none => Q.fail
  | _, _ => Q.fail
theorem Hom.absF (H : LBok Λ ρ) {l k : List SV} : Hom ρ (ev ρ) (absF (evL ρ l) (evL ρ k)) (Qabs Λ l k) := by
  unfold Qabs
  split
  · rename_i a
    split
    · rename_i hr
      refine Hom.pure ?_
      have : evA ρ a < 0 := of_decide_eq_true (ltQ_ev H hr)
      show AV.int (if evA ρ a < 0 then _ else _) = _
      rw [if_pos this]
      show AV.int _ = AV.int _
      rw [show evA ρ (negG a) = _ from evG_neg a 0]; rfl
    · rename_i hr
      refine Hom.pure ?_
      have : ¬ evA ρ a < 0 := of_decide_eq_false (ltQ_ev H hr)
      show AV.int (if evA ρ a < 0 then _ else _) = _
      rw [if_neg this]; rfl
    · exact Hom.fail
  · exact Hom.fail
end
end Mine
end

section
open PySem PySem.W PySem.Calls PyProof.Rows
set_option Elab.async false
set_option maxRecDepth 20000
set_option linter.unusedVariables false
set_option linter.unusedSectionVars false
set_option linter.unusedSimpArgs false
namespace Mine
section
variable {ρ : Nat → Int} {Λ : LBs}
/-! figures -/
def digK (n : Nat) : Key := (Nat.toDigits 10 n).map Char.toNat
theorem digK_ev (n : Nat) : (Str.ofString (toString (n : Int)) : Str) = evS (digK n) := by
  rw [Str.ofString_eq_toList]
  unfold evS digK
  have : (toString (n : Int)).toList = Nat.toDigits 10 n := by
    show (Nat.repr n).toList = _
    unfold Nat.repr
    rw [String.toList_ofList]
  rw [this]
def Qstr : List SV → List SV → Q SV
  | [.int a], [] => match constA a with
    | some (.ofNat n) => if n < 1000000 then Q.pure (.str (digK n)) else Q.fail
    | _ => Q.fail
  | _, _ => Q.fail
theorem smallI_nat {n : Nat} (h : n < 1000000) : smallI (Int.ofNat n) = true := by
  unfold smallI
  rw [Bool.and_eq_true, decide_eq_true_eq, decide_eq_true_eq]
  have : (Int.ofNat n) = (n : Int) := rfl
  omega
theorem Hom.strF (H : LBok Λ ρ) {l k : List SV} : Hom ρ (ev ρ) (strF (evL ρ l) (evL ρ k)) (Qstr l k) := by
  unfold Qstr
  split
  · rename_i a
    split
    · rename_i n hn
      split
      · rename_i hs
        show Hom ρ _ (if smallI (evA ρ a) then _ else _) _
        rw [constA_ev H hn, if_pos (smallI_nat hs)]
        exact Hom.pure (by show AV.str _ = AV.str _; rw [← digK_ev]; rfl)
      · exact Hom.fail
    · exact Hom.fail
  · exact Hom.fail
def Qpart : SV → Q Key
  | .str x => if x.length ≤ 1000 then Q.pure x else Q.fail
  | .int a => match constA a with
    | some (.ofNat n) => if n < 1000000 then Q.pure (digK n) else Q.fail
    | _ => Q.fail
  | _ => Q.fail
theorem Hom.partA (H : LBok Λ ρ) {a : SV} : Hom ρ evS (partA (ev ρ a)) (Qpart a) := by
  unfold Qpart
  split
  · rename_i x
    show Hom ρ _ (if (evS x).length ≤ 1000 then _ else _) _
    rw [evS_length]
    split
    · exact Hom.pure rfl
    · exact Hom.fail
  · rename_i a
    split
    · rename_i n hn
      split
      · rename_i hs
        show Hom ρ _ (if smallI (evA ρ a) then _ else _) _
        rw [constA_ev H hn, if_pos (smallI_nat hs)]
        exact Hom.pure (by rw [← digK_ev]; rfl)
      · exact Hom.fail
    · exact Hom.fail
  · exact Hom.fail
/-- the parts of an f-string -/
def QJnil (acc : Key) : Q Key := if acc.length ≤ 4000 then Q.pure acc else Q.fail
theorem Hom.Jnil {acc : Key} : Hom ρ evS ((fun acc => if acc.length ≤ 4000 then M.pure acc else M.fail) (evS acc)) (QJnil acc) := by
  unfold QJnil
  dsimp only
  rw [evS_length]
  split
  · exact Hom.pure rfl
  · exact Hom.fail
def QJcons (f : Q Key) (g : Key → Q Key) (acc : Key) : Q Key := Q.bind f fun y => if (acc ++ y).length ≤ 4000 then g (acc ++ y) else Q.fail
theorem Hom.Jcons {f : M Str} {g : Str → M Str} {f' : Q Key} {g' : Key → Q Key} {acc : Key} (hf : Hom ρ evS f f') (hg : ∀ acc, Hom ρ evS (g (evS acc)) (g' acc)) :
    Hom ρ evS ((fun acc => M.bind f fun y => if (acc ++ y).length ≤ 4000 then g (acc ++ y) else M.fail) (evS acc)) (QJcons f' g' acc) := by
  unfold QJcons
  refine Hom.bind hf fun y => ?_
  rw [← evS_append, evS_length]
  split
  · exact hg _
  · exact Hom.fail
def Qfstr (f : Key → Q Key) : Q SV := Q.bind (f []) fun x => if x.length ≤ 4000 then Q.pure (.str x) else Q.fail
theorem Hom.fstr {f : Str → M Str} {f' : Key → Q Key} (hf : ∀ acc, Hom ρ evS (f (evS acc)) (f' acc)) : Hom ρ (ev ρ) (M.bind (f Str.empty) fun x => if x.length ≤ 4000 then M.pure (.str x) else M.fail) (Qfstr f') := by
  unfold Qfstr
  refine Hom.bind (hf []) fun x => ?_
  rw [evS_length]
  split
  · exact Hom.pure rfl
  · exact Hom.fail
/-! sorting, counting -/
def insQ (Λ : LBs) (x : Aff) : List Aff → Option (List Aff)
  | [] => some [x]
  | y :: l => match ltQ Λ y x with
    | some false => some (x :: y :: l)
    | some true => (match insQ Λ x l with
      | some r => some (y :: r)
      | none => none)
    | none => none
def isortQ (Λ : LBs) : List Aff → Option (List Aff)
  | [] => some []
  | x :: l => match isortQ Λ l with
    | some r => insQ Λ x r
    | none => none
theorem insQ_ev (H : LBok Λ ρ) {x : Aff} : ∀ {l r : List Aff}, insQ Λ x l = some r → insI (evA ρ x) (l.map (evA ρ)) = r.map (evA ρ)
  | [], r, h => by cases h; rfl
  | y :: l, r, h => by
    unfold insQ at h
    rw [List.map_cons, insI]
    split at h
    · rename_i e
      cases h
      have : ¬ evA ρ y < evA ρ x := of_decide_eq_false (ltQ_ev H e)
      rw [if_pos (by omega)]; rfl
    · rename_i e
      have : evA ρ y < evA ρ x := of_decide_eq_true (ltQ_ev H e)
      rw [if_neg (by omega)]
      split at h
      · rename_i r' hr; cases h; rw [insQ_ev H hr]; rfl
      · cases h
    · cases h
theorem isortQ_ev (H : LBok Λ ρ) : ∀ {l r : List Aff}, isortQ Λ l = some r → isortI (l.map (evA ρ)) = r.map (evA ρ)
  | [], r, h => by cases h; rfl
  | x :: l, r, h => by
    unfold isortQ at h
    split at h
    · rename_i r' hr
      rw [List.map_cons, isortI, isortQ_ev H hr, insQ_ev H h]
    · cases h
def intsS (l : List Aff) : List SV := l.map .int
theorem intsS_ev (l : List Aff) : evL ρ (intsS l) = intsL (l.map (evA ρ)) := by
  unfold intsS intsL
  rw [evL_map]; simp [ev]
def sInts : List SV → Option (List Aff)
  | [] => some []
  | .int a :: l => (match sInts l with
    | some r => some (a :: r)
    | none => none)
  | _ => none
theorem toInts_map : ∀ ns : List Int, toInts (intsL ns) = some ns
  | [] => rfl
  | n :: ns => by
    unfold intsL at *
    rw [List.map_cons]
    have := toInts_map ns
    unfold intsL at this
    unfold toInts
    rw [this]; rfl
theorem sInts_is : ∀ {l : List SV} {r : List Aff}, sInts l = some r → l = intsS r
  | [], r, h => by cases h; rfl
  | a :: l, r, h => by
    unfold sInts at h
    split at h
    · rename_i e; cases e
    · rename_i a' l' e
      cases e
      split at h
      · rename_i r' hr; cases h; rw [sInts_is hr]; rfl
      · cases h
    · cases h
theorem sInts_ev {l : List SV} {r : List Aff} (h : sInts l = some r) : toInts (evL ρ l) = some (r.map (evA ρ)) := by
  rw [sInts_is h, intsS_ev, toInts_map]
theorem evI_keys : ∀ l : List (Aff × SV), (evI ρ l).map (·.1) = (l.map (·.1)).map (evA ρ)
  | [] => rfl
  | (_, _) :: l => by simp [evI, evI_keys l]
def Qsorted (Λ : LBs) : List SV → List SV → Q SV
  | [.view 0 (.ref m)], [] => fun τ => match τ.get m with
    | some (.dictI l) => if l.length < 64 then (match isortQ Λ (l.map (·.1)) with
      | some r => some (.lst (intsS r), τ)
      | none => none) else none
    | _ => none
  | _, _ => Q.fail
theorem Hom.sortedI (H : LBok Λ ρ) {l k : List SV} : Hom ρ (ev ρ) (sortedIF (evL ρ l) (evL ρ k)) (Qsorted Λ l k) := by
  unfold Qsorted
  split
  · rename_i m
    intro τ v τ' h
    dsimp only at h
    split at h
    · rename_i d hd
      split at h
      · rename_i hlen
        split at h
        · rename_i r hr
          cases h
          show sortedIF [.view 0 (.ref (0, m))] [] _ = _
          unfold sortedIF
          simp only [get_ev hd, evO, evI_length, if_pos hlen, evI_keys, isortQ_ev H hr]
          rw [← intsS_ev]; rfl
        · cases h
      · cases h
    · cases h
  · exact Hom.fail
def sumQ : List Aff → Aff
  | [] => []
  | a :: l => addG a (sumQ l)
theorem sumQ_ev : ∀ l : List Aff, sumI (l.map (evA ρ)) = evA ρ (sumQ l)
  | [] => rfl
  | a :: l => by rw [List.map_cons, sumI, sumQ_ev l, sumQ, show evA ρ (addG a (sumQ l)) = _ from evG_add _ _ 0]; rfl
def Qsum : List SV → List SV → Q SV
  | [a], [] => fun τ => match viewS τ a with
    | some l => (match sInts l with
      | some r => some (.int (sumQ r), τ)
      | none => none)
    | none => none
  | _, _ => Q.fail
theorem Hom.sumF {l k : List SV} : Hom ρ (ev ρ) (sumF (evL ρ l) (evL ρ k)) (Qsum l k) := by
  unfold Qsum
  split
  · rename_i a
    intro τ v τ' h
    dsimp only at h
    split at h
    · rename_i d hd
      split at h
      · rename_i r hr
        cases h
        show Mine.sumF [ev ρ a] [] _ = _
        unfold Mine.sumF
        simp only [viewS_ev, hd, Option.map_some, sInts_ev hr, sumQ_ev]
        rfl
      · cases h
    · cases h
  · exact Hom.fail
def bisQ (Λ : LBs) (l : List Aff) (x : Aff) : Nat → Nat → Nat → Option Nat
  | 0, lo, hi => if lo < hi then none else some lo
  | f + 1, lo, hi => if lo < hi then (match l[(lo + hi) / 2]? with
      | some y => (match ltQ Λ x y with
        | some true => bisQ Λ l x f lo ((lo + hi) / 2)
        | some false => bisQ Λ l x f ((lo + hi) / 2 + 1) hi
        | none => none)
      | none => none) else some lo
theorem bisQ_ev (H : LBok Λ ρ) {l : List Aff} {x : Aff} : ∀ {f lo hi r : Nat}, bisQ Λ l x f lo hi = some r → bisL (l.map (evA ρ)) (evA ρ x) f lo hi = some r
  | 0, lo, hi, r, h => by unfold bisQ at h; unfold bisL; exact h
  | f + 1, lo, hi, r, h => by
    unfold bisQ at h; unfold bisL
    split at h
    · rename_i hlt
      rw [if_pos hlt]
      split at h
      · rename_i y hy
        rw [List.getElem?_map, hy]
        dsimp only [Option.map_some]
        split at h
        · rename_i e
          rw [if_pos (of_decide_eq_true (ltQ_ev H e))]; exact bisQ_ev H h
        · rename_i e
          rw [if_neg (of_decide_eq_false (ltQ_ev H e))]; exact bisQ_ev H h
        · cases h
      · cases h
    · rename_i hlt
      rw [if_neg hlt]; exact h
def Qbis (Λ : LBs) : List SV → List SV → Q SV
  | [a, .int x], [] => fun τ => match viewS τ a with
    | some l => (match sInts l with
      | some ns => if ns.length < 2 ^ 40 then (match bisQ Λ ns x ns.length 0 ns.length with
        | some r => some (.int [(r : Int)], τ)
        | none => none) else none
      | none => none)
    | none => none
  | _, _ => Q.fail
theorem Hom.bisF (H : LBok Λ ρ) {l k : List SV} : Hom ρ (ev ρ) (bisF (evL ρ l) (evL ρ k)) (Qbis Λ l k) := by
  unfold Qbis
  split
  · rename_i a x
    intro τ v τ' h
    dsimp only at h
    split at h
    · rename_i d hd
      split at h
      · rename_i ns hns
        split at h
        · rename_i hlen
          split at h
          · rename_i r hr
            cases h
            show Mine.bisF [ev ρ a, .int (evA ρ x)] [] _ = _
            unfold Mine.bisF
            simp only [viewS_ev, hd, Option.map_some, sInts_ev hns, List.length_map, if_pos hlen, bisQ_ev H hr]
            show some (AV.int (r : Int), _) = some (AV.int _, _)
            rw [evA_const H]
          · cases h
        · cases h
      · cases h
    · cases h
  · exact Hom.fail
/-! isinstance -/
theorem tyB_ev {τ : SSt} {a : SV} (h0 : tyS τ a ≠ 0) : tyB (evSt ρ τ) (ev ρ a) = some (tyNa (tyS τ a)) := by
  by_cases h5 : tyS τ a = 5
  · cases a with
    | clo k => rfl
    | ref n =>
      unfold tyS at h5
      dsimp only at h5
      split at h5 <;> cases h5
    | _ => cases h5
  · have := tyS_ev (ρ := ρ) (a := a) (τ := τ) rfl h5 h0
    have e : tyB (evSt ρ τ) (ev ρ a) = tyA (evSt ρ τ) (ev ρ a) := by
      cases a <;> first | rfl | exact absurd rfl h5
    rw [e, this]
    have hk : ∀ k, k ≤ 5 → k ≠ 5 → k ≠ 0 → tyOf k = some (tyNa k) := by decide
    refine hk _ ?_ h5 h0
    unfold tyS
    split <;> first | decide | (split <;> decide)
def tyKs : List SV → Option (List Nat)
  | [] => some []
  | .ty k :: l => (match tyKs l with
    | some r => bif Nat.ble 1 k && Nat.ble k 8 && !Nat.beq k 5 then some (k :: r) else none
    | none => none)
  | _ => none
theorem tyKs_ev : ∀ {l : List SV} {r : List Nat}, tyKs l = some r → tyNm (evL ρ l) = some (r.map tyNa) ∧ ∀ k ∈ r, 1 ≤ k ∧ k ≤ 8 ∧ k ≠ 5
  | [], r, h => by cases h; exact ⟨rfl, fun k h => by cases h⟩
  | a :: l, r, h => by
    unfold tyKs at h
    split at h
    · rename_i e; cases e
    · rename_i k l' e
      cases e
      split at h
      · rename_i r' hr
        cases hb : Nat.ble 1 k && Nat.ble k 8 && !Nat.beq k 5 with
        | false => rw [hb] at h; cases h
        | true =>
          rw [hb] at h; cases h
          simp only [Bool.and_eq_true, Bool.not_eq_true'] at hb
          obtain ⟨p1, p2⟩ := tyKs_ev hr
          have q1 := Nat.le_of_ble_eq_true hb.1.1
          have q2 := Nat.le_of_ble_eq_true hb.1.2
          have q3 : k ≠ 5 := fun e => by subst e; exact absurd hb.2 (by decide)
          refine ⟨?_, fun j hj => ?_⟩
          · show tyNm (.mc (.type (tyNa k)) :: evL ρ l) = _
            have hk : ∀ k, k ≤ 8 → 1 ≤ k → k ≠ 5 → tyNa k ∈ knownT := by decide
            unfold tyNm
            rw [if_pos (hk k q2 q1 q3), p1]; rfl
          · rcases List.mem_cons.mp hj with rfl | hj
            · exact ⟨q1, q2, q3⟩
            · exact p2 j hj
      · cases h
    · cases h
def Qisi : List SV → List SV → Q SV
  | [a, .tup ts], [] => fun τ => match tyKs ts with
    | some r => bif Nat.beq (tyS τ a) 0 then none else some (.bool (r.any fun k => Nat.beq (tyS τ a) k), τ)
    | none => none
  | [a, .ty k], [] => fun τ => bif Nat.beq k 1 || Nat.beq k 2 || Nat.beq k 4 then (bif Nat.beq (tyS τ a) 0 || Nat.beq (tyS τ a) 5 then none else some (.bool (Nat.beq (tyS τ a) k), τ)) else none
  | _, _ => Q.fail
theorem tyS_le {τ : SSt} {a : SV} : tyS τ a ≤ 5 := by
  unfold tyS
  split <;> first | decide | (split <;> decide)
theorem tyNa_inj {a b : Nat} (ha : a ≤ 8) (hb : b ≤ 8) (a0 : a ≠ 0) (b0 : b ≠ 0) : decide (tyNa a = tyNa b) = Nat.beq a b := by
  have : ∀ a, a ≤ 8 → a ≠ 0 → ∀ b, b ≤ 8 → b ≠ 0 → decide (tyNa a = tyNa b) = Nat.beq a b := by decide
  exact this a ha a0 b hb b0
theorem Hom.isi {l k : List SV} : Hom ρ (ev ρ) ((fun l k => orA (isiTF l k) (orA (isiF "int" l k) (orA (isiF "str" l k) (isiF "dict" l k)))) (evL ρ l) (evL ρ k)) (Qisi l k) := by
  unfold Qisi
  split
  · rename_i a ts
    intro τ v τ' h
    dsimp only at h
    split at h
    · rename_i r hr
      cases h0 : Nat.beq (tyS τ a) 0 with
      | true => rw [h0] at h; cases h
      | false =>
        rw [h0] at h
        cases h
        have h0' : tyS τ a ≠ 0 := fun e => by rw [e] at h0; cases h0
        obtain ⟨p1, p2⟩ := tyKs_ev (ρ := ρ) hr
        have e1 : isiTF [ev ρ a, .tup (evL ρ ts)] [] (evSt ρ τ) = some (.bool (r.any fun k => Nat.beq (tyS τ a) k), evSt ρ τ) := by
          unfold isiTF
          simp only [tyB_ev h0', p1, List.any_map]
          have : (r.any ((fun T => decide (tyNa (tyS τ a) = T)) ∘ tyNa)) = r.any fun k => Nat.beq (tyS τ a) k := by
            rw [Bool.eq_iff_iff, List.any_eq_true, List.any_eq_true]
            constructor
            · rintro ⟨x, hx, e⟩
              exact ⟨x, hx, by rw [← tyNa_inj (Nat.le_trans tyS_le (by decide)) (p2 x hx).2.1 h0' (by have := (p2 x hx).1; omega)]; exact e⟩
            · rintro ⟨x, hx, e⟩
              exact ⟨x, hx, by rw [← tyNa_inj (Nat.le_trans tyS_le (by decide)) (p2 x hx).2.1 h0' (by have := (p2 x hx).1; omega)] at e; exact e⟩
          rw [this]
        show orA (isiTF [ev ρ a, .tup (evL ρ ts)] []) _ _ = _
        unfold orA
        rw [e1]; rfl
    · cases h
  · rename_i a k
    intro τ v τ' h
    dsimp only at h
    cases hk : Nat.beq k 1 || Nat.beq k 2 || Nat.beq k 4 with
    | false => rw [hk] at h; cases h
    | true =>
      rw [hk] at h
      dsimp only [cond_true] at h
      cases h0 : Nat.beq (tyS τ a) 0 || Nat.beq (tyS τ a) 5 with
      | true => rw [h0] at h; cases h
      | false =>
        rw [h0] at h
        cases h
        rw [Bool.or_eq_false_iff] at h0
        have h0' : tyS τ a ≠ 0 := fun e => by rw [e] at h0; exact absurd h0.1 (by decide)
        have h5' : tyS τ a ≠ 5 := fun e => by rw [e] at h0; exact absurd h0.2 (by decide)
        have ht := tyS_ev (ρ := ρ) (a := a) (τ := τ) rfl h5' h0'
        have hk' : ∀ k, k ≤ 5 → k ≠ 5 → k ≠ 0 → tyOf k = some (tyNa k) := by decide
        rw [hk' _ tyS_le h5' h0'] at ht
        have eT : isiTF [ev ρ a, .mc (.type (tyNa k))] [] (evSt ρ τ) = none := rfl
        have eF : ∀ T, isiF T [ev ρ a, .mc (.type (tyNa k))] [] (evSt ρ τ) = if tyNa k = T then some (.bool (decide (tyNa (tyS τ a) = T)), evSt ρ τ) else none := fun T => by
          unfold isiF
          simp only [ht]
        show orA (isiTF [ev ρ a, .mc (.type (tyNa k))] []) (orA (isiF "int" [ev ρ a, .mc (.type (tyNa k))] []) (orA (isiF "str" [ev ρ a, .mc (.type (tyNa k))] []) (isiF "dict" [ev ρ a, .mc (.type (tyNa k))] []))) _ = _
        have hkk : k = 1 ∨ k = 2 ∨ k = 4 := by
          rw [Bool.or_eq_true, Bool.or_eq_true] at hk
          rcases hk with (e | e) | e <;> have := Nat.eq_of_beq_eq_true e <;> simp [this]
        unfold orA
        rw [eT]
        dsimp only
        rw [eF, eF, eF]
        have hin := tyNa_inj (a := tyS τ a) (b := k) (Nat.le_trans tyS_le (by decide)) (by omega) h0' (by omega)
        rcases hkk with rfl | rfl | rfl
        · show some (AV.bool _, _) = some (AV.bool _, _)
          rw [← hin]; rfl
        · show some (AV.bool _, _) = some (AV.bool _, _)
          rw [← hin]; rfl
        · show some (AV.bool _, _) = some (AV.bool _, _)
          rw [← hin]; rfl
  · exact Hom.fail
end
end Mine
end

section
open PySem PySem.W PySem.Calls PyProof.Rows
set_option Elab.async false
set_option maxRecDepth 20000
set_option linter.unusedVariables false
set_option linter.unusedSectionVars false
set_option linter.unusedSimpArgs false
namespace Mine
section
variable {ρ : Nat → Int} {Λ : LBs}
theorem Hom.seq {f g : M AFl} {f' g' : Q SFl} (hf : Hom ρ (evFl ρ) f f') (hg : Hom ρ (evFl ρ) g g') : Hom ρ (evFl ρ) (seqA f g) (Qseq f' g') := by
  unfold seqA Qseq
  refine Hom.bind hf fun fl => ?_
  cases fl with
  | next => exact hg
  | _ => exact Hom.pure rfl
theorem Hom.or {α β : Type} {e : β → α} {f g : M α} {f' : Q β} (h : Hom ρ e f f') : Hom ρ e (orA f g) f' := by
  intro τ b τ' hq
  unfold orA
  rw [h _ _ _ hq]
/-! loops -/
inductive SRes where
  | done | brk
  | ret (v : SV)
def evR (ρ : Nat → Int) : SRes → LRes
  | .done => .done
  | .brk => .brk
  | .ret v => .ret (ev ρ v)
def HomIt (ρ : Nat → Int) (f : M (List AV × (St → Prop))) (g : Q (List SV × (SSt → Bool))) : Prop :=
  ∀ τ l c τ', g τ = some ((l, c), τ') → ∃ C, f (evSt ρ τ) = some ((evL ρ l, C), evSt ρ τ') ∧ ∀ τ'', c τ'' = true → C (evSt ρ τ'')
def aEq : Aff → Aff → Bool
  | [], [] => true
  | a :: l, b :: r => a == b && aEq l r
  | _, _ => false
theorem aEq_is : ∀ {a b : Aff}, aEq a b = true → a = b
  | [], [], _ => rfl
  | [], _ :: _, h => by cases h
  | _ :: _, [], h => by cases h
  | a :: l, b :: r, h => by
    unfold aEq at h
    rw [Bool.and_eq_true] at h
    rw [beq_iff_eq.mp h.1, aEq_is h.2]
def vEq : SV → SV → Bool
  | .int a, .int b => aEq a b
  | .str a, .str b => kEq a b
  | .ref a, .ref b => Nat.beq a b
  | _, _ => false
theorem vEq_is {a b : SV} (h : vEq a b = true) : a = b := by
  unfold vEq at h
  split at h
  · rw [aEq_is h]
  · rw [kEq_iff.mp h]
  · rw [Nat.eq_of_beq_eq_true h]
  · cases h
def lEq : List SV → List SV → Bool
  | [], [] => true
  | a :: l, b :: r => vEq a b && lEq l r
  | _, _ => false
theorem lEq_is : ∀ {a b : List SV}, lEq a b = true → a = b
  | [], [], _ => rfl
  | [], _ :: _, h => by cases h
  | _ :: _, [], h => by cases h
  | a :: l, b :: r, h => by
    unfold lEq at h
    rw [Bool.and_eq_true] at h
    rw [vEq_is h.1, lEq_is h.2]
def intsK : List Int → List SV
  | [] => []
  | a :: l => .int [a] :: intsK l
theorem intsK_ev (H : LBok Λ ρ) : ∀ l : List Int, evL ρ (intsK l) = intsL l
  | [] => rfl
  | a :: l => by
    show ev ρ (.int [a]) :: evL ρ (intsK l) = .int a :: intsL l
    rw [intsK_ev H l]
    show AV.int _ :: _ = _
    rw [evA_const H]
def QitB : SV → Q (List SV × (SSt → Bool))
  | .tup l => Q.pure (l, fun _ => true)
  | .dct l => Q.pure (l.map fun p => .str p.1, fun _ => true)
  | .lst l => Q.pure (l, fun _ => true)
  | .ref n => fun τ => match τ.get n with
    | some (.list l) => some ((l, fun τ' => match τ'.get n with
      | some (.list l') => lEq l' l
      | _ => false), τ)
    | _ => none
  | .rng a b c => if Builtin.Range.small a b c = true ∧ 0 ≤ Builtin.Range.rangeSize a b c then Q.pure (intsK (rangeL a c (Builtin.Range.rangeSize a b c).toNat), fun _ => true) else Q.fail
  | _ => Q.fail
theorem evD_keys : ∀ l : List (Key × SV), (evD ρ l).map (fun p => AV.str p.1) = evL ρ (l.map fun p => .str p.1)
  | [] => rfl
  | (_, _) :: l => by
    rw [evD, List.map_cons, List.map_cons, evD_keys l]; rfl
theorem HomIt.itB (H : LBok Λ ρ) {a : SV} : HomIt ρ (itB (ev ρ a)) (QitB a) := by
  intro τ l c τ' h
  unfold QitB at h
  split at h
  · cases h; exact ⟨fun _ => True, rfl, fun _ _ => trivial⟩
  · rename_i d
    cases h
    refine ⟨fun _ => True, ?_, fun _ _ => trivial⟩
    show some (((evD ρ d).map fun p => AV.str p.1, _), _) = _
    rw [evD_keys]
  · cases h; exact ⟨fun _ => True, rfl, fun _ _ => trivial⟩
  · rename_i n
    split at h
    · rename_i l' hl
      cases h
      refine ⟨fun σ' => σ'.st (0, n) = some (.list (evL ρ l)), ?_, fun τ'' hc => ?_⟩
      · show itA (.ref (0, n)) _ = _
        unfold itA
        simp only [get_ev hl, evO]
      · dsimp only at hc ⊢
        split at hc
        · rename_i l'' hl''
          rw [get_ev hl'', lEq_is hc]; rfl
        · cases hc
    · cases h
  · rename_i a b c'
    split at h
    · rename_i hc
      cases h
      refine ⟨fun _ => True, ?_, fun _ _ => trivial⟩
      show (if Builtin.Range.small a b c' = true ∧ 0 ≤ Builtin.Range.rangeSize a b c' then M.pure (intsL (rangeL a c' (Builtin.Range.rangeSize a b c').toNat), fun _ => True) else M.fail : M _) _ = _
      rw [if_pos hc, intsK_ev H]; rfl
    · cases h
  · cases h
theorem HomIt.bind {f : M AV} {f' : Q SV} {g : AV → M (List AV × (St → Prop))} {g' : SV → Q (List SV × (SSt → Bool))} (hf : Hom ρ (ev ρ) f f') (hg : ∀ v, HomIt ρ (g (ev ρ v)) (g' v)) : HomIt ρ (M.bind f g) (Q.bind f' g') := by
  intro τ l c τ' h
  unfold Q.bind at h
  split at h
  · cases h
  · rename_i v τ1 hv
    unfold M.bind
    rw [hf _ _ _ hv]
    exact hg v _ _ _ _ h
def QforA (c : SSt → Bool) (tgt : SV → Q Unit) (body : Q SFl) : List SV → Q SRes
  | [] => fun τ => bif c τ then some (.done, τ) else none
  | x :: l => fun τ => bif c τ then (match tgt x τ with
    | some (_, τ1) => (match body τ1 with
      | some (.next, τ') => QforA c tgt body l τ'
      | some (.cont, τ') => QforA c tgt body l τ'
      | some (.brk, τ') => some (.brk, τ')
      | some (.ret v, τ') => some (.ret v, τ')
      | none => none)
    | none => none) else none
theorem Hom.forA {C : St → Prop} {c : SSt → Bool} {tgt : AV → M Unit} {tgt' : SV → Q Unit} {body : M AFl} {body' : Q SFl} (hc : ∀ τ, c τ = true → C (evSt ρ τ)) (ht : ∀ v, Hom ρ id (tgt (ev ρ v)) (tgt' v)) (hb : Hom ρ (evFl ρ) body body') :
    ∀ l : List SV, Hom ρ (evR ρ) (forA C tgt body (evL ρ l)) (QforA c tgt' body' l)
  | [] => by
    intro τ b τ' h
    unfold QforA at h
    cases e : c τ with
    | false => rw [e] at h; cases h
    | true =>
      rw [e] at h; cases h
      show Mine.forA C tgt body [] _ = _
      unfold Mine.forA
      rw [if_pos (hc _ e)]; rfl
  | x :: l => by
    intro τ b τ' h
    unfold QforA at h
    cases e : c τ with
    | false => rw [e] at h; cases h
    | true =>
      rw [e] at h
      dsimp only [cond_true] at h
      show Mine.forA C tgt body (ev ρ x :: evL ρ l) _ = _
      unfold Mine.forA
      rw [if_pos (hc _ e)]
      split at h
      · rename_i u τ1 h1
        unfold M.bind
        rw [ht x _ _ _ h1]
        dsimp only
        split at h
        · rename_i τ2 h2; rw [hb _ _ _ h2]; exact Hom.forA hc ht hb l _ _ _ h
        · rename_i τ2 h2; rw [hb _ _ _ h2]; exact Hom.forA hc ht hb l _ _ _ h
        · rename_i τ2 h2; cases h; rw [hb _ _ _ h2]; rfl
        · rename_i v τ2 h2; cases h; rw [hb _ _ _ h2]; rfl
        · cases h
      · cases h
def QforS (it : Q (List SV × (SSt → Bool))) (tgt : SV → Q Unit) (body orelse : Q SFl) : Q SFl := fun τ => match it τ with
  | some ((l, c), τ1) => (match QforA c tgt body l τ1 with
    | some (.done, τ2) => orelse τ2
    | some (.brk, τ2) => some (.next, τ2)
    | some (.ret v, τ2) => some (.ret v, τ2)
    | none => none)
  | none => none
theorem Hom.forS {it : M (List AV × (St → Prop))} {it' : Q (List SV × (SSt → Bool))} {tgt : AV → M Unit} {tgt' : SV → Q Unit} {body orelse : M AFl} {body' orelse' : Q SFl} (hi : HomIt ρ it it') (ht : ∀ v, Hom ρ id (tgt (ev ρ v)) (tgt' v)) (hb : Hom ρ (evFl ρ) body body') (ho : Hom ρ (evFl ρ) orelse orelse') :
    Hom ρ (evFl ρ) (forS it tgt body orelse) (QforS it' tgt' body' orelse') := by
  intro τ fl τ' h
  unfold QforS at h
  split at h
  · rename_i l c τ1 h1
    obtain ⟨C, e1, hC⟩ := hi _ _ _ _ h1
    unfold Mine.forS M.bind
    rw [e1]
    dsimp only
    split at h
    · rename_i τ2 h2; rw [Hom.forA hC ht hb l _ _ _ h2]; exact ho _ _ _ h
    · rename_i τ2 h2; cases h; rw [Hom.forA hC ht hb l _ _ _ h2]; rfl
    · rename_i v τ2 h2; cases h; rw [Hom.forA hC ht hb l _ _ _ h2]; rfl
    · cases h
  · cases h
def itemsS (l : List (Key × SV)) : List SV := l.map fun p => .tup [.str p.1, p.2]
theorem itemsS_ev : ∀ l : List (Key × SV), itemsL (evD ρ l) = evL ρ (itemsS l)
  | [] => rfl
  | (x, v) :: l => by
    have := itemsS_ev l
    unfold itemsL itemsS at this ⊢
    rw [evD, List.map_cons, List.map_cons, this]; rfl
def QforItems (fi : Q SV) (tgt : SV → Q Unit) (fb : Q SFl) : Q SFl := fun τ => match fi τ with
  | some (.view 1 (.ref m), τ0) => (match τ0.get m with
    | some (.dictS l) => (match QforA (fun _ => true) tgt fb (itemsS l) (τ0.put m none) with
      | some (.done, τ') => bif Nat.blt m τ'.ob.length then some (.next, τ'.put m (some (.dictS l))) else none
      | some (.brk, τ') => bif Nat.blt m τ'.ob.length then some (.next, τ'.put m (some (.dictS l))) else none
      | some (.ret v, τ') => bif Nat.blt m τ'.ob.length then some (.ret v, τ'.put m (some (.dictS l))) else none
      | none => none)
    | _ => none)
  | _ => none
theorem Hom.forItems {fi : M AV} {fi' : Q SV} {tgt : AV → M Unit} {tgt' : SV → Q Unit} {fb : M AFl} {fb' : Q SFl} (hi : Hom ρ (ev ρ) fi fi') (ht : ∀ v, Hom ρ id (tgt (ev ρ v)) (tgt' v)) (hb : Hom ρ (evFl ρ) fb fb') :
    Hom ρ (evFl ρ) (forItems fi tgt fb) (QforItems fi' tgt' fb') := by
  intro τ fl τ' h
  unfold QforItems at h
  split at h
  · rename_i m τ0 h0
    unfold Mine.forItems M.bind
    rw [hi _ _ _ h0]
    dsimp only [ev]
    split at h
    · rename_i l hl
      simp only [get_ev hl]
      simp only [evO]
      rw [show ({ evSt ρ τ0 with st := fun k => if k = (0, m) then Option.none else (evSt ρ τ0).st k } : St) = evSt ρ (τ0.put m none) from put_ev' (o := none) (get_lt hl), itemsS_ev]
      have hA := Hom.forA (ρ := ρ) (C := fun _ => True) (c := fun _ => true) (fun _ _ => trivial) ht hb (itemsS l)
      split at h
      · rename_i τ1 h1
        cases e : Nat.blt m τ1.ob.length with
        | false => rw [e] at h; cases h
        | true =>
          rw [e] at h; cases h
          rw [hA _ _ _ h1]
          have hlt : m < τ1.ob.length := Nat.le_of_ble_eq_true e
          rw [← put_ev hlt]; rfl
      · rename_i τ1 h1
        cases e : Nat.blt m τ1.ob.length with
        | false => rw [e] at h; cases h
        | true =>
          rw [e] at h; cases h
          rw [hA _ _ _ h1]
          have hlt : m < τ1.ob.length := Nat.le_of_ble_eq_true e
          rw [← put_ev hlt]; rfl
      · rename_i v τ1 h1
        cases e : Nat.blt m τ1.ob.length with
        | false => rw [e] at h; cases h
        | true =>
          rw [e] at h; cases h
          rw [hA _ _ _ h1]
          have hlt : m < τ1.ob.length := Nat.le_of_ble_eq_true e
          rw [← put_ev hlt]; rfl
      · cases h
    · cases h
  · cases h
def Qpush (k : Nat) : Q Unit := fun τ => some ((), { τ with fs := List.replicate k none :: τ.fs })
def Qpopf : Q Unit := fun τ => some ((), { τ with fs := τ.fs.tail })
def QcompA (c : SSt → Bool) (tgt : SV → Q Unit) (tests : Q Bool) (elt : Q SV) : List SV → List SV → Q (List SV)
  | [], acc => fun τ => bif c τ then some (acc.reverse, τ) else none
  | x :: l, acc => fun τ => bif c τ && Nat.ble acc.length 1000 then (match tgt x τ with
    | some (_, τ1) => (match tests τ1 with
      | some (true, τ2) => (match elt τ2 with
        | some (y, τ3) => QcompA c tgt tests elt l (y :: acc) τ3
        | none => none)
      | some (false, τ2) => QcompA c tgt tests elt l acc τ2
      | none => none)
    | none => none) else none
theorem Hom.compA {C : St → Prop} {c : SSt → Bool} {tgt : AV → M Unit} {tgt' : SV → Q Unit} {tests : M Bool} {tests' : Q Bool} {elt : M AV} {elt' : Q SV} (hc : ∀ τ, c τ = true → C (evSt ρ τ)) (ht : ∀ v, Hom ρ id (tgt (ev ρ v)) (tgt' v)) (hb : Hom ρ id tests tests') (he : Hom ρ (ev ρ) elt elt') :
    ∀ (l acc : List SV), Hom ρ (evL ρ) (compA C tgt tests elt (evL ρ l) (evL ρ acc.reverse)) (QcompA c tgt' tests' elt' l acc)
  | [], acc => by
    intro τ b τ' h
    unfold QcompA at h
    cases e : c τ with
    | false => rw [e] at h; cases h
    | true =>
      rw [e] at h; cases h
      show Mine.compA C tgt tests elt [] _ _ = _
      unfold Mine.compA
      rw [if_pos (hc _ e)]
  | x :: l, acc => by
    intro τ b τ' h
    unfold QcompA at h
    cases e : c τ with
    | false => rw [e] at h; cases h
    | true =>
      cases e2 : Nat.ble acc.length 1000 with
      | false => rw [e, e2] at h; cases h
      | true =>
        rw [e, e2] at h
        simp only [Bool.and_self, cond_true] at h
        show Mine.compA C tgt tests elt (ev ρ x :: evL ρ l) _ _ = _
        unfold Mine.compA
        have hlen : (evL ρ acc.reverse).length ≤ 2 ^ 20 := by
          rw [evL_length, List.length_reverse]
          exact Nat.le_trans (Nat.le_of_ble_eq_true e2) (by decide)
        rw [if_pos ⟨hc _ e, hlen⟩]
        split at h
        · rename_i u τ1 h1
          simp only [M.bind]
          simp only [ht x _ _ _ h1]
          split at h
          · rename_i τ2 h2
            simp only [hb _ _ _ h2, id]
            split at h
            · rename_i y τ3 h3
              simp only [M.bind, he _ _ _ h3]
              have := Hom.compA hc ht hb he l (y :: acc) _ _ _ h
              rw [List.reverse_cons, evL_append] at this
              exact this
            · cases h
          · rename_i τ2 h2
            simp only [hb _ _ _ h2, id]
            exact Hom.compA hc ht hb he l acc _ _ _ h
          · cases h
        · cases h
def QcompM (k : Nat) (it : Q (List SV × (SSt → Bool))) (tgt : SV → Q Unit) (tests : Q Bool) (elt : Q SV) : Q (List SV) := fun τ => match it τ with
  | some ((l, c), τ1) => (match QcompA c tgt tests elt l [] { τ1 with fs := List.replicate k none :: τ1.fs } with
    | some (r, τ2) => some (r, { τ2 with fs := τ2.fs.tail })
    | none => none)
  | none => none
theorem Hom.compM {k : Nat} {it : M (List AV × (St → Prop))} {it' : Q (List SV × (SSt → Bool))} {tgt : AV → M Unit} {tgt' : SV → Q Unit} {tests : M Bool} {tests' : Q Bool} {elt : M AV} {elt' : Q SV} (hi : HomIt ρ it it') (ht : ∀ v, Hom ρ id (tgt (ev ρ v)) (tgt' v)) (hb : Hom ρ id tests tests') (he : Hom ρ (ev ρ) elt elt') :
    Hom ρ (evL ρ) (compM k it tgt tests elt) (QcompM k it' tgt' tests' elt') := by
  intro τ fl τ' h
  unfold QcompM at h
  split at h
  · rename_i l c τ1 h1
    obtain ⟨C, e1, hC⟩ := hi _ _ _ _ h1
    unfold Mine.compM M.bind
    rw [e1]
    dsimp only
    split at h
    · rename_i r τ2 h2
      cases h
      have e2 : pushA k (evSt ρ τ1) = some ((), evSt ρ { τ1 with fs := List.replicate k none :: τ1.fs }) := by
        unfold pushA evSt
        simp only [List.map_cons, evF, List.map_replicate, Option.map_none]
        rfl
      rw [e2]
      dsimp only
      have := Hom.compA hC ht hb he l [] _ _ _ h2
      rw [show evL ρ (List.reverse []) = [] from rfl] at this
      rw [this]
      dsimp only
      unfold popA M.pure evSt
      simp only [List.map_tail]
      rfl
    · cases h
  · cases h
end
end Mine
end

section
open PySem PySem.W PySem.Calls PyProof.Rows
set_option Elab.async false
set_option maxRecDepth 20000
set_option linter.unusedVariables false
set_option linter.unusedSectionVars false
set_option linter.unusedSimpArgs false
namespace Mine
section
variable {ρ : Nat → Int} {Λ : LBs}
theorem Hom.int (H : LBok Λ ρ) {c : Int} : Hom ρ (ev ρ) (M.pure (.int c)) (Q.pure (.int [c])) := Hom.pure (by show _ = AV.int _; rw [evA_const H])
theorem Hom.str {x : Str} {k : Key} (h : x = evS k) : Hom ρ (ev ρ) (M.pure (.str x)) (Q.pure (.str k)) := Hom.pure (by rw [h]; rfl)
theorem Hom.next : Hom ρ (evFl ρ) (M.pure .next) (Q.pure .next) := Hom.pure rfl
theorem Hom.nilL : Hom ρ (evL ρ) (M.pure []) (Q.pure []) := Hom.pure rfl
theorem Hom.consL {f : M AV} {g : M (List AV)} {f' : Q SV} {g' : Q (List SV)} (h1 : Hom ρ (ev ρ) f f') (h2 : Hom ρ (evL ρ) g g') : Hom ρ (evL ρ) (M.bind f fun a => M.bind g fun l => M.pure (a :: l)) (Q.bind f' fun a => Q.bind g' fun l => Q.pure (a :: l)) :=
  Hom.bind h1 fun a => Hom.bind h2 fun l => Hom.pure rfl
theorem Hom.nilP : Hom ρ (evP ρ) (M.pure []) (Q.pure []) := Hom.pure rfl
theorem Hom.consP {f g : M AV} {h : M (List (AV × AV))} {f' g' : Q SV} {h' : Q (List (SV × SV))} (h1 : Hom ρ (ev ρ) f f') (h2 : Hom ρ (ev ρ) g g') (h3 : Hom ρ (evP ρ) h h') : Hom ρ (evP ρ) (M.bind f fun a => M.bind g fun b => M.bind h fun l => M.pure ((a, b) :: l)) (Q.bind f' fun a => Q.bind g' fun b => Q.bind h' fun l => Q.pure ((a, b) :: l)) :=
  Hom.bind h1 fun a => Hom.bind h2 fun b => Hom.bind h3 fun l => Hom.pure rfl
theorem Hom.bop {f g : M AV} {h : AV → AV → M AV} {f' g' : Q SV} {h' : SV → SV → Q SV} (h1 : Hom ρ (ev ρ) f f') (h2 : Hom ρ (ev ρ) g g') (h3 : ∀ a b, Hom ρ (ev ρ) (h (ev ρ a) (ev ρ b)) (h' a b)) : Hom ρ (ev ρ) (M.bind f fun a => M.bind g fun b => h a b) (Q.bind f' fun a => Q.bind g' fun b => h' a b) :=
  Hom.bind h1 fun a => Hom.bind h2 fun b => h3 a b
theorem Hom.bcmp (H : LBok Λ ρ) {f g : M AV} {h : AV → AV → M AV} {f' g' : Q SV} {h' : SV → SV → Q SV} (h1 : Hom ρ (ev ρ) f f') (h2 : Hom ρ (ev ρ) g g') (h3 : ∀ a b, Hom ρ (ev ρ) (h (ev ρ a) (ev ρ b)) (h' a b)) : Hom ρ id (M.bind f fun a => M.bind g fun b => M.bind (h a b) Mine.trA) (Q.bind f' fun a => Q.bind g' fun b => Q.bind (h' a b) (Qtr Λ)) :=
  Hom.bind h1 fun a => Hom.bind h2 fun b => Hom.bind (h3 a b) fun _ => Hom.trA H
theorem Hom.bval (H : LBok Λ ρ) {f : M AV} {f' : Q SV} (h1 : Hom ρ (ev ρ) f f') : Hom ρ id (M.bind f Mine.trA) (Q.bind f' (Qtr Λ)) := Hom.bind h1 fun _ => Hom.trA H
theorem Hom.bnot {f : M Bool} {f' : Q Bool} (h1 : Hom ρ id f f') : Hom ρ id (M.bind f fun b => M.pure (!b)) (Q.bind f' fun b => Q.pure (!b)) := Hom.bind h1 fun b => Hom.pure rfl
theorem Hom.bite {α β : Type} {e : β → α} {c : M Bool} {f g : M α} {c' : Q Bool} {f' g' : Q β} (h1 : Hom ρ id c c') (h2 : Hom ρ e f f') (h3 : Hom ρ e g g') : Hom ρ e (M.bind c fun b => bif b then f else g) (Q.bind c' fun b => bif b then f' else g') := Hom.bind h1 fun b => Hom.cond h2 h3
theorem Hom.bpure {b : Bool} : Hom ρ id (M.pure b) (Q.pure b) := Hom.pure rfl
theorem Hom.and2 (H : LBok Λ ρ) {f g : M AV} {f' g' : Q SV} (h1 : Hom ρ (ev ρ) f f') (h2 : Hom ρ (ev ρ) g g') : Hom ρ (ev ρ) (M.bind f fun a => M.bind (Mine.trA a) fun b => bif b then g else M.pure a) (Q.bind f' fun a => Q.bind (Qtr Λ a) fun b => bif b then g' else Q.pure a) :=
  Hom.bind h1 fun a => Hom.bind (Hom.trA H) fun b => Hom.cond h2 (Hom.pure rfl)
theorem Hom.or2 (H : LBok Λ ρ) {f g : M AV} {f' g' : Q SV} (h1 : Hom ρ (ev ρ) f f') (h2 : Hom ρ (ev ρ) g g') : Hom ρ (ev ρ) (M.bind f fun a => M.bind (Mine.trA a) fun b => bif b then M.pure a else g) (Q.bind f' fun a => Q.bind (Qtr Λ a) fun b => bif b then Q.pure a else g') :=
  Hom.bind h1 fun a => Hom.bind (Hom.trA H) fun b => Hom.cond (Hom.pure rfl) h2
theorem Hom.call {ga gk : M (List AV)} {g : List AV → List AV → M AV} {ga' gk' : Q (List SV)} {g' : List SV → List SV → Q SV} (h1 : Hom ρ (evL ρ) ga ga') (h2 : Hom ρ (evL ρ) gk gk') (h3 : ∀ l k, Hom ρ (ev ρ) (g (evL ρ l) (evL ρ k)) (g' l k)) : Hom ρ (ev ρ) (M.bind ga fun l => M.bind gk fun k => g l k) (Q.bind ga' fun l => Q.bind gk' fun k => g' l k) :=
  Hom.bind h1 fun l => Hom.bind h2 fun k => h3 l k
theorem Hom.mcall {f : M AV} {pre : AV → M AV} {ga gk : M (List AV)} {g : AV → List AV → List AV → M AV} {f' : Q SV} {pre' : SV → Q SV} {ga' gk' : Q (List SV)} {g' : SV → List SV → List SV → Q SV} (h0 : Hom ρ (ev ρ) f f') (hp : ∀ a, Hom ρ (ev ρ) (pre (ev ρ a)) (pre' a)) (h1 : Hom ρ (evL ρ) ga ga') (h2 : Hom ρ (evL ρ) gk gk')
    (h3 : ∀ b l k, Hom ρ (ev ρ) (g (ev ρ b) (evL ρ l) (evL ρ k)) (g' b l k)) : Hom ρ (ev ρ) (M.bind f fun a => M.bind (pre a) fun b => M.bind ga fun l => M.bind gk fun k => g b l k) (Q.bind f' fun a => Q.bind (pre' a) fun b => Q.bind ga' fun l => Q.bind gk' fun k => g' b l k) :=
  Hom.bind h0 fun a => Hom.bind (hp a) fun b => Hom.bind h1 fun l => Hom.bind h2 fun k => h3 b l k
theorem Hom.comp {f : M (List AV)} {f' : Q (List SV)} (h : Hom ρ (evL ρ) f f') : Hom ρ (ev ρ) (M.bind f fun l => M.pure (.lst l)) (Q.bind f' fun l => Q.pure (.lst l)) := Hom.bind h fun l => Hom.pure rfl
theorem Hom.assign {f : M AV} {f' : Q SV} {tgt : AV → M Unit} {tgt' : SV → Q Unit} (h : Hom ρ (ev ρ) f f') (ht : ∀ v, Hom ρ id (tgt (ev ρ v)) (tgt' v)) : Hom ρ (evFl ρ) (M.bind f fun v => M.bind (tgt v) fun _ => M.pure .next) (Q.bind f' fun v => Q.bind (tgt' v) fun _ => Q.pure .next) :=
  Hom.bind h fun v => Hom.bind (ht v) fun _ => Hom.next
theorem Hom.aug {f g : M AV} {f' g' : Q SV} {h : AV → AV → M AV} {h' : SV → SV → Q SV} {tgt : AV → M Unit} {tgt' : SV → Q Unit} (h1 : Hom ρ (ev ρ) f f') (h2 : Hom ρ (ev ρ) g g') (h3 : ∀ a b, Hom ρ (ev ρ) (h (ev ρ a) (ev ρ b)) (h' a b)) (ht : ∀ v, Hom ρ id (tgt (ev ρ v)) (tgt' v)) :
    Hom ρ (evFl ρ) (M.bind f fun a => M.bind g fun b => M.bind (h a b) fun c => M.bind (tgt c) fun _ => M.pure .next) (Q.bind f' fun a => Q.bind g' fun b => Q.bind (h' a b) fun c => Q.bind (tgt' c) fun _ => Q.pure .next) :=
  Hom.bind h1 fun a => Hom.bind h2 fun b => Hom.bind (h3 a b) fun c => Hom.bind (ht c) fun _ => Hom.next
theorem Hom.augSub {fo fi fe : M AV} {fo' fi' fe' : Q SV} {gg gop : AV → AV → M AV} {gg' gop' : SV → SV → Q SV} {gs : AV → AV → AV → M Unit} {gs' : SV → SV → SV → Q Unit} (h1 : Hom ρ (ev ρ) fo fo') (h2 : Hom ρ (ev ρ) fi fi') (h3 : ∀ a b, Hom ρ (ev ρ) (gg (ev ρ a) (ev ρ b)) (gg' a b)) (h4 : Hom ρ (ev ρ) fe fe')
    (h5 : ∀ a b, Hom ρ (ev ρ) (gop (ev ρ a) (ev ρ b)) (gop' a b)) (h6 : ∀ a b c, Hom ρ id (gs (ev ρ a) (ev ρ b) (ev ρ c)) (gs' a b c)) :
    Hom ρ (evFl ρ) (M.bind fo fun a => M.bind fi fun b => M.bind (gg a b) fun old => M.bind fe fun v => M.bind (gop old v) fun nw => M.bind (gs a b nw) fun _ => M.pure .next)
      (Q.bind fo' fun a => Q.bind fi' fun b => Q.bind (gg' a b) fun old => Q.bind fe' fun v => Q.bind (gop' old v) fun nw => Q.bind (gs' a b nw) fun _ => Q.pure .next) :=
  Hom.bind h1 fun a => Hom.bind h2 fun b => Hom.bind (h3 a b) fun old => Hom.bind h4 fun v => Hom.bind (h5 old v) fun nw => Hom.bind (h6 a b nw) fun _ => Hom.next
theorem Hom.ret {f : M AV} {f' : Q SV} (h : Hom ρ (ev ρ) f f') : Hom ρ (evFl ρ) (M.bind f fun v => M.pure (.ret v)) (Q.bind f' fun v => Q.pure (.ret v)) := Hom.bind h fun v => Hom.pure rfl
theorem Hom.expr {f : M AV} {f' : Q SV} (h : Hom ρ (ev ρ) f f') : Hom ρ (evFl ρ) (M.bind f fun _ => M.pure .next) (Q.bind f' fun _ => Q.pure .next) := Hom.bind h fun v => Hom.pure rfl
theorem Hom.del {f g : M AV} {f' g' : Q SV} {h : AV → AV → M Unit} {h' : SV → SV → Q Unit} (h1 : Hom ρ (ev ρ) f f') (h2 : Hom ρ (ev ρ) g g') (h3 : ∀ a b, Hom ρ id (h (ev ρ a) (ev ρ b)) (h' a b)) : Hom ρ (evFl ρ) (M.bind f fun a => M.bind g fun b => M.bind (h a b) fun _ => M.pure .next) (Q.bind f' fun a => Q.bind g' fun b => Q.bind (h' a b) fun _ => Q.pure .next) :=
  Hom.bind h1 fun a => Hom.bind h2 fun b => Hom.bind (h3 a b) fun _ => Hom.next
theorem Hom.sndQ {α β : Type} {e : β → α} {f : M Unit} {g : M α} {f' : Q Unit} {g' : Q β} (h1 : Hom ρ id f f') (h2 : Hom ρ e g g') : Hom ρ e (M.bind f fun _ => g) (Q.bind f' fun _ => g') := Hom.bind h1 fun _ => h2
/-- items of a dict, or a list -/
def QorItems (fi : Q SV) (tgt : SV → Q Unit) (fb : Q SFl) (it : Q (List SV × (SSt → Bool))) (tgt2 : SV → Q Unit) (fb2 orelse : Q SFl) : Q SFl := fun τ => match fi τ with
  | some (.view _ _, _) => QforItems fi tgt fb τ
  | some (.lst _, _) => QforS it tgt2 fb2 orelse τ
  | _ => none
theorem Hom.orItems {fi : M AV} {fi' : Q SV} {tgt tgt2 : AV → M Unit} {tgt' tgt2' : SV → Q Unit} {fb fb2 orelse : M AFl} {fb' fb2' orelse' : Q SFl} {it : M (List AV × (St → Prop))} {it' : Q (List SV × (SSt → Bool))} (hi : Hom ρ (ev ρ) fi fi') (ht : ∀ v, Hom ρ id (tgt (ev ρ v)) (tgt' v)) (hb : Hom ρ (evFl ρ) fb fb')
    (hi2 : HomIt ρ it it') (ht2 : ∀ v, Hom ρ id (tgt2 (ev ρ v)) (tgt2' v)) (hb2 : Hom ρ (evFl ρ) fb2 fb2') (ho : Hom ρ (evFl ρ) orelse orelse') : Hom ρ (evFl ρ) (orA (Mine.forItems fi tgt fb) (Mine.forS it tgt2 fb2 orelse)) (QorItems fi' tgt' fb' it' tgt2' fb2' orelse') := by
  intro τ fl τ' h
  unfold QorItems at h
  split at h
  · exact Hom.or (Hom.forItems hi ht hb) _ _ _ h
  · rename_i l τ1 h1
    have e : Mine.forItems fi tgt fb (evSt ρ τ) = none := by
      unfold Mine.forItems M.bind
      rw [hi _ _ _ h1]
      rfl
    unfold orA
    rw [e]
    exact Hom.forS hi2 ht2 hb2 ho _ _ _ h
  · cases h
/-! calls -/
def ixN (m np : Nat) : List (Option Nat) := (List.range np).map some ++ List.replicate (m - np) none
def QcallP (n : Nat) (ix : List (Option Nat)) (fb : Q SFl) (l : List SV) : Q SV := if l.length = n then Qfn ix fb l else Q.fail
theorem Hom.callP {n : Nat} {names : List (Str × NameKind)} {ps : List Str} {fb : M AFl} {fb' : Q SFl} {ix : List (Option Nat)} {l : List SV} (hix : names.map (fun p => ixOf ps p.1) = ix) (h : Hom ρ (evFl ρ) fb fb') :
    Hom ρ (ev ρ) (match if (evL ρ l).length = n then some (evL ρ l) else none with
      | some vals => Mine.fnA names ps fb vals
      | none => M.fail) (QcallP n ix fb' l) := by
  unfold QcallP
  rw [evL_length]
  by_cases hl : l.length = n
  · rw [if_pos hl, if_pos hl]; exact Hom.fnA hix h
  · rw [if_neg hl, if_neg hl]; exact Hom.fail
theorem Hom.callD {n : Nat} {names : List (Str × NameKind)} {ps : List Str} {fb : M AFl} {fb' : Q SFl} {ix : List (Option Nat)} {l : List SV} (hix : names.map (fun p => ixOf ps p.1) = ix) (h : Hom ρ (evFl ρ) fb fb') :
    Hom ρ (ev ρ) (match if (evL ρ l).length = n then some (evL ρ l ++ []) else none with
      | some vals => Mine.fnA names ps fb vals
      | none => M.fail) (QcallP n ix fb' l) := by
  rw [List.append_nil]; exact Hom.callP hix h
def Qcall2 (k1 k2 : Key) (ix : List (Option Nat)) (fb : Q SFl) (l k : List SV) : Q SV := match l, k with
  | [a, b], [c, d] => Qfn ix fb [a, b, .dct [(k1, c), (k2, d)]]
  | _, _ => Q.fail
theorem Hom.call2 {s1 s2 : Str} {k1 k2 : Key} {names : List (Str × NameKind)} {ps : List Str} {fb : M AFl} {fb' : Q SFl} {ix : List (Option Nat)} {l k : List SV} (h1 : s1 = evS k1) (h2 : s2 = evS k2) (hix : names.map (fun p => ixOf ps p.1) = ix) (h : Hom ρ (evFl ρ) fb fb') :
    Hom ρ (ev ρ) (match (match evL ρ l, evL ρ k with
      | [a, b], [c, d] => some [a, b, .dct [(s1, c), (s2, d)]]
      | _, _ => none) with
      | some vals => Mine.fnA names ps fb vals
      | none => M.fail) (Qcall2 k1 k2 ix fb' l k) := by
  subst h1; subst h2
  rcases l with _ | ⟨a, _ | ⟨b, _ | ⟨x, l⟩⟩⟩
  · exact Hom.fail
  · exact Hom.fail
  · rcases k with _ | ⟨c, _ | ⟨d, _ | ⟨y, k⟩⟩⟩
    · exact Hom.fail
    · exact Hom.fail
    · exact Hom.fnA (vals := [a, b, .dct [(k1, c), (k2, d)]]) hix h
    · exact Hom.fail
  · exact Hom.fail
def Qclo (n : Nat) (ix : List (Option Nat)) (fb : Q SFl) (kk : Nat) (a : SV) (l k : List SV) : Q SV := match a with
  | .clo k' => bif Nat.beq k' kk then (if l.length = n then Qfn ix fb l else Q.fail) else Q.fail
  | _ => Q.fail
theorem Hom.clo {n kk : Nat} {names : List (Str × NameKind)} {ps : List Str} {fb : M AFl} {fb' : Q SFl} {ix : List (Option Nat)} {a : SV} {l k : List SV} (hix : names.map (fun p => ixOf ps p.1) = ix) (h : Hom ρ (evFl ρ) fb fb') :
    Hom ρ (ev ρ) (match ev ρ a with
      | .clo k' => if k' = kk then (match if (evL ρ l).length = n then some (evL ρ l) else none with
        | some vals => Mine.fnA names ps fb vals
        | none => M.fail) else M.fail
      | _ => M.fail) (Qclo n ix fb' kk a l k) := by
  cases a with
  | clo k' =>
    show Hom ρ (ev ρ) (if k' = kk then (match if (evL ρ l).length = n then some (evL ρ l) else none with
        | some vals => Mine.fnA names ps fb vals
        | none => M.fail) else M.fail) (bif Nat.beq k' kk then (if l.length = n then Qfn ix fb' l else Q.fail) else Q.fail)
    cases e : Nat.beq k' kk with
    | false => exact Hom.fail
    | true =>
      rw [if_pos (Nat.eq_of_beq_eq_true e)]
      exact Hom.callP hix h
  | _ => exact Hom.fail
end
end Mine
end

section
open PySem PySem.W PySem.Calls PyProof.Rows
set_option Elab.async false
set_option maxRecDepth 20000
set_option linter.unusedVariables false
set_option linter.unusedSectionVars false
namespace Mine
section
variable {ρ : Nat → Int} {Λ : LBs}
theorem Hom.compK {K k : Nat} (hk : K = k) {it : M (List AV × (St → Prop))} {it' : Q (List SV × (SSt → Bool))} {tgt : AV → M Unit} {tgt' : SV → Q Unit} {tests : M Bool} {tests' : Q Bool} {elt : M AV} {elt' : Q SV} (hi : HomIt ρ it it') (ht : ∀ v, Hom ρ id (tgt (ev ρ v)) (tgt' v)) (hb : Hom ρ id tests tests') (he : Hom ρ (ev ρ) elt elt') :
    Hom ρ (evL ρ) (Mine.compM K it tgt tests elt) (QcompM k it' tgt' tests' elt') := by subst hk; exact Hom.compM hi ht hb he
theorem Hom.ty {v : Value} (k : Nat) (h : v = .type (tyNa k)) : Hom ρ (ev ρ) (M.pure (.mc v)) (Q.pure (.ty k)) := Hom.pure (by rw [h]; rfl)
theorem evS_cat {s : Str} {k y : Key} (h : s = evS k) : s ++ evS y = evS (k ++ y) := by rw [h, evS_append]
theorem evS_nil : Str.empty = evS [] := rfl
theorem Hom.lenIf {α β : Type} {e : β → α} {s : Str} {k : Key} {f : M α} {f' : Q β} (hs : s = evS k) (h : Hom ρ e f f') : Hom ρ e (if s.length ≤ 4000 then f else M.fail) (if k.length ≤ 4000 then f' else Q.fail) := by
  subst hs
  rw [evS_length]
  by_cases hl : k.length ≤ 4000
  · rw [if_pos hl, if_pos hl]; exact h
  · rw [if_neg hl, if_neg hl]; exact Hom.fail
theorem Hom.strR {x : Key} : Hom ρ (ev ρ) (M.pure (.str (evS x))) (Q.pure (.str x)) := Hom.pure rfl
theorem Hom.keyR {s : Str} {k : Key} (h : s = evS k) : Hom ρ evS (M.pure s) (Q.pure k) := Hom.pure h
theorem Hom.idF {α β : Type} {e : β → α} {f : M α} {g : Q β} (h : Hom ρ e f g) : Hom ρ e f g := h
theorem Hom.unot (H : LBok Λ ρ) {f : M AV} {f' : Q SV} (h : Hom ρ (ev ρ) f f') : Hom ρ (ev ρ) (M.bind f fun a => M.bind (Mine.trA a) fun b => M.pure (.bool (!b))) (Q.bind f' fun a => Q.bind (Qtr Λ a) fun b => Q.pure (.bool (!b))) := Hom.bind h fun a => Hom.bind (Hom.trA H) fun b => Hom.pure rfl
theorem Hom.uop {f : M AV} {f' : Q SV} {g : AV → M AV} {g' : SV → Q SV} (h : Hom ρ (ev ρ) f f') (hg : ∀ a, Hom ρ (ev ρ) (g (ev ρ a)) (g' a)) : Hom ρ (ev ρ) (M.bind f g) (Q.bind f' g') := Hom.bind h hg
end
def HomF (ρ : Nat → Int) (f : List AV → List AV → M AV) (g : List SV → List SV → Q SV) : Prop := ∀ l k, Hom ρ (ev ρ) (f (evL ρ l) (evL ρ k)) (g l k)
def HomF3 (ρ : Nat → Int) (f : AV → List AV → List AV → M AV) (g : SV → List SV → List SV → Q SV) : Prop := ∀ a l k, Hom ρ (ev ρ) (f (ev ρ a) (evL ρ l) (evL ρ k)) (g a l k)
section
variable {ρ : Nat → Int} {Λ : LBs}
theorem HomF.callP {n : Nat} {names : List (Str × NameKind)} {ps : List Str} {fb : M AFl} {fb' : Q SFl} (ix : List (Option Nat)) (hix : names.map (fun p => ixOf ps p.1) = ix) (h : Hom ρ (evFl ρ) fb fb') :
    HomF ρ (fun args kws => match if args.length = n then some args else none with
      | some vals => Mine.fnA names ps fb vals
      | none => M.fail) (fun l k => QcallP n ix fb' l) := fun l k => Hom.callP hix h
theorem HomF.callD {n : Nat} {names : List (Str × NameKind)} {ps : List Str} {fb : M AFl} {fb' : Q SFl} (ix : List (Option Nat)) (hix : names.map (fun p => ixOf ps p.1) = ix) (h : Hom ρ (evFl ρ) fb fb') :
    HomF ρ (fun args kws => match if args.length = n then some (args ++ []) else none with
      | some vals => Mine.fnA names ps fb vals
      | none => M.fail) (fun l k => QcallP n ix fb' l) := fun l k => Hom.callD hix h
theorem HomF.call2 {s1 s2 : Str} {k1 k2 : Key} {names : List (Str × NameKind)} {ps : List Str} {fb : M AFl} {fb' : Q SFl} (h1 : s1 = evS k1) (h2 : s2 = evS k2) (ix : List (Option Nat)) (hix : names.map (fun p => ixOf ps p.1) = ix) (h : Hom ρ (evFl ρ) fb fb') :
    HomF ρ (fun args kws => match (match args, kws with
      | [a, b], [c, d] => some [a, b, .dct [(s1, c), (s2, d)]]
      | _, _ => none) with
      | some vals => Mine.fnA names ps fb vals
      | none => M.fail) (fun l k => Qcall2 k1 k2 ix fb' l k) := fun l k => Hom.call2 h1 h2 hix h
theorem HomF3.clo {n kk : Nat} {names : List (Str × NameKind)} {ps : List Str} {fb : M AFl} {fb' : Q SFl} (ix : List (Option Nat)) (hix : names.map (fun p => ixOf ps p.1) = ix) (h : Hom ρ (evFl ρ) fb fb') :
    HomF3 ρ (fun a args kws => match a with
      | .clo k' => if k' = kk then (match if args.length = n then some args else none with
        | some vals => Mine.fnA names ps fb vals
        | none => M.fail) else M.fail
      | _ => M.fail) (fun a l k => Qclo n ix fb' kk a l k) := fun a l k => Hom.clo hix h
theorem HomF.ctrMake {C : Addr} {g : List AV → List AV → M AV} {g' : List SV → List SV → Q SV} (hg : HomF ρ g g') : HomF ρ (ctrMakeF C 0 g) (Qcmake C g') := fun l k => Hom.ctrMake hg
theorem HomF.ini {C : Addr} : HomF ρ (fun args _ => match args with
      | [a] => iniF C updF a
      | _ => M.fail) (Qini C) := fun l k => Hom.ini
end
end Mine
end

section
open PySem PySem.W PySem.Calls PyProof.Rows
set_option Elab.async false
set_option maxRecDepth 100000
set_option maxHeartbeats 4000000
set_option pp.deepTerms false
namespace Mine
theorem ky0 : ("_hash_fn" : Str) = evS [95, 104, 97, 115, 104, 95, 102, 110] := by decide +kernel
theorem ky1 : ("_node_points" : Str) = evS [95, 110, 111, 100, 101, 95, 112, 111, 105, 110, 116, 115] := by decide +kernel
theorem ky2 : ("pop" : Str) = evS [112, 111, 112] := by decide +kernel
theorem ky3 : ("_ring" : Str) = evS [95, 114, 105, 110, 103] := by decide +kernel
theorem ky4 : ("get" : Str) = evS [103, 101, 116] := by decide +kernel
theorem ky5 : ("_distribution" : Str) = evS [95, 100, 105, 115, 116, 114, 105, 98, 117, 116, 105, 111, 110] := by decide +kernel
theorem ky6 : ("vnodes" : Str) = evS [118, 110, 111, 100, 101, 115] := by decide +kernel
theorem ky7 : ("weight" : Str) = evS [119, 101, 105, 103, 104, 116] := by decide +kernel
theorem ky8 : ("-" : Str) = evS [45] := by decide +kernel
theorem ky9 : ("hashi" : Str) = evS [104, 97, 115, 104, 105] := by decide +kernel
theorem ky10 : ("append" : Str) = evS [97, 112, 112, 101, 110, 100] := by decide +kernel
theorem ky11 : ("keys" : Str) = evS [107, 101, 121, 115] := by decide +kernel
theorem ky12 : ("_keys" : Str) = evS [95, 107, 101, 121, 115] := by decide +kernel
theorem ky13 : ("_nodes" : Str) = evS [95, 110, 111, 100, 101, 115] := by decide +kernel
theorem ky14 : ("_default_vnodes" : Str) = evS [95, 100, 101, 102, 97, 117, 108, 116, 95, 118, 110, 111, 100, 101, 115] := by decide +kernel
theorem ky15 : ("port" : Str) = evS [112, 111, 114, 116] := by decide +kernel
theorem ky16 : ("nodename" : Str) = evS [110, 111, 100, 101, 110, 97, 109, 101] := by decide +kernel
theorem ky17 : ("instance" : Str) = evS [105, 110, 115, 116, 97, 110, 99, 101] := by decide +kernel
theorem ky18 : ("hostname" : Str) = evS [104, 111, 115, 116, 110, 97, 109, 101] := by decide +kernel
theorem ky19 : ("runtime" : Str) = evS [114, 117, 110, 116, 105, 109, 101] := by decide +kernel
theorem ky20 : ("_weight_fn" : Str) = evS [95, 119, 101, 105, 103, 104, 116, 95, 102, 110] := by decide +kernel
theorem ky21 : ("hash_fn" : Str) = evS [104, 97, 115, 104, 95, 102, 110] := by decide +kernel
theorem ky22 : ("weight_fn" : Str) = evS [119, 101, 105, 103, 104, 116, 95, 102, 110] := by decide +kernel
theorem ky23 : ("ketama" : Str) = evS [107, 101, 116, 97, 109, 97] := by decide +kernel
theorem ky24 : ("md5" : Str) = evS [109, 100, 53] := by decide +kernel
theorem ky25 : ("_configure_nodes" : Str) = evS [95, 99, 111, 110, 102, 105, 103, 117, 114, 101, 95, 110, 111, 100, 101, 115] := by decide +kernel
theorem ky26 : ("items" : Str) = evS [105, 116, 101, 109, 115] := by decide +kernel
theorem ky27 : ("_create_ring" : Str) = evS [95, 99, 114, 101, 97, 116, 101, 95, 114, 105, 110, 103] := by decide +kernel
theorem ky28 : ("_get_pos" : Str) = evS [95, 103, 101, 116, 95, 112, 111, 115] := by decide +kernel
theorem ky29 : ("pos" : Str) = evS [112, 111, 115] := by decide +kernel
theorem ky30 : ("dict" : Str) = evS [100, 105, 99, 116] := by decide +kernel
theorem ky31 : ("tuple" : Str) = evS [116, 117, 112, 108, 101] := by decide +kernel
theorem ky32 : ("_get" : Str) = evS [95, 103, 101, 116] := by decide +kernel
theorem ky33 : ("get_server" : Str) = evS [103, 101, 116, 95, 115, 101, 114, 118, 101, 114] := by decide +kernel
theorem ky34 : ("get_node_pos" : Str) = evS [103, 101, 116, 95, 110, 111, 100, 101, 95, 112, 111, 115] := by decide +kernel
noncomputable def missingH (Λ : LBs) : { g : List SV → List SV → Q SV // ∀ {ρ}, LBok Λ ρ → HomF ρ missing.1 g } := by
  refine' ⟨?g, fun {ρ} H => ?h⟩
  case' h => unfold missing
  case' h => dsimp only
  case' h => refine' HomF.callP [some 0, some 1] ?x ?b
  case' x => decide +kernel
  case' b => exact (Hom.seq (Hom.ret (Hom.int H)) Hom.next)
noncomputable def counterVH (Λ : LBs) : { g : List SV → List SV → Q SV // ∀ {ρ}, LBok Λ ρ → HomF ρ counterV.1 g } := by
  refine' ⟨?g, fun {ρ} H => ?h⟩
  case' h => unfold counterV
  case' h => dsimp only
  case' h => exact HomF.ctrMake HomF.ini
noncomputable def placeFH (Λ : LBs) : { g : SV → List SV → List SV → Q SV // ∀ {ρ}, LBok Λ ρ → HomF3 ρ placeF.1 g } := by
  refine' ⟨?g, fun {ρ} H => ?h⟩
  case' h => unfold placeF
  case' h => dsimp only
  case' h => refine' HomF3.clo [some 0] ?x ?b
  case' x => decide +kernel
  case' b => exact (Hom.seq (Hom.ret (Hom.bite (Hom.bval H (Hom.call (Hom.consL Hom.ldv (Hom.consL (Hom.ty 1 rfl) Hom.nilL)) Hom.nilL (fun _ _ => Hom.isi))) Hom.ldv (Hom.bop Hom.ldb Hom.ldv (fun _ _ => Hom.getA H))))
 Hom.next)
noncomputable def hashiH (Λ : LBs) : { g : List SV → List SV → Q SV // ∀ {ρ}, LBok Λ ρ → HomF ρ hashi.1 g } := by
  refine' ⟨?g, fun {ρ} H => ?h⟩
  case' h => unfold hashi
  case' h => dsimp only
  case' h => refine' HomF.callP [some 0, some 1] ?x ?b
  case' x => decide +kernel
  case' b => exact (Hom.seq (Hom.ret (Hom.mcall Hom.ldv (fun _ => Hom.getNs ky0) (Hom.consL Hom.ldv Hom.nilL) Hom.nilL (fun _ _ _ => (placeFH Λ).2 H _ _ _)))
 Hom.next)
noncomputable def createRingH (Λ : LBs) : { g : List SV → List SV → Q SV // ∀ {ρ}, LBok Λ ρ → HomF ρ createRing.1 g } := by
  refine' ⟨?g, fun {ρ} H => ?h⟩
  case' h => unfold createRing
  case' h => dsimp only
  case' h => refine' HomF.callP [some 0, some 1, none, none, none, none, none, none] ?x ?b
  case' x => decide +kernel
  case' b => exact (Hom.seq (Hom.orItems Hom.ldv (fun _ => Hom.tgtTup (fun _ => Hom.tgtCons (fun _ => Hom.stv) (fun _ => Hom.tgtCons (fun _ => Hom.stv) (fun _ => Hom.tgtNil)))) (Hom.seq (Hom.assign (Hom.mcall (Hom.bind Hom.ldv (fun _ => Hom.getNs ky1)) (fun _ => Hom.preT (k := 4)) (Hom.consL Hom.ldv (Hom.consL (Hom.pure (b := SV.none) rfl) Hom.nilL)) Hom.nilL (fun _ _ _ => Hom.noKw Hom.popF)) (fun _ => Hom.stv))
 (Hom.seq (Hom.bite (Hom.bval H Hom.ldv) (Hom.seq (Hom.forS (HomIt.bind Hom.ldv (fun _ => HomIt.itB H)) (fun _ => Hom.stv) (Hom.seq (Hom.bite (Hom.bcmp H (Hom.mcall (Hom.bind Hom.ldv (fun _ => Hom.getNs ky3)) (fun _ => Hom.preT (k := 4)) (Hom.consL Hom.ldv Hom.nilL) Hom.nilL (fun _ _ _ => Hom.noKw (Hom.dgetF H))) Hom.ldv (fun _ _ => Hom.eq H)) (Hom.seq (Hom.del (Hom.bind Hom.ldv (fun _ => Hom.getNs ky3)) Hom.ldv (fun _ _ => Hom.delIt H))
 Hom.next) Hom.next)
 Hom.next) Hom.next)
 (Hom.seq (Hom.expr (Hom.mcall (Hom.bind Hom.ldv (fun _ => Hom.getNs ky5)) (fun _ => Hom.preCtr) (Hom.consL Hom.ldv (Hom.consL (Hom.pure (b := SV.none) rfl) Hom.nilL)) Hom.nilL (fun _ _ _ => Hom.noKw Hom.ctrPop)))
 Hom.next)) Hom.next)
 (Hom.seq (Hom.assign (Hom.bind Hom.nilL (fun _ => Hom.live)) (fun _ => Hom.stv))
 (Hom.seq (Hom.forS (HomIt.bind (Hom.call (Hom.consL (Hom.int H) (Hom.consL (Hom.bop (Hom.bop Hom.ldv (Hom.str ky6) (fun _ _ => Hom.getA H)) (Hom.bop Hom.ldv (Hom.str ky7) (fun _ _ => Hom.getA H)) (fun _ _ => Hom.ar H)) Hom.nilL)) Hom.nilL (fun _ _ => Hom.rangeF H)) (fun _ => HomIt.itB H)) (fun _ => Hom.stv) (Hom.seq (Hom.augSub (Hom.bind Hom.ldv (fun _ => Hom.getNs ky5)) Hom.ldv (fun _ _ => Hom.ctrGet ((missingH Λ).2 H)) (Hom.int H) (fun _ _ => Hom.iar H) (fun _ _ _ => Hom.ctrSet))
 (Hom.seq (Hom.assign (Hom.mcall Hom.ldv (fun _ => Hom.selfIn ky9) (Hom.consL (Hom.bind (Hom.bind (Hom.bind Hom.ldv (fun _ => Hom.partA H)) (fun _ => Hom.lenIf (evS_cat evS_nil) (Hom.bind (Hom.keyR ky8) (fun _ => Hom.lenIf (evS_cat (evS_cat evS_nil)) (Hom.bind (Hom.bind Hom.ldv (fun _ => Hom.partA H)) (fun _ => Hom.lenIf (evS_cat (evS_cat (evS_cat evS_nil))) (Hom.lenIf (evS_cat (evS_cat (evS_cat evS_nil))) (Hom.keyR (evS_cat (evS_cat (evS_cat evS_nil))))))))))) (fun _ => Hom.lenIf rfl Hom.strR)) Hom.nilL) Hom.nilL (fun _ _ _ => (hashiH Λ).2 H (_ :: _) _)) (fun _ => Hom.stv))
 (Hom.seq (Hom.assign Hom.ldv (fun _ => Hom.bind (Hom.bind Hom.ldv (fun _ => Hom.getNs ky3)) (fun _ => Hom.bind Hom.ldv (fun _ => Hom.setIt H))))
 (Hom.seq (Hom.expr (Hom.mcall Hom.ldv (fun _ => Hom.preT (k := 3)) (Hom.consL Hom.ldv Hom.nilL) Hom.nilL (fun _ _ _ => Hom.noKw Hom.appendF)))
 Hom.next)))) Hom.next)
 (Hom.seq (Hom.assign Hom.ldv (fun _ => Hom.bind (Hom.bind Hom.ldv (fun _ => Hom.getNs ky1)) (fun _ => Hom.bind Hom.ldv (fun _ => Hom.setIt H))))
 Hom.next))))) (HomIt.bind Hom.ldv (fun _ => HomIt.itB H)) (fun _ => Hom.tgtTup (fun _ => Hom.tgtCons (fun _ => Hom.stv) (fun _ => Hom.tgtCons (fun _ => Hom.stv) (fun _ => Hom.tgtNil)))) (Hom.seq (Hom.assign (Hom.mcall (Hom.bind Hom.ldv (fun _ => Hom.getNs ky1)) (fun _ => Hom.preT (k := 4)) (Hom.consL Hom.ldv (Hom.consL (Hom.pure (b := SV.none) rfl) Hom.nilL)) Hom.nilL (fun _ _ _ => Hom.noKw Hom.popF)) (fun _ => Hom.stv))
 (Hom.seq (Hom.bite (Hom.bval H Hom.ldv) (Hom.seq (Hom.forS (HomIt.bind Hom.ldv (fun _ => HomIt.itB H)) (fun _ => Hom.stv) (Hom.seq (Hom.bite (Hom.bcmp H (Hom.mcall (Hom.bind Hom.ldv (fun _ => Hom.getNs ky3)) (fun _ => Hom.preT (k := 4)) (Hom.consL Hom.ldv Hom.nilL) Hom.nilL (fun _ _ _ => Hom.noKw (Hom.dgetF H))) Hom.ldv (fun _ _ => Hom.eq H)) (Hom.seq (Hom.del (Hom.bind Hom.ldv (fun _ => Hom.getNs ky3)) Hom.ldv (fun _ _ => Hom.delIt H))
 Hom.next) Hom.next)
 Hom.next) Hom.next)
 (Hom.seq (Hom.expr (Hom.mcall (Hom.bind Hom.ldv (fun _ => Hom.getNs ky5)) (fun _ => Hom.preCtr) (Hom.consL Hom.ldv (Hom.consL (Hom.pure (b := SV.none) rfl) Hom.nilL)) Hom.nilL (fun _ _ _ => Hom.noKw Hom.ctrPop)))
 Hom.next)) Hom.next)
 (Hom.seq (Hom.assign (Hom.bind Hom.nilL (fun _ => Hom.live)) (fun _ => Hom.stv))
 (Hom.seq (Hom.forS (HomIt.bind (Hom.call (Hom.consL (Hom.int H) (Hom.consL (Hom.bop (Hom.bop Hom.ldv (Hom.str ky6) (fun _ _ => Hom.getA H)) (Hom.bop Hom.ldv (Hom.str ky7) (fun _ _ => Hom.getA H)) (fun _ _ => Hom.ar H)) Hom.nilL)) Hom.nilL (fun _ _ => Hom.rangeF H)) (fun _ => HomIt.itB H)) (fun _ => Hom.stv) (Hom.seq (Hom.augSub (Hom.bind Hom.ldv (fun _ => Hom.getNs ky5)) Hom.ldv (fun _ _ => Hom.ctrGet ((missingH Λ).2 H)) (Hom.int H) (fun _ _ => Hom.iar H) (fun _ _ _ => Hom.ctrSet))
 (Hom.seq (Hom.assign (Hom.mcall Hom.ldv (fun _ => Hom.selfIn ky9) (Hom.consL (Hom.bind (Hom.bind (Hom.bind Hom.ldv (fun _ => Hom.partA H)) (fun _ => Hom.lenIf (evS_cat evS_nil) (Hom.bind (Hom.keyR ky8) (fun _ => Hom.lenIf (evS_cat (evS_cat evS_nil)) (Hom.bind (Hom.bind Hom.ldv (fun _ => Hom.partA H)) (fun _ => Hom.lenIf (evS_cat (evS_cat (evS_cat evS_nil))) (Hom.lenIf (evS_cat (evS_cat (evS_cat evS_nil))) (Hom.keyR (evS_cat (evS_cat (evS_cat evS_nil))))))))))) (fun _ => Hom.lenIf rfl Hom.strR)) Hom.nilL) Hom.nilL (fun _ _ _ => (hashiH Λ).2 H (_ :: _) _)) (fun _ => Hom.stv))
 (Hom.seq (Hom.assign Hom.ldv (fun _ => Hom.bind (Hom.bind Hom.ldv (fun _ => Hom.getNs ky3)) (fun _ => Hom.bind Hom.ldv (fun _ => Hom.setIt H))))
 (Hom.seq (Hom.expr (Hom.mcall Hom.ldv (fun _ => Hom.preT (k := 3)) (Hom.consL Hom.ldv Hom.nilL) Hom.nilL (fun _ _ _ => Hom.noKw Hom.appendF)))
 Hom.next)))) Hom.next)
 (Hom.seq (Hom.assign Hom.ldv (fun _ => Hom.bind (Hom.bind Hom.ldv (fun _ => Hom.getNs ky1)) (fun _ => Hom.bind Hom.ldv (fun _ => Hom.setIt H))))
 Hom.next))))) Hom.next)
 (Hom.seq (Hom.assign (Hom.call (Hom.consL (Hom.mcall (Hom.bind Hom.ldv (fun _ => Hom.getNs ky3)) (fun _ => Hom.preT (k := 4)) Hom.nilL Hom.nilL (fun _ _ _ => Hom.noKw Hom.viewF)) Hom.nilL) Hom.nilL (fun _ _ => Hom.sortedI H)) (fun _ => Hom.bind Hom.ldv (fun _ => Hom.setNs ky12)))
 Hom.next))
noncomputable def metaInitH (Λ : LBs) : { g : List SV → List SV → Q SV // ∀ {ρ}, LBok Λ ρ → HomF ρ metaInit.1 g } := by
  refine' ⟨?g, fun {ρ} H => ?h⟩
  case' h => unfold metaInit
  case' h => dsimp only
  case' h => refine' HomF.callD [some 0, some 1, some 2] ?x ?b
  case' x => decide +kernel
  case' b => exact (Hom.seq (Hom.assign (Hom.call Hom.nilL Hom.nilL (fun _ _ => (counterVH Λ).2 H _ _)) (fun _ => Hom.bind Hom.ldv (fun _ => Hom.setNs ky5)))
 (Hom.seq (Hom.assign (Hom.bind Hom.nilL (fun _ => Hom.live)) (fun _ => Hom.bind Hom.ldv (fun _ => Hom.setNs ky12)))
 (Hom.seq (Hom.assign Hom.d0 (fun _ => Hom.bind Hom.ldv (fun _ => Hom.setNs ky1)))
 (Hom.seq (Hom.assign Hom.d0 (fun _ => Hom.bind Hom.ldv (fun _ => Hom.setNs ky13)))
 (Hom.seq (Hom.assign Hom.d0I (fun _ => Hom.bind Hom.ldv (fun _ => Hom.setNs ky3)))
 (Hom.seq (Hom.bite (Hom.bite (Hom.bval H Hom.ldv) (Hom.bite (Hom.bval H (Hom.call (Hom.consL Hom.ldv (Hom.consL (Hom.bind (Hom.consL (Hom.ty 2 rfl) (Hom.consL (Hom.ty 6 rfl) (Hom.consL (Hom.ty 1 rfl) (Hom.consL (Hom.ty 3 rfl) (Hom.consL (Hom.ty 7 rfl) (Hom.consL (Hom.ty 4 rfl) (Hom.consL (Hom.ty 8 rfl) Hom.nilL))))))) (fun _ => Hom.mkT)) Hom.nilL)) Hom.nilL (fun _ _ => Hom.isi))) Hom.bpure Hom.bpure) Hom.bpure) (Hom.seq Hom.fail
 Hom.next) Hom.next)
 (Hom.seq (Hom.assign (Hom.or2 H Hom.ldv Hom.fail) (fun _ => Hom.bind Hom.ldv (fun _ => Hom.setNs ky0)))
 Hom.next)))))))
noncomputable def confNodesH (Λ : LBs) : { g : List SV → List SV → Q SV // ∀ {ρ}, LBok Λ ρ → HomF ρ confNodes.1 g } := by
  refine' ⟨?g, fun {ρ} H => ?h⟩
  case' h => unfold confNodes
  case' h => dsimp only
  case' h => refine' HomF.callP [some 0, some 1, none, none, none, none, none, none, none, none] ?x ?b
  case' x => decide +kernel
  case' b => exact (Hom.seq (Hom.bite (Hom.bval H (Hom.call (Hom.consL Hom.ldv (Hom.consL (Hom.ty 2 rfl) Hom.nilL)) Hom.nilL (fun _ _ => Hom.isi))) (Hom.seq Hom.fail
 Hom.next) (Hom.seq (Hom.bite (Hom.bnot (Hom.bval H (Hom.call (Hom.consL Hom.ldv (Hom.consL (Hom.bind (Hom.consL (Hom.ty 4 rfl) (Hom.consL (Hom.ty 3 rfl) Hom.nilL)) (fun _ => Hom.mkT)) Hom.nilL)) Hom.nilL (fun _ _ => Hom.isi)))) (Hom.seq Hom.fail
 Hom.next) Hom.next)
 Hom.next))
 (Hom.seq (Hom.assign (Hom.pure (b := SV.bool false) rfl) (fun _ => Hom.stv))
 (Hom.seq (Hom.forS (HomIt.bind Hom.ldv (fun _ => HomIt.itB H)) (fun _ => Hom.stv) (Hom.seq (Hom.assign (Hom.bind (Hom.consP (Hom.str ky18) Hom.ldv (Hom.consP (Hom.str ky17) (Hom.pure (b := SV.none) rfl) (Hom.consP (Hom.str ky16) Hom.ldv (Hom.consP (Hom.str ky15) (Hom.pure (b := SV.none) rfl) (Hom.consP (Hom.str ky6) (Hom.bind Hom.ldv (fun _ => Hom.getNs ky14)) (Hom.consP (Hom.str ky7) (Hom.int H) Hom.nilP)))))) (fun _ => Hom.dictN)) (fun _ => Hom.stv))
 (Hom.seq (Hom.assign (Hom.mcall (Hom.bind (Hom.bind Hom.ldv (fun _ => Hom.getNs ky19)) (fun _ => Hom.getNs ky13)) (fun _ => Hom.preT (k := 4)) (Hom.consL Hom.ldv (Hom.consL Hom.d0 Hom.nilL)) Hom.nilL (fun _ _ _ => Hom.noKw (Hom.dgetF H))) (fun _ => Hom.stv))
 (Hom.seq (Hom.assign Hom.ldv (fun _ => Hom.stv))
 (Hom.seq (Hom.bite (Hom.bnot (Hom.bval H Hom.ldv)) (Hom.seq (Hom.assign (Hom.pure (b := SV.bool true) rfl) (fun _ => Hom.stv))
 Hom.next) Hom.next)
 (Hom.seq (Hom.bite (Hom.bval H (Hom.call (Hom.consL Hom.ldv (Hom.consL (Hom.ty 4 rfl) Hom.nilL)) Hom.nilL (fun _ _ => Hom.isi))) (Hom.seq (Hom.assign (Hom.bop Hom.ldv Hom.ldv (fun _ _ => Hom.getA H)) (fun _ => Hom.stv))
 (Hom.seq (Hom.bite (Hom.bval H (Hom.call (Hom.consL Hom.ldv (Hom.consL (Hom.ty 1 rfl) Hom.nilL)) Hom.nilL (fun _ _ => Hom.isi))) (Hom.seq (Hom.assign Hom.ldv (fun _ => Hom.bind Hom.ldv (fun _ => Hom.bind (Hom.str ky7) (fun _ => Hom.setIt H))))
 Hom.next) (Hom.seq Hom.fail
 Hom.next))
 Hom.next)) Hom.next)
 (Hom.seq (Hom.bite (Hom.bval H (Hom.bind Hom.ldv (fun _ => Hom.getNs ky20))) (Hom.seq Hom.fail
 Hom.next) Hom.next)
 (Hom.seq (Hom.bite (Hom.bcmp H (Hom.mcall Hom.ldv (fun _ => Hom.preT (k := 4)) (Hom.consL (Hom.str ky7) Hom.nilL) Hom.nilL (fun _ _ _ => Hom.noKw (Hom.dgetF H))) (Hom.bop Hom.ldv (Hom.str ky7) (fun _ _ => Hom.getA H)) (fun _ _ => Hom.ne H)) (Hom.seq (Hom.assign (Hom.pure (b := SV.bool true) rfl) (fun _ => Hom.stv))
 Hom.next) Hom.next)
 (Hom.seq (Hom.assign Hom.ldv (fun _ => Hom.bind (Hom.bind (Hom.bind Hom.ldv (fun _ => Hom.getNs ky19)) (fun _ => Hom.getNs ky13)) (fun _ => Hom.bind Hom.ldv (fun _ => Hom.setIt H))))
 Hom.next)))))))) Hom.next)
 (Hom.seq (Hom.ret Hom.ldv)
 Hom.next))))
noncomputable def ringInitH (Λ : LBs) : { g : List SV → List SV → Q SV // ∀ {ρ}, LBok Λ ρ → HomF ρ ringInit.1 g } := by
  refine' ⟨?g, fun {ρ} H => ?h⟩
  case' h => unfold ringInit
  case' h => dsimp only
  case' h => refine' HomF.call2 ky21 ky6 [some 0, some 1, some 2, none, none, none, none] ?x ?b
  case' x => decide +kernel
  case' b => exact (Hom.seq (Hom.assign (Hom.mcall Hom.ldv (fun _ => Hom.preT (k := 4)) (Hom.consL (Hom.str ky21) (Hom.consL (Hom.pure (b := SV.none) rfl) Hom.nilL)) Hom.nilL (fun _ _ _ => Hom.noKw (Hom.dgetF H))) (fun _ => Hom.stv))
 (Hom.seq (Hom.assign (Hom.mcall Hom.ldv (fun _ => Hom.preT (k := 4)) (Hom.consL (Hom.str ky6) (Hom.consL (Hom.pure (b := SV.none) rfl) Hom.nilL)) Hom.nilL (fun _ _ _ => Hom.noKw (Hom.dgetF H))) (fun _ => Hom.stv))
 (Hom.seq (Hom.assign (Hom.mcall Hom.ldv (fun _ => Hom.preT (k := 4)) (Hom.consL (Hom.str ky22) (Hom.consL (Hom.pure (b := SV.none) rfl) Hom.nilL)) Hom.nilL (fun _ _ _ => Hom.noKw (Hom.dgetF H))) (fun _ => Hom.stv))
 (Hom.seq (Hom.bite (Hom.bcmp H Hom.ldv (Hom.str ky23) (fun _ _ => Hom.eqFS)) (Hom.seq Hom.fail
 (Hom.seq Hom.fail
 (Hom.seq Hom.fail
 Hom.next))) (Hom.seq (Hom.bite (Hom.bcmp H Hom.ldv (Hom.pure (b := SV.none) rfl) (fun _ _ => Hom.ord H)) (Hom.seq (Hom.assign (Hom.int H) (fun _ => Hom.stv))
 Hom.next) Hom.next)
 (Hom.seq (Hom.assign (Hom.call (Hom.consL Hom.ldv (Hom.consL (Hom.mcall Hom.ldv (fun _ => Hom.preT (k := 4)) (Hom.consL (Hom.str ky24) (Hom.consL (Hom.pure (b := SV.none) rfl) Hom.nilL)) Hom.nilL (fun _ _ _ => Hom.noKw (Hom.dgetF H))) Hom.nilL)) Hom.nilL (fun _ _ => Hom.makeF ((metaInitH Λ).2 H))) (fun _ => Hom.bind Hom.ldv (fun _ => Hom.setNs ky19)))
 Hom.next)))
 (Hom.seq (Hom.assign Hom.ldv (fun _ => Hom.bind Hom.ldv (fun _ => Hom.setNs ky14)))
 (Hom.seq (Hom.assign (Hom.bind (Hom.bind Hom.ldv (fun _ => Hom.getNs ky19)) (fun _ => Hom.getBm ky9)) (fun _ => Hom.bind Hom.ldv (fun _ => Hom.setNs ky9)))
 (Hom.seq (Hom.bite (Hom.bite (Hom.bval H Hom.ldv) (Hom.bite (Hom.bval H (Hom.call (Hom.consL Hom.ldv (Hom.consL (Hom.bind (Hom.consL (Hom.ty 2 rfl) (Hom.consL (Hom.ty 6 rfl) (Hom.consL (Hom.ty 1 rfl) (Hom.consL (Hom.ty 3 rfl) (Hom.consL (Hom.ty 7 rfl) (Hom.consL (Hom.ty 4 rfl) (Hom.consL (Hom.ty 8 rfl) Hom.nilL))))))) (fun _ => Hom.mkT)) Hom.nilL)) Hom.nilL (fun _ _ => Hom.isi))) Hom.bpure Hom.bpure) Hom.bpure) (Hom.seq Hom.fail
 Hom.next) Hom.next)
 (Hom.seq (Hom.assign Hom.ldv (fun _ => Hom.bind Hom.ldv (fun _ => Hom.setNs ky20)))
 (Hom.seq (Hom.bite (Hom.bval H (Hom.mcall Hom.ldv (fun _ => Hom.selfIn ky25) (Hom.consL Hom.ldv Hom.nilL) Hom.nilL (fun _ _ _ => (confNodesH Λ).2 H (_ :: _) _))) (Hom.seq (Hom.expr (Hom.mcall (Hom.bind Hom.ldv (fun _ => Hom.getNs ky19)) (fun _ => Hom.selfIn ky27) (Hom.consL (Hom.mcall (Hom.bind (Hom.bind Hom.ldv (fun _ => Hom.getNs ky19)) (fun _ => Hom.getNs ky13)) (fun _ => Hom.preT (k := 4)) Hom.nilL Hom.nilL (fun _ _ _ => Hom.noKw Hom.viewF)) Hom.nilL) Hom.nilL (fun _ _ _ => (createRingH Λ).2 H (_ :: _) _)))
 Hom.next) Hom.next)
 Hom.next)))))))))
noncomputable def pNodesH (Λ : LBs) : { g : List SV → List SV → Q SV // ∀ {ρ}, LBok Λ ρ → HomF ρ pNodes.1 g } := by
  refine' ⟨?g, fun {ρ} H => ?h⟩
  case' h => unfold pNodes
  case' h => dsimp only
  case' h => refine' HomF.callP [some 0] ?x ?b
  case' x => decide +kernel
  case' b => exact (Hom.seq (Hom.ret (Hom.bind (Hom.bind Hom.ldv (fun _ => Hom.getNs ky19)) (fun _ => Hom.getNs ky13)))
 Hom.next)
noncomputable def pSizeH (Λ : LBs) : { g : List SV → List SV → Q SV // ∀ {ρ}, LBok Λ ρ → HomF ρ pSize.1 g } := by
  refine' ⟨?g, fun {ρ} H => ?h⟩
  case' h => unfold pSize
  case' h => dsimp only
  case' h => refine' HomF.callP [some 0] ?x ?b
  case' x => decide +kernel
  case' b => exact (Hom.seq (Hom.ret (Hom.call (Hom.consL (Hom.bind (Hom.bind Hom.ldv (fun _ => Hom.getNs ky19)) (fun _ => Hom.getNs ky3)) Hom.nilL) Hom.nilL (fun _ _ => Hom.lenF H)))
 Hom.next)
noncomputable def setItemH (Λ : LBs) : { g : List SV → List SV → Q SV // ∀ {ρ}, LBok Λ ρ → HomF ρ setItem.1 g } := by
  refine' ⟨?g, fun {ρ} H => ?h⟩
  case' h => unfold setItem
  case' h => dsimp only
  case' h => refine' HomF.callD [some 0, some 1, some 2] ?x ?b
  case' x => decide +kernel
  case' b => exact (Hom.seq (Hom.bite (Hom.bval H (Hom.mcall Hom.ldv (fun _ => Hom.selfIn ky25) (Hom.consL (Hom.bind (Hom.consP Hom.ldv Hom.ldv Hom.nilP) (fun _ => Hom.dictZ)) Hom.nilL) Hom.nilL (fun _ _ _ => (confNodesH Λ).2 H (_ :: _) _))) (Hom.seq (Hom.expr (Hom.mcall (Hom.bind Hom.ldv (fun _ => Hom.getNs ky19)) (fun _ => Hom.selfIn ky27) (Hom.consL (Hom.bind (Hom.consL (Hom.bind (Hom.consL Hom.ldv (Hom.consL (Hom.bop (Hom.bind Hom.ldv (fun _ => Hom.getPr ((pNodesH Λ).2 H))) Hom.ldv (fun _ _ => Hom.getA H)) Hom.nilL)) (fun _ => Hom.mkT)) Hom.nilL) (fun _ => Hom.mkL)) Hom.nilL) Hom.nilL (fun _ _ _ => (createRingH Λ).2 H (_ :: _) _)))
 Hom.next) Hom.next)
 Hom.next)
noncomputable def getPosH (Λ : LBs) : { g : List SV → List SV → Q SV // ∀ {ρ}, LBok Λ ρ → HomF ρ getPos.1 g } := by
  refine' ⟨?g, fun {ρ} H => ?h⟩
  case' h => unfold getPos
  case' h => dsimp only
  case' h => refine' HomF.callP [some 0, some 1, none] ?x ?b
  case' x => decide +kernel
  case' b => exact (Hom.seq (Hom.assign (Hom.call (Hom.consL (Hom.bind (Hom.bind Hom.ldv (fun _ => Hom.getNs ky19)) (fun _ => Hom.getNs ky12)) (Hom.consL (Hom.mcall Hom.ldv (fun _ => Hom.getNs ky9) (Hom.consL Hom.ldv Hom.nilL) Hom.nilL (fun _ _ _ => Hom.bmF ((hashiH Λ).2 H))) Hom.nilL)) Hom.nilL (fun _ _ => Hom.bisF H)) (fun _ => Hom.stv))
 (Hom.seq (Hom.bite (Hom.bcmp H Hom.ldv (Hom.call (Hom.consL (Hom.bind (Hom.bind Hom.ldv (fun _ => Hom.getNs ky19)) (fun _ => Hom.getNs ky12)) Hom.nilL) Hom.nilL (fun _ _ => Hom.lenF H)) (fun _ _ => Hom.eq H)) (Hom.seq (Hom.ret (Hom.int H))
 Hom.next) (Hom.seq (Hom.ret Hom.ldv)
 Hom.next))
 Hom.next))
noncomputable def get_H (Λ : LBs) : { g : List SV → List SV → Q SV // ∀ {ρ}, LBok Λ ρ → HomF ρ get_.1 g } := by
  refine' ⟨?g, fun {ρ} H => ?h⟩
  case' h => unfold get_
  case' h => dsimp only
  case' h => refine' HomF.callP [some 0, some 1, some 2, none, none] ?x ?b
  case' x => decide +kernel
  case' b => exact (Hom.seq (Hom.bite (Hom.bnot (Hom.bval H (Hom.bind (Hom.bind Hom.ldv (fun _ => Hom.getNs ky19)) (fun _ => Hom.getNs ky3)))) (Hom.seq (Hom.ret (Hom.pure (b := SV.none) rfl))
 Hom.next) Hom.next)
 (Hom.seq (Hom.assign (Hom.mcall Hom.ldv (fun _ => Hom.selfIn ky28) (Hom.consL Hom.ldv Hom.nilL) Hom.nilL (fun _ _ _ => (getPosH Λ).2 H (_ :: _) _)) (fun _ => Hom.stv))
 (Hom.seq (Hom.bite (Hom.bcmp H Hom.ldv (Hom.str ky29) (fun _ _ => Hom.eq H)) (Hom.seq (Hom.ret Hom.ldv)
 Hom.next) Hom.next)
 (Hom.seq (Hom.assign (Hom.bop (Hom.bind (Hom.bind Hom.ldv (fun _ => Hom.getNs ky19)) (fun _ => Hom.getNs ky3)) (Hom.bop (Hom.bind (Hom.bind Hom.ldv (fun _ => Hom.getNs ky19)) (fun _ => Hom.getNs ky12)) Hom.ldv (fun _ _ => Hom.getA H)) (fun _ _ => Hom.getA H)) (fun _ => Hom.stv))
 (Hom.seq (Hom.bite (Hom.bcmp H Hom.ldv (Hom.bind (Hom.consL (Hom.str ky18) (Hom.consL (Hom.str ky17) (Hom.consL (Hom.str ky15) (Hom.consL (Hom.str ky7) Hom.nilL)))) (fun _ => Hom.mkL)) (fun _ _ => Hom.in H)) (Hom.seq (Hom.ret (Hom.bop (Hom.bop (Hom.bind (Hom.bind Hom.ldv (fun _ => Hom.getNs ky19)) (fun _ => Hom.getNs ky13)) Hom.ldv (fun _ _ => Hom.getA H)) Hom.ldv (fun _ _ => Hom.getA H)))
 Hom.next) (Hom.seq (Hom.bite (Hom.bcmp H Hom.ldv (Hom.str ky30) (fun _ _ => Hom.eq H)) (Hom.seq (Hom.ret (Hom.bop (Hom.bind (Hom.bind Hom.ldv (fun _ => Hom.getNs ky19)) (fun _ => Hom.getNs ky13)) Hom.ldv (fun _ _ => Hom.getA H)))
 Hom.next) (Hom.seq (Hom.bite (Hom.bcmp H Hom.ldv (Hom.str ky16) (fun _ _ => Hom.eq H)) (Hom.seq (Hom.ret Hom.ldv)
 Hom.next) (Hom.seq (Hom.bite (Hom.bcmp H Hom.ldv (Hom.str ky31) (fun _ _ => Hom.eq H)) (Hom.seq (Hom.ret (Hom.bind (Hom.consL (Hom.bop (Hom.bind (Hom.bind Hom.ldv (fun _ => Hom.getNs ky19)) (fun _ => Hom.getNs ky12)) Hom.ldv (fun _ _ => Hom.getA H)) (Hom.consL Hom.ldv Hom.nilL)) (fun _ => Hom.mkT)))
 Hom.next) Hom.next)
 Hom.next))
 Hom.next))
 Hom.next))
 Hom.next)))))
noncomputable def getServerH (Λ : LBs) : { g : List SV → List SV → Q SV // ∀ {ρ}, LBok Λ ρ → HomF ρ getServer.1 g } := by
  refine' ⟨?g, fun {ρ} H => ?h⟩
  case' h => unfold getServer
  case' h => dsimp only
  case' h => refine' HomF.callP [some 0, some 1] ?x ?b
  case' x => decide +kernel
  case' b => exact (Hom.seq (Hom.ret (Hom.mcall Hom.ldv (fun _ => Hom.selfIn ky32) (Hom.consL Hom.ldv (Hom.consL (Hom.str ky31) Hom.nilL)) Hom.nilL (fun _ _ _ => (get_H Λ).2 H (_ :: _) _)))
 Hom.next)
noncomputable def getNodePosH (Λ : LBs) : { g : List SV → List SV → Q SV // ∀ {ρ}, LBok Λ ρ → HomF ρ getNodePos.1 g } := by
  refine' ⟨?g, fun {ρ} H => ?h⟩
  case' h => unfold getNodePos
  case' h => dsimp only
  case' h => refine' HomF.callP [some 0, some 1] ?x ?b
  case' x => decide +kernel
  case' b => exact (Hom.seq (Hom.ret (Hom.mcall Hom.ldv (fun _ => Hom.selfIn ky32) (Hom.consL Hom.ldv (Hom.consL (Hom.str ky29) Hom.nilL)) Hom.nilL (fun _ _ _ => (get_H Λ).2 H (_ :: _) _)))
 Hom.next)
noncomputable def lawPrimesH (Λ : LBs) : { g : List SV → List SV → Q SV // ∀ {ρ}, LBok Λ ρ → HomF ρ lawPrimes.1 g } := by
  refine' ⟨?g, fun {ρ} H => ?h⟩
  case' h => unfold lawPrimes
  case' h => dsimp only
  case' h => refine' HomF.callP [] ?x ?b
  case' x => decide +kernel
  case' b => exact (Hom.seq (Hom.ret (Hom.bind (Hom.consL (Hom.int H) (Hom.consL (Hom.int H) (Hom.consL (Hom.int H) (Hom.consL (Hom.int H) (Hom.consL (Hom.int H) Hom.nilL))))) (fun _ => Hom.mkL)))
 Hom.next)
end Mine
end

section
open PySem PySem.W PySem.Calls PyProof.Rows
set_option Elab.async false
set_option maxRecDepth 100000
set_option maxHeartbeats 4000000
set_option pp.deepTerms false
namespace Mine
/-- the law from its table on -/
noncomputable def lawR : { f : M AFl // ∃ g0 g1 g2 g3 : M AFl, lawW.1 = seqA g0 (seqA g1 (seqA g2 (seqA g3 f))) } := by
  refine' ⟨?f, ?g0, ?g1, ?g2, ?g3, ?h⟩
  case' h => unfold lawW
  case' h => dsimp only
  case' h => exact rfl
noncomputable def lawRH (Λ : LBs) : { g : Q SFl // ∀ {ρ}, LBok Λ ρ → Hom ρ (evFl ρ) lawR.1 g } := by
  refine' ⟨?g, fun {ρ} H => ?h⟩
  case' h => unfold lawR
  case' h => dsimp only
  case' h => refine' Hom.idF ?h0
  case' h0 => refine' Hom.seq ?s0 ?h1
  case' s0 => exact (Hom.assign Hom.d0 (fun _ => Hom.stv))
  case' h1 => refine' Hom.seq ?s1 ?h2
  case' s1 => exact (Hom.forS (HomIt.bind (Hom.bind (Hom.consL (Hom.bind (Hom.consL Hom.ldv (Hom.consL Hom.ldv Hom.nilL)) (fun _ => Hom.mkT)) (Hom.consL (Hom.bind (Hom.consL Hom.ldv (Hom.consL Hom.ldv Hom.nilL)) (fun _ => Hom.mkT)) Hom.nilL)) (fun _ => Hom.mkT)) (fun _ => HomIt.itB H)) (fun _ => Hom.tgtTup (fun _ => Hom.tgtCons (fun _ => Hom.stv) (fun _ => Hom.tgtCons (fun _ => Hom.stv) (fun _ => Hom.tgtNil)))) (Hom.seq (Hom.forS (HomIt.bind (Hom.call (Hom.consL Hom.ldv Hom.nilL) Hom.nilL (fun _ _ => Hom.rangeF H)) (fun _ => HomIt.itB H)) (fun _ => Hom.stv) (Hom.seq (Hom.assign (Hom.bop Hom.ldv (Hom.bop (Hom.bop Hom.ldv Hom.ldv (fun _ _ => Hom.ar H)) Hom.ldv (fun _ _ => Hom.ar H)) (fun _ _ => Hom.ar H)) (fun _ => Hom.bind Hom.ldv (fun _ => Hom.bind (Hom.bop (Hom.bop (Hom.call (Hom.consL Hom.ldv Hom.nilL) Hom.nilL (fun _ _ => Hom.strF H)) (Hom.str ky8) (fun _ _ => Hom.ar H)) (Hom.call (Hom.consL Hom.ldv Hom.nilL) Hom.nilL (fun _ _ => Hom.strF H)) (fun _ _ => Hom.ar H)) (fun _ => Hom.setIt H))))
 Hom.next) Hom.next)
 Hom.next) Hom.next)
  case' h2 => refine' Hom.sndQ (Hom.stv (v := .clo 0)) ?h3
  case' h3 => refine' Hom.seq ?s3 ?h4
  case' s3 => exact (Hom.assign (Hom.call (Hom.consL (Hom.bind (Hom.consP (Hom.call (Hom.consL Hom.ldv Hom.nilL) Hom.nilL (fun _ _ => Hom.strF H)) Hom.ldv (Hom.consP (Hom.call (Hom.consL Hom.ldv Hom.nilL) Hom.nilL (fun _ _ => Hom.strF H)) Hom.ldv Hom.nilP)) (fun _ => Hom.dictZ)) Hom.nilL) (Hom.consL Hom.ldv (Hom.consL (Hom.int H) Hom.nilL)) (fun _ _ => Hom.makeF ((ringInitH Λ).2 H))) (fun _ => Hom.stv))
  case' h4 => refine' Hom.seq ?s4 ?h5
  case' s4 => exact (Hom.bite (Hom.bcmp H (Hom.bind Hom.ldv (fun _ => Hom.getPr ((pSizeH Λ).2 H))) (Hom.bop (Hom.bop Hom.ldv Hom.ldv (fun _ _ => Hom.ar H)) (Hom.int H) (fun _ _ => Hom.ar H)) (fun _ _ => Hom.ne H)) (Hom.seq (Hom.ret (Hom.pure (b := SV.bool false) rfl))
 Hom.next) Hom.next)
  case' h5 => refine' Hom.seq ?s5 ?h6
  case' s5 => exact (Hom.forS (HomIt.bind (Hom.bind (Hom.consL (Hom.bind (Hom.consL Hom.ldv (Hom.consL Hom.ldv Hom.nilL)) (fun _ => Hom.mkT)) (Hom.consL (Hom.bind (Hom.consL Hom.ldv (Hom.consL Hom.ldv Hom.nilL)) (fun _ => Hom.mkT)) Hom.nilL)) (fun _ => Hom.mkT)) (fun _ => HomIt.itB H)) (fun _ => Hom.tgtTup (fun _ => Hom.tgtCons (fun _ => Hom.stv) (fun _ => Hom.tgtCons (fun _ => Hom.stv) (fun _ => Hom.tgtNil)))) (Hom.seq (Hom.forS (HomIt.bind (Hom.call (Hom.consL (Hom.int H) (Hom.consL Hom.ldv Hom.nilL)) Hom.nilL (fun _ _ => Hom.rangeF H)) (fun _ => HomIt.itB H)) (fun _ => Hom.stv) (Hom.seq (Hom.assign (Hom.bop (Hom.bop Hom.ldv (Hom.bop (Hom.bop Hom.ldv Hom.ldv (fun _ _ => Hom.ar H)) Hom.ldv (fun _ _ => Hom.ar H)) (fun _ _ => Hom.ar H)) (Hom.int H) (fun _ _ => Hom.ar H)) (fun _ => Hom.stv))
 (Hom.seq (Hom.bite (Hom.bcmp H (Hom.mcall Hom.ldv (fun _ => Hom.selfIn ky33) (Hom.consL Hom.ldv Hom.nilL) Hom.nilL (fun _ _ _ => (getServerH Λ).2 H (_ :: _) _)) (Hom.bind (Hom.consL (Hom.bop Hom.ldv (Hom.int H) (fun _ _ => Hom.ar H)) (Hom.consL (Hom.call (Hom.consL Hom.ldv Hom.nilL) Hom.nilL (fun _ _ => Hom.strF H)) Hom.nilL)) (fun _ => Hom.mkT)) (fun _ _ => Hom.ne H)) (Hom.seq (Hom.ret (Hom.pure (b := SV.bool false) rfl))
 Hom.next) Hom.next)
 Hom.next)) Hom.next)
 Hom.next) Hom.next)
  case' h6 => refine' Hom.seq ?s6 ?h7
  case' s6 => exact (Hom.assign (Hom.comp (Hom.compK (k := 2) (by rfl) (HomIt.bind (Hom.call (Hom.consL (Hom.int H) (Hom.consL Hom.ldv Hom.nilL)) Hom.nilL (fun _ _ => Hom.rangeF H)) (fun _ => HomIt.itB H)) (fun _ => Hom.stv) (by exact Hom.bpure) (by exact (Hom.mcall Hom.ldv (fun _ => Hom.selfIn ky34) (Hom.consL (Hom.bop (Hom.bop Hom.ldv (Hom.bop (Hom.bop Hom.ldv Hom.ldv (fun _ _ => Hom.ar H)) Hom.ldv (fun _ _ => Hom.ar H)) (fun _ _ => Hom.ar H)) (Hom.int H) (fun _ _ => Hom.ar H)) Hom.nilL) Hom.nilL (fun _ _ _ => (getNodePosH Λ).2 H (_ :: _) _))))) (fun _ => Hom.stv))
  case' h7 => refine' Hom.seq ?s7 ?h8
  case' s7 => exact (Hom.assign (Hom.comp (Hom.compK (k := 2) (by rfl) (HomIt.bind (Hom.call (Hom.consL (Hom.int H) (Hom.consL Hom.ldv Hom.nilL)) Hom.nilL (fun _ _ => Hom.rangeF H)) (fun _ => HomIt.itB H)) (fun _ => Hom.stv) (by exact Hom.bpure) (by exact (Hom.mcall Hom.ldv (fun _ => Hom.selfIn ky34) (Hom.consL (Hom.bop (Hom.bop Hom.ldv (Hom.bop (Hom.bop Hom.ldv Hom.ldv (fun _ _ => Hom.ar H)) Hom.ldv (fun _ _ => Hom.ar H)) (fun _ _ => Hom.ar H)) (Hom.int H) (fun _ _ => Hom.ar H)) Hom.nilL) Hom.nilL (fun _ _ _ => (getNodePosH Λ).2 H (_ :: _) _))))) (fun _ => Hom.stv))
  case' h8 => refine' Hom.seq ?s8 ?h9
  case' s8 => exact (Hom.bite (Hom.bite (Hom.bcmp H Hom.ldv (Hom.comp (Hom.compK (k := 2) (by rfl) (HomIt.bind (Hom.call (Hom.consL (Hom.int H) (Hom.consL Hom.ldv Hom.nilL)) Hom.nilL (fun _ _ => Hom.rangeF H)) (fun _ => HomIt.itB H)) (fun _ => Hom.stv) (by exact Hom.bpure) (by exact (Hom.bop Hom.ldv (Hom.bop (Hom.bop Hom.ldv Hom.ldv (fun _ _ => Hom.ar H)) Hom.ldv (fun _ _ => Hom.ar H)) (fun _ _ => Hom.ar H))))) (fun _ _ => Hom.ne H)) Hom.bpure (Hom.bite (Hom.bcmp H Hom.ldv (Hom.comp (Hom.compK (k := 2) (by rfl) (HomIt.bind (Hom.call (Hom.consL (Hom.int H) (Hom.consL (Hom.bop (Hom.bop Hom.ldv Hom.ldv (fun _ _ => Hom.ar H)) (Hom.int H) (fun _ _ => Hom.ar H)) Hom.nilL)) Hom.nilL (fun _ _ => Hom.rangeF H)) (fun _ => HomIt.itB H)) (fun _ => Hom.stv) (by exact (Hom.bite (Hom.bcmp H Hom.ldv Hom.ldv (fun _ _ => Hom.notIn H)) Hom.bpure Hom.bpure)) (by exact Hom.ldv))) (fun _ _ => Hom.ne H)) Hom.bpure Hom.bpure)) (Hom.seq (Hom.ret (Hom.pure (b := SV.bool false) rfl))
 Hom.next) Hom.next)
  case' h9 => refine' Hom.seq ?s9 ?h10
  case' s9 => exact (Hom.assign (Hom.bop (Hom.bop Hom.ldv (Hom.int H) (fun _ _ => Hom.ar H)) (Hom.int H) (fun _ _ => Hom.ar H)) (fun _ => Hom.bind Hom.ldv (fun _ => Hom.bind (Hom.call (Hom.consL Hom.ldv Hom.nilL) Hom.nilL (fun _ _ => Hom.strF H)) (fun _ => Hom.setI ((setItemH Λ).2 H)))))
  case' h10 => refine' Hom.seq ?s10 ?h11
  case' s10 => exact (Hom.assign (Hom.bop (Hom.bop Hom.ldv (Hom.int H) (fun _ _ => Hom.ar H)) (Hom.int H) (fun _ _ => Hom.ar H)) (fun _ => Hom.bind Hom.ldv (fun _ => Hom.bind (Hom.call (Hom.consL Hom.ldv Hom.nilL) Hom.nilL (fun _ _ => Hom.strF H)) (fun _ => Hom.setI ((setItemH Λ).2 H)))))
  case' h11 => refine' Hom.seq ?s11 ?h12
  case' s11 => exact (Hom.bite (Hom.bcmp H (Hom.bop (Hom.int H) (Hom.bind Hom.ldv (fun _ => Hom.getPr ((pSizeH Λ).2 H))) (fun _ _ => Hom.ar H)) (Hom.bop Hom.ldv Hom.ldv (fun _ _ => Hom.ar H)) (fun _ _ => Hom.ne H)) (Hom.seq (Hom.ret (Hom.pure (b := SV.bool false) rfl))
 Hom.next) Hom.next)
  case' h12 => refine' Hom.seq ?s12 ?h13
  case' s12 => exact (Hom.assign (Hom.int H) (fun _ => Hom.stv))
  case' h13 => refine' Hom.seq ?s13 ?h14
  case' s13 => exact (Hom.forS (HomIt.bind (Hom.bind (Hom.consL (Hom.bind (Hom.consL Hom.ldv (Hom.consL Hom.ldv Hom.nilL)) (fun _ => Hom.mkT)) (Hom.consL (Hom.bind (Hom.consL Hom.ldv (Hom.consL Hom.ldv Hom.nilL)) (fun _ => Hom.mkT)) Hom.nilL)) (fun _ => Hom.mkT)) (fun _ => HomIt.itB H)) (fun _ => Hom.tgtTup (fun _ => Hom.tgtCons (fun _ => Hom.stv) (fun _ => Hom.tgtCons (fun _ => Hom.stv) (fun _ => Hom.tgtNil)))) (Hom.seq (Hom.assign (Hom.call (Hom.consL (Hom.comp (Hom.compK (k := 2) (by rfl) (HomIt.bind (Hom.call (Hom.consL (Hom.int H) (Hom.consL (Hom.bop (Hom.bop Hom.ldv (Hom.int H) (fun _ _ => Hom.ar H)) (Hom.int H) (fun _ _ => Hom.ar H)) Hom.nilL)) Hom.nilL (fun _ _ => Hom.rangeF H)) (fun _ => HomIt.itB H)) (fun _ => Hom.stv) (by exact Hom.bpure) (by exact (Hom.bop (Hom.mcall Hom.ldv (fun _ => Hom.selfIn ky34) (Hom.consL (Hom.bop (Hom.bop Hom.ldv (Hom.bop (Hom.bop Hom.ldv Hom.ldv (fun _ _ => Hom.ar H)) Hom.ldv (fun _ _ => Hom.ar H)) (fun _ _ => Hom.ar H)) (Hom.int H) (fun _ _ => Hom.ar H)) Hom.nilL) Hom.nilL (fun _ _ _ => (getNodePosH Λ).2 H (_ :: _) _)) Hom.ldv (fun _ _ => Hom.ar H))))) Hom.nilL) Hom.nilL (fun _ _ => Hom.sumF)) (fun _ => Hom.stv))
 (Hom.seq (Hom.aug Hom.ldv Hom.ldv (fun _ _ => Hom.iar H) (fun _ => Hom.stv))
 (Hom.seq (Hom.bite (Hom.bcmp H (Hom.bop (Hom.bop Hom.ldv (Hom.int H) (fun _ _ => Hom.ar H)) (Hom.int H) (fun _ _ => Hom.eq H)) (Hom.bop (Hom.bop Hom.ldv Hom.ldv (fun _ _ => Hom.ar H)) (Hom.comp (Hom.compK (k := 2) (by rfl) (HomIt.bind (Hom.call (Hom.consL (Hom.int H) (Hom.consL Hom.ldv Hom.nilL)) Hom.nilL (fun _ _ => Hom.rangeF H)) (fun _ => HomIt.itB H)) (fun _ => Hom.stv) (by exact Hom.bpure) (by exact (Hom.bop (Hom.bop Hom.ldv Hom.ldv (fun _ _ => Hom.ar H)) Hom.ldv (fun _ _ => Hom.ar H))))) (fun _ _ => Hom.in H)) (fun _ _ => Hom.ne H)) (Hom.seq (Hom.ret (Hom.pure (b := SV.bool false) rfl))
 Hom.next) Hom.next)
 Hom.next))) Hom.next)
  case' h14 => refine' Hom.seq ?s14 ?h15
  case' s14 => exact (Hom.ret (Hom.bop (Hom.bop (Hom.int H) Hom.ldv (fun _ _ => Hom.ar H)) (Hom.bop (Hom.bop Hom.ldv (Hom.int H) (fun _ _ => Hom.ar H)) (Hom.bop Hom.ldv (Hom.int H) (fun _ _ => Hom.ar H)) (fun _ _ => Hom.ar H)) (fun _ _ => Hom.eq H)))
  case' h15 => exact Hom.next
end Mine
end

section
open PySem PySem.W PySem.Calls PyProof.Rows
set_option Elab.async false
set_option maxRecDepth 100000
set_option maxHeartbeats 4000000
set_option linter.unusedSimpArgs false
namespace Mine
theorem intsL_len (ns : List Int) : (intsL ns).length = ns.length := by simp [intsL]
theorem intsL_at (ns : List Int) (k : Nat) : (intsL ns)[k]? = (ns[k]?).map .int := by simp [intsL]
theorem lawAt_run (ns : List Int) (hn : ns.length ≤ 63) (k : Nat) (d : Int) (σ : St) : lawAt.1 [.lst (intsL ns), .int k, .int d] [] σ = some (.int ((ns[k]?).getD d), σ) := by
  unfold lawAt
  dsimp only
  rw [if_pos (by rfl)]
  dsimp only
  unfold fnA
  have e : ∀ a b c : AV, initF (fnSc ({ kind := ScopeKind.function, names := [("script", .local), ("k", .local), ("other", .local), ("len", .globalImplicit)], isGenerator := false, isCoroutine := false } : Scope)).names ((["script", "k", "other"] : List Str).zip [a, b, c]) = [some a, some b, some c] := fun a b c => by kernel_rfl
  have hl : (intsL ns).length < 2 ^ 40 := by rw [intsL_len]; omega
  erw [e]
  have r1 : ∀ σ' : St, lenF [.lst (intsL ns)] [] σ' = some (.int (ns.length : Int), σ') := fun σ' => by
    show (if (intsL ns).length < 2 ^ 40 then _ else _) = _
    rw [if_pos hl, intsL_len]
  have r2 : ∀ (a b : Int) (σ' : St), ordA .Lt (.int a) (.int b) σ' = some (.bool (decide (a < b)), σ') := fun _ _ _ => rfl
  have r3 : ∀ (b : Bool) (σ' : St), trA (.bool b) σ' = some (b, σ') := fun _ _ => rfl
  have r4 : ∀ (σ' : St), getA (.lst (intsL ns)) (.int (k : Int)) σ' = (atL (intsL ns) (k : Int)).map (·, σ') := fun _ => rfl
  by_cases hk : k < ns.length
  · have h1 : atL (intsL ns) (k : Int) = (ns[k]?).map .int := by
      unfold atL idxN
      rw [if_pos (by omega), if_pos (by rw [intsL_len]; constructor <;> omega)]
      simp [intsL_at]
    have hd : decide ((k : Int) < (ns.length : Int)) = true := decide_eq_true (by omega)
    have hg : ns[k]? = some ns[k] := List.getElem?_eq_getElem hk
    simp only [seqA, M.bind, M.pure, ldv, List.getElem?_cons_zero, List.getElem?_cons_succ, Nat.zero_add, r1, r2, r3, r4, hd, cond_true, h1, hg, Option.map_some, Option.getD_some]
    rfl
  · have hd : decide ((k : Int) < (ns.length : Int)) = false := decide_eq_false (by omega)
    have hg : ns[k]? = none := List.getElem?_eq_none (by omega)
    simp only [seqA, M.bind, M.pure, ldv, List.getElem?_cons_zero, List.getElem?_cons_succ, Nat.zero_add, r1, r2, r3, r4, hd, cond_false, hg, Option.getD_none]
    rfl
theorem lawPrimes_run (σ : St) : lawPrimes.1 [] [] σ = some (.lst [.int 3, .int 5, .int 7, .int 11, .int 13], σ) := by
  unfold lawPrimes
  rfl
end Mine
end

section
open PySem PySem.W PySem.Calls PyProof.Rows
set_option Elab.async false
set_option maxRecDepth 100000
set_option maxHeartbeats 4000000
set_option linter.unusedSimpArgs false
namespace Mine
noncomputable def at3 (j : Int) (d : Int) : M AV := M.bind (M.bind (ldv 0 0) fun a => M.bind (M.bind (M.pure (.int j)) fun a => M.bind (M.bind (M.pure (.int d)) fun a => M.bind (M.pure []) fun l => M.pure (a :: l)) fun l => M.pure (a :: l)) fun l => M.pure (a :: l)) fun l => M.bind (M.pure []) fun k => lawAt.1 l k
noncomputable def prm : M AV := M.bind (M.pure []) fun l => M.bind (M.pure []) fun k => lawPrimes.1 l k
def dmod : M AV := M.bind (ldv 0 1) fun a => M.bind (M.pure (.int 5)) fun b => arA .Mod a b
noncomputable def G0 : M AFl := M.bind (at3 0 7) fun v => M.bind (stv 1 v) fun _ => M.pure .next
noncomputable def G1 : M AFl := M.bind (M.bind prm fun a => M.bind dmod fun b => getA a b) fun v => M.bind (stv 2 v) fun _ => M.pure .next
def idx2 : M AV := M.bind (M.bind (M.bind dmod fun a => M.bind (M.pure (.int 1)) fun b => arA .Add a b) fun a => M.bind (M.bind (M.bind (ldv 0 1) fun a => M.bind (M.pure (.int 5)) fun b => arA .FloorDiv a b) fun a => M.bind (M.pure (.int 4)) fun b => arA .Mod a b) fun b => arA .Add a b) fun a => M.bind (M.pure (.int 5)) fun b => arA .Mod a b
noncomputable def G2 : M AFl := M.bind (M.bind prm fun a => M.bind idx2 fun b => getA a b) fun v => M.bind (stv 3 v) fun _ => M.pure .next
noncomputable def sc : M AV := M.bind (M.pure (.int 1)) fun a => M.bind (M.bind (M.bind (at3 1 0) fun a => M.bind (M.pure []) fun l => M.pure (a :: l)) fun l => M.bind (M.pure []) fun k => absF l k) fun b => arA .Add a b
noncomputable def G3 : M AFl := M.bind (M.bind (M.bind sc fun a => M.bind (M.bind (at3 2 0) fun a => M.bind (M.pure []) fun l => M.pure (a :: l)) fun l => M.pure (a :: l)) mkT) fun v => M.bind (tgtTup 2 (tgtCons (stv 4) (tgtCons (stv 5) tgtNil)) v) fun _ => M.pure .next
theorem lawW_eq : lawW.1 = seqA G0 (seqA G1 (seqA G2 (seqA G3 lawR.1))) := by
  unfold lawW lawR
  rfl
def frA (ns : List Int) (r : List (Option AV)) : St := ⟨[some (.lst (intsL ns)) :: r], fun _ => none, 0⟩
theorem at3_run (ns : List Int) (hn : ns.length ≤ 63) (r : List (Option AV)) (j : Nat) (d : Int) : at3 (j : Int) d (frA ns r) = some (.int ((ns[j]?).getD d), frA ns r) := by
  have := lawAt_run ns hn j d (frA ns r)
  simp only [at3, M.bind, M.pure, ldv, frA, List.getElem?_cons_zero]
  exact this
theorem prm_run (σ : St) : prm σ = some (.lst [.int 3, .int 5, .int 7, .int 11, .int 13], σ) := lawPrimes_run σ
def pr5 (i : Nat) : Int := ([3, 5, 7, 11, 13] : List Int).getD i 0
theorem get5 (i : Nat) (hi : i < 5) (σ : St) : getA (.lst [.int 3, .int 5, .int 7, .int 11, .int 13]) (.int (i : Int)) σ = some (.int (pr5 i), σ) := by
  match i, hi with
  | 0, _ => rfl
  | 1, _ => rfl
  | 2, _ => rfl
  | 3, _ => rfl
  | 4, _ => rfl
theorem mod_nat (D : Int) (m : Int) (hm : 0 < m) : ∃ i : Nat, D.fmod m = i ∧ (i : Int) < m := by
  have h1 := Int.fmod_nonneg_of_pos D hm
  have h2 := Int.fmod_lt_of_pos D hm
  exact ⟨(D.fmod m).toNat, by omega, by omega⟩
theorem seq_run {f g : M AFl} {σ σ' : St} (h : f σ = some (.next, σ')) : seqA f g σ = g σ' := by
  unfold seqA M.bind
  rw [h]
theorem start_run (ns : List Int) (hn : ns.length ≤ 63) : ∃ (i j : Nat) (D S T : Int), i < 5 ∧ j < 4 ∧ 1 ≤ S ∧
    lawW.1 (frA ns (List.replicate 16 none)) = lawR.1 (frA ns ([some (.int D), some (.int (pr5 i)), some (.int (pr5 ((i + 1 + j) % 5))), some (.int S), some (.int T)] ++ List.replicate 11 none)) := by
  obtain ⟨D, hD⟩ : ∃ D, D = (ns[0]?).getD 7 := ⟨_, rfl⟩
  obtain ⟨U, hU⟩ : ∃ U, U = (ns[1]?).getD 0 := ⟨_, rfl⟩
  obtain ⟨T, hT⟩ : ∃ T, T = (ns[2]?).getD 0 := ⟨_, rfl⟩
  obtain ⟨i, hi, hi5⟩ := mod_nat D 5 (by decide)
  obtain ⟨j, hj, hj4⟩ := mod_nat (D.fdiv 5) 4 (by decide)
  have hi5 : i < 5 := by omega
  have hj4 : j < 4 := by omega
  refine ⟨i, j, D, 1 + (if U < 0 then -U else U), T, hi5, hj4, by split <;> omega, ?_⟩
  refine (congrFun lawW_eq _).trans ?_
  have e0 : G0 (frA ns (List.replicate 16 none)) = some (.next, frA ns (some (.int D) :: List.replicate 15 none)) := by
    have := at3_run ns hn (List.replicate 16 none) 0 7
    unfold G0 M.bind
    rw [show ((0 : Nat) : Int) = 0 from rfl] at this
    rw [this, ← hD]; rfl
  have e1 : G1 (frA ns (some (.int D) :: List.replicate 15 none)) = some (.next, frA ns (some (.int D) :: some (.int (pr5 i)) :: List.replicate 14 none)) := by
    have a1 : dmod (frA ns (some (.int D) :: List.replicate 15 none)) = some (.int (i : Int), frA ns (some (.int D) :: List.replicate 15 none)) := by
      rw [← hi]; rfl
    unfold G1
    simp only [M.bind, prm_run, a1, get5 i hi5]
    rfl
  have e2 : G2 (frA ns (some (.int D) :: some (.int (pr5 i)) :: List.replicate 14 none)) = some (.next, frA ns (some (.int D) :: some (.int (pr5 i)) :: some (.int (pr5 ((i + 1 + j) % 5))) :: List.replicate 13 none)) := by
    have a1 : idx2 (frA ns (some (.int D) :: some (.int (pr5 i)) :: List.replicate 14 none)) = some (.int (((i + 1 + j) % 5 : Nat) : Int), frA ns (some (.int D) :: some (.int (pr5 i)) :: List.replicate 14 none)) := by
      have : (((i + 1 + j) % 5 : Nat) : Int) = (D.fmod 5 + 1 + (D.fdiv 5).fmod 4).fmod 5 := by
        rw [hi, hj, Int.fmod_eq_emod_of_nonneg _ (by decide)]
        omega
      rw [this]; rfl
    unfold G2
    simp only [M.bind, prm_run, a1, get5 _ (show (i + 1 + j) % 5 < 5 from Nat.mod_lt _ (by decide))]
    rfl
  have e3 : G3 (frA ns (some (.int D) :: some (.int (pr5 i)) :: some (.int (pr5 ((i + 1 + j) % 5))) :: List.replicate 13 none)) = some (.next, frA ns ([some (.int D), some (.int (pr5 i)), some (.int (pr5 ((i + 1 + j) % 5))), some (.int (1 + (if U < 0 then -U else U))), some (.int T)] ++ List.replicate 11 none)) := by
    have b1 := at3_run ns hn (some (.int D) :: some (.int (pr5 i)) :: some (.int (pr5 ((i + 1 + j) % 5))) :: List.replicate 13 none) 1 0
    have b2 := at3_run ns hn (some (.int D) :: some (.int (pr5 i)) :: some (.int (pr5 ((i + 1 + j) % 5))) :: List.replicate 13 none) 2 0
    rw [show ((1 : Nat) : Int) = 1 from rfl, ← hU] at b1
    rw [show ((2 : Nat) : Int) = 2 from rfl, ← hT] at b2
    unfold G3 sc
    simp only [M.bind, M.pure, b1, b2, absF, arA]
    rfl
  rw [seq_run e0, seq_run e1, seq_run e2, seq_run e3]
end Mine
end

section
open PySem PySem.W PySem.Calls PyProof.Rows
set_option Elab.async false
set_option maxRecDepth 1000000
set_option maxHeartbeats 40000000
namespace Mine
def okRun (r : Option (SFl × SSt)) : Bool := match r with
  | some (.ret (.bool b), _) => b
  | _ => false
theorem okRun_of {r : Option (SFl × SSt)} (h : okRun r = true) : ∃ τ, r = some (.ret (.bool true), τ) := by
  unfold okRun at h
  split at h
  · rename_i b τ; subst h; exact ⟨τ, rfl⟩
  · cases h
def Λ4 : LBs := [none, some 1, none]
def fr4 (p q : Int) (x d : SV) : List (Option SV) := [some x, some d, some (.int [p]), some (.int [q]), some (.int [0, 1]), some (.int [0, 0, 1])] ++ List.replicate 11 none
theorem run00 (x d : SV) : okRun ((lawRH Λ4).1 ⟨[fr4 3 5 x d], []⟩) = true := by kernel_rfl
theorem run01 (x d : SV) : okRun ((lawRH Λ4).1 ⟨[fr4 3 7 x d], []⟩) = true := by kernel_rfl
theorem run02 (x d : SV) : okRun ((lawRH Λ4).1 ⟨[fr4 3 11 x d], []⟩) = true := by kernel_rfl
theorem run03 (x d : SV) : okRun ((lawRH Λ4).1 ⟨[fr4 3 13 x d], []⟩) = true := by kernel_rfl
theorem run10 (x d : SV) : okRun ((lawRH Λ4).1 ⟨[fr4 5 7 x d], []⟩) = true := by kernel_rfl
theorem run11 (x d : SV) : okRun ((lawRH Λ4).1 ⟨[fr4 5 11 x d], []⟩) = true := by kernel_rfl
theorem run12 (x d : SV) : okRun ((lawRH Λ4).1 ⟨[fr4 5 13 x d], []⟩) = true := by kernel_rfl
theorem run13 (x d : SV) : okRun ((lawRH Λ4).1 ⟨[fr4 5 3 x d], []⟩) = true := by kernel_rfl
theorem run20 (x d : SV) : okRun ((lawRH Λ4).1 ⟨[fr4 7 11 x d], []⟩) = true := by kernel_rfl
theorem run21 (x d : SV) : okRun ((lawRH Λ4).1 ⟨[fr4 7 13 x d], []⟩) = true := by kernel_rfl
theorem run22 (x d : SV) : okRun ((lawRH Λ4).1 ⟨[fr4 7 3 x d], []⟩) = true := by kernel_rfl
theorem run23 (x d : SV) : okRun ((lawRH Λ4).1 ⟨[fr4 7 5 x d], []⟩) = true := by kernel_rfl
theorem run30 (x d : SV) : okRun ((lawRH Λ4).1 ⟨[fr4 11 13 x d], []⟩) = true := by kernel_rfl
theorem run31 (x d : SV) : okRun ((lawRH Λ4).1 ⟨[fr4 11 3 x d], []⟩) = true := by kernel_rfl
theorem run32 (x d : SV) : okRun ((lawRH Λ4).1 ⟨[fr4 11 5 x d], []⟩) = true := by kernel_rfl
theorem run33 (x d : SV) : okRun ((lawRH Λ4).1 ⟨[fr4 11 7 x d], []⟩) = true := by kernel_rfl
theorem run40 (x d : SV) : okRun ((lawRH Λ4).1 ⟨[fr4 13 3 x d], []⟩) = true := by kernel_rfl
theorem run41 (x d : SV) : okRun ((lawRH Λ4).1 ⟨[fr4 13 5 x d], []⟩) = true := by kernel_rfl
theorem run42 (x d : SV) : okRun ((lawRH Λ4).1 ⟨[fr4 13 7 x d], []⟩) = true := by kernel_rfl
theorem run43 (x d : SV) : okRun ((lawRH Λ4).1 ⟨[fr4 13 11 x d], []⟩) = true := by kernel_rfl
theorem runs (x d : SV) : ∀ i j : Nat, i < 5 → j < 4 → okRun ((lawRH Λ4).1 ⟨[fr4 (pr5 i) (pr5 ((i + 1 + j) % 5)) x d], []⟩) = true
  | 0, 0, _, _ => run00 x d
  | 0, 1, _, _ => run01 x d
  | 0, 2, _, _ => run02 x d
  | 0, 3, _, _ => run03 x d
  | 1, 0, _, _ => run10 x d
  | 1, 1, _, _ => run11 x d
  | 1, 2, _, _ => run12 x d
  | 1, 3, _, _ => run13 x d
  | 2, 0, _, _ => run20 x d
  | 2, 1, _, _ => run21 x d
  | 2, 2, _, _ => run22 x d
  | 2, 3, _, _ => run23 x d
  | 3, 0, _, _ => run30 x d
  | 3, 1, _, _ => run31 x d
  | 3, 2, _, _ => run32 x d
  | 3, 3, _, _ => run33 x d
  | 4, 0, _, _ => run40 x d
  | 4, 1, _, _ => run41 x d
  | 4, 2, _, _ => run42 x d
  | 4, 3, _, _ => run43 x d
  | i + 5, _, h, _ => absurd h (by omega)
  | _, j + 4, _, h => absurd h (by omega)
def rho4 (S T : Int) : Nat → Int
  | 0 => 1
  | 1 => S
  | 2 => T
  | _ => 0
theorem lb4 {S T : Int} (h : 1 ≤ S) : LBok Λ4 (rho4 S T) := by
  refine ⟨rfl, fun i b e => ?_⟩
  match i, e with
  | 0, e => cases e
  | 1, e => cases e; exact h
  | 2, e => cases e
  | i + 3, e => simp [Λ4] at e
theorem start_ev (ns : List Int) (p q D S T : Int) : evSt (rho4 S T) ⟨[fr4 p q (.lst (ns.map fun i => .int [i])) (.int [D])], []⟩ = frA ns ([some (.int D), some (.int p), some (.int q), some (.int S), some (.int T)] ++ List.replicate 11 none) := by
  have c : ∀ i : Int, evA (rho4 S T) [i] = i := fun i => by simp [evA, evG, rho4]
  have e1 : ∀ l : List Int, evL (rho4 S T) (l.map fun i => .int [i]) = intsL l := fun l => by
    rw [evL_map]; simp [intsL, ev, c]
  have e2 : evA (rho4 S T) [0, 1] = S := by simp [evA, evG, rho4]
  have e3 : evA (rho4 S T) [0, 0, 1] = T := by simp [evA, evG, rho4]
  unfold evSt frA
  simp only [St.mk.injEq]
  refine ⟨?_, ?_, rfl⟩
  · simp [fr4, evF, ev, e1, e2, e3, c]
  · funext h
    split
    · rfl
    · rfl
theorem law_true (ns : List Int) (hn : ns.length ≤ 63) : ∃ σ', lawW.1 (frA ns (List.replicate 16 none)) = some (.ret (.bool true), σ') := by
  obtain ⟨i, j, D, S, T, hi, hj, hS, e⟩ := start_run ns hn
  obtain ⟨τ, hτ⟩ := okRun_of (runs (.lst (ns.map fun i => .int [i])) (.int [D]) i j hi hj)
  have := (lawRH Λ4).2 (lb4 (T := T) hS) _ _ _ hτ
  rw [start_ev] at this
  exact ⟨_, e.trans this⟩
end Mine
end

section
open PySem PySem.W PySem.Calls PyProof.Rows
set_option Elab.async false
set_option maxRecDepth 100000
set_option maxHeartbeats 4000000
set_option pp.deepTerms false
set_option linter.unusedSimpArgs false
namespace Mine
abbrev tabs4 : List (Addr × Addr) := [(362, 358), (637, 635)]
noncomputable def W4 (prog : Program) (w : World) (h : Heap) (mg mb : Str → Option Value) (os : OsState) : Wd :=
  { prog := prog, w := w, H0 := ghostOf h tabs4, TB := [], K := hd.heap_39 w.params, mg := mg, mb := mb, os := os, clos := fun k => if k = 0 then defIn lawB.1.1 else none, bnames := ownN lawB.1.2 }
theorem cells_lo {lo : Nat} : ∀ (names : List (Str × NameKind)) (n : Nat) (acc : List (Str × Addr)), (∀ q ∈ acc, lo ≤ q.2) → lo ≤ n → ∀ q ∈ cellsFrom n names acc, lo ≤ q.2
  | [], n, acc, h, _, q, hq => h q hq
  | (x, k) :: r, n, acc, h, hn, q, hq => by
    unfold cellsFrom at hq
    split at hq
    · refine cells_lo r (n + 1) _ (fun q' h' => ?_) (by omega) q hq
      rcases List.mem_cons.mp h' with rfl | h'
      · exact hn
      · exact h q' h'
    · exact cells_lo r n acc h hn q hq
theorem cells_apart : ∀ (names : List (Str × NameKind)) (n : Nat) (acc : List (Str × Addr)), (∀ q ∈ acc, q.2 < n) → acc.Pairwise (fun x y => x.2 ≠ y.2) → (cellsFrom n names acc).Pairwise (fun x y => x.2 ≠ y.2)
  | [], n, acc, _, h => h
  | (x, k) :: r, n, acc, hl, h => by
    unfold cellsFrom
    split
    · refine cells_apart r (n + 1) _ (fun q' h' => ?_) (List.pairwise_cons.mpr ⟨fun y hy e => ?_, h⟩)
      · rcases List.mem_cons.mp h' with rfl | h'
        · exact Nat.lt_succ_self _
        · exact Nat.lt_succ_of_lt (hl q' h')
      · have := hl y hy
        dsimp only at e
        rw [← e] at this
        exact absurd this (Nat.lt_irrefl _)
    · exact cells_apart r n acc hl h
theorem cells_look {cm : Str → Option Value} : ∀ {cs : List (Str × Addr)} {cells : List (Addr × Obj)}, CellsAre cm cs cells → ∀ {x : Str} {c : Addr}, (x, c) ∈ cs → ∃ o, (c, o) ∈ cells ∧ o.data = .cell (cm x)
  | _, _, .nil, _, _, h => by cases h
  | _, _, .cons (o := o) ho hr, x, c, h => by
    rcases List.mem_cons.mp h with h | h
    · cases h; exact ⟨o, List.mem_cons_self .., ho⟩
    · obtain ⟨o', h1, h2⟩ := cells_look hr h
      exact ⟨o', List.mem_cons_of_mem _ h1, h2⟩
theorem intsRep {V : Vw} : ∀ {vs : List Value} {ns : List Int}, IntsAre vs ns → RepVs V (intsL ns) vs
  | _, _, .nil => rfl
  | _, _, .cons n t h => ⟨.int n t, _, rfl, ⟨t, rfl⟩, intsRep h⟩
theorem all_lookup {P : Str → Value → Prop} {l : List (Str × Value)} (h : ∀ q ∈ l, P q.1 q.2) : ∀ x v, l.lookup x = some v → P x v := fun x v e => h _ (mem_of_lookup' e)
section
variable {prog : Program} {w : World} {s₁ : Shared} {mg mb : Str → Option Value} {p : Program} {loose : List Str} {mean : ExcName → Option Value}
theorem ok4 (X : (hd.heap_39 w.params).In (ghostOf s₁.heap tabs4)) (T : Top p loose mean mg mb (ghostOf s₁.heap tabs4)) : (W4 prog w s₁.heap mg mb s₁.os).Ok := by
  refine ⟨fun a o e => ⟨List.not_mem_nil, X a o e⟩, ?_, ?_, ?_⟩
  · obtain ⟨mc, h1, h2⟩ := T.nolimit
    obtain ⟨o, e, q⟩ := NsOb.of h1
    exact ⟨mc, o, e, List.not_mem_nil, q, h2⟩
  · obtain ⟨o, e, q⟩ := NsOb.of T.g
    exact ⟨o, e, List.not_mem_nil, q⟩
  · obtain ⟨o, e, q⟩ := NsOb.of T.b
    exact ⟨o, e, List.not_mem_nil, q⟩
theorem mg_none {K : Frag} {h : Heap} {mg : Str → Option Value} {n : Str} (X : K.In h) (G : h.Ns mainGlobals mg) (e : nsIn K mainGlobals n = some none) : mg n = none := by
  obtain ⟨o, es, ep, ho, hd, _, hf⟩ := G
  unfold nsIn at e
  split at e
  · rename_i c d es' n' sl q
    have h1 := X _ _ q
    rw [ho] at h1
    cases h1
    cases hd
    rw [← hf]
    split at e
    · cases e
    · rename_i hq
      unfold nsFind findBy
      simpa using hq
  · cases e
theorem E4_of (X : (hd.heap_39 w.params).In (ghostOf s₁.heap tabs4)) (T : Top p loose mean mg mb (ghostOf s₁.heap tabs4)) (htop : (prog.main.scope.names.lookup ("super" : Str)).isSome = false) (hfile : ((prog.main.file : Str) == ("/claim/cut.py" : Str)) = true) :
    E4 (W4 prog w s₁.heap mg mb s₁.os) w.params := by
  have mgs : ∀ x v, nsIn (hd.heap_39 w.params) mainGlobals x = some (some v) → mg x = some v := fun x v e => mg_of X T.g e
  have mgn : ∀ x, nsIn (hd.heap_39 w.params) mainGlobals x = some none → mg x = none := fun x e => mg_none X T.g e
  have mbs : ∀ (x : Str) (v : Value), x ≠ "__name__" → bootBuiltins x = some v → mb x = some v := fun x v h e => (T.builtins x h).trans e
  refine ⟨⟨ok4 X T, ?_, ?_⟩, rfl, ?_, ?_, ?_, htop, hfile⟩
  · refine all_lookup (P := fun x v => mg x = some v) fun q hq => ?_
    unfold gt4 at hq
    simp only [List.mem_cons, List.not_mem_nil, or_false] at hq
    rcases hq with rfl | rfl | rfl | rfl | rfl | rfl | rfl <;> exact mgs _ _ (by k_is)
  · refine all_lookup (P := fun x v => mg x = none ∧ mb x = some v) fun q hq => ?_
    unfold bt4 at hq
    simp only [List.mem_cons, List.not_mem_nil, or_false] at hq
    rcases hq with rfl | rfl | rfl | rfl | rfl | rfl | rfl | rfl | rfl | rfl | rfl | rfl | rfl <;> exact ⟨mgn _ (by k_is), mbs _ _ (by decide +kernel) (by decide +kernel)⟩
  · intro fd b ⟨o, h1, h2⟩ hb
    obtain ⟨o', fd', q1, q2, q3, q4⟩ := lawB.2 w.params
    have h1 : (hd.heap_39 w.params).lookup 638 = some o := h1
    rw [q1] at h1
    cases h1
    rw [q2] at h2
    cases h2
    rw [q3] at hb
    cases hb
    exact ⟨rfl, by rw [q4]; rfl⟩
  · exact mgn _ (by k_is)
  · exact mbs _ _ (by decide +kernel) (by decide +kernel)
end
end Mine
end

section
open PySem PySem.W PySem.Calls PyProof.Rows
set_option Elab.async false
set_option maxRecDepth 100000
set_option maxHeartbeats 4000000
set_option pp.deepTerms false
set_option linter.unusedSimpArgs false
namespace Mine
section
variable {prog : Program} {w : World} {s₁ : Shared} {mg mb : Str → Option Value} {p : Program} {loose : List Str} {mean : ExcName → Option Value}
theorem top4 (X : (hd.heap_39 w.params).In (ghostOf s₁.heap tabs4)) (T : Top p loose mean mg mb (ghostOf s₁.heap tabs4)) (C : CodeHd (ghostOf s₁.heap tabs4) 637 635) : TopOK (W4 prog w s₁.heap mg mb s₁.os) 637 635 := by
  refine ⟨?_, ?_⟩
  · obtain ⟨o, vs, file, tf, flags, tg, inF, text, tt, h1, h2, h3, h4, h5, h6, h7, h8, h9, h10⟩ := C
    exact ⟨o, vs, file, tf, flags, tg, inF, text, tt, h1, List.not_mem_nil, h2, h3, h4, h5, h6, h7, h8, h9, h10⟩
  · obtain ⟨bm, ob, h1, h2, h3, h4, h5, h6⟩ := T.bmain
    exact ⟨bm, ob, h1, h2, List.not_mem_nil, h3, h4, h5, h6⟩
theorem lawNames : ownN lawB.1.2 = ([("script", .local), ("drawn", .local), ("p", .cell), ("q", .cell), ("scale", .cell), ("shift", .cell), ("one", .cell), ("other", .cell), ("k", .local), ("place", .local), ("ring", .cell), ("key", .local), ("first", .cell), ("second", .local), ("whole", .local), ("half", .local), ("table", .cell)] : List (Str × NameKind)) := by kernel_rfl
theorem init4 (v : AV) : initF (fnSc lawB.1.2).names ((["script"] : List Str).zip [v]) = some v :: List.replicate 16 none := by kernel_rfl
theorem aok4 (env : Env) : AOK 60 (callerA.deeper env) := by
  exact AOK.deeper (n := 60) ⟨rfl, by decide +kernel, by decide +kernel⟩
theorem kind4 (L a : Addr) (cd : Value) : (envOfC ("law" : Str) lawB.1.2 L a cd).kindOf ("script" : Str) = some .local := by kernel_rfl
theorem loc4 {x : Str} (i : Nat) (h : (fnSc lawB.1.2).names[i]? = some (x, NameKind.cell)) : x ≠ ("script" : Str) := by
  rintro rfl
  have h : (ownN lawB.1.2)[i]? = some (("script" : Str), NameKind.cell) := h
  have := List.mem_of_getElem? h
  rw [lawNames] at this
  revert this
  decide +kernel
theorem join4 {fa la : Addr} {o : Obj} {pm doc : Value} {params : Arguments} {vs : List Value} {ns : List Int} {R0 : Result → Shared → Prop}
    (X : (hd.heap_39 w.params).In (ghostOf s₁.heap tabs4)) (T : Top p loose mean mg mb (ghostOf s₁.heap tabs4)) (hT : TabsAt tabs4 s₁.heap) (C : CodeHd (ghostOf s₁.heap tabs4) 637 635)
    (ho : s₁.heap.get? fa = some o) (hdat : o.data = .func (Calls.docDef "law" params lawB.1.1 lawB.1.2 pm (.ref 637) doc)) (hlim : s₁.heap.NoLimit) (hcd : s₁.heap.CodeRec (.ref 637) "law")
    (hbind : ∀ x, bindArgs (Calls.docDef "law" params lawB.1.1 lawB.1.2 pm (.ref 637) doc) ⟨[x], []⟩ = pure [(("script" : Str), x)])
    (hl : (ghostOf s₁.heap tabs4).get? la = some { cls := .type "list", data := .seq vs.toArray }) (hI : IntsAre vs ns) (hn : ns.length ≤ 63) (hg : s₁.gens = #[])
    (htop : (prog.main.scope.names.lookup ("super" : Str)).isSome = false) (hfile : ((prog.main.file : Str) == ("/claim/cut.py" : Str)) = true)
    (hR : ∀ s', (∀ b o, (ghostOf s₁.heap tabs4).get? b = some o → s'.heap.get? b = some o) → s'.os = s₁.os → s'.gens = #[] → GrownAll tabs4 s'.heap → R0 (.ok (.ret (.bool true))) s') :
    codeAny (model prog w) callerA (.call (.ref fa) ⟨[.ref la], []⟩) R0 s₁ := by
  have e4 : E4 (W4 prog w s₁.heap mg mb s₁.os) w.params := E4_of X T htop hfile
  have TO : TopOK (W4 prog w s₁.heap mg mb s₁.os) 637 635 := top4 X T C
  refine call_cellsN_ret (binds := [(("script" : Str), .ref la)]) (by decide) ho hdat hlim hcd (hbind _) ?_ (by decide +kernel) (fun h₁ tk cells F N0 X0 => ?_)
  · intro x hx
    simp only [List.mem_cons, List.not_mem_nil, or_false] at hx
    subst hx
    exact .inl (by kernel_rfl)
  have hold : ∀ b, b < s₁.heap.objs.size → ∀ x, (x, b) ∉ cellsFrom (s₁.heap.objs.size + 1) lawB.1.2.names [] := fun b hb x hx => by
    have := cells_lo (lo := s₁.heap.objs.size + 1) lawB.1.2.names (s₁.heap.objs.size + 1) [] (fun q h => by cases h) (Nat.le_refl _) _ hx
    exact absurd (Nat.lt_of_lt_of_le hb (Nat.le_of_succ_le this)) (Nat.lt_irrefl _)
  have hnone : ∀ b, s₁.heap.objs.size ≤ b → (ghostOf s₁.heap tabs4).get? b = none := fun b hb => by
    refine ghost_fresh ?_
    cases e : s₁.heap.get? b with
    | none => rfl
    | some o => exact absurd (Heap.lt_size e) (Nat.not_lt.mpr hb)
  have htab : ∀ P ∈ ([358, 635] : List Addr), s₁.heap.get? P = some (tabObj #[]) := fun P hP => by
    simp only [List.mem_cons, List.not_mem_nil, or_false] at hP
    rcases hP with rfl | rfl
    · exact (hT (362, 358) (by simp)).2
    · exact (hT (637, 635) (by simp)).2
  have hcell : ∀ {x : Str} {c : Addr}, (cellsFrom (s₁.heap.objs.size + 1) lawB.1.2.names []).lookup x = some c → s₁.heap.objs.size + 1 ≤ c := fun {x c} h =>
    cells_lo (lo := s₁.heap.objs.size + 1) lawB.1.2.names (s₁.heap.objs.size + 1) [] (fun q h => by cases h) (Nat.le_refl _) _ (mem_of_lookup h)
  have FS : FnSc (fnSc lawB.1.2) [("script" : Str)] := fnSc_of (by kernel_rfl)
  have hbig : cStatics < s₁.heap.objs.size := by
    obtain ⟨mc, h, _⟩ := hlim
    obtain ⟨oc, hoc, _⟩ := NsOb.of h
    exact Heap.lt_size hoc
  obtain ⟨r, hpin⟩ := R.start (W := W4 prog w s₁.heap mg mb s₁.os) (X := fnSc lawB.1.2) (ps := [("script" : Str)]) (tabs := [358, 635]) (s := { s₁ with heap := h₁, toks := tk }) (L := s₁.heap.objs.size)
    (m := bindL (envOfC ("law" : Str) lawB.1.2 s₁.heap.objs.size fa (.ref 637)).kindOf [(("script" : Str), .ref la)] fun _ => none)
    (cm := bindC (envOfC ("law" : Str) lawB.1.2 s₁.heap.objs.size fa (.ref 637)).kindOf [(("script" : Str), .ref la)] fun _ => none)
    (cs := cellsFrom (s₁.heap.objs.size + 1) lawB.1.2.names []) (vals := [.lst (intsL ns)]) (ms := [.ref la]) FS rfl
    (fun b o e => F.keep b o (of_hideAll _ e)) F.ns (hnone _ (Nat.le_refl _))
    (fun P hP => ⟨hideAll_none _ (by simpa using hP), Nat.ne_of_lt (Heap.lt_size (htab P hP)), hold P (Heap.lt_size (htab P hP))⟩)
    (fun i x hi => by
      obtain ⟨c, hc⟩ := mem_lookup_isSome (cellsFrom_mem lawB.1.2.names (s₁.heap.objs.size + 1) [] x (.inl (FS.mem _ (List.mem_of_getElem? hi))))
      obtain ⟨oc, m1, m2⟩ := cells_look X0 (mem_of_lookup hc)
      have := hcell hc
      exact ⟨c, oc, hc, Nat.ne_of_gt this, hnone _ (Nat.le_of_succ_le this), (N0 _ m1).1, m2⟩)
    (fun x c h => hnone _ (Nat.le_of_succ_le (hcell h)))
    (cells_apart _ _ _ (fun q h => by cases h) List.Pairwise.nil)
    (fun i x hi => by
      unfold bindL
      rw [if_pos (kind4 _ _ _)]
      unfold bindL
      show (if x = ("script" : Str) then _ else _) = List.lookup x [(("script" : Str), Value.ref la)]
      rw [List.lookup_cons]
      by_cases h : x = ("script" : Str)
      · subst h; simp
      · rw [if_neg h]
        have : (x == ("script" : Str)) = false := by simp [h]
        rw [this]; rfl)
    (fun i x hi => by
      unfold bindC
      rw [if_pos (kind4 _ _ _)]
      unfold bindC
      show none = List.lookup x [(("script" : Str), Value.ref la)]
      rw [List.lookup_cons]
      have : (x == ("script" : Str)) = false := by simp [loc4 i hi]
      rw [this]; rfl)
    ⟨.ref la, [], rfl, ⟨la, vs.toArray, 0, rfl, hl, by simpa using intsRep hI⟩, rfl⟩ rfl hg
    (by
      have hk : ∀ b, b < s₁.heap.objs.size → b ∉ ([358, 635] : List Addr) → (Gh.start (W4 prog w s₁.heap mg mb s₁.os) [358, 635] (fnSc lawB.1.2) s₁.heap.objs.size (cellsFrom (s₁.heap.objs.size + 1) lawB.1.2.names []) h₁).kn b = ((ghostOf s₁.heap tabs4).get? b).map (Tag.z, ·) := fun b hb hn => by
        show (if b = _ then _ else _) = _
        rw [if_neg (Nat.ne_of_lt hb)]
        have : cellSlot (fnSc lawB.1.2).names (cellsFrom (s₁.heap.objs.size + 1) lawB.1.2.names []) b = none := by
          unfold cellSlot
          rw [List.findIdx?_eq_none_iff]
          intro q _
          simp only [Bool.and_eq_false_iff, beq_eq_false_iff_ne]
          right
          exact fun e => hold b hb _ (mem_of_lookup e)
        rw [this]
        dsimp only
        rw [if_neg hn]; rfl
      obtain ⟨mc, hNs, _⟩ := T.nolimit
      obtain ⟨oc, hoc, _⟩ := NsOb.of hNs
      refine ⟨⟨oc, by rw [hk _ hbig (by decide), hoc]; rfl⟩, fun t o e => ?_⟩
      rw [hk _ (Nat.lt_trans (by decide) hbig) (by decide)] at e
      obtain ⟨o', _, e2⟩ := Option.map_eq_some_iff.mp e
      cases e2; rfl)
  have P := R.startEnv (W := W4 prog w s₁.heap mg mb s₁.os) (X := fnSc lawB.1.2) (tabs := [358, 635]) (s := { s₁ with heap := h₁, toks := tk }) (env := envOfC ("law" : Str) lawB.1.2 s₁.heap.objs.size fa (.ref 637)) FS.kind rfl rfl rfl ⟨_, rfl⟩ rfl rfl
  obtain ⟨σ', hrun⟩ := law_true ns hn
  rw [init4] at r
  have hp635 := hpin 635 (by simp) _ (F.keep _ _ (htab 635 (by simp)))
  have hp358 := hpin 358 (by simp) _ (F.keep _ _ (htab 358 (by simp)))
  have := (lawW.2 e4 637 635 TO) (envOfC ("law" : Str) lawB.1.2 s₁.heap.objs.size fa (.ref 637)) (callerA.deeper (envOfC ("law" : Str) lawB.1.2 s₁.heap.objs.size fa (.ref 637))) _ _ _ _ _ P rfl ⟨_, rfl, rfl⟩ hp635 (aok4 (envOfC ("law" : Str) lawB.1.2 s₁.heap.objs.size fa (.ref 637))) r hrun
  refine wpAny_mono this (fun fl' s' ⟨G', r', hfl, lx, ps', hps⟩ => ?_) fun _ _ e => e
  cases fl' with
  | ret v =>
    have hv : v = .bool true := hfl
    subst hv
    refine hR s' (fun b o e => r'.old List.not_mem_nil e) r'.os r'.gens ⟨⟨#[], r'.sub _ _ _ (lx.pin _ _ (by decide) hp358)⟩, ⟨ps', r'.sub _ _ _ hps⟩, trivial⟩
  | _ => exact hfl.elim
end
end Mine
end

section
open PySem PySem.W PySem.Calls PyProof.Rows
set_option Elab.async false
set_option maxRecDepth 100000
set_option maxHeartbeats 8000000
set_option pp.deepTerms false
namespace Mine
theorem wellAll_ints {P : Params} {h : Heap} : ∀ {vs : List Value} {ns : List Int}, WellAll P h vs (ofPys (ns.map .int)) → IntsAre vs ns
  | _, [], x => by
    cases x; exact .nil
  | _, n :: ns, x => by
    cases x with
    | cons h1 h2 =>
      cases h1
      exact .cons _ _ (wellAll_ints h2)
theorem well_ints {P : Params} {h : Heap} {la : Addr} {ns : List Int} (x : Well P h (.ref la) (ofPy (.list (ns.map .int)))) : ∃ vs, h.get? la = some { cls := .type "list", data := .seq vs.toArray } ∧ IntsAre vs ns := by
  cases x with
  | list h1 h2 => exact ⟨_, h1, wellAll_ints h2⟩
end Mine
theorem PySem.Challenge.cw_bj0073_04_holds : PySem.Challenge.rw_bj0073_04.Holds :=
  hd (by
  k_fill
  intro w s₀ s₁ mg mb G Y fa o pm cd doc dV kV ho hd hcd hD hmg hg args vals as hpre hlay hrd hwl hlo
  have KX := km_in_of Y
  km_tabs Y
  have X := (Ground.X G).1
  have V := (Ground.X G).2
  refine Ground.open G ?_
  intro T B D TE TW
  try (refine guard_noD D (by decide +kernel) ?_; clear D)
  km_lay T hmg ho hd cd
  clear hmg
  wrow_args hpre hlay hrd hwl hlo
  all_goals (
    first | refine callC_kw (enter_call ?_) | refine enter_call ?_
    w_top on
    kn_posts)
  have he := Dflts.none hD rfl
  subst he
  have he := Dflts.noKw hD
  subst he
  rename_i ns _ _ _ _ _ _ _ la vs _ _ _ hW _ hI _ hlen _
  have hlen : ns.length ≤ 63 := by omega
  have X4 := ghost_K hT9 KX (by kernel_rfl)
  have T4 := ghost_top hT9 T
  obtain ⟨vs', hl, hI'⟩ := Mine.well_ints hW
  refine Mine.join4 X4 T4 hT9 (ghost_code hT9).2.1 ho (fd_plain hd) (Top.nolimit T) hcd (fun x => rfl) (ghost_get hT9 hl (fun q => by cases q)) hI' hlen hg (by decide +kernel) (by decide +kernel) ?_
  intro s' hk hos hgens hgr
  refine ⟨⟨.inl ⟨_, .bool true, [], rfl, fun _ => rfl, .bool true, ?_, ?_⟩, hk, hos, hgens⟩, hgr⟩
  · kernel_rfl
  · exact fun _ => ⟨List.nodup_nil, fun a h => nomatch h⟩)
end
