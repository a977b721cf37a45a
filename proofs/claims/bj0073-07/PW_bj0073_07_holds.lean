import PyProof.Rows.All
import Wide.All
import OpenK.AllK
import Wide.FinOn
import KE.KSuper
import PyProof.IsiBase
import PyProof.IsiTupleOf
import KE.KSortTup
import PyProof.Rows.SortStr
import PyProof.Rows.SortShellK
import PyProof.Rows.SeqMore
import PyProof.FactsAll.int_0
import PyProof.FactsAll.int_6
import PyProof.AutoIntG2
import PyProof.MinMaxWalk
import PyProof.WalkInts
import PyProof.FactsAll.tuple_2
import PyProof.TupleKey
import Lean
import PySem.Challenge.RW_bj0073_07
set_option Elab.async false
section
open PySem PySem.W PyProof.Rows
set_option Elab.async false
set_option maxRecDepth 20000
namespace Mine

abbrev Hd := Nat × Nat

inductive AV where
  | none
  | bool (b : Bool)
  | int (i : Int)
  | str (x : Str)
  | tup (l : List AV)
  | lst (l : List AV)
  | dct (l : List (Str × AV))
  | ref (n : Hd)
  | mc (v : Value)
  | inst (C : Addr) (n : Hd)
  | clo (k : Nat)
  | bm (f : Addr) (self : AV)
  | rng (a b c : Int)
  | view (k : Nat) (a : AV)

def viewName : Nat → String
  | 0 => "dict_keys"
  | 1 => "dict_items"
  | _ => "dict_values"

inductive AO where
  | list (l : List AV)
  | dictI (l : List (Int × AV))
  | dictS (l : List (Str × AV))
  | ctr (C : Addr) (l : List (Str × AV))
  | sset (l : List Str)
  | ns (l : List (Str × AV))

inductive Tag where
  | z | pin | tab
  | loc (lvl : Nat)
  | cel (lvl i : Nat)
  | obj (n : Hd)

structure GF where
  names : List (Str × NameKind)
  L : Addr
  cs : List (Str × Addr)

structure Gh where
  kn : Addr → Option (Tag × Obj)
  mu : Hd → Option Addr
  fr : List GF

/-- a closure's skeleton -/
structure Sk where
  name : Str
  qual : Str
  params : Arguments
  body : List Stmt
  scope : Scope

namespace Gh
def z (G : Gh) (a : Addr) : Option Obj := match G.kn a with
  | some (.z, o) => some o
  | _ => none
theorem z_iff {G : Gh} {a : Addr} {o : Obj} : G.z a = some o ↔ G.kn a = some (.z, o) := by
  unfold z
  split
  · rename_i o' h; rw [h]; simp
  · rename_i h
    constructor
    · intro e; cases e
    · intro e; exact absurd e (h o)

structure Le (G G' : Gh) : Prop where
  z : ∀ a o, G.kn a = some (.z, o) → G'.kn a = some (.z, o)
  pin : ∀ a o, G.kn a = some (.pin, o) → G'.kn a = some (.pin, o)
  mu : ∀ n a, G.mu n = some a → G'.mu n = some a
  fr : G'.fr = G.fr
theorem Le.refl (G : Gh) : G.Le G := ⟨fun _ _ h => h, fun _ _ h => h, fun _ _ h => h, rfl⟩
theorem Le.trans {G G' G'' : Gh} (a : G.Le G') (b : G'.Le G'') : G.Le G'' :=
  ⟨fun x o h => b.z x o (a.z x o h), fun x o h => b.pin x o (a.pin x o h), fun n x h => b.mu n x (a.mu n x h), b.fr.trans a.fr⟩
end Gh

/-- what Rep may look at -/
structure Vw where
  z : Addr → Option Obj
  mu : Hd → Option Addr
  clo : Nat → Obj → Prop
  dob : Obj → List (Str × Value) → Prop

structure Vw.Le (V V' : Vw) : Prop where
  z : ∀ a o, V.z a = some o → V'.z a = some o
  mu : ∀ n a, V.mu n = some a → V'.mu n = some a
  clo : ∀ k o, V.clo k o → V'.clo k o
  dob : ∀ o l, V.dob o l → V'.dob o l

mutual
def RepV (V : Vw) : AV → Value → Prop
  | .none, v => v = .none
  | .bool b, v => v = .bool b
  | .int i, v => ∃ t, v = .int i t
  | .str x, v => ∃ t, v = .str x t
  | .tup l, v => ∃ (a : Addr) (vs : Array Value) (_ : Unit), v = .ref a ∧ V.z a = some ⟨.type "tuple", none, .seq vs 0, #[]⟩ ∧ RepVs V l vs.toList
  | .lst l, v => ∃ a vs n, v = .ref a ∧ V.z a = some ⟨.type "list", none, .seq vs n, #[]⟩ ∧ RepVs V l vs.toList
  | .dct l, v => ∃ a o kvs, v = .ref a ∧ (a == sysModules) = false ∧ V.z a = some o ∧ V.dob o kvs ∧ RepVd V l kvs
  | .ref n, v => ∃ a, v = .ref a ∧ V.mu n = some a
  | .mc w, v => v = w
  | .inst C n, v => ∃ a d, v = .ref a ∧ V.mu n = some d ∧ V.z a = some ⟨.ref C, some d, .plain, #[]⟩
  | .clo k, v => ∃ a o, v = .ref a ∧ V.z a = some o ∧ V.clo k o
  | .bm f self, v => ∃ a sv, v = .ref a ∧ V.z a = some ⟨.type "method", none, .fields #[.ref f, sv], #[]⟩ ∧ RepV V self sv
  | .rng a b c, v => ∃ x t u w, v = .ref x ∧ V.z x = some ⟨.type "range", none, .fields #[.int a t, .int b u, .int c w], #[]⟩
  | .view k a, v => ∃ x dv, v = .ref x ∧ V.z x = some ⟨.type (viewName k), none, .fields #[dv], #[]⟩ ∧ RepV V a dv
def RepVs (V : Vw) : List AV → List Value → Prop
  | [], vs => vs = []
  | a :: l, vs => ∃ v r, vs = v :: r ∧ RepV V a v ∧ RepVs V l r
def RepVd (V : Vw) : List (Str × AV) → List (Str × Value) → Prop
  | [], es => es = []
  | (x, a) :: l, es => ∃ v r, es = (x, v) :: r ∧ RepV V a v ∧ RepVd V l r
end

mutual
theorem RepV.mono {V V' : Vw} (h : V.Le V') : ∀ (a : AV) (v : Value), RepV V a v → RepV V' a v
  | .none, _, r => r
  | .bool _, _, r => r
  | .int _, _, r => r
  | .str _, _, r => r
  | .tup l, _, ⟨a, vs, n, e, hz, hr⟩ => ⟨a, vs, n, e, h.z _ _ hz, RepVs.mono h l _ hr⟩
  | .lst l, _, ⟨a, vs, n, e, hz, hr⟩ => ⟨a, vs, n, e, h.z _ _ hz, RepVs.mono h l _ hr⟩
  | .dct l, _, ⟨a, o, kvs, e, hs, hz, hd, hr⟩ => ⟨a, o, kvs, e, hs, h.z _ _ hz, h.dob _ _ hd, RepVd.mono h l _ hr⟩
  | .ref _, _, ⟨a, e, hm⟩ => ⟨a, e, h.mu _ _ hm⟩
  | .mc _, _, r => r
  | .inst _ _, _, ⟨a, d, e, hm, hz⟩ => ⟨a, d, e, h.mu _ _ hm, h.z _ _ hz⟩
  | .clo _, _, ⟨a, o, e, hz, hc⟩ => ⟨a, o, e, h.z _ _ hz, h.clo _ _ hc⟩
  | .bm _ s, _, ⟨a, sv, e, hz, hr⟩ => ⟨a, sv, e, h.z _ _ hz, RepV.mono h s _ hr⟩
  | .rng _ _ _, _, ⟨x, t, u, w, e, hz⟩ => ⟨x, t, u, w, e, h.z _ _ hz⟩
  | .view k a, _, ⟨x, dv, e, hz, hr⟩ => ⟨x, dv, e, h.z _ _ hz, RepV.mono h a _ hr⟩
theorem RepVs.mono {V V' : Vw} (h : V.Le V') : ∀ (l : List AV) (vs : List Value), RepVs V l vs → RepVs V' l vs
  | [], _, r => r
  | a :: l, _, ⟨v, r, e, h1, h2⟩ => ⟨v, r, e, RepV.mono h a _ h1, RepVs.mono h l _ h2⟩
theorem RepVd.mono {V V' : Vw} (h : V.Le V') : ∀ (l : List (Str × AV)) (es : List (Str × Value)), RepVd V l es → RepVd V' l es
  | [], _, r => r
  | (_, a) :: l, _, ⟨v, r, e, h1, h2⟩ => ⟨v, r, e, RepV.mono h a _ h1, RepVd.mono h l _ h2⟩
end

abbrev Frm := List (Option AV)

structure St where
  fs : List Frm
  st : Hd → Option AO
  cnt : Nat

abbrev M (α : Type) := St → Option (α × St)
def M.pure {α} (a : α) : M α := fun σ => some (a, σ)
def M.bind {α β} (f : M α) (g : α → M β) : M β := fun σ => match f σ with
  | none => none
  | some (a, σ') => g a σ'
def M.fail {α} : M α := fun _ => none

inductive AFl where
  | next | brk | cont
  | ret (v : AV)

/-- the fixed surroundings -/
structure Wd where
  prog : Program
  w : World
  H0 : Heap
  TB : List Addr
  K : Frag
  mg : Str → Option Value
  mb : Str → Option Value
  os : OsState
  clos : Nat → Option Sk
  bnames : List (Str × NameKind)

abbrev Wd.M (W : Wd) : Model := model W.prog W.w


def NsOb (o : Obj) (m : Str → Option Value) : Prop := ∃ es ep, o.data = .dict es ep ∧ StrKeys es ∧ ∀ name, nsFind es name = m name
theorem NsOb.ns {h : Heap} {a : Addr} {o : Obj} {m} (x : NsOb o m) (e : h.get? a = some o) : h.Ns a m :=
  let ⟨es, ep, a1, a2, a3⟩ := x; ⟨o, es, ep, e, a1, a2, a3⟩
theorem NsOb.of {h : Heap} {a : Addr} {m} (x : h.Ns a m) : ∃ o, h.get? a = some o ∧ NsOb o m :=
  let ⟨o, es, ep, e, a1, a2, a3⟩ := x; ⟨o, e, es, ep, a1, a2, a3⟩

structure Wd.Ok (W : Wd) : Prop where
  kin : ∀ a o, W.K.lookup a = some o → a ∉ W.TB ∧ W.H0.get? a = some o
  lim : ∃ mc o, W.H0.get? cStatics = some o ∧ cStatics ∉ W.TB ∧ NsOb o mc ∧ mc "sys.recursionlimit" = none
  glob : ∃ o, W.H0.get? mainGlobals = some o ∧ mainGlobals ∉ W.TB ∧ NsOb o W.mg
  bui : ∃ o, W.H0.get? builtinsNs = some o ∧ builtinsNs ∉ W.TB ∧ NsOb o W.mb

def DictOb {prog : Program} {w : World} {κ : Type} [DecidableEq κ] (knd : KeyKind prog w κ) (o : Obj) (kvs : List (κ × Value)) : Prop :=
  ∃ es ep, o.ExactDict ∧ o.data = .dict es ep ∧ KeysOf knd es ∧ Pairs knd es.toList kvs ∧ (kvs.map (·.1)).Nodup
theorem DictOb.dictOf {prog : Program} {w : World} {κ : Type} [DecidableEq κ] {knd : KeyKind prog w κ} {o : Obj} {kvs : List (κ × Value)} {h : Heap} {a : Addr} (x : DictOb knd o kvs) (e : h.get? a = some o) : h.DictOf knd a kvs := by
  obtain ⟨es, ep, a1, a2, a3, a4, a5⟩ := x
  exact ⟨o, es, ep, e, a1, a2, a3, a4, a5⟩
theorem DictOb.of {prog : Program} {w : World} {κ : Type} [DecidableEq κ] {knd : KeyKind prog w κ} {kvs : List (κ × Value)} {h : Heap} {a : Addr} (x : h.DictOf knd a kvs) : ∃ o, h.get? a = some o ∧ DictOb knd o kvs := by
  obtain ⟨o, es, ep, e, a1, a2, a3, a4, a5⟩ := x
  exact ⟨o, e, es, ep, a1, a2, a3, a4, a5⟩

/-- closures made by the bottom frame -/
def cloAt (W : Wd) (z : Addr → Option Obj) (fr : List GF) (k : Nat) (o : Obj) : Prop :=
  ∃ (sk : Sk) (fd : FuncData), W.clos k = some sk ∧ o.cls = .type "function" ∧ o.data = .func fd ∧ True ∧ fd.params = sk.params ∧ fd.body = .stmts sk.body ∧ fd.scope = sk.scope ∧
    fd.globals = mainGlobals ∧ fd.defaults = .none ∧ fd.kwdefaults = .none ∧ fd.builtins = builtinsNs ∧
    (∃ c oc vs t, fd.code = .ref c ∧ z c = some oc ∧ oc.data = .fields vs ∧ vs[1]? = some (.str fd.qualname t)) ∧
    (∃ gf, fr.getLast? = some gf ∧ gf.names = W.bnames ∧ ∀ x, (x, NameKind.free) ∈ sk.scope.names → ∃ c, fd.closure.lookup x = some c ∧ gf.cs.lookup x = some c)

theorem cloAt.mono {W : Wd} {z z' : Addr → Option Obj} {fr : List GF} {k : Nat} {o : Obj} (h : cloAt W z fr k o) (hz : ∀ a o, z a = some o → z' a = some o) : cloAt W z' fr k o := by
  obtain ⟨sk, fd, h1, h2, h3, h4, h5, h6, h7, h8, h9, h10, h11, ⟨c, oc, vs, t, i1, i2, i3, i4⟩, h13⟩ := h
  exact ⟨sk, fd, h1, h2, h3, h4, h5, h6, h7, h8, h9, h10, h11, ⟨c, oc, vs, t, i1, hz _ _ i2, i3, i4⟩, h13⟩

def Gh.vw (G : Gh) (W : Wd) : Vw := ⟨G.z, G.mu, fun k o => cloAt W G.z G.fr k o, fun o l => DictOb (strKind W.prog W.w) o l⟩

theorem Gh.Le.zz {G G' : Gh} (h : G.Le G') {a : Addr} {o : Obj} (e : G.z a = some o) : G'.z a = some o := z_iff.mpr (h.z _ _ (z_iff.mp e))
theorem Gh.Le.vw {G G' : Gh} (h : G.Le G') (W : Wd) : (G.vw W).Le (G'.vw W) :=
  ⟨fun _ _ e => h.zz e, h.mu, fun k o c => by
    show cloAt W G'.z G'.fr k o
    rw [h.fr]; exact c.mono fun _ _ e => h.zz e, fun _ _ e => e⟩

abbrev Rep (W : Wd) (G : Gh) : AV → Value → Prop := RepV (G.vw W)
abbrev Reps (W : Wd) (G : Gh) : List AV → List Value → Prop := RepVs (G.vw W)
theorem Rep.le {W : Wd} {G G' : Gh} {a : AV} {v : Value} (r : Rep W G a v) (h : G.Le G') : Rep W G' a v := RepV.mono (h.vw W) a v r
theorem Reps.le {W : Wd} {G G' : Gh} {a : List AV} {v : List Value} (r : Reps W G a v) (h : G.Le G') : Reps W G' a v := RepVs.mono (h.vw W) a v r

def slotRep (V : Vw) (fv : Option (Option AV)) (mv : Option Value) : Prop := ∀ v, fv = some (some v) → ∃ x, mv = some x ∧ RepV V v x
theorem slotRep.mono {V V' : Vw} {fv mv} (h : slotRep V fv mv) (l : V.Le V') : slotRep V' fv mv := fun v e => let ⟨x, a, b⟩ := h v e; ⟨x, a, RepV.mono l _ _ b⟩

structure FrameOK (V : Vw) (kn : Addr → Option (Tag × Obj)) (lvl : Nat) (gf : GF) (f : Frm) : Prop where
  nd : (gf.names.map (·.1)).Nodup
  len : f.length = gf.names.length
  loc : ∃ o m, kn gf.L = some (.loc lvl, o) ∧ NsOb o m ∧ ∀ (i : Nat) x, gf.names[i]? = some (x, .local) → slotRep V f[i]? (m x)
  cel : ∀ (i : Nat) x, gf.names[i]? = some (x, .cell) → ∃ c o cv, gf.cs.lookup x = some c ∧ kn c = some (.cel lvl i, o) ∧ o.data = .cell cv ∧ slotRep V f[i]? cv

theorem FrameOK.mono {V V' : Vw} {kn kn' : Addr → Option (Tag × Obj)} {lvl : Nat} {gf : GF} {f : Frm} (h : FrameOK V kn lvl gf f) (l : V.Le V')
    (hk : ∀ a t o, kn a = some (t, o) → (t = .loc lvl ∨ ∃ i, t = .cel lvl i) → kn' a = some (t, o)) : FrameOK V' kn' lvl gf f := by
  obtain ⟨nd, ln, ⟨o, m, h1, h2, h3⟩, h4⟩ := h
  refine ⟨nd, ln, ⟨o, m, hk _ _ _ h1 (.inl rfl), h2, fun i x e => (h3 i x e).mono l⟩, fun i x e => ?_⟩
  obtain ⟨c, o, cv, a1, a2, a3, a4⟩ := h4 i x e
  exact ⟨c, o, cv, a1, hk _ _ _ a2 (.inr ⟨i, rfl⟩), a3, a4.mono l⟩

def FramesOK (V : Vw) (kn : Addr → Option (Tag × Obj)) : List GF → List Frm → Prop
  | [], fs => fs = []
  | gf :: gs, fs => ∃ f r, fs = f :: r ∧ FrameOK V kn gs.length gf f ∧ FramesOK V kn gs r
theorem FramesOK.mono {V V' : Vw} {kn kn' : Addr → Option (Tag × Obj)} (l : V.Le V') : ∀ {gs : List GF} {fs : List Frm}, FramesOK V kn gs fs →
    (∀ a t o, kn a = some (t, o) → (∃ lvl, lvl < gs.length ∧ (t = .loc lvl ∨ ∃ i, t = .cel lvl i)) → kn' a = some (t, o)) → FramesOK V' kn' gs fs
  | [], _, h, _ => h
  | gf :: gs, _, ⟨f, r, e, h1, h2⟩, hk => ⟨f, r, e, h1.mono l fun a t o q w => hk a t o q ⟨gs.length, by simp, w⟩, FramesOK.mono l h2 fun a t o q ⟨lv, w1, w2⟩ => hk a t o q ⟨lv, by simp; omega, w2⟩⟩

def RepKV {κ : Type} (V : Vw) : List (κ × AV) → List (κ × Value) → Prop
  | [], kvs => kvs = []
  | (k, a) :: l, kvs => ∃ v r, kvs = (k, v) :: r ∧ RepV V a v ∧ RepKV V l r
theorem RepKV.mono {κ : Type} {V V' : Vw} (h : V.Le V') : ∀ {l : List (κ × AV)} {kvs}, RepKV V l kvs → RepKV V' l kvs
  | [], _, r => r
  | (_, a) :: _, _, ⟨v, r, e, h1, h2⟩ => ⟨v, r, e, RepV.mono h a _ h1, RepKV.mono h h2⟩

/-- an instance's own dict, entry by entry -/
def NsE (V : Vw) : List (Str × AV) → List DictEntry → Prop
  | [], es => es = []
  | (x, a) :: l, es => ∃ h t v r, es = ⟨h, .str x t, v⟩ :: r ∧ RepV V a v ∧ NsE V l r
theorem NsE.mono {V V' : Vw} (h : V.Le V') : ∀ {l : List (Str × AV)} {es}, NsE V l es → NsE V' l es
  | [], _, r => r
  | (_, a) :: _, _, ⟨x, t, v, r, e, h1, h2⟩ => ⟨x, t, v, r, e, RepV.mono h a _ h1, NsE.mono h h2⟩

def CtrOb (W : Wd) (V : Vw) (C : Addr) (ob : Obj) (kvs : List (Str × Value)) : Prop :=
  ∃ dx od es ep m, ob = ⟨.ref C, some dx, .dict es ep, #[]⟩ ∧ V.z dx = some od ∧ NsOb od m ∧ (∀ x, m x = none) ∧ KeysOf (strKind W.prog W.w) es ∧ Pairs (strKind W.prog W.w) es.toList kvs ∧ (kvs.map (·.1)).Nodup
theorem CtrOb.mono {W : Wd} {V V' : Vw} (h : V.Le V') {C ob kvs} (r : CtrOb W V C ob kvs) : CtrOb W V' C ob kvs :=
  let ⟨dx, od, es, ep, m, h1, h2, h3⟩ := r; ⟨dx, od, es, ep, m, h1, h.z _ _ h2, h3⟩

def ObjOK (W : Wd) (V : Vw) : AO → Obj → Prop
  | .list l, ob => ∃ vs n, ob = ⟨.type "list", none, .seq vs n, #[]⟩ ∧ RepVs V l vs.toList
  | .dictI l, ob => ∃ kvs, DictOb (intKind W.prog W.w) ob kvs ∧ RepKV V l kvs
  | .dictS l, ob => ∃ kvs, DictOb (strKind W.prog W.w) ob kvs ∧ RepKV V l kvs
  | .ctr C l, ob => ∃ kvs, CtrOb W V C ob kvs ∧ RepKV V l kvs
  | .sset _, _ => False
  | .ns l, ob => ∃ es n, ob = dictOf es n ∧ NsE V l es
theorem ObjOK.mono {W : Wd} {V V' : Vw} (h : V.Le V') : ∀ {o : AO} {ob : Obj}, ObjOK W V o ob → ObjOK W V' o ob
  | .list _, _, ⟨vs, n, e, r⟩ => ⟨vs, n, e, RepVs.mono h _ _ r⟩
  | .dictI _, _, ⟨kvs, e, r⟩ => ⟨kvs, e, r.mono h⟩
  | .dictS _, _, ⟨kvs, e, r⟩ => ⟨kvs, e, r.mono h⟩
  | .ctr _ _, _, ⟨kvs, e, r⟩ => ⟨kvs, e.mono h, r.mono h⟩
  | .sset _, _, h => h.elim
  | .ns _, _, ⟨es, n, e, r⟩ => ⟨es, n, e, r.mono h⟩

def SysK (kn : Addr → Option (Tag × Obj)) : Prop := (∃ o, kn cStatics = some (.z, o)) ∧ ∀ t o, kn sysModules = some (t, o) → t = .z
structure Inv (W : Wd) (G : Gh) (σ : St) : Prop where
  base : ∀ b o, b ∉ W.TB → W.H0.get? b = some o → G.kn b = some (.z, o)
  frames : FramesOK (G.vw W) G.kn G.fr σ.fs
  objs : ∀ n o, σ.st n = some o → ∃ a ob, G.mu n = some a ∧ G.kn a = some (.obj n, ob) ∧ ObjOK W (G.vw W) o ob
  cnt : ∀ n a, G.mu n = some a → n.2 < σ.cnt
  sys : SysK G.kn

structure R (W : Wd) (G : Gh) (σ : St) (s : Shared) : Prop where
  inv : Inv W G σ
  sub : ∀ a t o, G.kn a = some (t, o) → s.heap.get? a = some o
  os : s.os = W.os
  gens : s.gens = #[]

def Gh.set (G : Gh) (a : Addr) (t : Tag) (o : Obj) : Gh := { G with kn := fun b => if b = a then some (t, o) else G.kn b }
theorem Gh.set_fr {G : Gh} {a t o} : (G.set a t o).fr = G.fr := rfl
theorem Gh.set_mu {G : Gh} {a t o} : (G.set a t o).mu = G.mu := rfl
theorem Gh.set_self {G : Gh} {a t o} : (G.set a t o).kn a = some (t, o) := if_pos rfl
theorem Gh.set_ne {G : Gh} {a b t o} (h : b ≠ a) : (G.set a t o).kn b = G.kn b := if_neg h
theorem Gh.set_keep {G : Gh} {a t o b t' o'} (e : G.kn b = some (t', o')) (h : ∀ t₀ o₀, G.kn a = some (t₀, o₀) → t₀ ≠ t') : (G.set a t o).kn b = some (t', o') := by
  rw [Gh.set_ne, e]
  rintro rfl
  exact h _ _ e rfl
theorem Gh.le_set {G : Gh} {a t o} (h : ∀ t₀ o₀, G.kn a = some (t₀, o₀) → t₀ ≠ .z ∧ t₀ ≠ .pin) : G.Le (G.set a t o) :=
  ⟨fun _ _ e => Gh.set_keep e fun t₀ o₀ q => (h t₀ o₀ q).1, fun _ _ e => Gh.set_keep e fun t₀ o₀ q => (h t₀ o₀ q).2, fun _ _ e => e, rfl⟩

theorem SysK.turn {G : Gh} {a : Addr} {t t₀ : Tag} {o o₀ : Obj} (h : SysK G.kn) (hk : G.kn a = some (t₀, o₀)) (h0 : t₀ ≠ .z) : SysK (G.set a t o).kn := by
  obtain ⟨⟨oc, hc⟩, hs⟩ := h
  refine ⟨⟨oc, Gh.set_keep hc fun t₁ o₁ e => by rw [hk] at e; cases e; exact h0⟩, fun t' o' e => ?_⟩
  by_cases ha : sysModules = a
  · subst ha; exact absurd (hs _ _ hk) h0
  · rw [Gh.set_ne ha] at e; exact hs _ _ e
theorem SysK.new {G : Gh} {a : Addr} {t : Tag} {o : Obj} (h : SysK G.kn) (hk : G.kn a = none) (hn : a ≠ sysModules ∨ t = .z) : SysK (G.set a t o).kn := by
  obtain ⟨⟨oc, hc⟩, hs⟩ := h
  refine ⟨⟨oc, Gh.set_keep hc fun t₁ o₁ e => by rw [hk] at e; cases e⟩, fun t' o' e => ?_⟩
  by_cases ha : sysModules = a
  · subst ha
    rw [Gh.set_self] at e; cases e
    exact hn.elim (fun q => absurd rfl q) id
  · rw [Gh.set_ne ha] at e; exact hs _ _ e
theorem R.big {W : Wd} {G : Gh} {σ : St} {s : Shared} (r : R W G σ s) : s.heap.objs.size ≠ sysModules := by
  obtain ⟨oc, hc⟩ := r.inv.sys.1
  have := Heap.lt_size (r.sub _ _ _ hc)
  intro e
  rw [e] at this
  exact absurd this (by decide)
/-- the heap turned where the ghost knows of nothing -/
theorem R.keep {W : Wd} {G : Gh} {σ : St} {s : Shared} (r : R W G σ s) {h' : Heap} {tk : Nat} (hk : ∀ b o, s.heap.get? b = some o → h'.get? b = some o) : R W G σ { s with heap := h', toks := tk } :=
  ⟨r.inv, fun a t o e => hk _ _ (r.sub a t o e), r.os, r.gens⟩
theorem R.tok {W : Wd} {G : Gh} {σ : St} {s : Shared} (r : R W G σ s) {tk : Nat} : R W G σ { s with toks := tk } := ⟨r.inv, r.sub, r.os, r.gens⟩
theorem R.fresh {W : Wd} {G : Gh} {σ : St} {s : Shared} (r : R W G σ s) : G.kn s.heap.objs.size = none := by
  cases e : G.kn s.heap.objs.size with
  | none => rfl
  | some p => exact absurd (Heap.lt_size (r.sub _ p.1 p.2 e)) (Nat.lt_irrefl _)

theorem Inv.set {W : Wd} {G : Gh} {σ : St} {a : Addr} {t : Tag} {o : Obj} (i : Inv W G σ) (h : ∀ t₀ o₀, G.kn a = some (t₀, o₀) → t₀ = .tab) (hn : a ≠ sysModules ∨ t = .z) : Inv W (G.set a t o) σ := by
  have le : G.Le (G.set a t o) := Gh.le_set fun t₀ o₀ e => by rw [h _ _ e]; exact ⟨Tag.noConfusion, Tag.noConfusion⟩
  refine ⟨fun b o hb e => le.z _ _ (i.base b o hb e), ?_, fun n o e => ?_, i.cnt, by
    cases e : G.kn a with
    | none => exact i.sys.new e hn
    | some p => exact i.sys.turn (t₀ := p.1) (o₀ := p.2) e (by rw [h _ _ e]; exact Tag.noConfusion)⟩
  · exact i.frames.mono (le.vw W) fun b t' o' e ⟨_, _, q⟩ => Gh.set_keep e fun t₀ o₀ w => by
      rw [h _ _ w]; rcases q with rfl | ⟨_, rfl⟩ <;> exact Tag.noConfusion
  · obtain ⟨b, ob, h1, h2, h3⟩ := i.objs n o e
    exact ⟨b, ob, h1, Gh.set_keep h2 fun t₀ o₀ w => by rw [h _ _ w]; exact Tag.noConfusion, h3.mono (le.vw W)⟩

/-- a new object at the heap's end -/
theorem R.alloc {W : Wd} {G : Gh} {σ : St} {s : Shared} (r : R W G σ s) (t : Tag) {o : Obj} (hf : o.isFreed = false) {tk : Nat} :
    R W (G.set s.heap.objs.size t o) σ { s with heap := s.heap.push o, toks := tk } ∧ G.Le (G.set s.heap.objs.size t o) := by
  have hn := r.fresh
  refine ⟨⟨r.inv.set (fun t₀ o₀ e => by rw [hn] at e; cases e) (.inl r.big), fun b t' o' e => ?_, r.os, r.gens⟩, Gh.le_set (fun t₀ o₀ e => by rw [hn] at e; cases e)⟩
  by_cases hb : b = s.heap.objs.size
  · subst hb
    rw [Gh.set_self] at e
    cases e
    exact Heap.get?_push_size _ hf
  · rw [Gh.set_ne hb] at e
    exact Heap.get?_push_of_some _ (r.sub _ _ _ e)

structure AOK (n : Nat) (A : Around) : Prop where
  hd : A.handled = none
  dep : A.depth + 8 * n ≤ 900
  un : A.units + 100 * n ≤ 9000

/-- what stands behind a step -/
def Post (W : Wd) {α β : Type} (rep : Gh → β → α → Prop) (G : Gh) (σ' : St) (b : β) : α → Shared → Prop := fun a s' => ∃ G', G.Le G' ∧ R W G' σ' s' ∧ rep G' b a

/-- facts that stay -/
structure Fa where
  p : Env → Gh → Prop
  mono : ∀ {env G G'}, p env G → G.Le G' → p env G'

def Sim (W : Wd) {α β : Type} (rep : Gh → β → α → Prop) (P : Fa) (n : Nat) (t : Env → Sem α) (f : M β) : Prop :=
  ∀ env A σ b σ' G s, P.p env G → AOK n A → R W G σ s → f σ = some (b, σ') → wpAny W.M A (t env) (Post W rep G σ' b) (fun _ _ => False) s

theorem Post.le {W : Wd} {α β : Type} {rep : Gh → β → α → Prop} {G G' : Gh} {σ' : St} {b : β} {a : α} {s' : Shared} (l : G.Le G') (h : Post W rep G' σ' b a s') : Post W rep G σ' b a s' :=
  let ⟨G'', a1, a2, a3⟩ := h; ⟨G'', l.trans a1, a2, a3⟩

end Mine
end

section
open PySem PySem.W PySem.Calls PyProof.Rows
set_option Elab.async false
set_option maxRecDepth 20000
namespace Mine

/-- a block's static scope -/
structure Sc where
  scope : Scope
  names : List (Str × NameKind)
  up : List (Str × (Nat × Nat))
  bot : List (Str × Nat)

structure EnvOK (X : Sc) (env : Env) (G : Gh) : Prop where
  scope : env.scope = X.scope
  kind : X.scope.kind = .function
  glob : env.globals = mainGlobals
  bui : env.builtins = builtinsNs
  frame : ∃ f, env.frame = some f
  own : ∃ gf rest, G.fr = gf :: rest ∧ gf.names = X.names ∧ gf.L = env.locals ∧ ∀ x, (x, NameKind.cell) ∈ X.names → env.cells.lookup x = gf.cs.lookup x
  up : ∀ x k i, (x, (k, i)) ∈ X.up → ∃ gk, G.fr[k]? = some gk ∧ gk.names[i]? = some (x, .cell) ∧ env.cells.lookup x = gk.cs.lookup x
  bot : ∀ x i, (x, i) ∈ X.bot → ∃ gk, G.fr.getLast? = some gk ∧ gk.names[i]? = some (x, .cell) ∧ env.cells.lookup x = gk.cs.lookup x

theorem EnvOK.mono {X : Sc} {env : Env} {G G' : Gh} (h : EnvOK X env G) (l : G.Le G') : EnvOK X env G' := by
  obtain ⟨a, b, c, d, e0, e, f, g⟩ := h
  refine ⟨a, b, c, d, e0, ?_, ?_, ?_⟩
  · rw [l.fr]; exact e
  · rw [l.fr]; exact f
  · rw [l.fr]; exact g

def ldv (k i : Nat) : M AV := fun σ => match σ.fs[k]? with
  | some f => (match f[i]? with
    | some (some v) => some (v, σ)
    | _ => none)
  | none => none
def ldb (i : Nat) : M AV := fun σ => match σ.fs.getLast? with
  | some f => (match f[i]? with
    | some (some v) => some (v, σ)
    | _ => none)
  | none => none
def stv (i : Nat) (v : AV) : M Unit := fun σ => match σ.fs with
  | f :: r => some ((), { σ with fs := f.set i (some v) :: r })
  | [] => none

theorem FramesOK.length {V : Vw} {kn : Addr → Option (Tag × Obj)} : ∀ {gs : List GF} {fs : List Frm}, FramesOK V kn gs fs → fs.length = gs.length
  | [], _, h => by cases h; rfl
  | _ :: _, _, ⟨_, _, e, _, h⟩ => by subst e; simp [FramesOK.length h]
theorem FramesOK.get {V : Vw} {kn : Addr → Option (Tag × Obj)} : ∀ {gs : List GF} {fs : List Frm}, FramesOK V kn gs fs → ∀ {k : Nat} {gk}, gs[k]? = some gk → ∃ f lvl, fs[k]? = some f ∧ FrameOK V kn lvl gk f
  | [], _, _, k, _, h => by simp at h
  | g :: gs, _, ⟨f, r, e, h1, h2⟩, 0, gk, h => by subst e; simp at h; subst h; exact ⟨f, _, rfl, h1⟩
  | g :: gs, _, ⟨f, r, e, h1, h2⟩, k + 1, gk, h => by subst e; simp at h; simpa using FramesOK.get h2 h

theorem R.ns {W : Wd} {G : Gh} {σ : St} {s : Shared} (r : R W G σ s) {a : Addr} {t : Tag} {o : Obj} {m : Str → Option Value} (h : G.kn a = some (t, o)) (x : NsOb o m) : s.heap.Ns a m := x.ns (r.sub _ _ _ h)
theorem R.z {W : Wd} {G : Gh} {σ : St} {s : Shared} (r : R W G σ s) {a : Addr} {o : Obj} (h : G.z a = some o) : s.heap.get? a = some o := r.sub _ _ _ (Gh.z_iff.mp h)
theorem R.old {W : Wd} {G : Gh} {σ : St} {s : Shared} (r : R W G σ s) {b : Addr} {o : Obj} (hb : b ∉ W.TB) (e : W.H0.get? b = some o) : s.heap.get? b = some o := r.sub _ _ _ (r.inv.base b o hb e)
theorem R.kin {W : Wd} {G : Gh} {σ : St} {s : Shared} (r : R W G σ s) (ok : W.Ok) : W.K.In s.heap := fun a o e => r.old (ok.kin a o e).1 (ok.kin a o e).2
theorem R.lim {W : Wd} {G : Gh} {σ : St} {s : Shared} (r : R W G σ s) (ok : W.Ok) : s.heap.NoLimit := by
  obtain ⟨mc, o, h1, h2, h3, h4⟩ := ok.lim
  exact ⟨mc, h3.ns (r.old h2 h1), h4⟩
theorem R.gl {W : Wd} {G : Gh} {σ : St} {s : Shared} (r : R W G σ s) (ok : W.Ok) : s.heap.Ns mainGlobals W.mg := by
  obtain ⟨o, h1, h2, h3⟩ := ok.glob
  exact h3.ns (r.old h2 h1)
theorem R.bu {W : Wd} {G : Gh} {σ : St} {s : Shared} (r : R W G σ s) (ok : W.Ok) : s.heap.Ns builtinsNs W.mb := by
  obtain ⟨o, h1, h2, h3⟩ := ok.bui
  exact h3.ns (r.old h2 h1)

def EF (X : Sc) : Fa := ⟨fun env G => EnvOK X env G, fun h l => h.mono l⟩

theorem Post.now {W : Wd} {α β : Type} {rep : Gh → β → α → Prop} {G : Gh} {σ' : St} {b : β} {a : α} {s' : Shared} (r : R W G σ' s') (h : rep G b a) : Post W rep G σ' b a s' := ⟨G, .refl _, r, h⟩

section
variable {W : Wd} {X : Sc} {n : Nat}

theorem Sim.load_local {x : Str} {i : Nat} (hi : X.names[i]? = some (x, .local)) (hl : X.scope.names.lookup x = some .local) :
    Sim W (Rep W) (EF X) n (fun env => loadName env x) (ldv 0 i) := by
  intro env A σ b σ' G s P hA r hf
  obtain ⟨gf, rest, hfr, hn, hL, hc⟩ := P.own
  obtain ⟨f, lvl, h1, h2⟩ := r.inv.frames.get (k := 0) (gk := gf) (by rw [hfr]; rfl)
  obtain ⟨o, m, k1, k2, k3⟩ := h2.loc
  unfold ldv at hf
  rw [h1] at hf
  dsimp only at hf
  split at hf
  · rename_i v hv
    cases hf
    obtain ⟨mv, e1, e2⟩ := k3 i x (by rw [hn]; exact hi) _ hv
    refine wpAny_loadName_local (m := m) (by rw [P.scope]; exact P.kind) (by unfold Env.kindOf; rw [P.scope]; exact hl) ?_ e1 (.now r e2)
    rw [← hL]; exact r.ns k1 k2
  · cases hf

theorem Sim.load_cell {x : Str} {i : Nat} (hi : X.names[i]? = some (x, .cell)) (hl : X.scope.names.lookup x = some .cell) :
    Sim W (Rep W) (EF X) n (fun env => loadName env x) (ldv 0 i) := by
  intro env A σ b σ' G s P hA r hf
  obtain ⟨gf, rest, hfr, hn, hL, hc⟩ := P.own
  obtain ⟨f, lvl, h1, h2⟩ := r.inv.frames.get (k := 0) (gk := gf) (by rw [hfr]; rfl)
  obtain ⟨c, o, cv, k1, k2, k3, k4⟩ := h2.cel i x (by rw [hn]; exact hi)
  unfold ldv at hf
  rw [h1] at hf
  dsimp only at hf
  split at hf
  · rename_i v hv
    cases hf
    obtain ⟨mv, e1, e2⟩ := k4 _ hv
    refine wpAny_loadName_cell (c := c) (v := mv) (by rw [P.scope]; exact P.kind) (by unfold Env.kindOf; rw [P.scope]; exact hl) ?_ ⟨o, r.sub _ _ _ k2, by rw [k3, e1]⟩ (.now r e2)
    rw [hc x (List.mem_of_getElem? hi)]; exact k1
  · cases hf

theorem load_free_aux {env : Env} {A : Around} {σ : St} {G : Gh} {s : Shared} {x : Str} {i : Nat} {gk : GF} {f : Frm} {lvl : Nat} {v : AV} (P : EnvOK X env G) (r : R W G σ s) (hg : gk.names[i]? = some (x, .cell)) (he : env.cells.lookup x = gk.cs.lookup x)
    (h2 : FrameOK (G.vw W) G.kn lvl gk f) (hv : f[i]? = some (some v)) (hl : X.scope.names.lookup x = some .free ∨ X.scope.names.lookup x = some .cell) (hx : (x == ("__classdict__" : Str)) = false) :
    wpAny W.M A (loadName env x) (Post W (Rep W) G σ v) (fun _ _ => False) s := by
  obtain ⟨c, o, cv, k1, k2, k3, k4⟩ := h2.cel i x hg
  obtain ⟨mv, e1, e2⟩ := k4 _ hv
  rcases hl with hl | hl
  · exact wpAny_loadName_free (c := c) (v := mv) (by rw [P.scope]; exact P.kind) (by unfold Env.kindOf; rw [P.scope]; exact hl) (he.trans k1) ⟨o, r.sub _ _ _ k2, by rw [k3, e1]⟩ (.now r e2) hx
  · exact wpAny_loadName_cell (c := c) (v := mv) (by rw [P.scope]; exact P.kind) (by unfold Env.kindOf; rw [P.scope]; exact hl) (he.trans k1) ⟨o, r.sub _ _ _ k2, by rw [k3, e1]⟩ (.now r e2)

theorem Sim.load_up {x : Str} {k i : Nat} (hi : (x, (k, i)) ∈ X.up) (hl : X.scope.names.lookup x = some .free ∨ X.scope.names.lookup x = some .cell) (hx : (x == ("__classdict__" : Str)) = false) :
    Sim W (Rep W) (EF X) n (fun env => loadName env x) (ldv k i) := by
  intro env A σ b σ' G s P hA r hf
  obtain ⟨gk, g1, g2, g3⟩ := P.up x k i hi
  obtain ⟨f, lvl, h1, h2⟩ := r.inv.frames.get g1
  unfold ldv at hf
  rw [h1] at hf
  dsimp only at hf
  split at hf
  · rename_i v hv
    cases hf
    exact load_free_aux P r g2 g3 h2 hv hl hx
  · cases hf

theorem getLast_get {α : Type} : ∀ {l : List α} {a : α}, l.getLast? = some a → l[l.length - 1]? = some a := by
  intro l a h
  rw [← List.getLast?_eq_getElem?]; exact h

theorem Sim.load_bot {x : Str} {i : Nat} (hi : (x, i) ∈ X.bot) (hl : X.scope.names.lookup x = some .free ∨ X.scope.names.lookup x = some .cell) (hx : (x == ("__classdict__" : Str)) = false) :
    Sim W (Rep W) (EF X) n (fun env => loadName env x) (ldb i) := by
  intro env A σ b σ' G s P hA r hf
  obtain ⟨gk, g1, g2, g3⟩ := P.bot x i hi
  obtain ⟨f, lvl, h1, h2⟩ := r.inv.frames.get (getLast_get g1)
  rw [← r.inv.frames.length, ← List.getLast?_eq_getElem?] at h1
  unfold ldb at hf
  rw [h1] at hf
  dsimp only at hf
  split at hf
  · rename_i v hv
    cases hf
    exact load_free_aux P r g2 g3 h2 hv hl hx
  · cases hf

theorem Sim.name {x : Str} {pos : Pos} {f : M AV} (h : Sim W (Rep W) (EF X) n (fun env => loadName env x) f) (hd : (x == ("__debug__" : Str)) = false) :
    Sim W (Rep W) (EF X) n (fun env => eval (.Name x pos) env) f :=
  fun env A σ b σ' G s P hA r hf => wpAny_Name (h env A σ b σ' G s P hA r hf) hd

theorem Sim.load_glob (ok : W.Ok) {x : Str} {v : Value} (hl : X.scope.names.lookup x = some .globalImplicit) (hv : W.mg x = some v) :
    Sim W (Rep W) (EF X) n (fun env => loadName env x) (M.pure (.mc v)) := by
  intro env A σ b σ' G s P hA r hf
  cases hf
  have : wpAny W.M A (loadGlobal env x) (Post W (Rep W) G σ (.mc v)) (fun _ _ => False) s := loadGlobal_global (mg := W.mg) (by rw [P.glob]; exact r.gl ok) hv (.now r rfl)
  unfold loadName
  simp only [Env.blockKind, Env.kindOf, P.scope, P.kind, hl, ScopeKind.isAnnotationScope, Bool.false_and, Bool.false_eq_true, if_false]
  exact this
theorem Sim.load_bui (ok : W.Ok) {x : Str} {v : Value} (hl : X.scope.names.lookup x = some .globalImplicit) (hg : W.mg x = none) (hv : W.mb x = some v) :
    Sim W (Rep W) (EF X) n (fun env => loadName env x) (M.pure (.mc v)) := by
  intro env A σ b σ' G s P hA r hf
  cases hf
  have : wpAny W.M A (loadGlobal env x) (Post W (Rep W) G σ (.mc v)) (fun _ _ => False) s :=
    loadGlobal_builtin (mg := W.mg) (mb := W.mb) (by rw [P.glob]; exact r.gl ok) hg (by rw [P.bui]; exact r.bu ok) hv (.now r rfl)
  unfold loadName
  simp only [Env.blockKind, Env.kindOf, P.scope, P.kind, hl, ScopeKind.isAnnotationScope, Bool.false_and, Bool.false_eq_true, if_false]
  exact this
end

/-- turning an object under its tag -/
theorem Gh.vw_set {G : Gh} {W : Wd} {a : Addr} {t t₀ : Tag} {o o₀ : Obj} (h : G.kn a = some (t₀, o₀)) (h0 : t₀ ≠ .z) (ht : t ≠ .z) : (G.set a t o).vw W = G.vw W := by
  have : (G.set a t o).z = G.z := by
    funext b
    by_cases hb : b = a
    · subst hb
      unfold Gh.z
      rw [Gh.set_self, h]
      cases t <;> cases t₀ <;> first | rfl | contradiction
    · unfold Gh.z
      rw [Gh.set_ne hb]
  unfold Gh.vw
  rw [this, Gh.set_fr, Gh.set_mu]

theorem R.turn {W : Wd} {G : Gh} {σ σ' : St} {s : Shared} (r : R W G σ s) {a : Addr} {t : Tag} {o o₀ : Obj} {h' : Heap} {tk : Nat} (hk : G.kn a = some (t, o₀)) (hz : t ≠ .z) (hp : t ≠ .pin) (he : h'.get? a = some o) (hs : Heap.SameBut a s.heap h')
    (hfr : FramesOK (G.vw W) (G.set a t o).kn G.fr σ'.fs) (hob : ∀ n o', σ'.st n = some o' → ∃ b ob, G.mu n = some b ∧ (G.set a t o).kn b = some (.obj n, ob) ∧ ObjOK W (G.vw W) o' ob) (hc : σ.cnt ≤ σ'.cnt) :
    R W (G.set a t o) σ' { s with heap := h', toks := tk } ∧ G.Le (G.set a t o) := by
  have hv := Gh.vw_set (W := W) (o := o) hk hz hz
  have le : G.Le (G.set a t o) := Gh.le_set fun t₀ o₀' e => by rw [hk] at e; cases e; exact ⟨hz, hp⟩
  refine ⟨⟨⟨fun b o hb e => le.z _ _ (r.inv.base b o hb e), ?_, ?_, fun n b e => Nat.lt_of_lt_of_le (r.inv.cnt n b e) hc, r.inv.sys.turn hk hz⟩, ?_, r.os, r.gens⟩, le⟩
  · rw [hv]; exact hfr
  · intro n o' e
    rw [hv]; exact hob n o' e
  · intro b t' o' e
    by_cases hb : b = a
    · subst hb
      rw [Gh.set_self] at e; cases e; exact he
    · rw [Gh.set_ne hb] at e
      exact (hs.2 b hb).trans (r.sub _ _ _ e)

theorem slot_set {V : Vw} {f : Frm} {i j : Nat} {v : AV} {mv : Option Value} {nm : Value} (hi : i < f.length) (h : slotRep V f[j]? mv) (hn : RepV V v nm) : slotRep V (f.set i (some v))[j]? (if j = i then some nm else mv) := by
  intro u e
  by_cases hj : j = i
  · subst hj
    rw [List.getElem?_set_self hi] at e
    cases e
    exact ⟨nm, if_pos rfl, hn⟩
  · rw [List.getElem?_set_ne (Ne.symm hj)] at e
    rw [if_neg hj]
    exact h u e
theorem nodup_at {l : List (Str × NameKind)} (nd : (l.map (·.1)).Nodup) {i j : Nat} {x : Str} {a b : NameKind} (hi : l[i]? = some (x, a)) (hj : l[j]? = some (x, b)) : i = j := by
  have h1 : (l.map (·.1))[i]? = some x := by rw [List.getElem?_map, hi]; rfl
  have h2 : (l.map (·.1))[j]? = some x := by rw [List.getElem?_map, hj]; rfl
  obtain ⟨l1, e1⟩ := List.getElem?_eq_some_iff.mp h1
  obtain ⟨l2, e2⟩ := List.getElem?_eq_some_iff.mp h2
  exact (List.getElem_inj nd).mp (e1.trans e2.symm)

section
variable {W : Wd} {X : Sc} {n : Nat}

theorem store_local {env : Env} {A : Around} {σ σ' : St} {G : Gh} {s : Shared} {x : Str} {i : Nat} {v : AV} {mv : Value} (hi : X.names[i]? = some (x, .local)) (hl : X.scope.names.lookup x = some .local) (P : EnvOK X env G) (r : R W G σ s) (hv : Rep W G v mv)
    (hf : stv i v σ = some ((), σ')) : wpAny W.M A (storeName env x mv) (Post W (fun _ _ _ => True) G σ' ()) (fun _ _ => False) s := by
  obtain ⟨gf, rest, hfr, hn, hL, hc⟩ := P.own
  have FF := r.inv.frames
  rw [hfr] at FF
  obtain ⟨f, fr, hfs, h2, h3⟩ := FF
  obtain ⟨o, m, k1, k2, k3⟩ := h2.loc
  unfold stv at hf
  rw [hfs] at hf
  cases hf
  refine wpAny_storeName_local (m := m) (by unfold Env.kindOf; rw [P.scope]; exact hl) (hL ▸ r.ns k1 k2) (fun h' hn' hs' => ?_) (by rw [P.scope, P.kind]; rfl)
  obtain ⟨o', e', q'⟩ := NsOb.of hn'
  rw [← hL] at e' hs'
  have hlt : i < f.length := by
    rw [h2.len, hn]
    exact (List.getElem?_eq_some_iff.mp hi).1
  have hfx : FramesOK (G.vw W) (G.set gf.L (.loc rest.length) o').kn G.fr (f.set i (some v) :: fr) := by
    rw [hfr]
    refine ⟨_, _, rfl, ⟨h2.nd, by rw [List.length_set]; exact h2.len, ⟨o', _, Gh.set_self, q', fun j y hj => ?_⟩, fun j y hj => ?_⟩, ?_⟩
    · have := slot_set (V := G.vw W) (nm := mv) hlt (k3 j y hj) hv
      by_cases hji : j = i
      · subst hji
        rw [hn, hi] at hj
        cases hj
        simpa using this
      · have hyx : y ≠ x := by
          rintro rfl
          exact hji (nodup_at h2.nd hj (by rw [hn]; exact hi))
        simpa [hji, hyx] using this
    · obtain ⟨c, oc, cv, a1, a2, a3, a4⟩ := h2.cel j y hj
      have hji : j ≠ i := by
        rintro rfl
        rw [hn, hi] at hj; cases hj
      refine ⟨c, oc, cv, a1, Gh.set_keep a2 fun t₀ o₀ e => by rw [k1] at e; cases e; exact Tag.noConfusion, a3, ?_⟩
      have := slot_set (V := G.vw W) (nm := mv) hlt a4 hv
      rwa [if_neg hji] at this
    · refine h3.mono ⟨fun _ _ e => e, fun _ _ e => e, fun _ _ e => e, fun _ _ e => e⟩ fun a t o e ⟨lvl, hlt', q⟩ => Gh.set_keep e fun t₀ o₀ w => ?_
      rw [k1] at w; cases w
      rcases q with rfl | ⟨_, rfl⟩
      · intro e; cases e; omega
      · exact Tag.noConfusion
  obtain ⟨r', le⟩ := r.turn (σ' := { σ with fs := f.set i (some v) :: fr }) (h' := h') (tk := s.toks + 1) k1 (by exact Tag.noConfusion) (by exact Tag.noConfusion) e' hs' hfx (fun nn o'' e => by
    obtain ⟨b, ob, b1, b2, b3⟩ := r.inv.objs nn o'' e
    exact ⟨b, ob, b1, Gh.set_keep b2 fun t₀ o₀ w => by rw [k1] at w; cases w; exact Tag.noConfusion, b3⟩) (Nat.le_refl _)
  exact ⟨_, le, r', trivial⟩

theorem store_cell {env : Env} {A : Around} {σ σ' : St} {G : Gh} {s : Shared} {x : Str} {i : Nat} {v : AV} {mv : Value} (hi : X.names[i]? = some (x, .cell)) (hl : X.scope.names.lookup x = some .cell) (P : EnvOK X env G) (r : R W G σ s) (hv : Rep W G v mv)
    (hf : stv i v σ = some ((), σ')) : wpAny W.M A (storeName env x mv) (Post W (fun _ _ _ => True) G σ' ()) (fun _ _ => False) s := by
  obtain ⟨gf, rest, hfr, hn, hL, hc⟩ := P.own
  have FF := r.inv.frames
  rw [hfr] at FF
  obtain ⟨f, fr, hfs, h2, h3⟩ := FF
  obtain ⟨c, oc, cv, k1, k2, k3, k4⟩ := h2.cel i x (by rw [hn]; exact hi)
  unfold stv at hf
  rw [hfs] at hf
  cases hf
  refine wpAny_storeName_cell (c := c) (v₀ := cv) (by rw [P.scope]; exact P.kind) (by unfold Env.kindOf; rw [P.scope]; exact hl) (by rw [hc x (List.mem_of_getElem? hi)]; exact k1) ⟨oc, r.sub _ _ _ k2, k3⟩ (fun h' hn' hs' => ?_)
  obtain ⟨o', e', q'⟩ := hn'
  have hlt : i < f.length := by
    rw [h2.len, hn]
    exact (List.getElem?_eq_some_iff.mp hi).1
  have hfx : FramesOK (G.vw W) (G.set c (.cel rest.length i) o').kn G.fr (f.set i (some v) :: fr) := by
    rw [hfr]
    refine ⟨_, _, rfl, ⟨h2.nd, by rw [List.length_set]; exact h2.len, ?_, fun j y hj => ?_⟩, ?_⟩
    · obtain ⟨o, m, a1, a2, a3⟩ := h2.loc
      refine ⟨o, m, Gh.set_keep a1 fun t₀ o₀ e => by rw [k2] at e; cases e; exact Tag.noConfusion, a2, fun j y hj => ?_⟩
      have hji : j ≠ i := by
        rintro rfl
        rw [hn, hi] at hj; cases hj
      have := slot_set (V := G.vw W) (nm := mv) hlt (a3 j y hj) hv
      rwa [if_neg hji] at this
    · by_cases hji : j = i
      · subst hji
        rw [hn, hi] at hj
        cases hj
        exact ⟨c, o', _, k1, Gh.set_self, q', by simpa using slot_set (V := G.vw W) (nm := mv) hlt k4 hv⟩
      · obtain ⟨c', oc', cv', a1, a2, a3, a4⟩ := h2.cel j y hj
        refine ⟨c', oc', cv', a1, Gh.set_keep a2 fun t₀ o₀ e => by rw [k2] at e; cases e; intro z; cases z; exact hji rfl, a3, ?_⟩
        have := slot_set (V := G.vw W) (nm := mv) hlt a4 hv
        rwa [if_neg hji] at this
    · refine h3.mono ⟨fun _ _ e => e, fun _ _ e => e, fun _ _ e => e, fun _ _ e => e⟩ fun a t o e ⟨lvl, hlt', q⟩ => Gh.set_keep e fun t₀ o₀ w => ?_
      rw [k2] at w; cases w
      rcases q with rfl | ⟨_, rfl⟩
      · exact Tag.noConfusion
      · intro e; cases e; omega
  obtain ⟨r', le⟩ := r.turn (σ' := { σ with fs := f.set i (some v) :: fr }) (h' := h') (tk := s.toks) k2 (by exact Tag.noConfusion) (by exact Tag.noConfusion) e' hs' hfx (fun nn o'' e => by
    obtain ⟨b, ob, b1, b2, b3⟩ := r.inv.objs nn o'' e
    exact ⟨b, ob, b1, Gh.set_keep b2 fun t₀ o₀ w => by rw [k2] at w; cases w; exact Tag.noConfusion, b3⟩) (Nat.le_refl _)
  exact ⟨_, le, r', trivial⟩
end
end Mine
end

section
open PySem PySem.W PySem.Calls PyProof.Rows
set_option Elab.async false
set_option maxRecDepth 20000
namespace Mine

abbrev SimE (W : Wd) (X : Sc) (n : Nat) (e : Expr) (f : M AV) : Prop := Sim W (Rep W) (EF X) n (fun env => eval e env) f
abbrev SimB (W : Wd) (X : Sc) (n : Nat) (e : Expr) (f : M Bool) : Prop := Sim W (fun _ b a => a = b) (EF X) n (fun env => isTrue e env (eval e env)) f
abbrev SimEs (W : Wd) (X : Sc) (n : Nat) (es : List Expr) (f : M (List AV)) : Prop := Sim W (Reps W) (EF X) n (fun env => evalAll (evalEach es env)) f

/-- an operation upon values -/
def Op1 (W : Wd) {α β : Type} (rep : Gh → β → α → Prop) (n : Nat) (t : Value → Sem α) (f : AV → M β) : Prop :=
  ∀ A σ σ' G s a c ma, AOK n A → R W G σ s → Rep W G a ma → f a σ = some (c, σ') → wpAny W.M A (t ma) (Post W rep G σ' c) (fun _ _ => False) s
def Op2 (W : Wd) {α β : Type} (rep : Gh → β → α → Prop) (n : Nat) (t : Value → Value → Sem α) (f : AV → AV → M β) : Prop :=
  ∀ A σ σ' G s a b c ma mb, AOK n A → R W G σ s → Rep W G a ma → Rep W G b mb → f a b σ = some (c, σ') → wpAny W.M A (t ma mb) (Post W rep G σ' c) (fun _ _ => False) s

theorem M.bind_some {α β : Type} {f : M α} {g : α → M β} {σ : St} {r : β × St} (h : M.bind f g σ = some r) : ∃ a σ', f σ = some (a, σ') ∧ g a σ' = some r := by
  unfold M.bind at h
  split at h
  · cases h
  · rename_i a σ' e; exact ⟨a, σ', e, h⟩

section
variable {W : Wd} {X : Sc} {n : Nat}

theorem SimE.int {i : Int} {k : Nat} {pos : Pos} : SimE W X n (.Constant (.int i) k pos) (M.pure (.int i)) := fun env A σ b σ' G s P hA r hf => by
  cases hf; exact wpAny_Constant_int (.now r.tok ⟨_, rfl⟩)
theorem SimE.str {x : Str} {k : Nat} {pos : Pos} : SimE W X n (.Constant (.str x) k pos) (M.pure (.str x)) := fun env A σ b σ' G s P hA r hf => by
  cases hf; exact wpAny_Constant_str (.now r.tok ⟨_, rfl⟩)
theorem SimE.bool {x : Bool} {k : Nat} {pos : Pos} : SimE W X n (.Constant (.bool x) k pos) (M.pure (.bool x)) := fun env A σ b σ' G s P hA r hf => by
  cases hf; exact wpAny_Constant_bool (.now r rfl)
theorem SimE.none {k : Nat} {pos : Pos} : SimE W X n (.Constant .none k pos) (M.pure .none) := fun env A σ b σ' G s P hA r hf => by
  cases hf; exact wpAny_Constant_none (.now r rfl)

theorem SimE.binop {l r : Expr} {op : Operator} {pos : Pos} {f g : M AV} {h : AV → AV → M AV} (h1 : SimE W X n l f) (h2 : SimE W X n r g) (h3 : Op2 W (Rep W) n (binaryOp op) h) :
    SimE W X n (.BinOp l op r pos) (M.bind f fun a => M.bind g fun b => h a b) := by
  intro env A σ b σ' G s P hA r hf
  obtain ⟨a, σ1, e1, hf⟩ := M.bind_some hf
  obtain ⟨c, σ2, e2, hf⟩ := M.bind_some hf
  refine wpAny_BinOp (wpAny_mono (h1 env A _ _ _ G s P hA r e1) (fun ma s1 ⟨G1, l1, r1, p1⟩ => wpAny_mono (h2 env A _ _ _ G1 s1 (P.mono l1) hA r1 e2) (fun mb s2 ⟨G2, l2, r2, p2⟩ => ?_) fun _ _ e => e) fun _ _ e => e)
  exact wpAny_mono (h3 A _ _ G2 s2 _ _ _ _ _ hA r2 (p1.le l2) p2 hf) (fun _ _ q => q.le (l1.trans l2)) fun _ _ e => e

theorem SimE.unop {x : Expr} {op : UnaryOp} {pos : Pos} {f : M AV} {h : AV → M AV} (h1 : SimE W X n x f) (h3 : Op1 W (Rep W) n (unaryOp op) h) :
    SimE W X n (.UnaryOp op x pos) (M.bind f fun a => h a) := by
  intro env A σ b σ' G s P hA r hf
  obtain ⟨a, σ1, e1, hf⟩ := M.bind_some hf
  refine wpAny_UnaryOp (wpAny_mono (h1 env A _ _ _ G s P hA r e1) (fun ma s1 ⟨G1, l1, r1, p1⟩ => ?_) fun _ _ e => e)
  exact wpAny_mono (h3 A _ _ G1 s1 _ _ _ hA r1 p1 hf) (fun _ _ q => q.le l1) fun _ _ e => e

/-- one comparison as a value -/
theorem SimE.cmp {l r : Expr} {op : CmpOp} {pos : Pos} {f g : M AV} {h : AV → AV → M AV} (h1 : SimE W X n l f) (h2 : SimE W X n r g) (h3 : Op2 W (Rep W) n (compareOp op) h) (hm : behindInMarks op r = false) :
    SimE W X n (.Compare l [op] [r] pos) (M.bind f fun a => M.bind g fun b => h a b) := by
  intro env A σ b σ' G s P hA r hf
  obtain ⟨a, σ1, e1, hf⟩ := M.bind_some hf
  obtain ⟨c, σ2, e2, hf⟩ := M.bind_some hf
  refine wpAny_Compare1 (wpAny_mono (h1 env A _ _ _ G s P hA r e1) (fun ma s1 ⟨G1, l1, r1, p1⟩ => wpAny_mono (h2 env A _ _ _ G1 s1 (P.mono l1) hA r1 e2) (fun mb s2 ⟨G2, l2, r2, p2⟩ => ?_) fun _ _ e => e) fun _ _ e => e) hm
  exact wpAny_mono (h3 A _ _ G2 s2 _ _ _ _ _ hA r2 (p1.le l2) p2 hf) (fun _ _ q => q.le (l1.trans l2)) fun _ _ e => e

/-- truth -/
def trA : AV → M Bool
  | .none => M.pure false
  | .bool b => M.pure b
  | .int i => M.pure (i != 0)
  | .str x => if x.length ≤ 2 ^ 40 then M.pure ((x.length : Int) != 0) else M.fail
  | .lst l => if l.length ≤ 2 ^ 40 then M.pure (l.length != 0) else M.fail
  | .clo _ => M.pure true
  | .ref n => fun σ => match σ.st n with
    | some (.list l) => if l.length ≤ 2 ^ 40 then some (l.length != 0, σ) else none
    | some (.dictI l) => if l.length ≤ 2 ^ 40 then some (l.length != 0, σ) else none
    | some (.dictS l) => if l.length ≤ 2 ^ 40 then some (l.length != 0, σ) else none
    | _ => none
  | .dct l => if l.length ≤ 2 ^ 40 then M.pure (l.length != 0) else M.fail
  | _ => M.fail

theorem RepVs.length {V : Vw} : ∀ {l : List AV} {vs : List Value}, RepVs V l vs → vs.length = l.length
  | [], _, h => by cases h; rfl
  | _ :: _, _, ⟨_, _, e, _, h⟩ => by subst e; simp [RepVs.length h]
theorem RepKV.length {κ : Type} {V : Vw} : ∀ {l : List (κ × AV)} {vs}, RepKV V l vs → vs.length = l.length
  | [], _, h => by cases h; rfl
  | _ :: _, _, ⟨_, _, e, _, h⟩ => by subst e; simp [RepKV.length h]
theorem RepVd.length {V : Vw} : ∀ {l : List (Str × AV)} {vs}, RepVd V l vs → vs.length = l.length
  | [], _, h => by cases h; rfl
  | _ :: _, _, ⟨_, _, e, _, h⟩ => by subst e; simp [RepVd.length h]
theorem RepVs.get {V : Vw} : ∀ {l : List AV} {vs : List Value}, RepVs V l vs → ∀ {i : Nat} {a : AV}, l[i]? = some a → ∃ v, vs[i]? = some v ∧ RepV V a v
  | [], _, _, i, a, e => by simp at e
  | b :: l, _, ⟨v, r, q, h1, h2⟩, 0, a, e => by subst q; simp at e; subst e; exact ⟨v, rfl, h1⟩
  | b :: l, _, ⟨v, r, q, h1, h2⟩, i + 1, a, e => by subst q; simp at e; simpa using RepVs.get h2 e
theorem RepVs.append {V : Vw} : ∀ {l l' : List AV} {vs vs' : List Value}, RepVs V l vs → RepVs V l' vs' → RepVs V (l ++ l') (vs ++ vs')
  | [], _, _, _, h, h' => by cases h; exact h'
  | _ :: _, _, _, _, ⟨v, r, e, h1, h2⟩, h' => by subst e; exact ⟨v, _, rfl, h1, RepVs.append h2 h'⟩
theorem RepVs.take {V : Vw} : ∀ {l : List AV} {vs : List Value}, RepVs V l vs → ∀ k, RepVs V (l.take k) (vs.take k)
  | [], _, h, k => by cases h; simp [RepVs]
  | _ :: _, _, _, 0 => by simp [RepVs]
  | _ :: _, _, ⟨v, r, e, h1, h2⟩, k + 1 => by subst e; exact ⟨v, _, rfl, h1, RepVs.take h2 k⟩
theorem RepVs.drop {V : Vw} : ∀ {l : List AV} {vs : List Value}, RepVs V l vs → ∀ k, RepVs V (l.drop k) (vs.drop k)
  | [], _, h, k => by cases h; simp [RepVs]
  | _ :: _, _, h, 0 => h
  | _ :: _, _, ⟨v, r, e, h1, h2⟩, k + 1 => by subst e; exact RepVs.drop h2 k
theorem RepVs.reverse {V : Vw} : ∀ {l : List AV} {vs : List Value}, RepVs V l vs → RepVs V l.reverse vs.reverse
  | [], _, h => by cases h; simp [RepVs]
  | _ :: _, _, ⟨v, r, e, h1, h2⟩ => by subst e; simp only [List.reverse_cons]; exact RepVs.append (RepVs.reverse h2) ⟨v, [], rfl, h1, rfl⟩

/-- the list that a value shows -/
def viewL (σ : St) : AV → Option (List AV)
  | .lst l => some l
  | .ref n => match σ.st n with
    | some (.list l) => some l
    | _ => none
  | _ => none
theorem R.view {G : Gh} {σ : St} {s : Shared} (r : R W G σ s) {a : AV} {v : Value} {l : List AV} (p : Rep W G a v) (h : viewL σ a = some l) :
    ∃ x vs n, v = .ref x ∧ s.heap.get? x = some ⟨.type "list", none, .seq vs n, #[]⟩ ∧ Reps W G l vs.toList := by
  unfold viewL at h
  split at h
  · cases h
    obtain ⟨x, vs, n, e, hz, hr⟩ := p
    exact ⟨x, vs, n, e, r.z hz, hr⟩
  · obtain ⟨x, e, hm⟩ := p
    split at h
    · rename_i n l' hs
      cases h
      obtain ⟨y, ob, h1, h2, vs, k, h3, h4⟩ := r.inv.objs _ _ hs
      rw [show (G.vw W).mu = G.mu from rfl, h1] at hm
      cases hm
      exact ⟨x, vs, k, e, h3 ▸ r.sub _ _ _ h2, h4⟩
    · cases h
  · cases h
theorem isList_of {h : Heap} {x : Addr} {vs : Array Value} {n : Nat} (e : h.get? x = some ⟨.type "list", none, .seq vs n, #[]⟩) : h.IsList x vs := ⟨_, e, rfl, n, rfl⟩
theorem isTup_of {h : Heap} {x : Addr} {vs : Array Value} {n : Nat} (e : h.get? x = some ⟨.type "tuple", none, .seq vs n, #[]⟩) : IsTup h x vs := ⟨_, e, rfl, n, rfl⟩

theorem notSys {G : Gh} {σ : St} {s : Shared} (r : R W G σ s) (ok : W.Ok) {x : Addr} {t : Tag} {o : Obj} (hk : G.kn x = some (t, o)) (ht : t ≠ .z) : (x == sysModules) = false := by
  cases e : x == sysModules with
  | false => rfl
  | true =>
    rw [beq_iff_eq.mp e] at hk
    exact absurd (r.inv.sys.2 _ _ hk) ht
end

section
variable {W : Wd} {X : Sc} {n : Nat}

theorem Op1.truth (ok : W.Ok) : Op1 W (fun _ b a => a = b) n truthy trA := by
  intro A σ σ' G s a c ma hA r p hf
  cases a with
  | none => cases hf; cases p; exact truthy_none (.now r rfl)
  | bool b => cases hf; cases p; exact wpAny_truthy_bool (.now r rfl)
  | int i => cases hf; obtain ⟨t, rfl⟩ := p; exact PySem.P.truthy_int (.now r rfl)
  | str x =>
    obtain ⟨t, rfl⟩ := p
    simp only [trA] at hf
    split at hf
    · cases hf
      exact PySem.P.truthy_str (by omega) (.now r.tok rfl)
    · cases hf
  | lst l =>
    simp only [trA] at hf
    split at hf
    · rename_i hl
      cases hf
      obtain ⟨x, vs, m, e, hz, hr⟩ := p
      subst e
      have hlen := hr.length
      rw [Array.length_toList] at hlen
      refine wpAny_truthy_list (isList_of (r.z hz)) (by omega) (.now r.tok ?_)
      rw [← hlen]
      rfl
    · cases hf
  | dct l =>
    simp only [trA] at hf
    split at hf
    · rename_i hl
      cases hf
      obtain ⟨x, o, kvs, e, hsy, hz, hd, hr⟩ := p
      subst e
      have hlen := hr.length
      refine wpAny_truthy_dict (knd := strKind W.prog W.w) hsy (DictOb.dictOf hd (r.z hz)) (by omega) (.now r.tok ?_)
      · cases l <;> cases kvs <;> simp_all
    · cases hf
  | clo k =>
    cases hf
    obtain ⟨x, o, e, hz, sk, fd, h1, h2, h3, _⟩ := p
    subst e
    have hT : s.TypeIs (.ref x) "function" := ⟨o, r.z hz, h2⟩
    unfold truthy
    first
      | refine wpAny_bind (wpAny_callSpecial?_none (name := Str.ofString "__bool__") hT (by rw [typeLookup_type, builtinLookup_eq_fast]; kernel_rfl) ?_)
      | refine wpAny_bind (wpAny_pure (wpAny_bind (wpAny_callSpecial?_none (name := Str.ofString "__bool__") hT (by rw [typeLookup_type, builtinLookup_eq_fast]; kernel_rfl) ?_)))
    first
      | refine wpAny_bind (wpAny_specialOf (name := Str.ofString "__len__") hT (r := none) (by rw [typeLookup_type, builtinLookup_eq_fast]; kernel_rfl) ?_)
      | refine wpAny_bind (wpAny_pure (wpAny_bind (wpAny_specialOf (name := Str.ofString "__len__") hT (r := none) (by rw [typeLookup_type, builtinLookup_eq_fast]; kernel_rfl) ?_)))
    first
      | exact wpAny_pure (.now r rfl)
      | exact wpAny_bind (wpAny_pure (.now r rfl))
  | ref h =>
    simp only [trA] at hf
    obtain ⟨x, e, hm⟩ := p
    subst e
    split at hf
    · rename_i l hs
      split at hf
      · cases hf
        obtain ⟨y, ob, h1, h2, vs, k, h3, h4⟩ := r.inv.objs _ _ hs
        rw [show (G.vw W).mu = G.mu from rfl, h1] at hm
        cases hm
        have hlen := h4.length
        rw [Array.length_toList] at hlen
        refine wpAny_truthy_list (isList_of (h3 ▸ r.sub _ _ _ h2)) (by omega) (.now r.tok ?_)
        rw [← hlen]
        rfl
      · cases hf
    · rename_i l hs
      split at hf
      · cases hf
        obtain ⟨y, ob, h1, h2, kvs, h3, h4⟩ := r.inv.objs _ _ hs
        rw [show (G.vw W).mu = G.mu from rfl, h1] at hm
        cases hm
        have hlen := h4.length
        refine wpAny_truthy_dict (knd := intKind W.prog W.w) (notSys r ok h2 Tag.noConfusion) (DictOb.dictOf h3 (r.sub _ _ _ h2)) (by omega) (.now r.tok ?_)
        cases l <;> cases kvs <;> simp_all
      · cases hf
    · rename_i l hs
      split at hf
      · cases hf
        obtain ⟨y, ob, h1, h2, kvs, h3, h4⟩ := r.inv.objs _ _ hs
        rw [show (G.vw W).mu = G.mu from rfl, h1] at hm
        cases hm
        have hlen := h4.length
        refine wpAny_truthy_dict (knd := strKind W.prog W.w) (notSys r ok h2 Tag.noConfusion) (DictOb.dictOf h3 (r.sub _ _ _ h2)) (by omega) (.now r.tok ?_)
        cases l <;> cases kvs <;> simp_all
      · cases hf
    · cases hf
  | _ => cases hf
end
end Mine
end

section
open PySem PySem.W PySem.Calls PyProof.Rows
set_option Elab.async false
set_option maxRecDepth 20000
namespace Mine

mutual
def toD : AV → Option PyData
  | .none => some .none
  | .bool b => some (.bool b)
  | .int i => some (.int i)
  | .str x => some (.str x)
  | .tup l => (toDs l).map .tuple
  | .lst l => (toDs l).map .list
  | _ => Option.none
def toDs : List AV → Option (List PyData)
  | [] => some []
  | a :: l => match toD a, toDs l with
    | some d, some ds => some (d :: ds)
    | _, _ => Option.none
end
def viewD (σ : St) (a : AV) : Option PyData := match viewL σ a with
  | some l => (toDs l).map .list
  | none => toD a

mutual
theorem reads_of {V : Vw} {h : Heap} (hz : ∀ a o, V.z a = some o → h.get? a = some o) : ∀ (a : AV) (v : Value) (d : PyData), RepV V a v → toD a = some d → ∃ as, Reads h v d as
  | .none, _, _, r, e => by cases e; cases r; exact ⟨_, .none⟩
  | .bool b, _, _, r, e => by cases e; cases r; exact ⟨_, .bool b⟩
  | .int i, _, _, ⟨t, r⟩, e => by cases e; cases r; exact ⟨_, .int i t⟩
  | .str i, _, _, ⟨t, r⟩, e => by cases e; cases r; exact ⟨_, .str i t⟩
  | .tup l, _, d, ⟨a, vs, n, r, z, q⟩, e => by
    obtain ⟨ds, e1, e2⟩ := Option.map_eq_some_iff.mp (show (toDs l).map PyData.tuple = some d from e)
    subst r e2
    obtain ⟨as, w⟩ := reads_ofs hz l _ _ q e1
    exact ⟨_, .tuple (hz _ _ z) rfl rfl w⟩
  | .lst l, _, d, ⟨a, vs, n, r, z, q⟩, e => by
    obtain ⟨ds, e1, e2⟩ := Option.map_eq_some_iff.mp (show (toDs l).map PyData.list = some d from e)
    subst r e2
    obtain ⟨as, w⟩ := reads_ofs hz l _ _ q e1
    exact ⟨_, .list (hz _ _ z) rfl rfl w⟩
  | .dct _, _, _, _, e => by cases e
  | .ref _, _, _, _, e => by cases e
  | .mc _, _, _, _, e => by cases e
  | .inst _ _, _, _, _, e => by cases e
  | .clo _, _, _, _, e => by cases e
  | .bm _ _, _, _, _, e => by cases e
  | .rng _ _ _, _, _, _, e => by cases e
  | .view _ _, _, _, _, e => by cases e
theorem reads_ofs {V : Vw} {h : Heap} (hz : ∀ a o, V.z a = some o → h.get? a = some o) : ∀ (l : List AV) (vs : List Value) (ds : List PyData), RepVs V l vs → toDs l = some ds → ∃ as, ReadsAll h vs ds as
  | [], _, _, r, e => by cases e; cases r; exact ⟨_, .nil⟩
  | a :: l, _, ds, ⟨v, r, q, h1, h2⟩, e => by
    subst q
    unfold toDs at e
    split at e
    · rename_i d ds' e1 e2
      cases e
      obtain ⟨as, w1⟩ := reads_of hz a _ _ h1 e1
      obtain ⟨bs, w2⟩ := reads_ofs hz l _ _ h2 e2
      exact ⟨_, .cons w1 w2⟩
    · cases e
end
theorem R.reads {W : Wd} {G : Gh} {σ : St} {s : Shared} (r : R W G σ s) {a : AV} {v : Value} {d : PyData} (p : Rep W G a v) (e : viewD σ a = some d) : ∃ as, Reads s.heap v d as := by
  unfold viewD at e
  split at e
  · rename_i l hl
    obtain ⟨x, vs, n, e1, e2, e3⟩ := r.view p hl
    obtain ⟨ds, f1, f2⟩ := Option.map_eq_some_iff.mp e
    subst e1 f2
    obtain ⟨as, w⟩ := reads_ofs (h := s.heap) (fun _ _ q => r.z q) l _ _ e3 f1
    exact ⟨_, .list e2 rfl rfl w⟩
  · exact reads_of (fun _ _ q => r.z q) a v d p e

def dOk (d : PyData) : Bool := d.canLay0 && decide (d.depth ≤ 60)

section
variable {W : Wd} {X : Sc} {n : Nat}

def smallI (a : Int) : Bool := decide (-(2 ^ 62) < a) && decide (a < 2 ^ 62)
theorem smallI_bits {a : Int} (h : smallI a = true) : Builtin.Int.intBits a ≤ 64 := by
  unfold smallI at h
  rw [Bool.and_eq_true, decide_eq_true_eq, decide_eq_true_eq] at h
  exact intBits_le_64 (by omega) (by omega)

def arA : Operator → AV → AV → M AV
  | .Add, .int a, .int b => M.pure (.int (a + b))
  | .Sub, .int a, .int b => M.pure (.int (a - b))
  | .Mult, .int a, .int b => if smallI a || smallI b then M.pure (.int (a * b)) else M.fail
  | .FloorDiv, .int a, .int b => if b ≠ 0 ∧ b.natAbs < 1073741824 then M.pure (.int (a.fdiv b)) else M.fail
  | .Mod, .int a, .int b => if b ≠ 0 then M.pure (.int (a.fmod b)) else M.fail
  | .Pow, .int a, .int b => if smallI a = true ∧ 0 ≤ b ∧ b < 1000 then M.pure (.int (a ^ b.toNat)) else M.fail
  | .Add, .str x, .str y => if x.length + y.length ≤ 2 ^ 20 then M.pure (.str (x ++ y)) else M.fail
  | _, _, _ => M.fail

theorem Op2.ar {op : Operator} : Op2 W (Rep W) n (binaryOp op) (arA op) := by
  intro A σ σ' G s a b c ma mb hA r pa pb hf
  unfold arA at hf
  split at hf
  · cases hf
    obtain ⟨t, rfl⟩ := pa; obtain ⟨u, rfl⟩ := pb
    exact PySem.P.add_int (.now r.tok ⟨_, rfl⟩)
  · cases hf
    obtain ⟨t, rfl⟩ := pa; obtain ⟨u, rfl⟩ := pb
    exact PySem.P.sub_int (.now r.tok ⟨_, rfl⟩)
  · rename_i x y
    obtain ⟨t, rfl⟩ := pa; obtain ⟨u, rfl⟩ := pb
    split at hf
    · rename_i hs
      cases hf
      rw [Bool.or_eq_true] at hs
      exact PySem.P.mul_int (.now r.tok ⟨_, rfl⟩) (hs.elim (fun h => IntMulOk.of_left (smallI_bits h)) fun h => IntMulOk.of_right (smallI_bits h))
    · cases hf
  · obtain ⟨t, rfl⟩ := pa; obtain ⟨u, rfl⟩ := pb
    split at hf
    · rename_i hs
      cases hf
      exact PyProof.Rows.floordiv_int hs.1 (.now r.tok ⟨_, rfl⟩) (.inl (PyProof.noPylong_small hs.2))
    · cases hf
  · obtain ⟨t, rfl⟩ := pa; obtain ⟨u, rfl⟩ := pb
    split at hf
    · rename_i hs
      cases hf
      exact PyProof.Rows.mod_int' hs (.now r.tok ⟨_, rfl⟩)
    · cases hf
  · obtain ⟨t, rfl⟩ := pa; obtain ⟨u, rfl⟩ := pb
    split at hf
    · rename_i x y hs
      cases hf
      refine PyProof.Rows.pow_int hs.2.1 ?_ (.now r.tok ⟨_, rfl⟩)
      have h1 := smallI_bits hs.1
      have h2 := hs.2.2
      have h3 := hs.2.1
      calc (Builtin.Int.intBits x : Int) * y ≤ 64 * y := Int.mul_le_mul_of_nonneg_right (by omega) h3
        _ ≤ 2 ^ 27 := by omega
    · cases hf
  · obtain ⟨t, rfl⟩ := pa; obtain ⟨u, rfl⟩ := pb
    split at hf
    · rename_i hs
      cases hf
      exact PyProof.Rows.add_str (fun t' tk => .now r.tok ⟨_, rfl⟩) (by rw [sizeLine_eq]; omega)
    · cases hf
  · cases hf

def unA : UnaryOp → AV → M AV
  | .USub, .int a => M.pure (.int (-a))
  | _, _ => M.fail
theorem Op1.un {op : UnaryOp} : Op1 W (Rep W) n (unaryOp op) (unA op) := by
  intro A σ σ' G s a c ma hA r pa hf
  unfold unA at hf
  split at hf
  · cases hf
    obtain ⟨t, rfl⟩ := pa
    exact PySem.P.neg_int (.now r.tok ⟨_, rfl⟩)
  · cases hf
theorem Op1.not (ok : W.Ok) : Op1 W (Rep W) n (unaryOp .Not) (fun a => M.bind (trA a) fun b => M.pure (.bool (!b))) := by
  intro A σ σ' G s a c ma hA r pa hf
  obtain ⟨b, σ1, e1, hf⟩ := M.bind_some hf
  cases hf
  exact not_value (wpAny_mono (Op1.truth ok A _ _ G s a b ma hA r pa e1) (fun b' s' ⟨G', l, r', q⟩ => by subst q; exact ⟨G', l, r', rfl⟩) fun _ _ e => e)

def eqA (a b : AV) : M AV := fun σ => match viewD σ a, viewD σ b with
  | some x, some y => if dOk x && dOk y then some (.bool (PyData.eqv x y), σ) else none
  | _, _ => none
def neA (a b : AV) : M AV := fun σ => match viewD σ a, viewD σ b with
  | some x, some y => if dOk x && dOk y then some (.bool (!PyData.eqv x y), σ) else none
  | _, _ => none
theorem AOK.room {A : Around} {d d' : PyData} (hA : AOK n A) (h : dOk d = true) : A.units + min d.depth d'.depth < cLine := by
  unfold dOk at h
  rw [Bool.and_eq_true, decide_eq_true_eq] at h
  have := hA.un
  unfold cLine
  omega
theorem dOk.can {d : PyData} (h : dOk d = true) : d.canLay0 = true := by
  unfold dOk at h
  rw [Bool.and_eq_true] at h
  exact h.1

theorem Op2.eq : Op2 W (Rep W) n (compareOp .Eq) eqA := by
  intro A σ σ' G s a b c ma mb hA r pa pb hf
  unfold eqA at hf
  split at hf
  · rename_i x y h1 h2
    split at hf
    · rename_i h3
      rw [Bool.and_eq_true] at h3
      cases hf
      obtain ⟨as, ra⟩ := r.reads pa h1
      obtain ⟨bs, rb⟩ := r.reads pb h2
      exact PySem.SeqAt.rcAt_reads ra rb (dOk.can h3.1) (dOk.can h3.2) (hA.room h3.1) W.prog W.w _ _ (.now r rfl)
    · cases hf
  · cases hf
theorem Op2.ne : Op2 W (Rep W) n (compareOp .NotEq) neA := by
  intro A σ σ' G s a b c ma mb hA r pa pb hf
  unfold neA at hf
  split at hf
  · rename_i x y h1 h2
    split at hf
    · rename_i h3
      rw [Bool.and_eq_true] at h3
      cases hf
      obtain ⟨as, ra⟩ := r.reads pa h1
      obtain ⟨bs, rb⟩ := r.reads pb h2
      exact PySem.SeqAt.rcNeAt_reads ra rb (dOk.can h3.1) (dOk.can h3.2) (hA.room h3.1) W.prog W.w _ _ (.now r rfl)
    · cases hf
  · cases hf

def ordA : CmpOp → AV → AV → M AV
  | .Lt, .int a, .int b => M.pure (.bool (decide (a < b)))
  | .LtE, .int a, .int b => M.pure (.bool (decide (a ≤ b)))
  | .Gt, .int a, .int b => M.pure (.bool (decide (b < a)))
  | .GtE, .int a, .int b => M.pure (.bool (decide (b ≤ a)))
  | .Is, a, .none => match a with
    | .none => M.pure (.bool true)
    | .int _ | .str _ | .bool _ | .clo _ | .lst _ | .ref _ | .dct _ => M.pure (.bool false)
    | _ => M.fail
  | _, _, _ => M.fail
theorem Op2.ord {op : CmpOp} : Op2 W (Rep W) n (compareOp op) (ordA op) := by
  intro A σ σ' G s a b c ma mb hA r pa pb hf
  unfold ordA at hf
  split at hf
  · cases hf
    obtain ⟨t, rfl⟩ := pa; obtain ⟨u, rfl⟩ := pb
    exact PySem.P.lt_int (.now r rfl)
  · cases hf
    obtain ⟨t, rfl⟩ := pa; obtain ⟨u, rfl⟩ := pb
    exact PySem.P.le_int (.now r rfl)
  · cases hf
    obtain ⟨t, rfl⟩ := pa; obtain ⟨u, rfl⟩ := pb
    exact PySem.P.gt_int (.now r rfl)
  · cases hf
    obtain ⟨t, rfl⟩ := pa; obtain ⟨u, rfl⟩ := pb
    exact PySem.P.ge_int (.now r rfl)
  · cases pb
    split at hf
    · cases hf; cases pa; exact is_none (.now r rfl)
    · cases hf; obtain ⟨t, rfl⟩ := pa; exact is_none (.now r rfl)
    · cases hf; obtain ⟨t, rfl⟩ := pa; exact is_none (.now r rfl)
    · cases hf; cases pa; exact is_none (.now r rfl)
    · cases hf; obtain ⟨x, o, e, _⟩ := pa; subst e; exact is_none (.now r rfl)
    · cases hf; obtain ⟨x, vs, k, e, _⟩ := pa; subst e; exact is_none (.now r rfl)
    · cases hf; obtain ⟨x, e, _⟩ := pa; subst e; exact is_none (.now r rfl)
    · cases hf; obtain ⟨x, o, kvs, e, _⟩ := pa; subst e; exact is_none (.now r rfl)
    · cases hf
  · cases hf

/-! tests -/
theorem SimB.cmp (ok : W.Ok) {l r : Expr} {op : CmpOp} {pos : Pos} {f g : M AV} {h : AV → AV → M AV} (h1 : SimE W X n l f) (h2 : SimE W X n r g) (h3 : Op2 W (Rep W) n (compareOp op) h) (hm : behindInMarks op r = false) :
    SimB W X n (.Compare l [op] [r] pos) (M.bind f fun a => M.bind g fun b => M.bind (h a b) trA) := by
  intro env A σ b σ' G s P hA r hf
  obtain ⟨a, σ1, e1, hf⟩ := M.bind_some hf
  obtain ⟨c, σ2, e2, hf⟩ := M.bind_some hf
  obtain ⟨d, σ3, e3, hf⟩ := M.bind_some hf
  refine wpAny_isTrue_Compare1 (wpAny_mono (h1 env A _ _ _ G s P hA r e1) (fun ma s1 ⟨G1, l1, r1, p1⟩ => wpAny_mono (h2 env A _ _ _ G1 s1 (P.mono l1) hA r1 e2) (fun mb s2 ⟨G2, l2, r2, p2⟩ => ?_) fun _ _ e => e) fun _ _ e => e) hm
  refine wpAny_mono (h3 A _ _ G2 s2 _ _ _ _ _ hA r2 (p1.le l2) p2 e3) (fun mc s3 ⟨G3, l3, r3, p3⟩ => ?_) fun _ _ e => e
  exact wpAny_mono (Op1.truth ok A _ _ G3 s3 _ _ _ hA r3 p3 hf) (fun _ _ q => q.le (l1.trans (l2.trans l3))) fun _ _ e => e
theorem SimB.not {x : Expr} {pos : Pos} {f : M Bool} (h1 : SimB W X n x f) : SimB W X n (.UnaryOp .Not x pos) (M.bind f fun b => M.pure (!b)) := by
  intro env A σ b σ' G s P hA r hf
  obtain ⟨a, σ1, e1, hf⟩ := M.bind_some hf
  cases hf
  exact wpAny_isTrue_Not (wpAny_mono (h1 env A _ _ _ G s P hA r e1) (fun b' s' ⟨G', l, r', q⟩ => by subst q; exact ⟨G', l, r', rfl⟩) fun _ _ e => e)
theorem SimB.val (ok : W.Ok) {x : Expr} {f : M AV} (h1 : SimE W X n x f) (he : ∀ env, isTrue x env (eval x env) = (do let v ← eval x env; standAt x.pos; holding [v] (truthy v))) : SimB W X n x (M.bind f trA) := by
  intro env A σ b σ' G s P hA r hf
  obtain ⟨a, σ1, e1, hf⟩ := M.bind_some hf
  exact wpAny_isTrue_value (wpAny_mono (h1 env A _ _ _ G s P hA r e1) (fun ma s1 ⟨G1, l1, r1, p1⟩ => wpAny_mono (Op1.truth ok A _ _ G1 s1 _ _ _ hA r1 p1 hf) (fun _ _ q => q.le l1) fun _ _ e => e) fun _ _ e => e) (he env)

def SimAll (W : Wd) (X : Sc) (n : Nat) (op : BoolOp) (es : List Expr) (f : M Bool) : Prop := Sim W (fun _ b a => a = b) (EF X) n (fun env => allTrue op es env) f
theorem SimAll.andNil : SimAll W X n .And [] (M.pure true) := fun env A σ b σ' G s P hA r hf => by cases hf; exact wpAny_allTrue_And_nil (.now r rfl)
theorem SimAll.orNil : SimAll W X n .Or [] (M.pure false) := fun env A σ b σ' G s P hA r hf => by cases hf; exact wpAny_allTrue_Or_nil (.now r rfl)
theorem SimAll.and {x : Expr} {rest : List Expr} {f g : M Bool} (h1 : SimB W X n x f) (h2 : SimAll W X n .And rest g) : SimAll W X n .And (x :: rest) (M.bind f fun b => bif b then g else M.pure false) := by
  intro env A σ b σ' G s P hA r hf
  obtain ⟨a, σ1, e1, hf⟩ := M.bind_some hf
  refine wpAny_allTrue_And_cons (wpAny_mono (h1 env A _ _ _ G s P hA r e1) (fun b' s' ⟨G', l, r', q⟩ => ?_) fun _ _ e => e)
  subst q
  cases b' with
  | true => exact wpAny_mono (h2 env A _ _ _ G' s' (P.mono l) hA r' hf) (fun _ _ q => q.le l) fun _ _ e => e
  | false => cases hf; exact ⟨G', l, r', rfl⟩
theorem SimAll.or {x : Expr} {rest : List Expr} {f g : M Bool} (h1 : SimB W X n x f) (h2 : SimAll W X n .Or rest g) : SimAll W X n .Or (x :: rest) (M.bind f fun b => bif b then M.pure true else g) := by
  intro env A σ b σ' G s P hA r hf
  obtain ⟨a, σ1, e1, hf⟩ := M.bind_some hf
  refine wpAny_allTrue_Or_cons (wpAny_mono (h1 env A _ _ _ G s P hA r e1) (fun b' s' ⟨G', l, r', q⟩ => ?_) fun _ _ e => e)
  subst q
  cases b' with
  | false => exact wpAny_mono (h2 env A _ _ _ G' s' (P.mono l) hA r' hf) (fun _ _ q => q.le l) fun _ _ e => e
  | true => cases hf; exact ⟨G', l, r', rfl⟩
theorem SimB.boolop {op : BoolOp} {es : List Expr} {pos : Pos} {f : M Bool} (h : SimAll W X n op es f) : SimB W X n (.BoolOp op es pos) f :=
  fun env A σ b σ' G s P hA r hf => wpAny_isTrue_BoolOp (h env A σ b σ' G s P hA r hf)

theorem SimE.ifexp {t x y : Expr} {pos : Pos} {c : M Bool} {f g : M AV} (h1 : SimB W X n t c) (h2 : SimE W X n x f) (h3 : SimE W X n y g) : SimE W X n (.IfExp t x y pos) (M.bind c fun b => bif b then f else g) := by
  intro env A σ b σ' G s P hA r hf
  obtain ⟨a, σ1, e1, hf⟩ := M.bind_some hf
  refine wpAny_IfExp (wpAny_mono (h1 env A _ _ _ G s P hA r e1) (fun b' s' ⟨G', l, r', q⟩ => ?_) fun _ _ e => e)
  subst q
  cases b' with
  | true => exact wpAny_mono (h2 env A _ _ _ G' s' (P.mono l) hA r' hf) (fun _ _ q => q.le l) fun _ _ e => e
  | false => exact wpAny_mono (h3 env A _ _ _ G' s' (P.mono l) hA r' hf) (fun _ _ q => q.le l) fun _ _ e => e
theorem SimB.ifexp {t x y : Expr} {pos : Pos} {c f g : M Bool} (h1 : SimB W X n t c) (h2 : SimB W X n x f) (h3 : SimB W X n y g) : SimB W X n (.IfExp t x y pos) (M.bind c fun b => bif b then f else g) := by
  intro env A σ b σ' G s P hA r hf
  obtain ⟨a, σ1, e1, hf⟩ := M.bind_some hf
  show wpAny W.M A (isTrue (.IfExp t x y pos) env (eval (.IfExp t x y pos) env)) _ _ s
  rw [arm_isTrue_IfExp]
  refine wpAny_bind (wpAny_mono (h1 env A _ _ _ G s P hA r e1) (fun b' s' ⟨G', l, r', q⟩ => ?_) fun _ _ e => e)
  subst q
  cases b' with
  | true => exact wpAny_mono (h2 env A _ _ _ G' s' (P.mono l) hA r' hf) (fun _ _ q => q.le l) fun _ _ e => e
  | false => exact wpAny_mono (h3 env A _ _ _ G' s' (P.mono l) hA r' hf) (fun _ _ q => q.le l) fun _ _ e => e
theorem SimE.and2 (ok : W.Ok) {x y : Expr} {pos : Pos} {f g : M AV} (h1 : SimE W X n x f) (h2 : SimE W X n y g) : SimE W X n (.BoolOp .And [x, y] pos) (M.bind f fun a => M.bind (trA a) fun b => bif b then g else M.pure a) := by
  intro env A σ b σ' G s P hA r hf
  obtain ⟨a, σ1, e1, hf⟩ := M.bind_some hf
  obtain ⟨c, σ2, e2, hf⟩ := M.bind_some hf
  refine wpAny_And2 (wpAny_mono (h1 env A _ _ _ G s P hA r e1) (fun ma s1 ⟨G1, l1, r1, p1⟩ => ?_) fun _ _ e => e)
  refine wpAny_mono (Op1.truth ok A _ _ G1 s1 _ _ _ hA r1 p1 e2) (fun b' s2 ⟨G2, l2, r2, q⟩ => ?_) fun _ _ e => e
  subst q
  cases b' with
  | true => exact wpAny_mono (h2 env A _ _ _ G2 s2 (P.mono (l1.trans l2)) hA r2 hf) (fun _ _ q => q.le (l1.trans l2)) fun _ _ e => e
  | false => cases hf; exact ⟨G2, l1.trans l2, r2, p1.le l2⟩
theorem SimE.or2 (ok : W.Ok) {x y : Expr} {pos : Pos} {f g : M AV} (h1 : SimE W X n x f) (h2 : SimE W X n y g) : SimE W X n (.BoolOp .Or [x, y] pos) (M.bind f fun a => M.bind (trA a) fun b => bif b then M.pure a else g) := by
  intro env A σ b σ' G s P hA r hf
  obtain ⟨a, σ1, e1, hf⟩ := M.bind_some hf
  obtain ⟨c, σ2, e2, hf⟩ := M.bind_some hf
  refine wpAny_Or2 (wpAny_mono (h1 env A _ _ _ G s P hA r e1) (fun ma s1 ⟨G1, l1, r1, p1⟩ => ?_) fun _ _ e => e)
  refine wpAny_mono (Op1.truth ok A _ _ G1 s1 _ _ _ hA r1 p1 e2) (fun b' s2 ⟨G2, l2, r2, q⟩ => ?_) fun _ _ e => e
  subst q
  cases b' with
  | false => exact wpAny_mono (h2 env A _ _ _ G2 s2 (P.mono (l1.trans l2)) hA r2 hf) (fun _ _ q => q.le (l1.trans l2)) fun _ _ e => e
  | true => cases hf; exact ⟨G2, l1.trans l2, r2, p1.le l2⟩

/-! displays -/
abbrev SimI (W : Wd) (X : Sc) (n : Nat) (es : List Expr) (f : M (List AV)) : Prop := ∀ pos, Sim W (Reps W) (EF X) n (fun env => spliced (backTo pos (starEach es env))) f
theorem SimI.nil : SimI W X n [] (M.pure []) := fun pos env A σ b σ' G s P hA r hf => by cases hf; exact wpAny_items_nil (.now r rfl)
theorem SimI.cons {e : Expr} {es : List Expr} {f : M AV} {g : M (List AV)} (h1 : SimE W X n e f) (h2 : SimI W X n es g) (he : ∀ env, starEach (e :: es) env = (false, eval e env) :: starEach es env) :
    SimI W X n (e :: es) (M.bind f fun a => M.bind g fun l => M.pure (a :: l)) := by
  intro pos env A σ b σ' G s P hA r hf
  obtain ⟨a, σ1, e1, hf⟩ := M.bind_some hf
  obtain ⟨c, σ2, e2, hf⟩ := M.bind_some hf
  cases hf
  refine wpAny_items_cons (wpAny_mono (h1 env A _ _ _ G s P hA r e1) (fun ma s1 ⟨G1, l1, r1, p1⟩ => ?_) fun _ _ e => e) (he env)
  exact wpAny_mono (h2 pos env A _ _ _ G1 s1 (P.mono l1) hA r1 e2) (fun vs s2 ⟨G2, l2, r2, p2⟩ => ⟨G2, l1.trans l2, r2, _, _, rfl, p1.le l2, p2⟩) fun _ _ e => e

def mkT (l : List AV) : M AV := if l.length ≤ 1000 then M.pure (.tup l) else M.fail
def mkL (l : List AV) : M AV := if l.length ≤ 1000 then M.pure (.lst l) else M.fail
theorem SimE.tuple {es : List Expr} {k : Nat} {pos : Pos} {f : M (List AV)} (h : SimI W X n es f) : SimE W X n (.Tuple es k pos) (M.bind f mkT) := by
  intro env A σ b σ' G s P hA r hf
  obtain ⟨a, σ1, e1, hf⟩ := M.bind_some hf
  unfold mkT at hf
  split at hf
  · rename_i hk
    cases hf
    refine wpAny_Tuple (wpAny_mono (h pos env A _ _ _ G s P hA r e1) (fun vs s1 ⟨G1, l1, r1, p1⟩ => ?_) fun _ _ e => e)
    have hlen := p1.length
    obtain ⟨r2, l2⟩ := r1.alloc .z (o := { cls := .type "tuple", data := .seq vs.toArray }) rfl (tk := s1.toks)
    exact ⟨by rw [sizeLine_eq]; omega, _, l1.trans l2, r2, _, vs.toArray, (), rfl, Gh.z_iff.mpr Gh.set_self, by simpa using Reps.le p1 l2⟩
  · cases hf
/-- a list that nobody will change -/
theorem SimE.listz {es : List Expr} {pos : Pos} {f : M (List AV)} (h : SimI W X n es f) : SimE W X n (.List es pos) (M.bind f mkL) := by
  intro env A σ b σ' G s P hA r hf
  obtain ⟨a, σ1, e1, hf⟩ := M.bind_some hf
  unfold mkL at hf
  split at hf
  · rename_i hk
    cases hf
    refine wpAny_List (wpAny_mono (h pos env A _ _ _ G s P hA r e1) (fun vs s1 ⟨G1, l1, r1, p1⟩ => ?_) fun _ _ e => e)
    have hlen := p1.length
    obtain ⟨r2, l2⟩ := r1.alloc .z (o := { cls := .type "list", data := .seq vs.toArray }) rfl (tk := s1.toks)
    exact ⟨by rw [sizeLine_eq]; omega, _, l1.trans l2, r2, _, vs.toArray, 0, rfl, Gh.z_iff.mpr Gh.set_self, by simpa using Reps.le p1 l2⟩
  · cases hf
end

/-! objects that may change -/
structure Fresh (G : Gh) (σ : St) (n : Hd) : Prop where
  mu : G.mu n = none
  cn : n.2 = σ.cnt

def allocA (site : Nat) (o : AO) : M Hd := fun σ => some ((site, σ.cnt), { σ with st := fun m => if m = (site, σ.cnt) then some o else σ.st m, cnt := σ.cnt + 1 })

def Gh.newObj (G : Gh) (a : Addr) (n : Hd) (o : Obj) : Gh := { G.set a (.obj n) o with mu := fun m => if m = n then some a else G.mu m }

theorem R.allocObj {W : Wd} {G : Gh} {σ : St} {s : Shared} (r : R W G σ s) {ob : Obj} {o : AO} (hf : ob.isFreed = false) (site : Nat) (ho : ∀ G', G.Le G' → ObjOK W (G'.vw W) o ob) {tk : Nat} :
    ∃ G', G.Le G' ∧ R W G' { σ with st := fun m => if m = (site, σ.cnt) then some o else σ.st m, cnt := σ.cnt + 1 } { s with heap := s.heap.push ob, toks := tk } ∧ G'.mu (site, σ.cnt) = some s.heap.objs.size := by
  have hn := r.fresh
  have hm : G.mu (site, σ.cnt) = none := by
    cases e : G.mu (site, σ.cnt) with
    | none => rfl
    | some a => exact absurd (r.inv.cnt _ _ e) (Nat.lt_irrefl _)
  have hl : G.Le (G.set s.heap.objs.size (.obj (site, σ.cnt)) ob) := Gh.le_set fun t₀ o₀ e => by rw [hn] at e; cases e
  have le : G.Le (G.newObj s.heap.objs.size (site, σ.cnt) ob) := ⟨hl.z, hl.pin, fun m a e => by
    show (if m = (site, σ.cnt) then _ else _) = _
    rw [if_neg]
    · exact e
    · rintro rfl
      rw [hm] at e
      exact absurd e (by simp), rfl⟩
  have keep : ∀ b t o', G.kn b = some (t, o') → (G.newObj s.heap.objs.size (site, σ.cnt) ob).kn b = some (t, o') := fun b t o' e => Gh.set_keep e fun t₀ o₀ w => by rw [hn] at w; cases w
  refine ⟨_, le, ⟨⟨fun b o' hb e => keep _ _ _ (r.inv.base b o' hb e), ?_, ?_, ?_, r.inv.sys.new hn (.inl r.big)⟩, ?_, r.os, r.gens⟩, if_pos rfl⟩
  · exact r.inv.frames.mono (le.vw W) fun b t o' e _ => keep _ _ _ e
  · intro m o' e
    dsimp only at e
    split at e
    · rename_i hm'
      subst hm'
      cases e
      exact ⟨_, ob, if_pos rfl, Gh.set_self, ho _ le⟩
    · rename_i hm'
      obtain ⟨b, ob', h1, h2, h3⟩ := r.inv.objs m o' e
      exact ⟨b, ob', (if_neg hm').trans h1, keep _ _ _ h2, h3.mono (le.vw W)⟩
  · intro m a e
    have e : (if m = (site, σ.cnt) then some s.heap.objs.size else G.mu m) = some a := e
    split at e
    · rename_i hm'; subst hm'; exact Nat.lt_succ_self _
    · exact Nat.lt_succ_of_lt (r.inv.cnt m a e)
  · intro b t o' e
    by_cases hb : b = s.heap.objs.size
    · subst hb
      have e : (G.set s.heap.objs.size (.obj (site, σ.cnt)) ob).kn s.heap.objs.size = some (t, o') := e
      rw [Gh.set_self] at e
      cases e
      exact Heap.get?_push_size _ hf
    · have e : (G.set s.heap.objs.size (.obj (site, σ.cnt)) ob).kn b = some (t, o') := e
      rw [Gh.set_ne hb] at e
      exact Heap.get?_push_of_some _ (r.sub _ _ _ e)

def setA (n : Hd) (o : AO) : M Unit := fun σ => some ((), { σ with st := fun m => if m = n then some o else σ.st m })

theorem R.setObj {W : Wd} {G : Gh} {σ : St} {s : Shared} (r : R W G σ s) {n : Hd} {a : Addr} {o₀ ob : Obj} {o : AO} {h' : Heap} {tk : Nat} (hm : G.mu n = some a) (hk : G.kn a = some (.obj n, o₀)) (he : h'.get? a = some ob) (hs : Heap.SameBut a s.heap h')
    (ho : ObjOK W (G.vw W) o ob) : ∃ G', G.Le G' ∧ R W G' { σ with st := fun m => if m = n then some o else σ.st m } { s with heap := h', toks := tk } ∧ G'.vw W = G.vw W ∧ G'.mu = G.mu := by
  have hv := Gh.vw_set (W := W) (t := .obj n) (o := ob) hk Tag.noConfusion Tag.noConfusion
  obtain ⟨r', le⟩ := r.turn (σ' := { σ with st := fun m => if m = n then some o else σ.st m }) (tk := tk) hk Tag.noConfusion Tag.noConfusion he hs
    (r.inv.frames.mono ⟨fun _ _ e => e, fun _ _ e => e, fun _ _ e => e, fun _ _ e => e⟩ fun b t o' e ⟨_, _, q⟩ => Gh.set_keep e fun t₀ o₀' w => by
      rw [hk] at w; cases w
      rcases q with rfl | ⟨_, rfl⟩ <;> exact Tag.noConfusion)
    (fun m o' e => by
      dsimp only at e
      split at e
      · rename_i hm'; subst hm'; cases e
        exact ⟨a, ob, hm, Gh.set_self, ho⟩
      · rename_i hm'
        obtain ⟨b, ob', h1, h2, h3⟩ := r.inv.objs m o' e
        exact ⟨b, ob', h1, Gh.set_keep h2 fun t₀ o₀' w => by rw [hk] at w; cases w; intro q; cases q; exact hm' rfl, h3⟩) (Nat.le_refl _)
  exact ⟨_, le, r', hv, rfl⟩

section
variable {W : Wd} {X : Sc} {n : Nat}
theorem SimE.list (site : Nat) {es : List Expr} {pos : Pos} {f : M (List AV)} (h : SimI W X n es f) :
    SimE W X n (.List es pos) (M.bind f fun l => if l.length ≤ 1000 then M.bind (allocA site (.list l)) fun h => M.pure (.ref h) else M.fail) := by
  intro env A σ b σ' G s P hA r hf
  obtain ⟨a, σ1, e1, hf⟩ := M.bind_some hf
  split at hf
  · rename_i hk
    cases hf
    refine wpAny_List (wpAny_mono (h pos env A _ _ _ G s P hA r e1) (fun vs s1 ⟨G1, l1, r1, p1⟩ => ?_) fun _ _ e => e)
    have hlen := p1.length
    obtain ⟨G2, l2, r2, m2⟩ := r1.allocObj (ob := { cls := .type "list", data := .seq vs.toArray }) (o := .list a) rfl site (fun G' l' => ⟨_, 0, rfl, by simpa using Reps.le p1 l'⟩) (tk := s1.toks)
    exact ⟨by rw [sizeLine_eq]; omega, G2, l1.trans l2, r2, _, rfl, m2⟩
  · cases hf
end
end Mine
end

section
open PySem PySem.W PySem.Calls PyProof.Rows
set_option Elab.async false
set_option maxRecDepth 20000
namespace Mine

structure LeX (I : Addr → Prop) (G G' : Gh) : Prop where
  z : ∀ a o, G.kn a = some (.z, o) → G'.kn a = some (.z, o)
  pin : ∀ a o, ¬ I a → G.kn a = some (.pin, o) → G'.kn a = some (.pin, o)
  mu : ∀ n a, G.mu n = some a → G'.mu n = some a
  fr : G'.fr = G.fr
theorem LeX.refl {I : Addr → Prop} (G : Gh) : LeX I G G := ⟨fun _ _ h => h, fun _ _ _ h => h, fun _ _ h => h, rfl⟩
theorem LeX.le {I : Addr → Prop} {G₀ G G' : Gh} (h : G₀.Le G) (x : LeX I G G') (hi : ∀ a, I a → ∀ o, G₀.kn a ≠ some (.pin, o)) : G₀.Le G' :=
  ⟨fun a o e => x.z a o (h.z a o e), fun a o e => x.pin a o (fun q => hi a q o e) (h.pin a o e), fun n a e => x.mu n a (h.mu n a e), x.fr.trans h.fr⟩
theorem LeX.vw {I : Addr → Prop} {G G' : Gh} (h : LeX I G G') (W : Wd) : (G.vw W).Le (G'.vw W) :=
  ⟨fun _ _ e => Gh.z_iff.mpr (h.z _ _ (Gh.z_iff.mp e)), h.mu, fun k o c => by
    show cloAt W G'.z G'.fr k o
    rw [h.fr]; exact c.mono fun _ _ e => Gh.z_iff.mpr (h.z _ _ (Gh.z_iff.mp e)), fun _ _ e => e⟩

/-- what an iterator asks of a turn of the others -/
structure LeI (W : Wd) (I : Addr → Prop) (G G' : Gh) : Prop where
  z : ∀ a o, G.kn a = some (.z, o) → G'.kn a = some (.z, o)
  pin : ∀ a o, I a → G.kn a = some (.pin, o) → G'.kn a = some (.pin, o)
  mu : ∀ n a, G.mu n = some a → G'.mu n = some a
  vw : (G.vw W).Le (G'.vw W)
theorem Gh.Le.toI {W : Wd} {I : Addr → Prop} {G G' : Gh} (h : G.Le G') : LeI W I G G' := ⟨h.z, fun a o _ e => h.pin a o e, h.mu, h.vw W⟩
theorem LeX.toZ {W : Wd} {I I' : Addr → Prop} {G G' : Gh} (h : LeX I G G') (hi : ∀ a, I' a → ¬ I a) : LeI W I' G G' := ⟨h.z, fun a o q e => h.pin a o (hi a q) e, h.mu, h.vw W⟩

/-- an iterator at work -/
structure It (W : Wd) (it : Value) where
  C : St → Prop
  I : Addr → Prop
  K : Addr → Prop
  T : Expr → Prop
  J : List AV → Gh → Prop
  J1 : List AV → Value → Gh → Prop
  mono : ∀ {l G G'}, J l G → LeI W (fun a => I a ∨ K a) G G' → J l G'
  known : ∀ {l G} a, J l G → I a ∨ K a → ∃ o, G.kn a = some (.pin, o)
  next : ∀ {x l G σ s A}, A.handled = none → C σ → J (x :: l) G → R W G σ s →
    wpAny W.M A (pyNext it) (fun r s' => ∃ mv G', r = some mv ∧ LeX I G G' ∧ R W G' σ s' ∧ Rep W G' x mv ∧ J1 l mv G') (fun _ _ => False) s
  go : ∀ {l G σ s A mv} (target : Expr), T target → J1 l mv G → R W G σ s → wpAny W.M A (letOwnedTupleGo target it mv) (fun _ s' => ∃ G', LeX I G G' ∧ R W G' σ s' ∧ J l G') (fun _ _ => False) s
  stop : ∀ {G σ s A}, A.handled = none → C σ → J [] G → R W G σ s → wpAny W.M A (pyNext it) (fun r s' => r = none ∧ ∃ G', LeX I G G' ∧ R W G' σ s') (fun _ _ => False) s
  self : ∀ {l G σ s A}, J l G → R W G σ s → wpAny W.M A (pyIter it) (fun v s' => v = it ∧ s' = s) (fun _ _ => False) s

/-- the start of an iteration -/
def ItPost (W : Wd) (tg : Expr) (G : Gh) (σ' : St) (l : List AV) (C : St → Prop) : Value → Shared → Prop :=
  fun it s' => ∃ (S : It W it) (G' : Gh), G.Le G' ∧ R W G' σ' s' ∧ S.C = C ∧ S.T tg ∧ S.J l G' ∧ ∀ a, S.I a → ∀ o, G.kn a ≠ some (.pin, o)

def SimIt (W : Wd) (X : Sc) (n : Nat) (e tg : Expr) (f : M (List AV × (St → Prop))) : Prop :=
  ∀ env A σ l C σ' G s, EnvOK X env G → AOK n A → R W G σ s → f σ = some ((l, C), σ') → wpAny W.M A (eval e env) (fun x s₁ => wpAny W.M A (pyIter x) (ItPost W tg G σ' l C) (fun _ _ => False) s₁) (fun _ _ => False) s

theorem Inv.pin {W : Wd} {G : Gh} {σ : St} {a : Addr} {o o' : Obj} (i : Inv W G σ) (h : G.kn a = some (.pin, o)) : Inv W (G.set a .pin o') σ := by
  have hv := Gh.vw_set (W := W) (t := .pin) (o := o') h Tag.noConfusion Tag.noConfusion
  have k : ∀ b t x, G.kn b = some (t, x) → t ≠ .pin → (G.set a .pin o').kn b = some (t, x) := fun b t x e ht => Gh.set_keep e fun t₀ o₀ w => by rw [h] at w; cases w; exact Ne.symm ht
  refine ⟨fun b o hb e => k _ _ _ (i.base b o hb e) Tag.noConfusion, ?_, fun n o e => ?_, i.cnt, i.sys.turn h Tag.noConfusion⟩
  · rw [hv]
    exact i.frames.mono ⟨fun _ _ e => e, fun _ _ e => e, fun _ _ e => e, fun _ _ e => e⟩ fun b t' o' e ⟨_, _, q⟩ => k _ _ _ e (by rcases q with rfl | ⟨_, rfl⟩ <;> exact Tag.noConfusion)
  · obtain ⟨b, ob, h1, h2, h3⟩ := i.objs n o e
    rw [hv]
    exact ⟨b, ob, h1, k _ _ _ h2 Tag.noConfusion, h3⟩
theorem R.pin {W : Wd} {G : Gh} {σ : St} {s : Shared} (r : R W G σ s) {a : Addr} {o o' : Obj} {h' : Heap} {tk : Nat} (h : G.kn a = some (.pin, o)) (he : h'.get? a = some o') (hs : ∀ b x, b ≠ a → s.heap.get? b = some x → h'.get? b = some x) :
    R W (G.set a .pin o') σ { s with heap := h', toks := tk } ∧ LeX (· = a) G (G.set a .pin o') := by
  have k : ∀ b t x, G.kn b = some (t, x) → b ≠ a → (G.set a .pin o').kn b = some (t, x) := fun b t x e hb => by rw [Gh.set_ne hb]; exact e
  refine ⟨⟨r.inv.pin h, fun b t x e => ?_, r.os, r.gens⟩, ⟨fun b x e => ?_, fun b x hb e => k _ _ _ e hb, fun _ _ e => e, rfl⟩⟩
  · by_cases hb : b = a
    · subst hb; rw [Gh.set_self] at e; cases e; exact he
    · rw [Gh.set_ne hb] at e; exact hs b x hb (r.sub _ _ _ e)
  · exact k _ _ _ e (by rintro rfl; rw [h] at e; cases e)
theorem LeX.more {I I' : Addr → Prop} {G G' : Gh} (h : LeX I G G') (hi : ∀ a, I a → I' a) : LeX I' G G' := ⟨h.z, fun a o q e => h.pin a o (fun w => q (hi a w)) e, h.mu, h.fr⟩


structure Src (W : Wd) (a : Addr) (l : List AV) (C : St → Prop) (Fx : Gh → Prop) : Prop where
  mono : ∀ {G G' I}, Fx G → LeI W I G G' → Fx G'
  at_ : ∀ {G σ s}, Fx G → C σ → R W G σ s → ∃ vs, s.heap.IsList a vs ∧ Reps W G l vs.toList

def LIter (o : Obj) (a : Addr) (i : Nat) : Prop := o.cls = .type "list_iterator" ∧ o.data = .fields #[.ref a, .int i 0]

theorem repsX {W : Wd} {G G' : Gh} {I} {l : List AV} {vs} (r : Reps W G l vs) (h : LeX I G G') : Reps W G' l vs := RepVs.mono (h.vw W) l vs r
theorem repX {W : Wd} {G G' : Gh} {I} {l : AV} {vs} (r : Rep W G l vs) (h : LeX I G G') : Rep W G' l vs := RepV.mono (h.vw W) l vs r

theorem letGo_notTuple {it v : Value} {target : Expr} (h : ∀ es k p, target ≠ .Tuple es k p) (h' : ∀ es p, target ≠ .List es p) : letOwnedTupleGo target it v = pure () := by
  unfold letOwnedTupleGo
  split
  · rename_i es k p; exact absurd rfl (h es k p)
  · rename_i es p; exact absurd rfl (h' es p)
  · rfl

/-- for an iterator whose object owns no tuple -/
theorem letGo_plain {M : Model} {A : Around} {E : Value → Shared → Prop} {s : Shared} {I : Addr} {v : Value} {o : Obj} {target : Expr} {Q : Unit → Shared → Prop} {nm : String} (ho : s.heap.get? I = some o) (hc : o.cls = .type nm)
    (hn : (["enumerate", "zip", "dict_itemiterator", "dict_reverseitemiterator", "odict_iterator", "itertools.zip_longest", "itertools.pairwise"].contains nm) = false) (h : Q () s) : wpAny M A (letOwnedTupleGo target (.ref I) v) Q E s := by
  have key : wpAny M A (do
      let (.ref r, .ref a) := ((Value.ref I), v) | return
      let o ← load r
      match o.cls, o.data with
      | .type n, .fields vs =>
        if ["enumerate", "zip", "dict_itemiterator", "dict_reverseitemiterator", "odict_iterator", "itertools.zip_longest", "itertools.pairwise"].contains n && vs[0]? == some (rawInt a) then
          rule "for.unpacks-the-owned-tuple"
          updateField r 0 .none
      | _, _ => pure ()) Q E s := by
    cases v
    case ref a =>
      refine wpAny_bind (wpAny_load ho ?_)
      rw [hc]
      cases o.data
      case fields vs => simp only [hn, Bool.false_and, Bool.false_eq_true, if_false]; exact wpAny_pure h
      all_goals exact wpAny_pure h
    all_goals exact wpAny_pure h
  unfold letOwnedTupleGo
  split
  · exact key
  · exact key
  · exact wpAny_pure h

def Gh.del (G : Gh) (a : Addr) : Gh := { G with kn := fun b => if b = a then none else G.kn b }
theorem SysK.dl {G : Gh} {a : Addr} {t₀ : Tag} {o₀ : Obj} (h : SysK G.kn) (hk : G.kn a = some (t₀, o₀)) (h0 : t₀ ≠ .z) : SysK (G.del a).kn := by
  obtain ⟨⟨oc, hc⟩, hs⟩ := h
  refine ⟨⟨oc, ?_⟩, fun t' o' e => ?_⟩
  · show (if cStatics = a then none else G.kn cStatics) = _
    rw [if_neg]
    · exact hc
    · rintro rfl; rw [hk] at hc; cases hc; exact h0 rfl
  · by_cases ha : sysModules = a
    · have e : (if sysModules = a then none else G.kn sysModules) = some (t', o') := e
      rw [if_pos ha] at e; cases e
    · have e : (if sysModules = a then none else G.kn sysModules) = some (t', o') := e
      rw [if_neg ha] at e; exact hs _ _ e
theorem R.drop {W : Wd} {G : Gh} {σ : St} {s : Shared} (r : R W G σ s) {a : Addr} {o : Obj} {h' : Heap} {tk : Nat} (h : G.kn a = some (.pin, o)) (hs : ∀ b x, b ≠ a → s.heap.get? b = some x → h'.get? b = some x) :
    R W (G.del a) σ { s with heap := h', toks := tk } ∧ LeX (· = a) G (G.del a) := by
  have k : ∀ b t x, G.kn b = some (t, x) → b ≠ a → (G.del a).kn b = some (t, x) := fun b t x e hb => by
    show (if b = a then none else G.kn b) = _
    rw [if_neg hb]; exact e
  have k' : ∀ b t x, G.kn b = some (t, x) → t ≠ .pin → (G.del a).kn b = some (t, x) := fun b t x e ht => k b t x e (by rintro rfl; rw [h] at e; cases e; exact ht rfl)
  have lx : LeX (· = a) G (G.del a) := ⟨fun b x e => k' _ _ _ e Tag.noConfusion, fun b x hb e => k _ _ _ e hb, fun _ _ e => e, rfl⟩
  refine ⟨⟨⟨fun b o hb e => k' _ _ _ (r.inv.base b o hb e) Tag.noConfusion, ?_, fun n o e => ?_, r.inv.cnt, r.inv.sys.dl h Tag.noConfusion⟩, fun b t x e => ?_, r.os, r.gens⟩, lx⟩
  · exact r.inv.frames.mono (lx.vw W) fun b t' o' e ⟨_, _, q⟩ => k' _ _ _ e (by rcases q with rfl | ⟨_, rfl⟩ <;> exact Tag.noConfusion)
  · obtain ⟨b, ob, h1, h2, h3⟩ := r.inv.objs n o e
    exact ⟨b, ob, h1, k' _ _ _ h2 Tag.noConfusion, h3.mono (lx.vw W)⟩
  · have e : (if b = a then none else G.kn b) = some (t, x) := e
    split at e
    · cases e
    · rename_i hb; exact hs b x hb (r.sub _ _ _ e)

/-- a list's iterator -/
def itList (W : Wd) (I a : Addr) (l₀ : List AV) (C : St → Prop) (Fx : Gh → Prop) (S : Src W a l₀ C Fx) : It W (.ref I) where
  C := C
  I := (· = I)
  K := fun _ => False
  T := fun _ => True
  J := fun l G => ∃ o i, G.kn I = some (.pin, o) ∧ LIter o a i ∧ l = l₀.drop i ∧ Fx G ∧ i ≤ l₀.length
  J1 := fun l _ G => ∃ o i, G.kn I = some (.pin, o) ∧ LIter o a i ∧ l = l₀.drop i ∧ Fx G ∧ i ≤ l₀.length
  mono := fun ⟨o, i, h1, h2, h3, h4, h5⟩ l => ⟨o, i, l.pin _ _ (.inl rfl) h1, h2, h3, S.mono h4 l, h5⟩
  known := fun a ⟨o, _, h1, _⟩ e => by rcases e with e | e; (cases e; exact ⟨o, h1⟩); exact e.elim
  next := by
    rintro x l G σ s A hh hC ⟨o, i, h1, h2, h3, h4, h5⟩ r
    obtain ⟨vs, v1, v2⟩ := S.at_ h4 hC r
    have hi : l₀[i]? = some x := by
      have := congrArg (·[0]?) h3
      simpa using this.symm
    obtain ⟨mv, m1, m2⟩ := RepVs.get v2 hi
    rw [Array.getElem?_toList] at m1
    refine wpAny_pyNext_list_item ⟨o, r.sub _ _ _ h1, h2.1, h2.2⟩ v1 m1 fun h' hit hs => ?_
    obtain ⟨o', e1, e2, e3⟩ := hit
    obtain ⟨r', lx⟩ := r.pin (tk := s.toks) h1 e1 fun b x hb e => (hs.2 b hb).trans e
    refine ⟨mv, _, rfl, lx, r', repX m2 lx, o', i + 1, Gh.set_self, ⟨e2, e3⟩, ?_, S.mono (I := fun _ => False) h4 (lx.toZ fun _ h => h.elim), ?_⟩
    · have : l₀.drop (i + 1) = (l₀.drop i).drop 1 := by rw [List.drop_drop]
      rw [this, ← h3]; rfl
    · have := (List.getElem?_eq_some_iff.mp hi).1; omega
  go := by
    rintro l G σ s A mv target - ⟨o, i, h1, h2, h3, h4, h5⟩ r
    exact letGo_plain (r.sub _ _ _ h1) h2.1 (by decide) ⟨G, .refl _, r, o, i, h1, h2, h3, h4, h5⟩
  stop := by
    rintro G σ s A hh hC ⟨o, i, h1, h2, h3, h4, h5⟩ r
    obtain ⟨vs, v1, v2⟩ := S.at_ h4 hC r
    have hlen := v2.length
    rw [Array.length_toList] at hlen
    have hi : vs[i]? = none := by
      have : l₀.length ≤ i := List.drop_eq_nil_iff.mp h3.symm
      simp; omega
    refine wpAny_pyNext_list_end hh ⟨o, r.sub _ _ _ h1, h2.1, h2.2⟩ v1 hi fun h' hs => ?_
    obtain ⟨r', lx⟩ := r.drop (tk := s.toks) h1 fun b x hb e => hs b x hb e
    exact ⟨rfl, _, lx, r'⟩
  self := by
    rintro l G σ s A ⟨o, i, h1, h2, h3, h4, h5⟩ r
    exact wpAny_pyIter_listiter ⟨o, r.sub _ _ _ h1, h2.1, h2.2⟩ ⟨rfl, rfl⟩

theorem srcZ (W : Wd) (a : Addr) (l : List AV) (C : St → Prop) : Src W a l C (fun G => ∃ vs n, G.kn a = some (.z, ⟨.type "list", none, .seq vs n, #[]⟩) ∧ Reps W G l vs.toList) where
  mono := fun ⟨vs, n, h1, h2⟩ l => ⟨vs, n, l.z _ _ h1, RepVs.mono l.vw _ _ h2⟩
  at_ := fun ⟨vs, n, h1, h2⟩ _ r => ⟨vs, isList_of (r.sub _ _ _ h1), h2⟩
theorem srcL (W : Wd) (a : Addr) (l : List AV) (m : Hd) : Src W a l (fun σ => σ.st m = some (.list l)) (fun G => G.mu m = some a) where
  mono := fun h l => l.mu _ _ h
  at_ := fun h hC r => by
    obtain ⟨a', ob, h1, h2, vs, n, h3, h4⟩ := r.inv.objs _ _ hC
    rw [h] at h1; cases h1
    exact ⟨vs, isList_of (h3 ▸ r.sub _ _ _ h2), h4⟩

/-- ints as values -/
def intsL (l : List Int) : List AV := l.map .int
def rangeL (a c : Int) : Nat → List Int
  | 0 => []
  | n + 1 => a :: rangeL (a + c) c n
theorem rangeL_length (c : Int) : ∀ (n : Nat) (a : Int), (rangeL a c n).length = n
  | 0, _ => rfl
  | n + 1, a => by simp [rangeL, rangeL_length c n]

/-- a range's iterator -/
def itRange (W : Wd) (I : Addr) (c : Int) : It W (.ref I) where
  C := fun _ => True
  I := (· = I)
  K := fun _ => False
  T := fun _ => True
  J := fun l G => ∃ (x : Int) (n : Nat), G.kn I = some (.pin, { cls := .type "range_iterator", data := .fields #[rawInt x, rawInt n, rawInt c] }) ∧ l = intsL (rangeL x c n) ∧ True
  J1 := fun l _ G => ∃ (x : Int) (n : Nat), G.kn I = some (.pin, { cls := .type "range_iterator", data := .fields #[rawInt x, rawInt n, rawInt c] }) ∧ l = intsL (rangeL x c n) ∧ True
  mono := fun ⟨x, n, h1, h2, h3⟩ l => ⟨x, n, l.pin _ _ (.inl rfl) h1, h2, h3⟩
  known := fun a ⟨_, _, h1, _⟩ e => by rcases e with e | e; (cases e; exact ⟨_, h1⟩); exact e.elim
  next := by
    rintro y l G σ s A hh hC ⟨x, n, h1, h2, h3⟩ r
    cases n with
    | zero => cases h2
    | succ n =>
      cases h2
      refine wpAny_pyNext_range_item (r.sub _ _ _ h1) (by omega) fun h' hit hs => ?_
      obtain ⟨r', lx⟩ := r.pin (tk := s.toks + 1) h1 hit fun b x hb e => (hs.2 b hb).trans e
      refine ⟨_, _, rfl, lx, r', ⟨_, rfl⟩, x + c, n, ?_, rfl, trivial⟩
      rw [Gh.set_self, show ((n + 1 : Nat) : Int) - 1 = n by omega]
  go := by
    rintro l G σ s A mv target - ⟨x, n, h1, h2, h3⟩ r
    exact letGo_plain (r.sub _ _ _ h1) (nm := "range_iterator") rfl (by decide) ⟨G, .refl _, r, x, n, h1, h2, h3⟩
  stop := by
    rintro G σ s A hh hC ⟨x, n, h1, h2, h3⟩ r
    cases n with
    | succ n => cases h2
    | zero =>
      refine wpAny_pyNext_range_end hh (r.sub _ _ _ h1) (by omega) fun h' hs => ?_
      obtain ⟨r', lx⟩ := r.drop (tk := s.toks) h1 fun b x hb e => hs b x hb e
      exact ⟨rfl, _, lx, r'⟩
  self := by
    rintro l G σ s A ⟨x, n, h1, h2, h3⟩ r
    exact wpAny_pyIter_rangeiter (r.sub _ _ _ h1) ⟨rfl, rfl⟩

def itA : AV → M (List AV × (St → Prop))
  | .lst l => M.pure (l, fun _ => True)
  | .ref n => fun σ => match σ.st n with
    | some (.list l) => some ((l, fun σ' => σ'.st n = some (.list l)), σ)
    | _ => none
  | .rng a b c => if Builtin.Range.small a b c = true ∧ 0 ≤ Builtin.Range.rangeSize a b c then M.pure (intsL (rangeL a c (Builtin.Range.rangeSize a b c).toNat), fun _ => True) else M.fail
  | _ => M.fail

section
variable {W : Wd} {X : Sc} {n : Nat}

theorem pyIter_A {A : Around} {σ σ' : St} {G : Gh} {s : Shared} {a : AV} {mv : Value} {l : List AV} {C : St → Prop} {tg : Expr} (r : R W G σ s) (p : Rep W G a mv) (hf : itA a σ = some ((l, C), σ')) :
    wpAny W.M A (pyIter mv) (ItPost W tg G σ' l C) (fun _ _ => False) s := by
  unfold itA at hf
  split at hf
  · cases hf
    obtain ⟨x, vs, m, e, hz, hr⟩ := p
    subst e
    have hk := Gh.z_iff.mp hz
    obtain ⟨r', le⟩ := r.alloc .pin (o := { cls := .type "list_iterator", data := .fields #[.ref x, .int 0 0] }) rfl (tk := s.toks)
    exact wpAny_pyIter_list (isList_of (r.z hz)) ⟨itList W _ x _ _ _ (srcZ W x _ _), _, le, r', rfl, trivial, ⟨_, 0, Gh.set_self, ⟨rfl, rfl⟩, rfl, ⟨vs, m, le.z _ _ hk, Reps.le hr le⟩, Nat.zero_le _⟩, fun a e o q => by cases e; rw [r.fresh] at q; cases q⟩
  · split at hf
    · rename_i m _ l' hs
      cases hf
      obtain ⟨x, e, hm⟩ := p
      subst e
      obtain ⟨x', ob, h1, h2, vs, k, h3, h4⟩ := r.inv.objs _ _ hs
      rw [show (G.vw W).mu = G.mu from rfl, h1] at hm
      cases hm
      obtain ⟨r', le⟩ := r.alloc .pin (o := { cls := .type "list_iterator", data := .fields #[.ref x, .int 0 0] }) rfl (tk := s.toks)
      exact wpAny_pyIter_list (isList_of (h3 ▸ r.sub _ _ _ h2)) ⟨itList W _ x _ _ _ (srcL W x _ _), _, le, r', rfl, trivial, ⟨_, 0, Gh.set_self, ⟨rfl, rfl⟩, rfl, h1, Nat.zero_le _⟩, fun a e o q => by cases e; rw [r.fresh] at q; cases q⟩
    · cases hf
  · split at hf
    · rename_i a b c hs
      cases hf
      obtain ⟨x, t, u, w, e, hz⟩ := p
      subst e
      obtain ⟨r', le⟩ := r.alloc .pin (o := { cls := .type "range_iterator", data := .fields #[rawInt a, rawInt (Builtin.Range.rangeSize a b c), rawInt c] }) rfl (tk := s.toks)
      refine wpAny_pyIter_range (r.z hz) hs.1 ⟨itRange W _ c, _, le, r', rfl, trivial, ⟨a, (Builtin.Range.rangeSize a b c).toNat, ?_, rfl, trivial⟩, fun a e o q => by cases e; rw [r.fresh] at q; cases q⟩
      rw [Gh.set_self, Int.toNat_of_nonneg hs.2]
    · cases hf
  · cases hf

theorem SimIt.of {e tg : Expr} {f : M AV} (h : SimE W X n e f) : SimIt W X n e tg (M.bind f itA) := by
  intro env A σ l C σ' G s P hA r hf
  obtain ⟨a, σ1, e1, hf⟩ := M.bind_some hf
  refine wpAny_mono (h env A _ _ _ G s P hA r e1) (fun mv s1 ⟨G1, l1, r1, p1⟩ => ?_) fun _ _ e => e
  refine wpAny_mono (pyIter_A r1 p1 hf) (fun it s2 ⟨S, G2, l2, r2, c2, t2, j2, i2⟩ => ⟨S, G2, l1.trans l2, r2, c2, t2, j2, fun a ha o q => i2 a ha o (l1.pin _ _ q)⟩) fun _ _ e => e
end

/-! loops -/
def RepFl (W : Wd) (G : Gh) : AFl → Flow → Prop
  | .next, .next => True
  | .brk, .brk => True
  | .cont, .cont => True
  | .ret a, .ret v => Rep W G a v
  | _, _ => False
abbrev SimX (W : Wd) (X : Sc) (n : Nat) (b : List Stmt) (f : M AFl) : Prop := Sim W (RepFl W) (EF X) n (fun env => execs b env) f
abbrev SimS (W : Wd) (X : Sc) (n : Nat) (b : Stmt) (f : M AFl) : Prop := Sim W (RepFl W) (EF X) n (fun env => exec b env) f
def SimT (W : Wd) (X : Sc) (n : Nat) (t : Expr) (f : AV → M Unit) : Prop :=
  ∀ env A σ σ' G s v mv, EnvOK X env G → AOK n A → R W G σ s → Rep W G v mv → f v σ = some ((), σ') → wpAny W.M A (assign t env mv) (Post W (fun _ _ _ => True) G σ' ()) (fun _ _ => False) s

inductive LRes where
  | done | brk
  | ret (v : AV)

open Classical in
noncomputable def forA (C : St → Prop) (tgt : AV → M Unit) (body : M AFl) : List AV → M LRes
  | [] => fun σ => if C σ then some (.done, σ) else none
  | x :: l => fun σ => if C σ then (match M.bind (tgt x) (fun _ => body) σ with
      | some (.next, σ') => forA C tgt body l σ'
      | some (.cont, σ') => forA C tgt body l σ'
      | some (.brk, σ') => some (.brk, σ')
      | some (.ret v, σ') => some (.ret v, σ')
      | none => none) else none

noncomputable def forS (it : M (List AV × (St → Prop))) (tgt : AV → M Unit) (body orelse : M AFl) : M AFl :=
  M.bind it fun p => M.bind (forA p.2 tgt body p.1) fun
    | .done => orelse
    | .brk => M.pure .next
    | .ret v => M.pure (.ret v)

section
variable {W : Wd} {X : Sc} {n : Nat}

theorem for_loop {env : Env} {A : Around} {target : Expr} {body orelse : List Stmt} {tgt : AV → M Unit} {fb fo : M AFl} (hT : SimT W X n target tgt) (hB : SimX W X n body fb) (hO : SimX W X n orelse fo) (hA : AOK n A)
    {it : Value} (S : It W it) {G₀ : Gh} {σ σ' : St} {s : Shared} {l : List AV} {fl : AFl} {G : Gh} (le : G₀.Le G) (hi : ∀ a, S.I a → ∀ o, G₀.kn a ≠ some (.pin, o)) (P : EnvOK X env G₀) (r : R W G σ s) (hTt : S.T target) (hJ : S.J l G)
    (hf : M.bind (forA S.C tgt fb l) (fun | .done => fo | .brk => M.pure .next | .ret v => M.pure (.ret v)) σ = some (fl, σ')) :
    codeAny W.M A (.forLoop target it body orelse env) (fun res s' => match res with | .ok f => Post W (RepFl W) G₀ σ' fl f s' | .error _ => False) s := by
  refine codeAny_forLoop_any (fun k s' => ∃ G σ l, k = l.length ∧ G₀.Le G ∧ R W G σ s' ∧ S.J l G ∧
    M.bind (forA S.C tgt fb l) (fun | .done => fo | .brk => M.pure .next | .ret v => M.pure (.ret v)) σ = some (fl, σ')) ?_ l.length ⟨G, σ, l, rfl, le, r, hJ, hf⟩
  rintro k s1 ⟨G1, σ1, l1, rfl, le1, r1, j1, f1⟩
  cases l1 with
  | nil =>
    have hC : S.C σ1 ∧ fo σ1 = some (fl, σ') := by
      simp only [M.bind, forA] at f1
      split at f1
      · cases f1
      · rename_i a σ2 e
        split at e
        · rename_i hc; cases e; exact ⟨hc, f1⟩
        · cases e
    refine wpAny_mono (S.stop hA.hd hC.1 j1 r1) (fun v s2 ⟨hv, G2, lx, r2⟩ => ?_) fun _ _ e => e.elim
    subst hv
    dsimp only
    have le2 := LeX.le le1 lx hi
    exact wpAny_mono (hO env A _ _ _ G2 s2 (P.mono le2) hA r2 hC.2) (fun f s3 q => q.le le2) fun _ _ e => e.elim
  | cons x l1 =>
    have hC : S.C σ1 := by
      simp only [M.bind, forA] at f1
      split at f1
      · cases f1
      · rename_i a σ2 e
        split at e
        · rename_i hc; exact hc
        · cases e
    have hF : ∃ r2, M.bind (tgt x) (fun _ => fb) σ1 = some r2 ∧ (match r2 with
        | (.next, σ2) => M.bind (forA S.C tgt fb l1) (fun | .done => fo | .brk => M.pure .next | .ret v => M.pure (.ret v)) σ2 = some (fl, σ')
        | (.cont, σ2) => M.bind (forA S.C tgt fb l1) (fun | .done => fo | .brk => M.pure .next | .ret v => M.pure (.ret v)) σ2 = some (fl, σ')
        | (.brk, σ2) => fl = .next ∧ σ2 = σ'
        | (.ret v, σ2) => fl = .ret v ∧ σ2 = σ') := by
      simp only [M.bind, forA, if_pos hC] at f1 ⊢
      split at f1
      · cases f1
      · rename_i a σ2 e
        split at e
        · rename_i σ3 e3; exact ⟨_, e3, by simp only [e]; exact f1⟩
        · rename_i σ3 e3; exact ⟨_, e3, by simp only [e]; exact f1⟩
        · rename_i σ3 e3; cases e; cases f1; exact ⟨_, e3, rfl, rfl⟩
        · rename_i v σ3 e3; cases e; cases f1; exact ⟨_, e3, rfl, rfl⟩
        · cases e
    obtain ⟨⟨af, σ2⟩, hF1, hF2⟩ := hF
    obtain ⟨⟨⟩, σ1', t1, t2⟩ := M.bind_some hF1
    refine wpAny_mono (S.next hA.hd hC j1 r1) (fun v s2 ⟨mv, G2, hv, lx, r2, p2, j2⟩ => ?_) fun _ _ e => e.elim
    subst hv
    dsimp only
    have le2 := LeX.le le1 lx hi
    refine wpAny_mono (S.go target hTt j2 r2) (fun _ s3 ⟨G3, lx3, r3, j3⟩ => ?_) fun _ _ e => e.elim
    have le3 := LeX.le le2 lx3 hi
    refine wpAny_mono (hT env A _ _ G3 s3 x mv (P.mono le3) hA r3 (repX p2 lx3) t1) (fun _ s4 ⟨G4, le4, r4, _⟩ => ?_) fun _ _ e => e.elim
    refine wpAny_mono (hB env A _ _ _ G4 s4 (P.mono (le3.trans le4)) hA r4 t2) (fun f s5 ⟨G5, le5, r5, p5⟩ => ?_) fun _ _ e => e.elim
    have leA := (le3.trans le4).trans le5
    have jA := S.mono j3 (le4.trans le5).toI
    cases af <;> cases f <;> first | exact p5.elim | skip
    · exact ⟨l1.length, Nat.lt_succ_self _, G5, σ2, l1, rfl, leA, r5, jA, hF2⟩
    · obtain ⟨rfl, rfl⟩ := hF2
      exact ⟨G5, leA, r5, trivial⟩
    · exact ⟨l1.length, Nat.lt_succ_self _, G5, σ2, l1, rfl, leA, r5, jA, hF2⟩
    · obtain ⟨rfl, rfl⟩ := hF2
      exact ⟨G5, leA, r5, p5⟩

theorem SimS.for {target iter : Expr} {body orelse : List Stmt} {pos : Pos} {fi : M (List AV × (St → Prop))} {tgt : AV → M Unit} {fb fo : M AFl} (hI : SimIt W X n iter target fi) (hT : SimT W X n target tgt) (hB : SimX W X n body fb) (hO : SimX W X n orelse fo)
    (hs : ∀ env x, foldedSetIterable iter env x = pure x) : SimS W X n (.For target iter body orelse pos) (forS fi tgt fb fo) := by
  intro env A σ fl σ' G s P hA r hf
  obtain ⟨⟨l, C⟩, σ1, e1, hf⟩ := M.bind_some hf
  refine wpAny_For (wpAny_mono (hI env A σ l C σ1 G s P hA r e1) (fun x s1 h1 => wpAny_mono h1 (fun it s2 ⟨S, G2, le2, r2, hc, t2, j2, i2⟩ => ?_) fun _ _ e => e.elim) fun _ _ e => e.elim) (hs env)
  subst hc
  refine codeAny_mono (for_loop hT hB hO hA S (G₀ := G) le2 i2 P r2 t2 j2 hf) fun res s3 h3 => ?_
  cases res with
  | ok f => exact h3
  | error e => exact h3.elim

theorem SimX.nil : SimX W X n [] (M.pure .next) := fun env A σ b σ' G s P hA r hf => by cases hf; exact wpAny_execs_nil (.now r trivial)
def seqA (f g : M AFl) : M AFl := M.bind f fun
  | .next => g
  | x => M.pure x
theorem SimX.cons {st : Stmt} {rest : List Stmt} {f g : M AFl} (h1 : SimS W X n st f) (h2 : SimX W X n rest g) : SimX W X n (st :: rest) (seqA f g) := by
  intro env A σ b σ' G s P hA r hf
  obtain ⟨a, σ1, e1, hf⟩ := M.bind_some hf
  refine wpAny_execs_cons (wpAny_mono (h1 env A _ _ _ G s P hA r e1) (fun fl s1 ⟨G1, l1, r1, p1⟩ => ?_) fun _ _ e => e)
  cases a <;> cases fl <;> first | exact p1.elim | skip
  · exact wpAny_mono (h2 env A _ _ _ G1 s1 (P.mono l1) hA r1 hf) (fun _ _ q => q.le l1) fun _ _ e => e
  · cases hf; exact ⟨G1, l1, r1, trivial⟩
  · cases hf; exact ⟨G1, l1, r1, trivial⟩
  · cases hf; exact ⟨G1, l1, r1, p1⟩
theorem SimS.if {t : Expr} {b o : List Stmt} {pos : Pos} {c : M Bool} {f g : M AFl} (h1 : SimB W X n t c) (h2 : SimX W X n b f) (h3 : SimX W X n o g) : SimS W X n (.If t b o pos) (M.bind c fun b => bif b then f else g) := by
  intro env A σ b σ' G s P hA r hf
  obtain ⟨a, σ1, e1, hf⟩ := M.bind_some hf
  refine wpAny_If (wpAny_mono (h1 env A _ _ _ G s P hA r e1) (fun b' s' ⟨G', l, r', q⟩ => ?_) fun _ _ e => e)
  subst q
  cases b' with
  | true => exact wpAny_mono (h2 env A _ _ _ G' s' (P.mono l) hA r' hf) (fun _ _ q => q.le l) fun _ _ e => e
  | false => exact wpAny_mono (h3 env A _ _ _ G' s' (P.mono l) hA r' hf) (fun _ _ q => q.le l) fun _ _ e => e
theorem SimS.ret {e : Expr} {pos : Pos} {f : M AV} (h : SimE W X n e f) : SimS W X n (.Return (some e) pos) (M.bind f fun v => M.pure (.ret v)) := by
  intro env A σ b σ' G s P hA r hf
  obtain ⟨a, σ1, e1, hf⟩ := M.bind_some hf
  cases hf
  exact wpAny_Return_some (wpAny_mono (h env A _ _ _ G s P hA r e1) (fun mv s1 ⟨G1, l1, r1, p1⟩ => ⟨G1, l1, r1, p1⟩) fun _ _ e => e)
theorem SimS.cont {pos : Pos} : SimS W X n (.Continue pos) (M.pure .cont) := fun env A σ b σ' G s P hA r hf => by cases hf; exact wpAny_Continue (.now r trivial)
theorem SimS.brk {pos : Pos} : SimS W X n (.Break pos) (M.pure .brk) := fun env A σ b σ' G s P hA r hf => by cases hf; exact wpAny_Break (.now r trivial)

theorem SimT.local {x : Str} {i : Nat} {pos : Pos} (hi : X.names[i]? = some (x, .local)) (hl : X.scope.names.lookup x = some .local) : SimT W X n (.Name x pos) (stv i) :=
  fun _ _ _ _ _ _ _ _ P _ r p hf => wpAny_assign_Name (store_local hi hl P r p hf)
theorem SimT.cell {x : Str} {i : Nat} {pos : Pos} (hi : X.names[i]? = some (x, .cell)) (hl : X.scope.names.lookup x = some .cell) : SimT W X n (.Name x pos) (stv i) :=
  fun _ _ _ _ _ _ _ _ P _ r p hf => wpAny_assign_Name (store_cell hi hl P r p hf)
end
end Mine
end

section
open PySem PySem.W PySem.Calls PyProof.Rows
set_option Elab.async false
set_option maxRecDepth 20000
namespace Mine

theorem vw_le_fr {W : Wd} {G G' : Gh} (hz : ∀ a o, G.kn a = some (.z, o) → G'.kn a = some (.z, o)) (hm : ∀ n a, G.mu n = some a → G'.mu n = some a) (hl : G'.fr.getLast? = G.fr.getLast?) : (G.vw W).Le (G'.vw W) :=
  ⟨fun _ _ e => Gh.z_iff.mpr (hz _ _ (Gh.z_iff.mp e)), hm, fun k o c => by
    obtain ⟨sk, fd, h1, h2, h3, h4, h5, h6, h7, h8, h9, h10, h11, ⟨c', oc, vs, t, i1, i2, i3, i4⟩, h13⟩ := c
    exact ⟨sk, fd, h1, h2, h3, h4, h5, h6, h7, h8, h9, h10, h11, ⟨c', oc, vs, t, i1, Gh.z_iff.mpr (hz _ _ (Gh.z_iff.mp i2)), i3, i4⟩, by rw [hl]; exact h13⟩, fun _ _ e => e⟩

def Gh.pop (G : Gh) (fr : List GF) : Gh := { G with fr := fr }

theorem R.push {W : Wd} {G G' : Gh} {σ : St} {s s' : Shared} {gf : GF} {f : Frm} (r : R W G σ s) (hk : ∀ a t o, G.kn a = some (t, o) → G'.kn a = some (t, o)) (hfr : G'.fr = gf :: G.fr) (hmu : G'.mu = G.mu) (hne : G.fr ≠ [])
    (hF : FrameOK (G'.vw W) G'.kn G.fr.length gf f) (hs : ∀ a t o, G'.kn a = some (t, o) → s'.heap.get? a = some o) (hos : s'.os = s.os) (hg : s'.gens = s.gens) (hsy : SysK G'.kn) : R W G' { σ with fs := f :: σ.fs } s' := by
  have hl : G'.fr.getLast? = G.fr.getLast? := by
    rw [hfr]
    cases h : G.fr with
    | nil => exact absurd h hne
    | cons a l => rfl
  have hv : (G.vw W).Le (G'.vw W) := vw_le_fr (fun a o e => hk _ _ _ e) (fun n a e => by rw [hmu]; exact e) hl
  refine ⟨⟨fun b o hb e => hk _ _ _ (r.inv.base b o hb e), ?_, fun n o e => ?_, fun n a e => r.inv.cnt n a (by rw [← hmu]; exact e), hsy⟩, hs, hos.trans r.os, hg.trans r.gens⟩
  · rw [hfr]
    exact ⟨f, σ.fs, rfl, hF, r.inv.frames.mono hv fun a t o e _ => hk _ _ _ e⟩
  · obtain ⟨a, ob, h1, h2, h3⟩ := r.inv.objs n o e
    exact ⟨a, ob, by rw [hmu]; exact h1, hk _ _ _ h2, h3.mono hv⟩

theorem R.popF {W : Wd} {G : Gh} {σ : St} {s : Shared} {gf : GF} {fr : List GF} (r : R W G σ s) (hfr : G.fr = gf :: fr) (hne : fr ≠ []) : R W (G.pop fr) { σ with fs := σ.fs.tail } s := by
  have hl : (G.pop fr).fr.getLast? = G.fr.getLast? := by
    rw [hfr]
    cases h : fr with
    | nil => exact absurd h hne
    | cons a l => rfl
  have hv : (G.vw W).Le ((G.pop fr).vw W) := vw_le_fr (fun a o e => e) (fun n a e => e) hl
  have F := r.inv.frames
  rw [hfr] at F
  obtain ⟨f, fs, e, h1, h2⟩ := F
  refine ⟨⟨r.inv.base, ?_, fun n o e => ?_, r.inv.cnt, r.inv.sys⟩, r.sub, r.os, r.gens⟩
  · show FramesOK _ G.kn fr σ.fs.tail
    rw [e]
    exact h2.mono hv fun a t o e _ => e
  · obtain ⟨a, ob, h1, h2, h3⟩ := r.inv.objs n o e
    exact ⟨a, ob, h1, h2, h3.mono hv⟩

theorem Rep.popF {W : Wd} {G : Gh} {gf : GF} {fr : List GF} {a : AV} {v : Value} (p : Rep W G a v) (hfr : G.fr = gf :: fr) (hne : fr ≠ []) : Rep W (G.pop fr) a v :=
  RepV.mono (vw_le_fr (G := G) (G' := G.pop fr) (fun a o e => e) (fun n a e => e) (by
    rw [hfr]
    show fr.getLast? = _
    cases h : fr with
    | nil => exact absurd h hne
    | cons a l => rfl)) a v p

/-! a comprehension's block -/
def relS (xs scope : Scope) : Scope :=
  { scope with names := scope.names.map fun (n, k) => if (k == .free && xs.kind == .function && xs.names.lookup n == some .cell) then (n, .cell) else (n, k) }
theorem relabel_eq (scope : Scope) (env : Env) : relabel scope env = relS env.scope scope := rfl

theorem closure_loop (env : Env) : ∀ (names : List (Str × NameKind)) (acc : List (Str × Addr)), (∀ x, (x, NameKind.free) ∈ names → ∃ a, env.cells.lookup x = some a) →
    ∃ cl, (forIn names acc fun (x : Str × NameKind) (r : List (Str × Addr)) => match x with
      | (name, kind) => if (kind == NameKind.free) = true then (do let y ← cellOf env name; pure (ForInStep.yield ((name, y) :: r))) else pure (ForInStep.yield r) : Sem (List (Str × Addr))) = pure cl ∧
    (∀ x a, (x, a) ∈ cl → (x, a) ∈ acc ∨ env.cells.lookup x = some a) ∧ (∀ x, (x, NameKind.free) ∈ names → ∃ a, (x, a) ∈ cl) ∧ (∀ p, p ∈ acc → p ∈ cl)
  | [], acc, _ => ⟨acc, rfl, fun _ _ h => .inl h, fun _ h => by simp at h, fun _ h => h⟩
  | (n, k) :: r, acc, h => by
    by_cases hk : (k == NameKind.free) = true
    · have hk' : k = NameKind.free := by cases k <;> first | rfl | exact absurd hk (by decide)
      subst hk'
      obtain ⟨a, ha⟩ := h n (List.mem_cons_self ..)
      obtain ⟨cl, e1, e2, e3, e4⟩ := closure_loop env r ((n, a) :: acc) fun x hx => h x (List.mem_cons_of_mem _ hx)
      refine ⟨cl, ?_, fun x b hb => ?_, fun x hx => ?_, fun p hp => e4 p (List.mem_cons_of_mem _ hp)⟩
      · rw [List.forIn_cons]
        simp only [if_pos hk]
        have : cellOf env n = pure a := by unfold cellOf; rw [ha]
        rw [this]
        exact e1
      · rcases e2 x b hb with q | q
        · rcases List.mem_cons.mp q with q | q
          · cases q; exact .inr ha
          · exact .inl q
        · exact .inr q
      · rcases List.mem_cons.mp hx with q | q
        · cases q; exact ⟨a, e4 _ (List.mem_cons_self ..)⟩
        · exact e3 x q
    · obtain ⟨cl, e1, e2, e3, e4⟩ := closure_loop env r acc fun x hx => h x (List.mem_cons_of_mem _ hx)
      refine ⟨cl, ?_, e2, fun x hx => ?_, e4⟩
      · rw [List.forIn_cons]
        simp only [if_neg hk]
        exact e1
      · rcases List.mem_cons.mp hx with q | q
        · cases q; exact absurd (by decide : (NameKind.free == NameKind.free) = true) hk
        · exact e3 x q

theorem lookup_of_all {cl : List (Str × Addr)} {env : Env} {x : Str} (h : ∀ x a, (x, a) ∈ cl → env.cells.lookup x = some a) (hx : ∃ a, (x, a) ∈ cl) : cl.lookup x = env.cells.lookup x := by
  obtain ⟨a, ha⟩ := hx
  rw [h x a ha]
  induction cl with
  | nil => simp at ha
  | cons p r ih =>
    obtain ⟨y, b⟩ := p
    rw [List.lookup_cons]
    cases e : x == y with
    | true =>
      have := beq_iff_eq.mp e
      subst this
      have := h x b (List.mem_cons_self ..)
      rw [h x a ha] at this
      exact this.symm
    | false =>
      refine ih (fun x a q => h x a (List.mem_cons_of_mem _ q)) ?_
      rcases List.mem_cons.mp ha with q | q
      · cases q; simp at e
      · exact q

theorem closureFor_is {scope : Scope} {env : Env} (h : ∀ x, (x, NameKind.free) ∈ scope.names → ∃ a, env.cells.lookup x = some a) :
    ∃ cl, closureFor scope env = pure cl ∧ ∀ x, (x, NameKind.free) ∈ scope.names → cl.lookup x = env.cells.lookup x := by
  obtain ⟨cl, e1, e2, e3, e4⟩ := closure_loop env scope.names [] h
  refine ⟨cl, ?_, fun x hx => lookup_of_all (fun x a q => ?_) (e3 x hx)⟩
  · unfold closureFor
    exact (congrArg (fun t => t >>= fun cs => (pure cs : Sem _)) e1 : _)
  · rcases e2 x a q with q | q
    · simp at q
    · exact q

structure SubSc (X : Sc) (scope : Scope) (Xi : Sc) : Prop where
  rel : Xi.scope = relS X.scope scope
  kind : scope.kind = .function
  nocell : ∀ y ∈ scope.names, y.2 ≠ .cell
  loc : ∀ y ∈ scope.names, y.2 = .local → scope.names.lookup y.1 = some .local
  names : ∀ y ∈ Xi.names, y.2 = .local
  nd : (Xi.names.map (·.1)).Nodup
  up : ∀ x k i, (x, (k, i)) ∈ Xi.up → (x, NameKind.free) ∈ scope.names ∧ 1 ≤ k ∧ ((k = 1 ∧ X.names[i]? = some (x, NameKind.cell)) ∨ (x, (k - 1, i)) ∈ X.up)
  bot : ∀ x i, (x, i) ∈ Xi.bot → (x, NameKind.free) ∈ scope.names ∧ (x, i) ∈ X.bot
  free : ∀ x, (x, NameKind.free) ∈ scope.names → (x, NameKind.cell) ∈ X.names ∨ (∃ k i, (x, (k, i)) ∈ X.up) ∨ ∃ i, (x, i) ∈ X.bot

theorem EnvOK.cells {W : Wd} {X : Sc} {env : Env} {G : Gh} {σ : St} {s : Shared} (P : EnvOK X env G) (r : R W G σ s) {x : Str} (h : (x, NameKind.cell) ∈ X.names ∨ (∃ k i, (x, (k, i)) ∈ X.up) ∨ ∃ i, (x, i) ∈ X.bot) : ∃ a, env.cells.lookup x = some a := by
  rcases h with h | ⟨k, i, h⟩ | ⟨i, h⟩
  · obtain ⟨gf, rest, hfr, hn, hL, hc⟩ := P.own
    obtain ⟨f, lvl, h1, h2⟩ := r.inv.frames.get (k := 0) (gk := gf) (by rw [hfr]; rfl)
    obtain ⟨i, hi, e⟩ := List.getElem_of_mem h
    obtain ⟨c, o, cv, k1, _⟩ := h2.cel i x (by rw [hn, List.getElem?_eq_getElem hi, e])
    exact ⟨c, (hc x h).trans k1⟩
  · obtain ⟨gk, g1, g2, g3⟩ := P.up x k i h
    obtain ⟨f, lvl, h1, h2⟩ := r.inv.frames.get g1
    obtain ⟨c, o, cv, k1, _⟩ := h2.cel i x g2
    exact ⟨c, g3.trans k1⟩
  · obtain ⟨gk, g1, g2, g3⟩ := P.bot x i h
    obtain ⟨f, lvl, h1, h2⟩ := r.inv.frames.get (getLast_get g1)
    obtain ⟨c, o, cv, k1, _⟩ := h2.cel i x g2
    exact ⟨c, g3.trans k1⟩

theorem EnvOK.comp {X Xi : Sc} {scope : Scope} {env : Env} {G G' : Gh} (P : EnvOK X env G) (S : SubSc X scope Xi) {cl : List (Str × Addr)} (hcl : ∀ x, (x, NameKind.free) ∈ scope.names → cl.lookup x = env.cells.lookup x) {C : Addr}
    (hfr : G'.fr = ⟨Xi.names, C, []⟩ :: G.fr) : EnvOK Xi (compEnvC scope cl C env) G' := by
  obtain ⟨gf, rest, hfr0, hn, hL, hc⟩ := P.own
  refine ⟨?_, ?_, P.glob, P.bui, P.frame, ⟨_, _, hfr, rfl, rfl, fun x hx => ?_⟩, fun x k i h => ?_, fun x i h => ?_⟩
  · show relabel scope env = _
    rw [relabel_eq, P.scope, S.rel]
  · rw [S.rel]; exact S.kind
  · have := S.names _ hx; cases this
  · obtain ⟨h1, h2, h3⟩ := S.up x k i h
    have he : (compEnvC scope cl C env).cells.lookup x = env.cells.lookup x := hcl x h1
    rcases h3 with ⟨h3, h4⟩ | h3
    · subst h3
      refine ⟨gf, by rw [hfr, hfr0]; rfl, by rw [hn]; exact h4, ?_⟩
      rw [he]; exact hc x (List.mem_of_getElem? h4)
    · obtain ⟨gk, g1, g2, g3⟩ := P.up x _ i h3
      refine ⟨gk, ?_, g2, he.trans g3⟩
      rw [hfr]
      obtain ⟨k', rfl⟩ : ∃ k', k = k' + 1 := ⟨k - 1, by omega⟩
      exact g1
  · obtain ⟨h1, h2⟩ := S.bot x i h
    obtain ⟨gk, g1, g2, g3⟩ := P.bot x i h2
    refine ⟨gk, ?_, g2, (hcl x h1 : _).trans g3⟩
    rw [hfr, hfr0]
    rw [hfr0] at g1
    exact g1

theorem EnvOK.of_fr {X : Sc} {env : Env} {G G' : Gh} (h : EnvOK X env G) (l : G'.fr = G.fr) : EnvOK X env G' := by
  obtain ⟨a, b, c, d, e0, e, f, g⟩ := h
  refine ⟨a, b, c, d, e0, ?_, ?_, ?_⟩
  · rw [l]; exact e
  · rw [l]; exact f
  · rw [l]; exact g
theorem LeX.trans {I : Addr → Prop} {G G' G'' : Gh} (a : LeX I G G') (b : LeX I G' G'') : LeX I G G'' :=
  ⟨fun x o h => b.z x o (a.z x o h), fun x o q h => b.pin x o q (a.pin x o q h), fun n x h => b.mu n x (a.mu n x h), b.fr.trans a.fr⟩
theorem Gh.Le.toX {I : Addr → Prop} {G G' : Gh} (h : G.Le G') : LeX I G G' := ⟨h.z, fun a o _ e => h.pin a o e, h.mu, h.fr⟩

theorem R.popDrop {W : Wd} {G : Gh} {σ : St} {s : Shared} {gf : GF} {fr : List GF} (r : R W G σ s) (hfr : G.fr = gf :: fr) (hne : fr ≠ []) {h' : Heap} {tk : Nat} (hs : ∀ b x, b ≠ gf.L → s.heap.get? b = some x → h'.get? b = some x) :
    R W ((G.del gf.L).pop fr) { σ with fs := σ.fs.tail } { s with heap := h', toks := tk } ∧ (∀ a o, G.kn a = some (.z, o) → ((G.del gf.L).pop fr).kn a = some (.z, o)) ∧ (∀ a o, G.kn a = some (.pin, o) → ((G.del gf.L).pop fr).kn a = some (.pin, o)) ∧
      (G.vw W).Le (((G.del gf.L).pop fr).vw W) := by
  have r1 := r.popF hfr hne
  have F := r.inv.frames
  rw [hfr] at F
  obtain ⟨f, fs, e, h1, h2⟩ := F
  obtain ⟨o, m, k1, k2, k3⟩ := h1.loc
  have k : ∀ b t x, G.kn b = some (t, x) → t ≠ .loc fr.length → ((G.del gf.L).pop fr).kn b = some (t, x) := fun b t x e' ht => by
    show (if b = gf.L then none else G.kn b) = _
    rw [if_neg]
    · exact e'
    · rintro rfl; rw [k1] at e'; cases e'; exact ht rfl
  have hv : (G.vw W).Le (((G.del gf.L).pop fr).vw W) := vw_le_fr (fun a o e => k _ _ _ e Tag.noConfusion) (fun n a e => e) (by
    show fr.getLast? = _
    rw [hfr]
    cases h : fr with
    | nil => exact absurd h hne
    | cons a l => rfl)
  refine ⟨⟨⟨fun b o hb e => k _ _ _ (r.inv.base b o hb e) Tag.noConfusion, ?_, fun n o e => ?_, r.inv.cnt, r.inv.sys.dl k1 Tag.noConfusion⟩, fun b t x e' => ?_, r.os, r.gens⟩, fun a o e => k _ _ _ e Tag.noConfusion, fun a o e => k _ _ _ e Tag.noConfusion, hv⟩
  · show FramesOK _ _ fr σ.fs.tail
    rw [e]
    exact h2.mono hv fun a t o e ⟨lv, hl, q⟩ => k _ _ _ e (by
      rcases q with rfl | ⟨_, rfl⟩
      · intro z; cases z; omega
      · exact Tag.noConfusion)
  · obtain ⟨a, ob, h1, h2, h3⟩ := r.inv.objs n o e
    exact ⟨a, ob, h1, k _ _ _ h2 Tag.noConfusion, h3.mono hv⟩
  · have e' : (if b = gf.L then none else G.kn b) = some (t, x) := e'
    split at e'
    · cases e'
    · rename_i hb; exact hs b x hb (r.sub _ _ _ e')

theorem R.popPin {W : Wd} {G : Gh} {σ : St} {s : Shared} {gf : GF} {fr : List GF} {o : Obj} (r : R W G σ s) (hfr : G.fr = gf :: fr) (hne : fr ≠ []) (k1 : G.kn gf.L = some (.loc fr.length, o)) :
    R W ((G.set gf.L .pin o).pop fr) { σ with fs := σ.fs.tail } s ∧ (∀ a o', G.kn a = some (.z, o') → ((G.set gf.L .pin o).pop fr).kn a = some (.z, o')) ∧ (∀ a o', G.kn a = some (.pin, o') → ((G.set gf.L .pin o).pop fr).kn a = some (.pin, o')) ∧
      (G.vw W).Le (((G.set gf.L .pin o).pop fr).vw W) := by
  have F := r.inv.frames
  rw [hfr] at F
  obtain ⟨f, fs, e, h1, h2⟩ := F
  have k : ∀ b t x, G.kn b = some (t, x) → t ≠ .loc fr.length → ((G.set gf.L .pin o).pop fr).kn b = some (t, x) := fun b t x e' ht => Gh.set_keep e' fun t₀ o₀ w => by
    rw [k1] at w; cases w; exact Ne.symm ht
  have hv : (G.vw W).Le (((G.set gf.L .pin o).pop fr).vw W) := vw_le_fr (fun a o e => k _ _ _ e Tag.noConfusion) (fun n a e => e) (by
    show fr.getLast? = _
    rw [hfr]
    cases h : fr with
    | nil => exact absurd h hne
    | cons a l => rfl)
  refine ⟨⟨⟨fun b o hb e => k _ _ _ (r.inv.base b o hb e) Tag.noConfusion, ?_, fun n o e => ?_, r.inv.cnt, r.inv.sys.turn k1 Tag.noConfusion⟩, fun b t x e' => ?_, r.os, r.gens⟩, fun a o e => k _ _ _ e Tag.noConfusion, fun a o e => k _ _ _ e Tag.noConfusion, hv⟩
  · show FramesOK _ _ fr σ.fs.tail
    rw [e]
    exact h2.mono hv fun a t o e ⟨lv, hl, q⟩ => k _ _ _ e (by
      rcases q with rfl | ⟨_, rfl⟩
      · intro z; cases z; omega
      · exact Tag.noConfusion)
  · obtain ⟨a, ob, h1, h2, h3⟩ := r.inv.objs n o e
    exact ⟨a, ob, h1, k _ _ _ h2 Tag.noConfusion, h3.mono hv⟩
  · have e' : (G.set gf.L .pin o).kn b = some (t, x) := e'
    by_cases hb : b = gf.L
    · subst hb; rw [Gh.set_self] at e'; cases e'; exact r.sub _ _ _ k1
    · rw [Gh.set_ne hb] at e'; exact r.sub _ _ _ e'

/-- a watched object that will not change any more -/
theorem R.still {W : Wd} {G : Gh} {σ : St} {s : Shared} (r : R W G σ s) {a : Addr} {o : Obj} (h : G.kn a = some (.pin, o)) : R W (G.set a .z o) σ s ∧ LeX (· = a) G (G.set a .z o) := by
  have k : ∀ b t x, G.kn b = some (t, x) → t ≠ .pin → (G.set a .z o).kn b = some (t, x) := fun b t x e ht => Gh.set_keep e fun t₀ o₀ w => by rw [h] at w; cases w; exact Ne.symm ht
  have lx : LeX (· = a) G (G.set a .z o) := ⟨fun b x e => k _ _ _ e Tag.noConfusion, fun b x hb e => by rw [Gh.set_ne hb]; exact e, fun _ _ e => e, rfl⟩
  refine ⟨⟨⟨fun b o hb e => k _ _ _ (r.inv.base b o hb e) Tag.noConfusion, ?_, fun n o' e => ?_, r.inv.cnt, r.inv.sys.turn h Tag.noConfusion⟩, fun b t x e => ?_, r.os, r.gens⟩, lx⟩
  · exact r.inv.frames.mono (lx.vw W) fun b t' o' e ⟨_, _, q⟩ => k _ _ _ e (by rcases q with rfl | ⟨_, rfl⟩ <;> exact Tag.noConfusion)
  · obtain ⟨b, ob, h1, h2, h3⟩ := r.inv.objs n o' e
    exact ⟨b, ob, h1, k _ _ _ h2 Tag.noConfusion, h3.mono (lx.vw W)⟩
  · by_cases hb : b = a
    · subst hb; rw [Gh.set_self] at e; cases e; exact r.sub _ _ _ h
    · rw [Gh.set_ne hb] at e; exact r.sub _ _ _ e

open Classical in
noncomputable def compA (C : St → Prop) (tgt : AV → M Unit) (tests : M Bool) (elt : M AV) : List AV → List AV → M (List AV)
  | [], acc => fun σ => if C σ then some (acc, σ) else none
  | x :: l, acc => fun σ => if C σ ∧ acc.length ≤ 2 ^ 20 then M.bind (tgt x) (fun _ => M.bind tests fun ok => match ok with
      | true => M.bind elt fun y => compA C tgt tests elt l (acc ++ [y])
      | false => compA C tgt tests elt l acc) σ else none

def pushA (k : Nat) : M Unit := fun σ => some ((), { σ with fs := List.replicate k none :: σ.fs })
def popA : M Unit := fun σ => some ((), { σ with fs := σ.fs.tail })

noncomputable def compM (k : Nat) (it : M (List AV × (St → Prop))) (tgt : AV → M Unit) (tests : M Bool) (elt : M AV) : M (List AV) :=
  M.bind it fun p => M.bind (pushA k) fun _ => M.bind (compA p.2 tgt tests elt p.1 []) fun acc => M.bind popA fun _ => M.pure acc

def SimC (W : Wd) (X : Sc) (n : Nat) (ifs : List Expr) (f : M Bool) : Prop :=
  Sim W (fun _ b a => a = b) (EF X) n (fun env => (forIn ifs true fun c r => if r = true then do let ok ← isTrue c env (eval c env); pure (ForInStep.yield ok) else pure (ForInStep.yield r) : Sem Bool)) f

section
variable {W : Wd} {X Xi : Sc} {n : Nat}
theorem SimC.nil : SimC W X n [] (M.pure true) := fun env A σ b σ' G s P hA r hf => by cases hf; exact wpAny_pure (.now r rfl)
theorem forIn_false {env : Env} : ∀ ifs : List Expr, (forIn ifs false fun c r => if r = true then do let ok ← isTrue c env (eval c env); pure (ForInStep.yield ok) else pure (ForInStep.yield r) : Sem Bool) = pure false
  | [] => rfl
  | c :: l => by
    rw [List.forIn_cons]
    simp only [Bool.false_eq_true, if_false]
    exact forIn_false l
theorem SimC.cons {c : Expr} {ifs : List Expr} {f g : M Bool} (h1 : SimB W X n c f) (h2 : SimC W X n ifs g) : SimC W X n (c :: ifs) (M.bind f fun b => bif b then g else M.pure false) := by
  intro env A σ b σ' G s P hA r hf
  obtain ⟨a, σ1, e1, hf⟩ := M.bind_some hf
  show wpAny W.M A (forIn (c :: ifs) true _) _ _ s
  rw [List.forIn_cons]
  simp only [if_true]
  refine wpAny_bind (wpAny_bind (wpAny_mono (h1 env A _ _ _ G s P hA r e1) (fun b' s' ⟨G', l, r', q⟩ => wpAny_pure ?_) fun _ _ e => e))
  subst q
  cases b' with
  | true => exact wpAny_mono (h2 env A _ _ _ G' s' (P.mono l) hA r' hf) (fun _ _ q => q.le l) fun _ _ e => e
  | false =>
    cases hf
    dsimp only
    rw [forIn_false]
    exact wpAny_pure ⟨G', l, r', rfl⟩

theorem comp_loop {env : Env} {A : Around} {target iter elt : Expr} {ifs : List Expr} {scope : Scope} {pos : Pos} {tgt : AV → M Unit} {ft : M Bool} {fe : M AV} (hT : SimT W Xi n target tgt) (hC : SimC W Xi n ifs ft) (hE : SimE W Xi n elt fe) (hA : AOK n A)
    {it : Value} (S : It W it) {D : Addr} {Rz : Result → Shared → Prop} {G₀ : Gh} (P : EnvOK Xi env G₀) {σ σ' : St} {s : Shared} {l acc res : List AV} {ys : Array Value} {k : Nat} {G : Gh} (hD : ¬ (S.I D ∨ S.K D)) (le : LeX (fun a => S.I a ∨ a = D) G₀ G) (r : R W G σ s) (hTt : S.T target) (hJ : S.J l G)
    (hd : G.kn D = some (.pin, { cls := .type "list", data := .seq ys k })) (ha : Reps W G acc ys.toList)
    (hf : compA S.C tgt ft fe l acc σ = some (res, σ'))
    (hR : ∀ G' s' ys k, LeX (fun a => S.I a ∨ a = D) G₀ G' → R W G' σ' s' → G'.kn D = some (.pin, { cls := .type "list", data := .seq ys k }) → Reps W G' res ys.toList → Rz (.ok .next) s') :
    codeAny W.M A (.compLoop (.ListComp elt [⟨target, iter, ifs, 0⟩] scope pos) 0 it (.ref D) env) Rz s := by
  refine codeAny_loop rfl (fun m s' => ∃ G σ l acc ys k, m = l.length ∧ LeX (fun a => S.I a ∨ a = D) G₀ G ∧ R W G σ s' ∧ S.J l G ∧ G.kn D = some (.pin, { cls := .type "list", data := .seq ys k }) ∧ Reps W G acc ys.toList ∧
    compA S.C tgt ft fe l acc σ = some (res, σ')) ?_ l.length ⟨G, σ, l, acc, ys, k, rfl, le, r, hJ, hd, ha, hf⟩
  rintro m s1 ⟨G1, σ1, l1, acc1, ys1, k1, rfl, le1, r1, j1, d1, a1, f1⟩
  show wpAny W.M A ((compTurn (.ListComp elt [⟨target, iter, ifs, 0⟩] scope pos) 0 it (.ref D) env).onRaise (fun x => do noteFrame x env; theTreesLotGoes x)) _ _ s1
  refine wpAny_noted ?_
  rw [compTurn_list]
  refine wpAny_bind (wpAny_standAt (wpAny_bind ?_))
  cases l1 with
  | nil =>
    simp only [compA] at f1
    split at f1
    · rename_i hC1
      cases f1
      refine wpAny_mono (S.stop hA.hd hC1 j1 r1) (fun v s2 ⟨hv, G2, lx, r2⟩ => ?_) fun _ _ e => e.elim
      subst hv
      refine wpAny_pure (hR G2 s2 ys1 k1 (le1.trans (lx.more fun _ h => .inl h)) r2 (lx.pin _ _ (fun h => hD (.inl h)) d1) (repsX a1 lx))
    · cases f1
  | cons x l1 =>
    simp only [compA] at f1
    split at f1
    · rename_i hC1
      obtain ⟨⟨⟩, σ2, t1, f1⟩ := M.bind_some f1
      obtain ⟨ok, σ3, t2, f1⟩ := M.bind_some f1
      refine wpAny_mono (S.next hA.hd hC1.1 j1 r1) (fun v s2 ⟨mv, G2, hv, lx, r2, p2, j2⟩ => ?_) fun _ _ e => e.elim
      subst hv
      have le2 := le1.trans (lx.more fun _ h => .inl h)
      have d2 := lx.pin _ _ (fun h => hD (.inl h)) d1
      refine wpAny_bind (wpAny_mono (S.go target hTt j2 r2) (fun _ s3 ⟨G3, lx3, r3, j3⟩ => ?_) fun _ _ e => e.elim)
      have le3 := le2.trans (lx3.more fun _ h => .inl h)
      have d3 := lx3.pin _ _ (fun h => hD (.inl h)) d2
      have a3 := repsX (repsX a1 lx) lx3
      refine wpAny_bind (wpAny_mono (hT env A _ _ G3 s3 x mv (P.of_fr le3.fr) hA r3 (repX p2 lx3) t1) (fun _ s4 ⟨G4, le4, r4, _⟩ => ?_) fun _ _ e => e.elim)
      have P4 : EnvOK Xi env G4 := P.of_fr (le4.fr.trans le3.fr)
      refine wpAny_bind (wpAny_mono (hC env A _ _ _ G4 s4 P4 hA r4 t2) (fun ok' s5 ⟨G5, le5, r5, q5⟩ => ?_) fun _ _ e => e.elim)
      subst q5
      have P5 : EnvOK Xi env G5 := P4.of_fr le5.fr
      have le45 := le4.trans le5
      cases ok' with
      | false =>
        dsimp only at f1
        refine wpAny_pure ⟨rfl, l1.length, Nat.lt_succ_self _, G5, σ3, l1, acc1, ys1, k1, rfl, le3.trans le45.toX, r5, S.mono j3 le45.toI, le45.pin _ _ d3, Reps.le a3 le45, f1⟩
      | true =>
        dsimp only at f1
        obtain ⟨y, σ4, t3, f1⟩ := M.bind_some f1
        refine wpAny_bind (wpAny_bind (wpAny_mono (hE env A _ _ _ G5 s5 P5 hA r5 t3) (fun my s6 ⟨G6, le6, r6, p6⟩ => ?_) fun _ _ e => e.elim))
        have le46 := le45.trans le6
        have d6 := le46.pin _ _ d3
        have a6 := Reps.le a3 le46
        have hlen := a6.length
        rw [Array.length_toList] at hlen
        refine wpAny_bind (wpAny_list_append_plain (l := D) (items := ys1) ⟨k1, r6.sub _ _ _ d6⟩ (fun h' hp hs => ?_) (by rw [sizeLine_eq]; omega))
        obtain ⟨k7, hp⟩ := hp
        obtain ⟨r7, lx7⟩ := r6.pin (tk := s6.toks) d6 hp fun b x hb e => (hs.2 b hb).trans e
        refine wpAny_pure (wpAny_pure ⟨rfl, l1.length, Nat.lt_succ_self _, _, σ4, l1, acc1 ++ [y], ys1.push my, k7, rfl, (le3.trans le46.toX).trans (lx7.more fun _ h => .inr h), r7,
          S.mono (S.mono j3 le46.toI) (lx7.toZ fun a ha e => hD (e ▸ ha)), Gh.set_self, ?_, f1⟩)
        rw [Array.toList_push]
        exact RepVs.append (repsX a6 lx7) ⟨my, [], rfl, repX p6 lx7, rfl⟩
    · cases f1

theorem FrameOK.fresh {V : Vw} {kn : Addr → Option (Tag × Obj)} {lvl : Nat} {names : List (Str × NameKind)} {C : Addr} {o : Obj} (nd : (names.map (·.1)).Nodup) (hl : ∀ y ∈ names, y.2 = .local) (hk : kn C = some (.loc lvl, o)) (ho : ∃ m, NsOb o m) :
    FrameOK V kn lvl ⟨names, C, []⟩ (List.replicate names.length none) := by
  obtain ⟨m, hm⟩ := ho
  refine ⟨nd, List.length_replicate, ⟨o, m, hk, hm, fun i x _ v e => ?_⟩, fun i x e => ?_⟩
  · rw [List.getElem?_replicate] at e
    split at e <;> cases e
  · have := hl _ (List.mem_of_getElem? e); cases this

theorem comp_block {env : Env} {A : Around} {target iter elt : Expr} {ifs : List Expr} {scope : Scope} {pos : Pos} {tgt : AV → M Unit} {ft : M Bool} {fe : M AV} (Sx : SubSc X scope Xi) (hT : SimT W Xi n target tgt) (hC : SimC W Xi n ifs ft) (hE : SimE W Xi n elt fe) (hA : AOK n A)
    {it : Value} (S : It W it) {G₀ G : Gh} (P : EnvOK X env G₀) {σ σ' : St} {s : Shared} {l res : List AV} (le : G₀.Le G) (hi : ∀ a, S.I a → ∀ o, G₀.kn a ≠ some (.pin, o)) (r : R W G σ s) (hTt : S.T target) (hJ : S.J l G) {cl : List (Str × Addr)} (hcl : ∀ x, (x, NameKind.free) ∈ scope.names → cl.lookup x = env.cells.lookup x)
    (hf : M.bind (pushA Xi.names.length) (fun _ => compA S.C tgt ft fe l []) σ = some (res, σ')) {RR : Value → Addr → Result → Shared → Prop}
    (hR : ∀ D C s' m oC G', NsOb oC m → G₀.Le G' → R W G' { σ' with fs := σ'.fs.tail } s' → (∃ ys k, G'.kn D = some (.pin, { cls := .type "list", data := .seq ys k }) ∧ Reps W G' res ys.toList) → (∀ o, G₀.kn D ≠ some (.pin, o)) → D ≠ C → G'.kn C = some (.pin, oC) → (∀ o, G₀.kn C ≠ some (.pin, o)) → RR (.ref D) C (.ok .next) s') :
    wpAny W.M A (newList []) (fun acc s₃ => wpAny W.M A (newFunctionEnv scope env.globals cl [] env.qual none .none (some env)) (fun cenv s₄ =>
      codeAny W.M A (.compStart (.ListComp elt [⟨target, iter, ifs, 0⟩] scope pos) 0 it acc { cenv with scope := relabel scope env }) (RR acc cenv.locals) s₄) (fun _ _ => False) s₃) (fun _ _ => False) s := by
  obtain ⟨⟨⟩, σ1, e1, hf⟩ := M.bind_some hf
  cases e1
  obtain ⟨r1, le1⟩ := r.alloc .pin (o := { cls := .type "list", data := .seq ([] : List Value).toArray }) rfl (tk := s.toks)
  have hDI : ¬ (S.I s.heap.objs.size ∨ S.K s.heap.objs.size) := fun h => by
    obtain ⟨o, e⟩ := S.known _ hJ h
    rw [r.fresh] at e; cases e
  refine wpAny_newObj_type (wpAny_newFunctionEnv Sx.nocell (by intro y hy; simp at hy) (fun h₁ hns₁ hsb₁ => ?_) Sx.kind)
  dsimp only at hns₁ hsb₁ ⊢
  generalize hD : s.heap.objs.size = D at *
  generalize hH2 : s.heap.push { cls := .type "list", dict := none, data := .seq ([] : List Value).toArray } = H2 at *
  obtain ⟨oC, hoC, hnC⟩ := NsOb.of hns₁
  have hne : G₀.fr ≠ [] := by obtain ⟨gf, rest, h, _⟩ := P.own; rw [h]; simp
  have hfrs : (G.set D .pin { cls := .type "list", data := .seq ([] : List Value).toArray }).fr = G₀.fr := le.fr
  have hfresh := r1.fresh
  dsimp only at hfresh
  have hbig := r1.big
  dsimp only at hbig
  have r2 := r1.push (hsy := r1.inv.sys.new hfresh (.inl hbig)) (G' := { (G.set D .pin { cls := .type "list", data := .seq ([] : List Value).toArray }).set H2.objs.size (.loc G₀.fr.length) oC with fr := ⟨Xi.names, H2.objs.size, []⟩ :: G₀.fr })
    (gf := ⟨Xi.names, H2.objs.size, []⟩) (f := List.replicate Xi.names.length none) (s' := { s with heap := h₁, toks := s.toks + ([] : List (Str × Value)).length })
    (fun a t o e => Gh.set_keep e fun t₀ o₀ w => by rw [hfresh] at w; cases w) (by rw [hfrs]) rfl (by rw [hfrs]; exact hne)
    (by rw [hfrs]; exact FrameOK.fresh Sx.nd Sx.names Gh.set_self ⟨_, hnC⟩)
    (fun a t o e => by
      by_cases ha : a = H2.objs.size
      · subst ha
        have e : ((G.set D .pin { cls := .type "list", data := .seq ([] : List Value).toArray }).set H2.objs.size (.loc G₀.fr.length) oC).kn H2.objs.size = some (t, o) := e
        rw [Gh.set_self] at e
        cases e; exact hoC
      · have e : ((G.set D .pin { cls := .type "list", data := .seq ([] : List Value).toArray }).set H2.objs.size (.loc G₀.fr.length) oC).kn a = some (t, o) := e
        rw [Gh.set_ne ha] at e
        exact hsb₁.extBut a o ha (Heap.get?_push_of_some _ (r1.sub _ _ _ e))) rfl rfl
  generalize hG2 : ({ (G.set D .pin { cls := .type "list", data := .seq ([] : List Value).toArray }).set H2.objs.size (.loc G₀.fr.length) oC with fr := ⟨Xi.names, H2.objs.size, []⟩ :: G₀.fr } : Gh) = G2 at r2
  have k2 : ∀ a t o, (G.set D .pin { cls := .type "list", data := .seq ([] : List Value).toArray }).kn a = some (t, o) → G2.kn a = some (t, o) := fun a t o e => by
    rw [← hG2]; exact Gh.set_keep e fun t₀ o₀ w => by rw [hfresh] at w; cases w
  have fr2 : G2.fr = ⟨Xi.names, H2.objs.size, []⟩ :: G₀.fr := by rw [← hG2]
  have mu2 : G2.mu = G.mu := by rw [← hG2]; rfl
  have hl2 : G2.fr.getLast? = G.fr.getLast? := by
    rw [fr2, le.fr]
    cases h : G₀.fr with
    | nil => exact absurd h hne
    | cons a l => rfl
  have kG : ∀ a t o, G.kn a = some (t, o) → G2.kn a = some (t, o) := fun a t o e => k2 _ _ _ (Gh.set_keep e fun t₀ o₀ w => by rw [← hD, r.fresh] at w; cases w)
  have liG : LeI W (fun a => S.I a ∨ S.K a) G G2 := ⟨fun a o e => kG _ _ _ e, fun a o _ e => kG _ _ _ e, fun n a e => by rw [mu2]; exact e, vw_le_fr (fun a o e => kG _ _ _ e) (fun n a e => by rw [mu2]; exact e) hl2⟩
  have P2 : EnvOK Xi (compEnvC scope cl H2.objs.size env) G2 := EnvOK.comp (P.of_fr le.fr) Sx hcl (by rw [fr2, le.fr])
  have loop : ∀ s₃ : Shared, R W G2 { σ with fs := List.replicate Xi.names.length none :: σ.fs } s₃ → codeAny W.M A (.compLoop (.ListComp elt [⟨target, iter, ifs, 0⟩] scope pos) 0 it (.ref D) (compEnvC scope cl H2.objs.size env)) (RR (.ref D) H2.objs.size) s₃ := by
    intro s₃ r3
    refine comp_loop hT hC hE hA S P2 hDI (.refl _) r3 hTt (S.mono hJ liG) (k := 0) (ys := #[]) (k2 _ _ _ Gh.set_self) (show RepVs _ [] [] from rfl) hf ?_
    intro G' s' ys k lx r' d' a'
    have fr' : G'.fr = ⟨Xi.names, H2.objs.size, []⟩ :: G₀.fr := lx.fr.trans fr2
    have F := r'.inv.frames
    rw [fr'] at F
    obtain ⟨f, fs, ef, g1, g2⟩ := F
    obtain ⟨o', m', k1', k2', _⟩ := g1.loc
    obtain ⟨r4, z4, p4, v4⟩ := r'.popPin fr' hne k1'
    have hCD : H2.objs.size ≠ D := by
      intro e
      rw [e] at k1'
      rw [d'] at k1'
      cases k1'
    have hD0 : ∀ o, G₀.kn D ≠ some (.pin, o) := fun o e => by
      have := le.pin _ _ e
      rw [← hD, r.fresh] at this; cases this
    refine hR D _ s' m' o' _ k2' ?_ r4 ⟨ys, k, p4 _ _ d', RepVs.mono v4 _ _ a'⟩ hD0 (Ne.symm hCD) (if_pos rfl) ?_
    · refine ⟨fun a o e => z4 _ _ (lx.z _ _ (kG _ _ _ (le.z _ _ e))), fun a o e => ?_, fun n a e => ?_, rfl⟩
      · have hna : a ≠ D := by
          rintro rfl
          exact hD0 _ e
        exact p4 _ _ (lx.pin _ _ (by rintro (q | q); exact hi a q o e; exact hna q) (kG _ _ _ (le.pin _ _ e)))
      · exact lx.mu _ _ (by rw [mu2]; exact le.mu _ _ e)
    · intro o e
      have := k2 _ _ _ (Gh.set_keep (t := .pin) (a := D) (o := { cls := .type "list", data := .seq ([] : List Value).toArray }) (le.pin _ _ e) fun t₀ o₀ w => by rw [← hD, r.fresh] at w; cases w)
      have hh : (G.set D .pin { cls := .type "list", data := .seq ([] : List Value).toArray }).kn H2.objs.size = some (.pin, o) := Gh.set_keep (le.pin _ _ e) fun t₀ o₀ w => by rw [← hD, r.fresh] at w; cases w
      rw [hfresh] at hh; cases hh
  have hst : ({ newEnv scope H2.objs.size env.globals cl env.qual none .none (some env) env.builtins with scope := relabel scope env } : Env) = compEnvC scope cl H2.objs.size env := rfl
  refine codeAny_compStart_list (loop _ r2) ?_
  refine wpAny_mono (S.self (S.mono hJ liG) r2) (fun v s' ⟨e1, e2⟩ => ?_) fun _ _ e => e.elim
  subst e1 e2
  exact loop _ r2

theorem SimE.comp {target iter elt : Expr} {ifs : List Expr} {scope : Scope} {pos : Pos} {fi : M (List AV × (St → Prop))} {tgt : AV → M Unit} {ft : M Bool} {fe : M AV} (Sx : SubSc X scope Xi) (hI : SimIt W X n iter target fi) (hT : SimT W Xi n target tgt) (hC : SimC W Xi n ifs ft) (hE : SimE W Xi n elt fe)
    (hs : ∀ env x, foldedSetIterable iter env x = pure x) :
    SimE W X n (.ListComp elt [⟨target, iter, ifs, 0⟩] scope pos) (M.bind (compM Xi.names.length fi tgt ft fe) fun l => M.pure (.lst l)) := by
  intro env A σ b σ' G s P hA r hf
  obtain ⟨res, σ1, e1, hf⟩ := M.bind_some hf
  cases hf
  obtain ⟨⟨l, C⟩, σ2, e2, e1⟩ := M.bind_some e1
  obtain ⟨cl, hcl1, hcl2⟩ := closureFor_is (scope := scope) (env := env) fun x hx => P.cells r (Sx.free x hx)
  show wpAny W.M A (eval (.ListComp elt [⟨target, iter, ifs, 0⟩] scope pos) env) _ _ s
  rw [eval_ListComp]
  refine wpAny_comprehension_free (use := Option.none) rfl (hs env) hcl1 Sx.kind Sx.loc ?_
  refine wpAny_mono (hI env A σ l C σ2 G s P hA r e2) (fun x s1 h1 => wpAny_mono h1 (fun it s2 ⟨S, G2, le2, r2, hc, t2, j2, i2⟩ => ?_) fun _ _ e => e.elim) fun _ _ e => e.elim
  subst hc
  have hf' : ∃ σ3, M.bind (pushA Xi.names.length) (fun _ => compA S.C tgt ft fe l []) σ2 = some (res, σ3) ∧ { σ3 with fs := σ3.fs.tail } = σ' := by
    obtain ⟨⟨⟩, σ4, q1, q2⟩ := M.bind_some e1
    obtain ⟨acc, σ5, q3, q4⟩ := M.bind_some q2
    obtain ⟨⟨⟩, σ6, q5, q6⟩ := M.bind_some q4
    cases q5; cases q6
    refine ⟨σ5, ?_, rfl⟩
    unfold M.bind
    rw [q1]
    exact q3
  obtain ⟨σ3, h3, h4⟩ := hf'
  subst h4
  refine comp_block (RR := fun acc C => compPost W.M A (fun _ _ => False) Option.none (Post W (Rep W) G { σ3 with fs := σ3.fs.tail } (.lst res)) acc C) Sx hT hC hE hA S P le2 i2 r2 t2 j2 hcl2 h3 ?_
  intro D C s' m oC G' hn le' r' ⟨ys, k, hD, hy⟩ hD0 hDC hC hC0
  refine ⟨m, hn.ns (r'.sub _ _ _ hC), fun h' hs' => ?_⟩
  obtain ⟨r6, lx6⟩ := r'.drop (h' := h') (tk := s'.toks) hC fun b x hb e => (hs'.2 b hb).trans e
  obtain ⟨r7, lx7⟩ := r6.still (lx6.pin _ _ hDC hD)
  exact ⟨_, LeX.le (LeX.le le' lx6 (fun a ha o => by subst ha; exact hC0 o)) lx7 (fun a ha o => by subst ha; exact hD0 o), r7, D, ys, k, rfl, Gh.z_iff.mpr Gh.set_self, repsX (repsX hy lx6) lx7⟩

/-- a watched object that is handed out -/
theorem R.wake {W : Wd} {G : Gh} {σ : St} {s : Shared} (r : R W G σ s) {a : Addr} {ob : Obj} {o : AO} (h : G.kn a = some (.pin, ob)) (site : Nat) (ho : ObjOK W (G.vw W) o ob) :
    ∃ G', LeX (· = a) G G' ∧ R W G' { σ with st := fun m => if m = (site, σ.cnt) then some o else σ.st m, cnt := σ.cnt + 1 } s ∧ G'.mu (site, σ.cnt) = some a := by
  have hm : G.mu (site, σ.cnt) = Option.none := by
    cases e : G.mu (site, σ.cnt) with
    | none => rfl
    | some a => exact absurd (r.inv.cnt _ _ e) (Nat.lt_irrefl _)
  have keep : ∀ b t o', G.kn b = some (t, o') → t ≠ .pin → (G.newObj a (site, σ.cnt) ob).kn b = some (t, o') := fun b t o' e ht => Gh.set_keep e fun t₀ o₀ w => by rw [h] at w; cases w; exact Ne.symm ht
  have lx : LeX (· = a) G (G.newObj a (site, σ.cnt) ob) := ⟨fun b o e => keep _ _ _ e Tag.noConfusion, fun b o hb e => by
    show (G.set a _ ob).kn b = _
    rw [Gh.set_ne hb]; exact e, fun m a e => by
    show (if m = (site, σ.cnt) then _ else _) = _
    rw [if_neg]
    · exact e
    · rintro rfl
      rw [hm] at e
      exact absurd e (by simp), rfl⟩
  refine ⟨_, lx, ⟨⟨fun b o' hb e => keep _ _ _ (r.inv.base b o' hb e) Tag.noConfusion, ?_, ?_, ?_, r.inv.sys.turn h Tag.noConfusion⟩, ?_, r.os, r.gens⟩, if_pos rfl⟩
  · exact r.inv.frames.mono (lx.vw W) fun b t o' e ⟨_, _, q⟩ => keep _ _ _ e (by rcases q with rfl | ⟨_, rfl⟩ <;> exact Tag.noConfusion)
  · intro m o' e
    dsimp only at e
    split at e
    · rename_i hm'
      subst hm'
      cases e
      exact ⟨_, ob, if_pos rfl, Gh.set_self, ho.mono (lx.vw W)⟩
    · rename_i hm'
      obtain ⟨b, ob', h1, h2, h3⟩ := r.inv.objs m o' e
      exact ⟨b, ob', (if_neg hm').trans h1, keep _ _ _ h2 Tag.noConfusion, h3.mono (lx.vw W)⟩
  · intro m b e
    have e : (if m = (site, σ.cnt) then some a else G.mu m) = some b := e
    split at e
    · rename_i hm'; subst hm'; exact Nat.lt_succ_self _
    · exact Nat.lt_succ_of_lt (r.inv.cnt m b e)
  · intro b t o' e
    by_cases hb : b = a
    · subst hb
      have e : (G.set b (.obj (site, σ.cnt)) ob).kn b = some (t, o') := e
      rw [Gh.set_self] at e
      cases e
      exact r.sub _ _ _ h
    · have e : (G.set a (.obj (site, σ.cnt)) ob).kn b = some (t, o') := e
      rw [Gh.set_ne hb] at e
      exact r.sub _ _ _ e

/-- the same, where the list will change -/
theorem SimE.compLive (site : Nat) {target iter elt : Expr} {ifs : List Expr} {scope : Scope} {pos : Pos} {fi : M (List AV × (St → Prop))} {tgt : AV → M Unit} {ft : M Bool} {fe : M AV} (Sx : SubSc X scope Xi) (hI : SimIt W X n iter target fi) (hT : SimT W Xi n target tgt) (hC : SimC W Xi n ifs ft) (hE : SimE W Xi n elt fe)
    (hs : ∀ env x, foldedSetIterable iter env x = pure x) :
    SimE W X n (.ListComp elt [⟨target, iter, ifs, 0⟩] scope pos) (M.bind (compM Xi.names.length fi tgt ft fe) fun l => M.bind (allocA site (.list l)) fun h => M.pure (.ref h)) := by
  intro env A σ b σ' G s P hA r hf
  obtain ⟨res, σ1, e1, hf⟩ := M.bind_some hf
  cases hf
  obtain ⟨⟨l, C⟩, σ2, e2, e1⟩ := M.bind_some e1
  obtain ⟨cl, hcl1, hcl2⟩ := closureFor_is (scope := scope) (env := env) fun x hx => P.cells r (Sx.free x hx)
  show wpAny W.M A (eval (.ListComp elt [⟨target, iter, ifs, 0⟩] scope pos) env) _ _ s
  rw [eval_ListComp]
  refine wpAny_comprehension_free (use := Option.none) rfl (hs env) hcl1 Sx.kind Sx.loc ?_
  refine wpAny_mono (hI env A σ l C σ2 G s P hA r e2) (fun x s1 h1 => wpAny_mono h1 (fun it s2 ⟨S, G2, le2, r2, hc, t2, j2, i2⟩ => ?_) fun _ _ e => e.elim) fun _ _ e => e.elim
  subst hc
  have hf' : ∃ σ3, M.bind (pushA Xi.names.length) (fun _ => compA S.C tgt ft fe l []) σ2 = some (res, σ3) ∧ { σ3 with fs := σ3.fs.tail } = σ1 := by
    obtain ⟨⟨⟩, σ4, q1, q2⟩ := M.bind_some e1
    obtain ⟨acc, σ5, q3, q4⟩ := M.bind_some q2
    obtain ⟨⟨⟩, σ6, q5, q6⟩ := M.bind_some q4
    cases q5; cases q6
    refine ⟨σ5, ?_, rfl⟩
    unfold M.bind
    rw [q1]
    exact q3
  obtain ⟨σ3, h3, h4⟩ := hf'
  subst h4
  refine comp_block (RR := fun acc C => compPost W.M A (fun _ _ => False) Option.none (Post W (Rep W) G _ _) acc C) Sx hT hC hE hA S P le2 i2 r2 t2 j2 hcl2 h3 ?_
  intro D C s' m oC G' hn le' r' ⟨ys, k, hD, hy⟩ hD0 hDC hC hC0
  refine ⟨m, hn.ns (r'.sub _ _ _ hC), fun h' hs' => ?_⟩
  obtain ⟨r6, lx6⟩ := r'.drop (h' := h') (tk := s'.toks) hC fun b x hb e => (hs'.2 b hb).trans e
  obtain ⟨G7, lx7, r7, m7⟩ := r6.wake (o := .list res) (lx6.pin _ _ hDC hD) site ⟨ys, k, rfl, repsX hy lx6⟩
  exact ⟨_, LeX.le (LeX.le le' lx6 (fun a ha o => by subst ha; exact hC0 o)) lx7 (fun a ha o => by subst ha; exact hD0 o), r7, D, rfl, m7⟩

/-- a list comprehension whose value goes into a local of the same line -/
theorem SimS.compUse {target iter elt : Expr} {ifs : List Expr} {scope : Scope} {pos ypos spos : Pos} {y : Str} {i : Nat} {fi : M (List AV × (St → Prop))} {tgt : AV → M Unit} {ft : M Bool} {fe : M AV} (Sx : SubSc X scope Xi) (hI : SimIt W X n iter target fi) (hT : SimT W Xi n target tgt) (hC : SimC W Xi n ifs ft) (hE : SimE W Xi n elt fe)
    (hs : ∀ env x, foldedSetIterable iter env x = pure x) (hi : X.names[i]? = some (y, .local)) (hl : X.scope.names.lookup y = some .local)
    (hsw : ∀ env : Env, env.scope = X.scope → swapsWith (.ListComp elt [⟨target, iter, ifs, 0⟩] scope pos) (some (.Name y ypos)) spos.line env = pure true) :
    SimS W X n (.Assign [.Name y ypos] (.ListComp elt [⟨target, iter, ifs, 0⟩] scope pos) spos) (M.bind (M.bind (compM Xi.names.length fi tgt ft fe) fun l => M.pure (.lst l)) fun v => M.bind (stv i v) fun _ => M.pure .next) := by
  intro env A σ b σ' G s P hA r hf
  obtain ⟨v, σ0, hf, hst'⟩ := M.bind_some hf
  obtain ⟨⟨⟩, σx, hst, hf2⟩ := M.bind_some hst'
  obtain ⟨res, σ1, e1, hf⟩ := M.bind_some hf
  injection hf with hf
  injection hf with hf hf'
  subst hf hf'
  injection hf2 with hf2
  injection hf2 with hf2 hf2'
  subst hf2 hf2'
  obtain ⟨⟨l, C⟩, σ2, e2, e1⟩ := M.bind_some e1
  obtain ⟨cl, hcl1, hcl2⟩ := closureFor_is (scope := scope) (env := env) fun x hx => P.cells r (Sx.free x hx)
  show wpAny W.M A (exec (.Assign [.Name y ypos] (.ListComp elt [⟨target, iter, ifs, 0⟩] scope pos) spos) env) _ _ s
  rw [exec_Assign_Name_used _ _ _ _ (hsw env P.scope)]
  refine wpAny_bind (wpAny_standAt ?_)
  refine wpAny_bind ?_
  show wpAny W.M A (do
    let _ ← comprehension (.ListComp elt [⟨target, iter, ifs, 0⟩] scope pos) scope env (firstIterPos [⟨target, iter, ifs, 0⟩] pos) (newList []) (firstAsync [⟨target, iter, ifs, 0⟩]) (firstIter [⟨target, iter, ifs, 0⟩] env) (some (assign (.Name y ypos) env))) _ _ s
  refine wpAny_bind (wpAny_comprehension_free (use := some (assign (.Name y ypos) env)) rfl (hs env) hcl1 Sx.kind Sx.loc ?_)
  refine wpAny_mono (hI env A σ l C σ2 G s P hA r e2) (fun x s1 h1 => wpAny_mono h1 (fun it s2 ⟨S, G2, le2, r2, hc, t2, j2, i2⟩ => ?_) fun _ _ e => e.elim) fun _ _ e => e.elim
  subst hc
  have hf' : ∃ σ3, M.bind (pushA Xi.names.length) (fun _ => compA S.C tgt ft fe l []) σ2 = some (res, σ3) ∧ { σ3 with fs := σ3.fs.tail } = σ1 := by
    obtain ⟨⟨⟩, σ4, q1, q2⟩ := M.bind_some e1
    obtain ⟨acc, σ5, q3, q4⟩ := M.bind_some q2
    obtain ⟨⟨⟩, σ6, q5, q6⟩ := M.bind_some q4
    cases q5; cases q6
    refine ⟨σ5, ?_, rfl⟩
    unfold M.bind
    rw [q1]
    exact q3
  obtain ⟨σ3, h3, h4⟩ := hf'
  subst h4
  refine comp_block (RR := fun acc C => compPost W.M A (fun _ _ => False) (some (assign (.Name y ypos) env)) _ acc C) Sx hT hC hE hA S P le2 i2 r2 t2 j2 hcl2 h3 ?_
  intro D C s' m oC G' hn le' r' ⟨ys, k, hD, hy⟩ hD0 hDC hC hC0
  show wpAny W.M A (assign (.Name y ypos) env (.ref D)) _ _ s'
  obtain ⟨r7, lx7⟩ := r'.still hD
  have le7 := LeX.le le' lx7 (fun a ha o => by subst ha; exact hD0 o)
  have p7 : Rep W _ (.lst res) (.ref D) := ⟨D, ys, k, rfl, Gh.z_iff.mpr Gh.set_self, repsX hy lx7⟩
  refine wpAny_assign_Name (wpAny_mono (store_local hi hl (P.mono le7) r7 p7 hst) (fun _ s'' ⟨G'', le'', r'', _⟩ => ?_) fun _ _ e => e.elim)
  have hC'' := le''.pin _ _ (lx7.pin _ _ (Ne.symm hDC) hC)
  refine ⟨m, hn.ns (r''.sub _ _ _ hC''), fun h' hs' => ?_⟩
  obtain ⟨r6, lx6⟩ := r''.drop (h' := h') (tk := s''.toks) hC'' fun b x hb e => (hs'.2 b hb).trans e
  exact wpAny_pure (wpAny_pure ⟨_, LeX.le (le7.trans le'') lx6 (fun a ha o => by subst ha; exact hC0 o), r6, trivial⟩)
end
end Mine
end

section
open PySem PySem.W PySem.Calls PyProof.Rows
set_option Elab.async false
set_option maxRecDepth 20000
namespace Mine

theorem bindL_lookup (kd : Str → Option NameKind) : ∀ (b : List (Str × Value)) (m : Str → Option Value) (x : Str), (b.map (·.1)).Nodup → bindL kd b m x = if kd x = some .local then (b.lookup x).or (m x) else m x
  | [], m, x, _ => by simp [bindL]
  | (y, v) :: r, m, x, nd => by
    rw [List.map_cons, List.nodup_cons] at nd
    unfold bindL
    rw [bindL_lookup kd r _ x nd.2]
    by_cases hx : x = y
    · subst hx
      have hn : r.lookup x = none := by
        rw [List.lookup_eq_none_iff]
        intro p hp
        have : p.1 ≠ x := fun e => nd.1 (by rw [← e]; exact List.mem_map_of_mem (f := (·.1)) hp)
        simpa using fun e => this e.symm
      by_cases hk : kd x = some .local
      · simp [hk, hn]
      · simp [hk]
    · have hb : (x == y) = false := by simpa using hx
      rw [List.lookup_cons, hb]
      by_cases hy : kd y = some .local
      · simp [hy, hx]
      · simp [hy]
theorem bindC_lookup (kd : Str → Option NameKind) : ∀ (b : List (Str × Value)) (m : Str → Option Value) (x : Str), (b.map (·.1)).Nodup → bindC kd b m x = if kd x = some .local then m x else (b.lookup x).or (m x)
  | [], m, x, _ => by simp [bindC]
  | (y, v) :: r, m, x, nd => by
    rw [List.map_cons, List.nodup_cons] at nd
    unfold bindC
    rw [bindC_lookup kd r _ x nd.2]
    by_cases hx : x = y
    · subst hx
      have hn : r.lookup x = none := by
        rw [List.lookup_eq_none_iff]
        intro p hp
        have : p.1 ≠ x := fun e => nd.1 (by rw [← e]; exact List.mem_map_of_mem (f := (·.1)) hp)
        simpa using fun e => this e.symm
      by_cases hk : kd x = some .local
      · simp [hk]
      · simp [hk, hn]
    · have hb : (x == y) = false := by simpa using hx
      rw [List.lookup_cons, hb]
      by_cases hy : kd y = some .local
      · simp [hy]
      · simp [hy, hx]

/-- a frame's slots at the start -/
def initF (names : List (Str × NameKind)) (b : List (Str × AV)) : Frm := names.map fun p => b.lookup p.1

theorem zip_lookup {V : Vw} : ∀ (ps : List Str) (vals : List AV) (ms : List Value), RepVs V vals ms → ∀ x v, (ps.zip vals).lookup x = some v → ∃ mv, (ps.zip ms).lookup x = some mv ∧ RepV V v mv
  | [], _, _, _, x, v, e => by simp at e
  | p :: ps, [], _, _, x, v, e => by simp at e
  | p :: ps, a :: vals, _, ⟨mv, r, q, h1, h2⟩, x, v, e => by
    subst q
    simp only [List.zip_cons_cons, List.lookup_cons] at e ⊢
    cases hx : x == p with
    | true => rw [hx] at e; cases e; exact ⟨mv, rfl, h1⟩
    | false => rw [hx] at e; exact zip_lookup ps vals r h2 x v e

structure FnSc (X : Sc) (ps : List Str) : Prop where
  kind : X.scope.kind = .function
  nd : (X.names.map (·.1)).Nodup
  pnd : ps.Nodup
  loc : ∀ y ∈ X.names, y.2 = .local ∨ y.2 = .cell
  sc : ∀ y ∈ X.names, X.scope.names.lookup y.1 = some y.2
  mem : ∀ y ∈ X.names, y ∈ X.scope.names
  up : X.up = []
  bot : X.bot = []
  ps : ∀ p ∈ ps, (p, NameKind.local) ∈ X.names ∨ (p, NameKind.cell) ∈ X.names

theorem cellsFrom_mem : ∀ (names : List (Str × NameKind)) (n : Nat) (acc : List (Str × Addr)) (x : Str), ((x, NameKind.cell) ∈ names ∨ ∃ c, (x, c) ∈ acc) → ∃ c, (x, c) ∈ cellsFrom n names acc
  | [], n, acc, x, h => by rcases h with h | h; simp at h; exact h
  | (y, k) :: r, n, acc, x, h => by
    unfold cellsFrom
    split
    · rename_i hk
      refine cellsFrom_mem r _ _ x ?_
      rcases h with h | ⟨c, h⟩
      · rcases List.mem_cons.mp h with h | h
        · cases h; exact .inr ⟨_, List.mem_cons_self ..⟩
        · exact .inl h
      · exact .inr ⟨c, List.mem_cons_of_mem _ h⟩
    · rename_i hk
      refine cellsFrom_mem r _ _ x ?_
      rcases h with h | h
      · rcases List.mem_cons.mp h with h | h
        · cases h; exact absurd (by decide) hk
        · exact .inl h
      · exact .inr h
theorem mem_lookup_isSome {cs : List (Str × Addr)} {x : Str} (h : ∃ c, (x, c) ∈ cs) : ∃ c, cs.lookup x = some c := by
  obtain ⟨c, h⟩ := h
  induction cs with
  | nil => simp at h
  | cons p r ih =>
    obtain ⟨y, b⟩ := p
    rw [List.lookup_cons]
    cases e : x == y with
    | true => exact ⟨b, rfl⟩
    | false =>
      rcases List.mem_cons.mp h with q | q
      · cases q; simp at e
      · exact ih q

def cellSlot (names : List (Str × NameKind)) (cs : List (Str × Addr)) (b : Addr) : Option Nat := names.findIdx? fun p => p.2 == .cell && cs.lookup p.1 == some b

def Gh.enter (G : Gh) (X : Sc) (L : Addr) (cs : List (Str × Addr)) (h : Heap) : Gh :=
  { kn := fun b => if b = L then (h.get? b).map (Tag.loc G.fr.length, ·) else match cellSlot X.names cs b with
      | some i => (h.get? b).map (Tag.cel G.fr.length i, ·)
      | none => G.kn b
    mu := G.mu
    fr := ⟨X.names, L, cs⟩ :: G.fr }

theorem R.enter {W : Wd} {X : Sc} {ps : List Str} {G : Gh} {σ : St} {s s' : Shared} {vals : List AV} {ms : List Value} {env : Env} (r : R W G σ s) (F : FnSc X ps) (hne : G.fr ≠ []) (hv : Reps W G vals ms) (hlen : ps.length = vals.length)
    (hsc : env.scope = X.scope) (hcs : env.cells = cellsFrom (env.locals + 1) X.scope.names [])
    (x : InCallC s env.locals (bindL env.kindOf (ps.zip ms) fun _ => none) env.cells (bindC env.kindOf (ps.zip ms) fun _ => none) s') :
    R W (G.enter X env.locals env.cells s'.heap) { σ with fs := initF X.names (ps.zip vals) :: σ.fs } s' ∧ (∀ a t o, G.kn a = some (t, o) → (G.enter X env.locals env.cells s'.heap).kn a = some (t, o)) := by
  obtain ⟨hh, tk, hs⟩ := x.toInCall.same
  have hfresh := x.toInCall.fresh
  have hzip : ((ps.zip ms).map (·.1)).Nodup := by
    rw [List.map_fst_zip (by have := hv.length; omega)]
    exact F.pnd
  have hkd : ∀ y, env.kindOf y = X.scope.names.lookup y := fun y => by unfold Env.kindOf; rw [hsc]
  obtain ⟨oL, hoL, hnL⟩ := NsOb.of x.toInCall.ns
  have hcell : ∀ (i : Nat) y, X.names[i]? = some (y, NameKind.cell) → ∃ c, env.cells.lookup y = some c := fun i y hi => by
    rw [hcs]
    exact mem_lookup_isSome (cellsFrom_mem _ _ _ _ (.inl (F.mem _ (List.mem_of_getElem? hi))))
  have hslot : ∀ (i : Nat) y c, X.names[i]? = some (y, NameKind.cell) → env.cells.lookup y = some c → cellSlot X.names env.cells c = some i := fun i y c hi hc => by
    unfold cellSlot
    obtain ⟨hl, he⟩ := List.getElem?_eq_some_iff.mp hi
    rw [List.findIdx?_eq_some_iff_getElem]
    refine ⟨hl, by rw [he]; simp [hc], fun j hj => ?_⟩
    simp only [Bool.and_eq_true, beq_iff_eq, not_and]
    intro hk hc'
    have e : X.names[j].1 = y := name_of_addr x.apart (mem_of_lookup hc') (mem_of_lookup hc)
    have : j = i := nodup_at F.nd (i := j) (j := i) (x := y) (a := X.names[j].2) (b := NameKind.cell) (by rw [List.getElem?_eq_getElem (by omega)]; rw [← e]) hi
    omega
  have hold : ∀ b, b < s.heap.objs.size → b ≠ env.locals ∧ cellSlot X.names env.cells b = none := fun b hb => by
    refine ⟨fun e => by omega, ?_⟩
    unfold cellSlot
    rw [List.findIdx?_eq_none_iff]
    intro p _
    simp only [Bool.and_eq_false_iff, beq_eq_false_iff_ne]
    right
    intro e
    exact Nat.lt_irrefl _ (Nat.lt_of_lt_of_le (Nat.lt_of_lt_of_le hb hfresh) (Nat.le_of_lt (x.above _ _ (mem_of_lookup e))))
  have hk : ∀ a t o, G.kn a = some (t, o) → (G.enter X env.locals env.cells s'.heap).kn a = some (t, o) := fun a t o e => by
    obtain ⟨h1, h2⟩ := hold a (Heap.lt_size (r.sub _ _ _ e))
    show (if a = env.locals then _ else _) = _
    rw [if_neg h1, h2]; exact e
  have hvw : (G.vw W).Le ((G.enter X env.locals env.cells s'.heap).vw W) := vw_le_fr (fun a o e => hk _ _ _ e) (fun n a e => e) (by
    show (_ :: G.fr).getLast? = _
    cases h : G.fr with
    | nil => exact absurd h hne
    | cons a l => rfl)
  have hv' := RepVs.mono hvw _ _ hv
  have hF : FrameOK ((G.enter X env.locals env.cells s'.heap).vw W) (G.enter X env.locals env.cells s'.heap).kn G.fr.length ⟨X.names, env.locals, env.cells⟩ (initF X.names (ps.zip vals)) := by
    refine ⟨F.nd, by simp [initF], ⟨oL, _, ?_, hnL, fun i y hi v e => ?_⟩, fun i y hi => ?_⟩
    · show (if env.locals = env.locals then _ else _) = _
      rw [if_pos rfl, hoL]; rfl
    · have e : (initF X.names (ps.zip vals))[i]? = some (some v) := e
      unfold initF at e
      rw [List.getElem?_map, hi] at e
      have e : (ps.zip vals).lookup y = some v := Option.some.inj e
      obtain ⟨mv, e1, e2⟩ := zip_lookup ps vals ms hv' y v e
      refine ⟨mv, ?_, e2⟩
      rw [bindL_lookup _ _ _ _ hzip, hkd, F.sc _ (List.mem_of_getElem? hi), e1]
      simp
    · obtain ⟨c, hc⟩ := hcell i y hi
      obtain ⟨oc, ho, hd⟩ := x.cell y c hc
      refine ⟨c, oc, _, hc, ?_, hd, fun v e => ?_⟩
      · have hcl : c ≠ env.locals := Nat.ne_of_gt (x.above _ _ (mem_of_lookup hc))
        show (if c = env.locals then _ else _) = _
        rw [if_neg hcl, hslot i y c hi hc, ho]; rfl
      · unfold initF at e
        rw [List.getElem?_map, hi] at e
        have e : (ps.zip vals).lookup y = some v := Option.some.inj e
        obtain ⟨mv, e1, e2⟩ := zip_lookup ps vals ms hv' y v e
        refine ⟨mv, ?_, e2⟩
        rw [bindC_lookup _ _ _ _ hzip, hkd, F.sc _ (List.mem_of_getElem? hi), e1]
        simp
  have hsy : SysK (G.enter X env.locals env.cells s'.heap).kn := by
    obtain ⟨⟨oc, hc⟩, hz⟩ := r.inv.sys
    refine ⟨⟨oc, hk _ _ _ hc⟩, fun t o e => ?_⟩
    have hlt : sysModules < s.heap.objs.size := Nat.lt_trans (show sysModules < cStatics by decide) (Heap.lt_size (r.sub _ _ _ hc))
    obtain ⟨h1, h2⟩ := hold _ hlt
    have e : (if sysModules = env.locals then _ else _) = some (t, o) := e
    rw [if_neg h1, h2] at e
    exact hz _ _ e
  refine ⟨r.push hk rfl rfl hne hF (fun a t o e => ?_) (by rw [hs]) (by rw [hs]) hsy, hk⟩
  have e : (if a = env.locals then (s'.heap.get? a).map (Tag.loc G.fr.length, ·) else match cellSlot X.names env.cells a with
      | some i => (s'.heap.get? a).map (Tag.cel G.fr.length i, ·)
      | none => G.kn a) = some (t, o) := e
  split at e
  · obtain ⟨o', e1, e2⟩ := Option.map_eq_some_iff.mp e
    cases e2; exact e1
  · split at e
    · obtain ⟨o', e1, e2⟩ := Option.map_eq_some_iff.mp e
      cases e2; exact e1
    · exact x.toInCall.keep _ _ (r.sub _ _ _ e)

theorem R.enterEnv {W : Wd} {X : Sc} {ps : List Str} {G : Gh} {s' : Shared} {env : Env} (F : FnSc X ps) (hsc : env.scope = X.scope) (hg : env.globals = mainGlobals) (hb : env.builtins = builtinsNs) (hf : ∃ f, env.frame = some f) :
    EnvOK X env (G.enter X env.locals env.cells s'.heap) :=
  ⟨hsc, F.kind, hg, hb, hf, ⟨_, _, rfl, rfl, rfl, fun _ _ => rfl⟩, fun x k i h => by rw [F.up] at h; simp at h, fun x i h => by rw [F.bot] at h; simp at h⟩

structure FnOK (W : Wd) (a : Addr) (X : Sc) (ps : List Str) (body : List Stmt) (fd : FuncData) : Prop where
  at_ : ∃ o, W.K.lookup a = some o ∧ o.data = .func fd
  body : fd.body = .stmts body
  clo : fd.closure = []
  sc : fd.scope = X.scope
  glob : fd.globals = mainGlobals
  bui : fd.builtins = builtinsNs
  co : fd.scope.isCoroutine = false
  gen : fd.scope.isGenerator = false
  code : ∃ c o vs t, fd.code = .ref c ∧ W.K.lookup c = some o ∧ o.data = .fields vs ∧ vs[1]? = some (.str fd.qualname t)
  F : FnSc X ps

def SimBind (W : Wd) (fd : FuncData) (ps : List Str) (ks : List Str) (f : List AV → List AV → Option (List AV)) : Prop :=
  ∀ (A : Around) (σ : St) (G : Gh) (s : Shared) (args kws : List AV) (ms ks' : List Value) (vals : List AV), AOK 0 A → R W G σ s → Reps W G args ms → Reps W G kws ks' → f args kws = some vals →
    wpAny W.M A (bindArgs fd ⟨ms, ks.zip ks'⟩) (fun binds s' => ∃ vs G', binds = ps.zip vs ∧ G.Le G' ∧ R W G' σ s' ∧ Reps W G' vals vs ∧ ps.length = vals.length) (fun _ _ => False) s

def fnA (names : List (Str × NameKind)) (ps : List Str) (fb : M AFl) (vals : List AV) : M AV := fun σ => match fb { σ with fs := initF names (ps.zip vals) :: σ.fs } with
  | some (fl, σ') => some (match fl with
    | .ret v => v
    | _ => .none, { σ' with fs := σ'.fs.tail })
  | none => none

def CP (Q : Value → Shared → Prop) : Result → Shared → Prop := fun r s' => match r with
  | .ok (.ret v) => Q v s'
  | .ok _ => False
  | .error _ => False
theorem CP.call {M : Model} {A : Around} {f : Value} {pos : List Value} {kw : List (Str × Value)} {Q : Value → Shared → Prop} {s : Shared} (h : codeAny M A (.call f ⟨pos, kw⟩) (CP Q) s) : wpAny M A (call f pos kw) Q (fun _ _ => False) s :=
  wpAny_call (codeAny_mono h fun r s' q => by rcases r with e | (v | _ | _ | _) <;> exact q)
theorem CP.mono {M : Model} {A : Around} {c : Code} {Q Q' : Value → Shared → Prop} {s : Shared} (h : codeAny M A c (CP Q) s) (hq : ∀ v s', Q v s' → Q' v s') : codeAny M A c (CP Q') s :=
  codeAny_mono h fun r s' q => by rcases r with e | (v | _ | _ | _) <;> first | exact hq _ _ q | exact q

def SimCall (W : Wd) (n : Nat) (f : Value) (ks : List Str) (g : List AV → List AV → M AV) : Prop :=
  ∀ A σ σ' G s args kws ms ks' v, AOK n A → R W G σ s → G.fr ≠ [] → Reps W G args ms → Reps W G kws ks' → g args kws σ = some (v, σ') → codeAny W.M A (.call f ⟨ms, ks.zip ks'⟩) (CP (Post W (Rep W) G σ' v)) s

theorem AOK.deeper {n : Nat} {A : Around} {env : Env} (h : AOK (n + 1) A) : AOK n (A.deeper env) :=
  ⟨h.hd, by show A.depth + 1 + 8 * n ≤ 900; have := h.dep; omega, by show A.units + 3 + 100 * n ≤ 9000; have := h.un; omega⟩
theorem AOK.in1 {n : Nat} {A : Around} (h : AOK (n + 1) A) : AOK n A.in1 :=
  ⟨h.hd, by show A.depth + 8 * n ≤ 900; have := h.dep; omega, by show A.units + 1 + 100 * n ≤ 9000; have := h.un; omega⟩
theorem AOK.less {n m : Nat} {A : Around} (h : AOK n A) (hm : m ≤ n) : AOK m A :=
  ⟨h.hd, by have := h.dep; omega, by have := h.un; omega⟩
theorem AOK.room1 {n : Nat} {A : Around} (h : AOK n A) : A.depth < recursionLimit := by
  have := h.dep; unfold recursionLimit; omega
theorem AOK.units1 {n : Nat} {A : Around} (h : AOK n A) : A.units < cLine := by
  have := h.un; unfold cLine; omega

section
variable {W : Wd} {X : Sc} {n : Nat}

theorem SimCall.fn (ok : W.Ok) {a : Addr} {ps ks : List Str} {body : List Stmt} {fd : FuncData} {fb : M AFl} {fbind : List AV → List AV → Option (List AV)} (F : FnOK W a X ps body fd) (hb : SimBind W fd ps ks fbind) (hB : SimX W X n body fb) :
    SimCall W (n + 1) (.ref a) ks (fun args kws => match fbind args kws with
      | some vals => fnA X.names ps fb vals
      | none => M.fail) := by
  intro A σ σ' G s args kws ms ks' v hA r hne hm hk hf
  obtain ⟨o, ho, hd⟩ := F.at_
  cases hvals : fbind args kws with
  | none => simp only [hvals] at hf; cases hf
  | some vals =>
    simp only [hvals] at hf
    refine codeAny_call_function hA.room1 (r.kin ok _ _ ho) hd F.co F.gen F.body ?_ ?_
    · obtain ⟨c, oc, vs, t, h1, h2, h3, h4⟩ := F.code
      exact ⟨c, oc, vs, t, h1, r.kin ok _ _ h2, h3, h4⟩
    · refine wpAny_mono (hb A.in1 σ G s args kws ms ks' vals (hA.in1.less (Nat.zero_le _)) r hm hk hvals) (fun binds s1 ⟨vs, G1, e1, l1, r1, p1, len1⟩ => ?_) fun _ _ e => e.elim
      subst e1
      rw [F.clo]
      have hlen := p1.length
      refine wpAny_newFunctionEnv_cells (by rw [F.sc]; exact F.F.kind) (fun x hx => ?_) fun env he s2 x => ?_
      · have hx1 : x.1 ∈ ps := (List.of_mem_zip hx).1
        rw [F.sc]
        rcases F.F.ps _ hx1 with h | h
        · exact .inl (F.F.sc _ h)
        · exact .inr ⟨F.F.sc _ h, by
            obtain ⟨c, hc⟩ := mem_lookup_isSome (cellsFrom_mem X.scope.names (s1.heap.objs.size + 1) [] x.1 (.inl (F.F.mem _ h)))
            rw [hc]; rfl⟩
      · have hsc : env.scope = X.scope := by rw [he]; exact F.sc
        have hloc : env.locals = s1.heap.objs.size := by rw [he]; rfl
        have hcs : env.cells = cellsFrom (env.locals + 1) X.scope.names [] := by rw [hloc, he, ← F.sc]; rfl
        have hne1 : G1.fr ≠ [] := by rw [l1.fr]; exact hne
        obtain ⟨r2, k2⟩ := r1.enter F.F hne1 p1 len1 hsc hcs x
        have P2 : EnvOK X env (G1.enter X env.locals env.cells s2.heap) := R.enterEnv (W := W) F.F hsc (by rw [he]; exact F.glob) (by rw [he]; exact F.bui) (by rw [he]; exact ⟨_, rfl⟩)
        refine ⟨r2.lim ok, codeAny_func ?_⟩
        unfold fnA at hf
        split at hf
        · rename_i fl σ2 hfb
          cases hf
          refine wpAny_mono (hB env (A.deeper env) _ _ _ _ s2 P2 hA.deeper r2 hfb) (fun f s3 ⟨G3, l3, r3, p3⟩ => ?_) fun _ _ e => e.elim
          have fr3 : G3.fr = ⟨X.names, env.locals, env.cells⟩ :: G.fr := by rw [l3.fr]; show _ :: G1.fr = _; rw [l1.fr]
          refine ⟨G3.pop G.fr, ⟨fun b o e => l3.z _ _ (k2 _ _ _ (l1.z _ _ e)), fun b o e => l3.pin _ _ (k2 _ _ _ (l1.pin _ _ e)), fun m b e => l3.mu _ _ (l1.mu _ _ e), rfl⟩, r3.popF fr3 hne, ?_⟩
          cases fl <;> cases f <;> first | exact p3.elim | rfl | exact Rep.popF p3 fr3 hne
        · cases hf

/-- a def called with just its parameters -/
theorem SimBind.plain {fd : FuncData} {ps : List Str} (k : Nat) (hk : ps.length = k) (h : ∀ ms : List Value, ms.length = k → bindArgs fd ⟨ms, []⟩ = pure (ps.zip ms)) :
    SimBind W fd ps [] (fun args _ => if args.length = k then some args else none) := by
  intro A σ G s args kws ms ks' vals hA r hm hk' hf
  dsimp only at hf
  split at hf
  · rename_i hl
    cases hf
    have := hm.length
    show wpAny W.M A (bindArgs fd ⟨ms, []⟩) _ _ s
    rw [h ms (by omega)]
    exact wpAny_pure ⟨ms, G, rfl, .refl _, r, hm, by omega⟩
  · cases hf
end
end Mine
end

section
open PySem PySem.W PySem.Calls PyProof.Rows
set_option Elab.async false
set_option maxRecDepth 20000
namespace Mine

/-! keys -/
section
variable {κ : Type} [DecidableEq κ]
def getK (l : List (κ × AV)) (k : κ) : Option AV := (l.find? fun kv => kv.1 = k).map (·.2)
def setK (l : List (κ × AV)) (k : κ) (v : AV) : List (κ × AV) := if l.any (fun kv => kv.1 = k) then l.map (fun kv => if kv.1 = k then (kv.1, v) else kv) else l ++ [(k, v)]
def delK (l : List (κ × AV)) (k : κ) : List (κ × AV) := l.filter fun kv => decide (kv.1 ≠ k)

theorem RepKV.get {V : Vw} : ∀ {l : List (κ × AV)} {kvs}, RepKV V l kvs → ∀ {k a}, getK l k = some a → ∃ v, valueAt kvs k = some v ∧ RepV V a v
  | [], _, _, k, a, e => by simp [getK] at e
  | (k', b) :: l, _, ⟨v, r, q, h1, h2⟩, k, a, e => by
    subst q
    unfold getK valueAt at *
    rw [List.find?_cons] at e ⊢
    by_cases hk : k' = k
    · simp [hk] at e ⊢; subst e; exact h1
    · simp only [hk, decide_false] at e ⊢; exact RepKV.get h2 e
theorem RepKV.getNone {V : Vw} : ∀ {l : List (κ × AV)} {kvs}, RepKV V l kvs → ∀ {k}, getK l k = none → valueAt kvs k = none
  | [], _, h, k, e => by cases h; rfl
  | (k', b) :: l, _, ⟨v, r, q, h1, h2⟩, k, e => by
    subst q
    unfold getK valueAt at *
    rw [List.find?_cons] at e ⊢
    by_cases hk : k' = k
    · simp [hk] at e
    · simp only [hk, decide_false] at e ⊢; exact RepKV.getNone h2 e
theorem RepKV.any {V : Vw} : ∀ {l : List (κ × AV)} {kvs}, RepKV V l kvs → ∀ k, kvs.any (fun kv => kv.1 = k) = l.any (fun kv => kv.1 = k)
  | [], _, h, k => by cases h; rfl
  | (k', b) :: l, _, ⟨v, r, q, h1, h2⟩, k => by subst q; simp [RepKV.any h2 k]
theorem RepKV.map {V : Vw} {a : AV} {x : Value} (hx : RepV V a x) (k : κ) : ∀ {l : List (κ × AV)} {kvs}, RepKV V l kvs → RepKV V (l.map fun kv => if kv.1 = k then (kv.1, a) else kv) (kvs.map fun kv => if kv.1 = k then (kv.1, x) else kv)
  | [], _, h => by cases h; rfl
  | (k', b) :: l, _, ⟨v, r, q, h1, h2⟩ => by
    subst q
    simp only [List.map_cons]
    by_cases hk : k' = k
    · rw [if_pos hk, if_pos hk]; exact ⟨x, _, rfl, hx, RepKV.map hx k h2⟩
    · rw [if_neg hk, if_neg hk]; exact ⟨v, _, rfl, h1, RepKV.map hx k h2⟩
omit [DecidableEq κ] in
theorem RepKV.append {V : Vw} : ∀ {l l' : List (κ × AV)} {kvs kvs'}, RepKV V l kvs → RepKV V l' kvs' → RepKV V (l ++ l') (kvs ++ kvs')
  | [], _, _, _, h, h' => by cases h; exact h'
  | _ :: _, _, _, _, ⟨v, r, q, h1, h2⟩, h' => by subst q; exact ⟨v, _, rfl, h1, RepKV.append h2 h'⟩
theorem RepKV.set {V : Vw} {a : AV} {x : Value} (hx : RepV V a x) (k : κ) {l : List (κ × AV)} {kvs} (h : RepKV V l kvs) : RepKV V (setK l k a) (stored kvs k x) := by
  unfold setK stored
  rw [h.any k]
  split
  · exact h.map hx k
  · exact h.append ⟨x, [], rfl, hx, rfl⟩
theorem RepKV.del {V : Vw} (k : κ) : ∀ {l : List (κ × AV)} {kvs}, RepKV V l kvs → RepKV V (delK l k) (without kvs k)
  | [], _, h => by cases h; rfl
  | (k', b) :: l, _, ⟨v, r, q, h1, h2⟩ => by
    subst q
    unfold delK without
    simp only [List.filter_cons]
    by_cases hk : k' = k
    · simp only [hk, ne_eq, not_true_eq_false, decide_false, Bool.false_eq_true, if_false]; exact RepKV.del k h2
    · simp only [hk, ne_eq, not_false_eq_true, decide_true, if_true]; exact ⟨v, _, rfl, h1, RepKV.del k h2⟩
theorem RepVd.kv {V : Vw} : ∀ {l : List (Str × AV)} {kvs}, RepVd V l kvs → RepKV V l kvs
  | [], _, h => h
  | (_, _) :: _, _, ⟨v, r, q, h1, h2⟩ => ⟨v, r, q, h1, RepVd.kv h2⟩
theorem RepKV.vd {V : Vw} : ∀ {l : List (Str × AV)} {kvs}, RepKV V l kvs → RepVd V l kvs
  | [], _, h => h
  | (_, _) :: _, _, ⟨v, r, q, h1, h2⟩ => ⟨v, r, q, h1, RepKV.vd h2⟩
end

/-! assignments -/
section
variable {W : Wd} {X : Sc} {n : Nat}

theorem SimS.assign {t value : Expr} {pos : Pos} {f : M AV} {tgt : AV → M Unit} (hV : SimE W X n value f) (hT : SimT W X n t tgt)
    (hs : ∀ env : Env, env.scope = X.scope → swapsWith value (some t) pos.line env = pure false) (hw : ∀ env : Env, env.scope = X.scope → swappedStores [t] value env = pure Option.none)
    (he : ∀ env, (assignEach [t] env).map (·.2) = [PySem.assign t env]) :
    SimS W X n (.Assign [t] value pos) (M.bind f fun v => M.bind (tgt v) fun _ => M.pure .next) := by
  intro env A σ b σ' G s P hA r hf
  obtain ⟨v, σ1, e1, hf⟩ := M.bind_some hf
  obtain ⟨⟨⟩, σ2, e2, hf⟩ := M.bind_some hf
  cases hf
  refine wpAny_Assign_stores (wpAny_mono (hV env A _ _ _ G s P hA r e1) (fun mv s1 ⟨G1, l1, r1, p1⟩ => ?_) fun _ _ e => e) (hs env P.scope) (hw env P.scope)
  rw [he]
  exact wpAny_mono (hT env A _ _ G1 s1 v mv (P.mono l1) hA r1 p1 e2) (fun _ s2 ⟨G2, l2, r2, _⟩ => ⟨G2, l1.trans l2, r2, trivial⟩) fun _ _ e => e

theorem SimS.expr {e : Expr} {pos : Pos} {f : M AV} (h : SimE W X n e f) (hs : ∀ env : Env, env.scope = X.scope → swapsWith e Option.none pos.line env = pure false) :
    SimS W X n (.Expr e pos) (M.bind f fun _ => M.pure .next) := by
  intro env A σ b σ' G s P hA r hf
  obtain ⟨v, σ1, e1, hf⟩ := M.bind_some hf
  cases hf
  refine wpAny_Expr_any (wpAny_mono (h env A _ _ _ G s P hA r e1) (fun mv s1 ⟨G1, l1, r1, p1⟩ => ⟨G1, l1, r1, trivial⟩) fun _ _ e => e) ?_ (hs env P.scope)
  unfold interactive
  rw [P.scope, P.kind]; rfl

/-! targets -/
def SimTs (W : Wd) (X : Sc) (n : Nat) (ts : List Expr) (f : List AV → M Unit) : Prop :=
  ∀ env A σ σ' G s l vs, EnvOK X env G → AOK n A → R W G σ s → Reps W G l vs → f l σ = some ((), σ') → wpAny W.M A (assignInOrder ((assignEach ts env).map (·.2)) vs) (Post W (fun _ _ _ => True) G σ' ()) (fun _ _ => False) s
def tgtNil : List AV → M Unit
  | [] => M.pure ()
  | _ => M.fail
def tgtCons (f : AV → M Unit) (g : List AV → M Unit) : List AV → M Unit
  | a :: l => M.bind (f a) fun _ => g l
  | [] => M.fail
theorem SimTs.nil : SimTs W X n [] tgtNil := by
  intro env A σ σ' G s l vs P hA r p hf
  cases l with
  | cons => cases hf
  | nil =>
    cases hf; cases p
    exact wpAny_assignInOrder_none (.now r trivial)
theorem SimTs.cons {t : Expr} {ts : List Expr} {f : AV → M Unit} {g : List AV → M Unit} (h1 : SimT W X n t f) (h2 : SimTs W X n ts g) (he : ∀ env, assignEach (t :: ts) env = (false, PySem.assign t env) :: assignEach ts env) : SimTs W X n (t :: ts) (tgtCons f g) := by
  intro env A σ σ' G s l vs P hA r p hf
  cases l with
  | nil => cases hf
  | cons a l =>
    obtain ⟨mv, rs, e, p1, p2⟩ := p
    subst e
    obtain ⟨⟨⟩, σ1, e1, hf⟩ := M.bind_some hf
    rw [he]
    refine wpAny_assignInOrder_more (wpAny_mono (h1 env A _ _ G s a mv P hA r p1 e1) (fun _ s1 ⟨G1, l1, r1, _⟩ => ?_) fun _ _ e => e)
    exact wpAny_mono (h2 env A _ _ G1 s1 l rs (P.mono l1) hA r1 (Reps.le p2 l1) hf) (fun _ _ q => q.le l1) fun _ _ e => e
def tgtTup (k : Nat) (g : List AV → M Unit) : AV → M Unit
  | .tup l => if l.length = k then g l else M.fail
  | _ => M.fail
theorem SimT.tuple {es : List Expr} {x1 : Nat} {pos : Pos} {g : List AV → M Unit} (k : Nat) (h : SimTs W X n es g) (hk : ∀ env, (assignEach es env).length = k) (hst : ∀ env, (assignEach es env).findIdx? (·.1) = Option.none) : SimT W X n (.Tuple es x1 pos) (tgtTup k g) := by
  intro env A σ σ' G s v mv P hA r p hf
  cases v with
  | tup l =>
    simp only [tgtTup] at hf
    split at hf
    · rename_i hl
      obtain ⟨a, vs, m, e, hz, hr⟩ := p
      subst e
      have hlen := hr.length
      rw [Array.length_toList] at hlen
      refine wpAny_assign_Tuple hA.hd (isTup_of (r.z hz)) (by rw [hk]; omega) (hst env) fun h' hx => ?_
      have r' := r.keep (h' := h') (tk := s.toks) fun b o e => hx b o (Nat.ne_of_lt (Heap.lt_size e)) e
      exact h env A _ _ G _ l _ P hA r' hr hf
    · cases hf
  | _ => cases hf

/-- swapped stores of names that are all local -/
theorem SimS.swap2 {x y : Str} {i j : Nat} {e1 e2 : Expr} {k1 k2 : Nat} {p1 p2 p3 p4 pos : Pos} {f : M (List AV)} (hV : SimI W X n [e1, e2] f) (hi : X.names[i]? = some (x, .local)) (hl : X.scope.names.lookup x = some .local) (hj : X.names[j]? = some (y, .local)) (hl' : X.scope.names.lookup y = some .local)
    (hs : ∀ env : Env, env.scope = X.scope → swappedStores [.Tuple [.Name x p1, .Name y p2] k1 p3] (.Tuple [e1, e2] k2 p4) env = pure (some [x, y])) :
    SimS W X n (.Assign [.Tuple [.Name x p1, .Name y p2] k1 p3] (.Tuple [e1, e2] k2 p4) pos) (M.bind (M.bind f mkT) fun v => match v with
      | .tup [a, b] => M.bind (stv j b) fun _ => M.bind (stv i a) fun _ => M.pure .next
      | _ => M.fail) := by
  intro env A σ b σ' G s P hA r hf
  obtain ⟨v, σ1, e1', hf⟩ := M.bind_some hf
  split at hf
  · rename_i a b
    obtain ⟨⟨⟩, σ2, g1, hf⟩ := M.bind_some hf
    obtain ⟨⟨⟩, σ3, g2, hf⟩ := M.bind_some hf
    cases hf
    show wpAny W.M A (exec (.Assign [.Tuple [.Name x p1, .Name y p2] k1 p3] (.Tuple [e1, e2] k2 p4) pos) env) _ _ s
    rw [exec_Assign_arm]
    refine wpAny_bind (wpAny_standAt ?_)
    refine wpAny_bind (wpAny_pure ?_)
    rw [if_neg (by decide)]
    refine wpAny_bind (wpAny_mono (SimE.tuple (k := k2) (pos := p4) hV env A _ _ _ G s P hA r e1') (fun mv s1 ⟨G1, l1, r1, q1⟩ => ?_) fun _ _ e => e)
    rw [hs env P.scope]
    refine wpAny_bind (wpAny_pure ?_)
    obtain ⟨t, vs, m, e, hz, hr⟩ := q1
    subst e
    obtain ⟨ma, r1', e, qa, mb, r2', e', qb, e''⟩ := hr
    subst e' e''
    have hvs : vs = #[ma, mb] := by cases vs; simp at e; subst e; rfl
    subst hvs
    show wpAny _ _ (do
      rule "assign.swapped-stores"
      let items ← unpackItems (.ref t) 2 Option.none
      assignInOrder (([x, y].reverse).map fun n => bindName env n) items.reverse
      pure Flow.next) _ _ _
    refine wpAny_bind (wpAny_rule (wpAny_bind (wpAny_unpackItems_tuple (items := #[ma, mb]) hA.hd (isTup_of (r1.z hz)) fun h' hx => ?_)))
    have r1'' := r1.keep (h' := h') (tk := s1.toks) fun b o e => hx b o (Nat.ne_of_lt (Heap.lt_size e)) e
    show wpAny _ _ (do assignInOrder [bindName env y, bindName env x] [mb, ma]; pure Flow.next) _ _ _
    refine wpAny_bind (wpAny_assignInOrder_more (wpAny_bindName (wpAny_mono (store_local hj hl' (P.mono l1) r1'' qb g1) (fun _ s2 ⟨G2, l2, r2, _⟩ => ?_) fun _ _ e => e)))
    refine wpAny_assignInOrder_more (wpAny_bindName (wpAny_mono (store_local hi hl (P.mono (l1.trans l2)) r2 (Rep.le qa l2) g2) (fun _ s3 ⟨G3, l3, r3, _⟩ => ?_) fun _ _ e => e))
    exact wpAny_assignInOrder_none (wpAny_pure ⟨G3, (l1.trans l2).trans l3, r3, trivial⟩)
  · cases hf

/-- the index operation of a store -/
def OpSet (W : Wd) (n : Nat) (h : AV → AV → AV → M Unit) : Prop :=
  ∀ A σ σ' G s a b c ma mb mc, AOK n A → R W G σ s → G.fr ≠ [] → Rep W G a ma → Rep W G b mb → Rep W G c mc → h a b c σ = some ((), σ') → wpAny W.M A (setItem ma mb mc) (Post W (fun _ _ _ => True) G σ' ()) (fun _ _ => False) s
theorem EnvOK.ne {X : Sc} {env : Env} {G : Gh} (P : EnvOK X env G) : G.fr ≠ [] := by
  obtain ⟨gf, rest, h, _⟩ := P.own
  rw [h]; simp
theorem SimT.sub {o i : Expr} {pos : Pos} {f g : M AV} {h : AV → AV → AV → M Unit} (h1 : SimE W X n o f) (h2 : SimE W X n i g) (h3 : OpSet W n h) :
    SimT W X n (.Subscript o i pos) (fun v => M.bind f fun a => M.bind g fun b => h a b v) := by
  intro env A σ σ' G s v mv P hA r p hf
  obtain ⟨a, σ1, e1, hf⟩ := M.bind_some hf
  obtain ⟨b, σ2, e2, hf⟩ := M.bind_some hf
  rw [assign_Subscript]
  refine wpAny_bind (wpAny_holding (wpAny_mono (h1 env A _ _ _ G s P hA r e1) (fun ma s1 ⟨G1, l1, r1, p1⟩ => ?_) fun _ _ e => e))
  refine wpAny_bind (wpAny_holding (wpAny_mono (h2 env A _ _ _ G1 s1 (P.mono l1) hA r1 e2) (fun mb s2 ⟨G2, l2, r2, p2⟩ => ?_) fun _ _ e => e))
  refine wpAny_bind (wpAny_standAt (wpAny_bind (wpAny_holding (wpAny_mono (h3 A _ _ G2 s2 _ _ _ _ _ _ hA r2 (P.mono (l1.trans l2)).ne (p1.le l2) p2 (p.le (l1.trans l2)) hf) (fun _ s3 ⟨G3, l3, r3, _⟩ => ?_) fun _ _ e => e))))
  exact wpAny_release ⟨G3, (l1.trans l2).trans l3, r3, trivial⟩

/-- aug-assignment of a name -/
def SimN (W : Wd) (X : Sc) (n : Nat) (x : Str) (tgt : AV → M Unit) : Prop :=
  ∀ env A σ σ' G s v mv, EnvOK X env G → AOK n A → R W G σ s → Rep W G v mv → tgt v σ = some ((), σ') → wpAny W.M A (storeName env x mv) (Post W (fun _ _ _ => True) G σ' ()) (fun _ _ => False) s
theorem SimN.local {x : Str} {i : Nat} (hi : X.names[i]? = some (x, .local)) (hl : X.scope.names.lookup x = some .local) : SimN W X n x (stv i) := fun _ _ _ _ _ _ _ _ P _ r p hf => store_local hi hl P r p hf
theorem SimN.cell {x : Str} {i : Nat} (hi : X.names[i]? = some (x, .cell)) (hl : X.scope.names.lookup x = some .cell) : SimN W X n x (stv i) := fun _ _ _ _ _ _ _ _ P _ r p hf => store_cell hi hl P r p hf
theorem SimS.augName {x : Str} {op : Operator} {value : Expr} {pos pos' : Pos} {f g : M AV} {h : AV → AV → M AV} {tgt : AV → M Unit} (h1 : Sim W (Rep W) (EF X) n (fun env => loadName env x) f) (h2 : SimE W X n value g) (h3 : Op2 W (Rep W) n (inplaceOp op) h) (hT : SimN W X n x tgt) :
    SimS W X n (.AugAssign (.Name x pos') op value pos) (M.bind f fun a => M.bind g fun b => M.bind (h a b) fun c => M.bind (tgt c) fun _ => M.pure .next) := by
  intro env A σ b σ' G s P hA r hf
  obtain ⟨a, σ1, e1, hf⟩ := M.bind_some hf
  obtain ⟨c, σ2, e2, hf⟩ := M.bind_some hf
  obtain ⟨d, σ3, e3, hf⟩ := M.bind_some hf
  obtain ⟨⟨⟩, σ4, e4, hf⟩ := M.bind_some hf
  cases hf
  refine wpAny_AugAssign_Name (wpAny_mono (h1 env A _ _ _ G s P hA r e1) (fun ma s1 ⟨G1, l1, r1, p1⟩ => ?_) fun _ _ e => e)
  refine wpAny_mono (h2 env A _ _ _ G1 s1 (P.mono l1) hA r1 e2) (fun mb s2 ⟨G2, l2, r2, p2⟩ => ?_) fun _ _ e => e
  refine wpAny_mono (h3 A _ _ G2 s2 _ _ _ _ _ hA r2 (p1.le l2) p2 e3) (fun mc s3 ⟨G3, l3, r3, p3⟩ => ?_) fun _ _ e => e
  have lA := (l1.trans l2).trans l3
  exact wpAny_mono (hT env A _ _ G3 s3 d mc (P.mono lA) hA r3 p3 e4) (fun _ s4 ⟨G4, l4, r4, _⟩ => ⟨G4, lA.trans l4, r4, trivial⟩) fun _ _ e => e
def iarA : Operator → AV → AV → M AV
  | .Add, .int a, .int b => M.pure (.int (a + b))
  | .Sub, .int a, .int b => M.pure (.int (a - b))
  | .FloorDiv, .int a, .int b => if b ≠ 0 ∧ b.natAbs < 1073741824 then M.pure (.int (a.fdiv b)) else M.fail
  | .Mult, .int a, .int b => if smallI a || smallI b then M.pure (.int (a * b)) else M.fail
  | _, _, _ => M.fail
theorem Op2.iar {op : Operator} : Op2 W (Rep W) n (inplaceOp op) (iarA op) := by
  intro A σ σ' G s a b c ma mb hA r pa pb hf
  unfold iarA at hf
  split at hf
  · cases hf
    obtain ⟨t, rfl⟩ := pa; obtain ⟨u, rfl⟩ := pb
    exact PySem.AutoIntOps.iadd_0 (.now r.tok ⟨_, rfl⟩)
  · cases hf
    obtain ⟨t, rfl⟩ := pa; obtain ⟨u, rfl⟩ := pb
    exact PySem.AutoIntOps.isub_0 (.now r.tok ⟨_, rfl⟩)
  · obtain ⟨t, rfl⟩ := pa; obtain ⟨u, rfl⟩ := pb
    split at hf
    · rename_i hs
      cases hf
      exact PySem.AutoIntOps.ifloordiv_1 (by simpa using hs.1) (by rw [PyProof.noPylong_small hs.2]; decide) (.now r.tok ⟨_, rfl⟩)
    · cases hf
  · rename_i x y
    obtain ⟨t, rfl⟩ := pa; obtain ⟨u, rfl⟩ := pb
    split at hf
    · rename_i hs
      cases hf
      rw [Bool.or_eq_true] at hs
      exact PySem.AutoIntOps.imul_0 (.now r.tok ⟨_, rfl⟩) (hs.elim (fun h => IntMulOk.of_left (smallI_bits h)) fun h => IntMulOk.of_right (smallI_bits h))
    · cases hf
  · cases hf
end
end Mine
end

section
open PySem PySem.W PySem.Calls PyProof.Rows
set_option Elab.async false
set_option maxRecDepth 20000
set_option linter.unusedSectionVars false
namespace Mine

/-- a kind of dict with its keys -/
structure DK (W : Wd) (κ : Type) [DecidableEq κ] where
  knd : KeyKind W.prog W.w κ
  ao : List (κ × AV) → AO
  ok : ∀ V l ob, ObjOK W V (ao l) ob ↔ ∃ kvs, DictOb knd ob kvs ∧ RepKV V l kvs
def dkI (W : Wd) : DK W Int := ⟨intKind W.prog W.w, .dictI, fun _ _ _ => Iff.rfl⟩
def dkS (W : Wd) : DK W Str := ⟨strKind W.prog W.w, .dictS, fun _ _ _ => Iff.rfl⟩

section
variable {W : Wd} {κ : Type} [DecidableEq κ] (D : DK W κ)
theorem R.dict {G : Gh} {σ : St} {s : Shared} (r : R W G σ s) (ok : W.Ok) {n : Hd} {l : List (κ × AV)} {mv : Value} (h : σ.st n = some (D.ao l)) (p : Rep W G (.ref n) mv) :
    ∃ a kvs ob, mv = .ref a ∧ G.mu n = some a ∧ G.kn a = some (.obj n, ob) ∧ s.heap.DictOf D.knd a kvs ∧ RepKV (G.vw W) l kvs ∧ (a == sysModules) = false := by
  obtain ⟨a, e, hm⟩ := p
  obtain ⟨b, ob, h1, h2, h3⟩ := r.inv.objs _ _ h
  rw [show (G.vw W).mu = G.mu from rfl, h1] at hm
  cases hm
  obtain ⟨kvs, q1, q2⟩ := (D.ok _ _ _).mp h3
  exact ⟨a, kvs, ob, e, h1, h2, DictOb.dictOf q1 (r.sub _ _ _ h2), q2, notSys r ok h2 Tag.noConfusion⟩
theorem R.setDict {G : Gh} {σ : St} {s : Shared} (r : R W G σ s) {n : Hd} {a : Addr} {ob : Obj} {l : List (κ × AV)} {kvs} {h' : Heap} {tk : Nat} (hm : G.mu n = some a) (hk : G.kn a = some (.obj n, ob)) (hd : h'.DictOf D.knd a kvs) (hs : Heap.SameBut a s.heap h') (hr : RepKV (G.vw W) l kvs) :
    ∃ G', G.Le G' ∧ R W G' { σ with st := fun m => if m = n then some (D.ao l) else σ.st m } { s with heap := h', toks := tk } ∧ G'.vw W = G.vw W ∧ G'.mu = G.mu := by
  obtain ⟨o, e, q⟩ := DictOb.of hd
  exact r.setObj hm hk e hs ((D.ok _ _ _).mpr ⟨kvs, q, hr⟩)
end

def idxN (i : Int) (n : Nat) : Option Nat :=
  if 0 ≤ i then (if i < n ∧ n ≤ 2 ^ 40 then some i.toNat else none) else if -(n : Int) ≤ i ∧ n ≤ 2 ^ 40 then some (i + n).toNat else none
theorem idxN_seq {i : Int} {n j : Nat} (h : idxN i n = some j) : seqIndex? i n = some j ∧ -(2 ^ 63) ≤ i ∧ i < 2 ^ 63 := by
  unfold idxN at h
  unfold seqIndex?
  split at h
  · split at h
    · cases h
      rename_i h0 h1
      refine ⟨?_, by omega, by omega⟩
      have : ¬ i < 0 := by omega
      simp only [this, if_false]
      rw [if_pos (by simp only [Bool.and_eq_true, decide_eq_true_eq]; omega)]
    · cases h
  · split at h
    · cases h
      rename_i h0 h1
      refine ⟨?_, by omega, by omega⟩
      have : i < 0 := by omega
      simp only [this, if_true]
      rw [if_pos (by simp only [Bool.and_eq_true, decide_eq_true_eq]; omega)]
    · cases h

def atL (l : List AV) (i : Int) : Option AV := match idxN i l.length with
  | some j => l[j]?
  | none => none

def getA : AV → AV → M AV
  | .tup l, .int i => fun σ => (atL l i).map (·, σ)
  | .lst l, .int i => fun σ => (atL l i).map (·, σ)
  | .dct l, .str x => fun σ => (getK l x).map (·, σ)
  | .ref n, .int i => fun σ => match σ.st n with
    | some (.list l) => (atL l i).map (·, σ)
    | some (.dictI l) => (getK l i).map (·, σ)
    | _ => none
  | .ref n, .str x => fun σ => match σ.st n with
    | some (.dictS l) => (getK l x).map (·, σ)
    | _ => none
  | _, _ => M.fail

def OpSub (W : Wd) (n : Nat) (h : AV → AV → M AV) : Prop :=
  ∀ A σ σ' G s a b c ma mb, AOK n A → R W G σ s → G.fr ≠ [] → Rep W G a ma → Rep W G b mb → h a b σ = some (c, σ') → SubscriptOn W.M A ma mb (Post W (Rep W) G σ' c) (fun _ _ => False) s

section
variable {W : Wd} {X : Sc} {n : Nat}

theorem atL_list {A : Around} {G : Gh} {σ : St} {s : Shared} {x : Addr} {vs : Array Value} {l : List AV} {i : Int} {t : Tok} {c : AV} (r : R W G σ s) (hl : s.heap.IsList x vs) (hr : Reps W G l vs.toList) (h : atL l i = some c) :
    wpAny W.M A (getItem (.ref x) (.int i t)) (Post W (Rep W) G σ c) (fun _ _ => False) s := by
  unfold atL at h
  split at h
  · rename_i j hj
    have hlen := hr.length
    rw [Array.length_toList] at hlen
    rw [← hlen] at hj
    obtain ⟨mv, e1, e2⟩ := RepVs.get hr h
    rw [Array.getElem?_toList] at e1
    obtain ⟨h1, h2, h3⟩ := idxN_seq hj
    by_cases h0 : 0 ≤ i
    · refine wpAny_getItem_list hl h0 h3 (x := mv) ?_ (.now r e2)
      have : j = i.toNat := by
        unfold idxN at hj
        rw [if_pos h0] at hj
        split at hj <;> cases hj
        rfl
      rw [← this]; exact e1
    · have hj' := hj
      unfold idxN at hj
      rw [if_neg h0] at hj
      split at hj
      · cases hj
        rename_i hq
        exact wpAny_getItem_list_neg hl (by omega) hq.1 h2 (x := mv) e1 (.now r e2)
      · cases hj
  · cases h

theorem OpSub.get (ok : W.Ok) : OpSub W n getA := by
  intro A σ σ' G s a b c ma mb hA r hne pa pb hf
  unfold getA at hf
  split at hf
  · rename_i l i
    obtain ⟨c', e1, e2⟩ := Option.map_eq_some_iff.mp hf
    cases e2
    obtain ⟨x, vs, m, e, hz, hr⟩ := pa
    obtain ⟨t, rfl⟩ := pb
    subst e
    unfold atL at e1
    split at e1
    · rename_i j hj
      have hlen := hr.length
      rw [Array.length_toList] at hlen
      rw [← hlen] at hj
      obtain ⟨h1, h2, h3⟩ := idxN_seq hj
      obtain ⟨mv, f1, f2⟩ := RepVs.get hr e1
      rw [Array.getElem?_toList] at f1
      have ht := isTup_of (r.z hz)
      exact ⟨_, _, slot_tuple_getitem.lookup, ht.typeIs, PyProof.Rows.getItem_tuple ht h2 h3 h1 f1 (.now r f2)⟩
    · cases e1
  · rename_i l i
    obtain ⟨c', e1, e2⟩ := Option.map_eq_some_iff.mp hf
    cases e2
    obtain ⟨x, vs, m, e, hz, hr⟩ := pa
    obtain ⟨t, rfl⟩ := pb
    subst e
    have hl := isList_of (r.z hz)
    exact ⟨_, _, list_getitem_lookup, hl.typeIs, atL_list r hl hr e1⟩
  · rename_i l x
    obtain ⟨c', e1, e2⟩ := Option.map_eq_some_iff.mp hf
    cases e2
    obtain ⟨y, o, kvs, e, hsy, hz, hd, hr⟩ := pa
    obtain ⟨t, rfl⟩ := pb
    subst e
    have hD := DictOb.dictOf hd (r.z hz)
    obtain ⟨v, f1, f2⟩ := RepKV.get hr.kv e1
    exact ⟨_, _, slot_dict_getitem.lookup, hD.typeIs, wpAny_getItem_of (strKind_is _ _ _ _) hD.mapOf f1 (.now r.tok f2)⟩
  · rename_i m i
    obtain ⟨t, rfl⟩ := pb
    split at hf
    · rename_i l hs
      obtain ⟨c', e1, e2⟩ := Option.map_eq_some_iff.mp hf
      cases e2
      obtain ⟨x, vs, k, e, hz, hr⟩ := r.view pa (l := l) (by unfold viewL; dsimp only; rw [hs])
      subst e
      have hl := isList_of hz
      exact ⟨_, _, list_getitem_lookup, hl.typeIs, atL_list r hl hr e1⟩
    · rename_i l hs
      obtain ⟨c', e1, e2⟩ := Option.map_eq_some_iff.mp hf
      cases e2
      obtain ⟨x, kvs, ob, e, hm, hk, hD, hr, hsy⟩ := r.dict (dkI W) ok hs pa
      subst e
      obtain ⟨v, f1, f2⟩ := RepKV.get hr e1
      exact ⟨_, _, slot_dict_getitem.lookup, hD.typeIs, wpAny_getItem_of (knd := intKind W.prog W.w) (intKind_is _ _ _ _) hD.mapOf f1 (.now r.tok f2)⟩
    · cases hf
  · rename_i m x
    obtain ⟨t, rfl⟩ := pb
    split at hf
    · rename_i l hs
      obtain ⟨c', e1, e2⟩ := Option.map_eq_some_iff.mp hf
      cases e2
      obtain ⟨x, kvs, ob, e, hm, hk, hD, hr, hsy⟩ := r.dict (dkS W) ok hs pa
      subst e
      obtain ⟨v, f1, f2⟩ := RepKV.get hr e1
      exact ⟨_, _, slot_dict_getitem.lookup, hD.typeIs, wpAny_getItem_of (knd := strKind W.prog W.w) (strKind_is _ _ _ _) hD.mapOf f1 (.now r.tok f2)⟩
    · cases hf
  · cases hf

theorem SimE.sub {o i : Expr} {pos : Pos} {f g : M AV} {h : AV → AV → M AV} (h1 : SimE W X n o f) (h2 : SimE W X n i g) (h3 : OpSub W n h)
    (hsl : ∀ ov iv, subscripted i false ov iv = operate [ov, iv] (getItem ov iv)) :
    SimE W X n (.Subscript o i pos) (M.bind f fun a => M.bind g fun b => h a b) := by
  intro env A σ b σ' G s P hA r hf
  obtain ⟨a, σ1, e1, hf⟩ := M.bind_some hf
  obtain ⟨c, σ2, e2, hf⟩ := M.bind_some hf
  show wpAny W.M A (eval (.Subscript o i pos) env) _ _ s
  rw [eval_Subscript]
  refine wpAny_bind (wpAny_mono (h1 env A _ _ _ G s P hA r e1) (fun ma s1 ⟨G1, l1, r1, p1⟩ => ?_) fun _ _ e => e)
  refine wpAny_bind (wpAny_holding (wpAny_mono (h2 env A _ _ _ G1 s1 (P.mono l1) hA r1 e2) (fun mb s2 ⟨G2, l2, r2, p2⟩ => ?_) fun _ _ e => e))
  refine wpAny_bind (wpAny_standAt ?_)
  obtain ⟨T, id, hl, hT, hg⟩ := h3 A _ _ G2 s2 _ _ _ _ _ hA r2 (P.mono (l1.trans l2)).ne (p1.le l2) p2 hf
  refine wpAny_bind ?_
  rw [getitemInPython_of_ne hT.not_modules]
  refine wpAny_bind (wpAny_specialOf hT hl ?_)
  refine wpAny_pure ?_
  rw [hsl]
  exact wpAny_bind (wpAny_operating (wpAny_mono hg (fun v s3 q => wpAny_bind (wpAny_letTemporaryGo (wpAny_pure (q.le (l1.trans l2))))) fun _ _ e => e))

/-! slices -/
def optA : Option (M AV) → M (Option Int)
  | none => M.pure none
  | some f => M.bind f fun
    | .int i => M.pure (some i)
    | .none => M.pure none
    | _ => M.fail
def clipN (i : Int) (n : Nat) : Nat := (max 0 (min (if i < 0 then i + n else i) n)).toNat
def sliceA (lo hi : Option Int) (l : List AV) : List AV := (l.drop (lo.elim 0 (clipN · l.length))).take (hi.elim l.length (clipN · l.length) - lo.elim 0 (clipN · l.length))
def SimP (W : Wd) (X : Sc) (n : Nat) (e : Option Expr) (f : M (Option Int)) : Prop := Sim W (fun _ b a => IsPart a b) (EF X) n (fun env => evalPart e env) f
theorem SimP.none : SimP W X n Option.none (M.pure Option.none) := fun env A σ b σ' G s P hA r hf => by cases hf; exact wpAny_pure (.now r .none)
theorem SimP.some {e : Expr} {f : M AV} (h : SimE W X n e f) : SimP W X n (Option.some e) (M.bind f fun | .int i => M.pure (Option.some i) | _ => M.fail) := fun env A σ b σ' G s P hA r hf => by
  obtain ⟨a, σ1, e1, hf⟩ := M.bind_some hf
  split at hf
  · cases hf
    exact wpAny_mono (h env A _ _ _ G s P hA r e1) (fun mv s1 ⟨G1, l1, r1, ⟨t, q⟩⟩ => by subst q; exact ⟨G1, l1, r1, .int _ _⟩) fun _ _ e => e
  · cases hf

def sliceF (lo hi : Option Int) (a : AV) : M AV := fun σ => match viewL σ a with
  | some l => if l.length ≤ 2 ^ 20 then some (.lst (sliceA lo hi l), σ) else none
  | none => none
def sliceI (site : Nat) (lo hi : Option Int) (a : AV) : M AV := fun σ => match viewL σ a with
  | some l => if l.length ≤ 2 ^ 20 then (M.bind (allocA site (.list (sliceA lo hi l))) fun h => M.pure (.ref h)) σ else none
  | none => none

theorem slice_reps {G : Gh} {l : List AV} {vs : Array Value} {lo hi : Option Int} (h : Reps W G l vs.toList) : Reps W G (sliceA lo hi l) (slicePick vs lo hi Option.none).toList := by
  rw [slicePick_plain]
  have hlen := h.length
  rw [Array.length_toList] at hlen
  unfold sliceA
  rw [← hlen]
  exact RepVs.take (RepVs.drop h _) _

theorem SimE.slice {value : Expr} {lower upper : Option Expr} {p pos : Pos} {f : M AV} {g1 g2 : M (Option Int)} (h1 : SimE W X n value f) (h2 : SimP W X n lower g1) (h3 : SimP W X n upper g2) :
    SimE W X n (.Subscript value (.Slice lower upper Option.none p) pos) (M.bind f fun a => M.bind g1 fun lo => M.bind g2 fun hi => sliceF lo hi a) := by
  intro env A σ b σ' G s P hA r hf
  obtain ⟨a, σ1, e1, hf⟩ := M.bind_some hf
  obtain ⟨lo, σ2, e2, hf⟩ := M.bind_some hf
  obtain ⟨hi, σ3, e3, hf⟩ := M.bind_some hf
  unfold sliceF at hf
  split at hf
  · rename_i l hv
    split at hf
    · rename_i hsz
      cases hf
      show wpAny W.M A (eval (.Subscript value (.Slice lower upper Option.none p) pos) env) _ _ s
      rw [eval_Subscript]
      refine wpAny_bind (wpAny_mono (h1 env A _ _ _ G s P hA r e1) (fun ma s1 ⟨G1, l1, r1, p1⟩ => ?_) fun _ _ e => e)
      refine wpAny_bind (wpAny_holding (wpAny_Slice (wpAny_mono (h2 env A _ _ _ G1 s1 (P.mono l1) hA r1 e2) (fun ml s2 ⟨G2, l2, r2, p2⟩ => ?_) fun _ _ e => e)))
      refine wpAny_mono (h3 env A _ _ _ G2 s2 (P.mono (l1.trans l2)) hA r2 e3) (fun mu s3 ⟨G3, l3, r3, p3⟩ => ?_) fun _ _ e => e
      rw [evalPart_none]
      refine wpAny_pure ?_
      obtain ⟨x, vs, k, e, hg, hr⟩ := r3.view (p1.le (l2.trans l3)) hv
      subst e
      have hl : Heap.IsList (s3.heap.push { cls := .type "slice", data := .fields #[ml, mu, .none] }) x vs := isList_of (Heap.get?_push_of_some _ hg)
      refine wpAny_bind (wpAny_standAt (wpAny_bind ?_))
      have hT : Shared.TypeIs { s3 with heap := s3.heap.push { cls := .type "slice", data := .fields #[ml, mu, .none] } } (.ref x) "list" := hl.typeIs
      rw [getitemInPython_of_ne hT.not_modules]
      refine wpAny_bind (wpAny_specialOf hT list_getitem_lookup (wpAny_pure ?_))
      have hlen := hr.length
      rw [Array.length_toList] at hlen
      refine wpAny_bind (wpAny_operating (wpAny_getItem_list_slice hl (Heap.IsSliceOf.new ..) p2 p3 .none (by simp) ?_ (by rw [sizeLine_eq]; omega)))
      refine wpAny_bind (wpAny_letTemporaryGo (wpAny_pure ?_))
      have r4 := r3.keep (h' := s3.heap.push { cls := .type "slice", data := .fields #[ml, mu, .none] }) (tk := s3.toks) fun b o e => Heap.get?_push_of_some _ e
      obtain ⟨r5, l5⟩ := r4.alloc .z (o := { cls := .type "list", data := .seq (slicePick vs lo hi Option.none) }) rfl (tk := s3.toks)
      exact ⟨_, ((l1.trans l2).trans l3).trans l5, r5, _, slicePick vs lo hi Option.none, 0, rfl, Gh.z_iff.mpr Gh.set_self, Reps.le (slice_reps hr) l5⟩
    · cases hf
  · cases hf
theorem SimE.sliceLive (site : Nat) {value : Expr} {lower upper : Option Expr} {p pos : Pos} {f : M AV} {g1 g2 : M (Option Int)} (h1 : SimE W X n value f) (h2 : SimP W X n lower g1) (h3 : SimP W X n upper g2) :
    SimE W X n (.Subscript value (.Slice lower upper Option.none p) pos) (M.bind f fun a => M.bind g1 fun lo => M.bind g2 fun hi => sliceI site lo hi a) := by
  intro env A σ b σ' G s P hA r hf
  obtain ⟨a, σ1, e1, hf⟩ := M.bind_some hf
  obtain ⟨lo, σ2, e2, hf⟩ := M.bind_some hf
  obtain ⟨hi, σ3, e3, hf⟩ := M.bind_some hf
  unfold sliceI at hf
  split at hf
  · rename_i l hv
    split at hf
    · rename_i hsz
      cases hf
      show wpAny W.M A (eval (.Subscript value (.Slice lower upper Option.none p) pos) env) _ _ s
      rw [eval_Subscript]
      refine wpAny_bind (wpAny_mono (h1 env A _ _ _ G s P hA r e1) (fun ma s1 ⟨G1, l1, r1, p1⟩ => ?_) fun _ _ e => e)
      refine wpAny_bind (wpAny_holding (wpAny_Slice (wpAny_mono (h2 env A _ _ _ G1 s1 (P.mono l1) hA r1 e2) (fun ml s2 ⟨G2, l2, r2, p2⟩ => ?_) fun _ _ e => e)))
      refine wpAny_mono (h3 env A _ _ _ G2 s2 (P.mono (l1.trans l2)) hA r2 e3) (fun mu s3 ⟨G3, l3, r3, p3⟩ => ?_) fun _ _ e => e
      rw [evalPart_none]
      refine wpAny_pure ?_
      obtain ⟨x, vs, k, e, hg, hr⟩ := r3.view (p1.le (l2.trans l3)) hv
      subst e
      have hl : Heap.IsList (s3.heap.push { cls := .type "slice", data := .fields #[ml, mu, .none] }) x vs := isList_of (Heap.get?_push_of_some _ hg)
      refine wpAny_bind (wpAny_standAt (wpAny_bind ?_))
      have hT : Shared.TypeIs { s3 with heap := s3.heap.push { cls := .type "slice", data := .fields #[ml, mu, .none] } } (.ref x) "list" := hl.typeIs
      rw [getitemInPython_of_ne hT.not_modules]
      refine wpAny_bind (wpAny_specialOf hT list_getitem_lookup (wpAny_pure ?_))
      have hlen := hr.length
      rw [Array.length_toList] at hlen
      refine wpAny_bind (wpAny_operating (wpAny_getItem_list_slice hl (Heap.IsSliceOf.new ..) p2 p3 .none (by simp) ?_ (by rw [sizeLine_eq]; omega)))
      refine wpAny_bind (wpAny_letTemporaryGo (wpAny_pure ?_))
      have r4 := r3.keep (h' := s3.heap.push { cls := .type "slice", data := .fields #[ml, mu, .none] }) (tk := s3.toks) fun b o e => Heap.get?_push_of_some _ e
      obtain ⟨G5, l5, r5, m5⟩ := r4.allocObj (ob := { cls := .type "list", data := .seq (slicePick vs lo hi Option.none) }) (o := .list (sliceA lo hi l)) rfl site (fun G' l' => ⟨_, 0, rfl, Reps.le (slice_reps hr) l'⟩) (tk := s3.toks)
      exact ⟨G5, ((l1.trans l2).trans l3).trans l5, r5, _, rfl, m5⟩
    · cases hf
  · cases hf

/-- `x[::-1]` -/
def revF (a : AV) : M AV := fun σ => match viewL σ a with
  | some l => if l.length ≤ 2 ^ 20 then some (.lst l.reverse, σ) else none
  | none => none
theorem SimE.rev {value : Expr} {k : Nat} {p p1 p2 pos : Pos} {f : M AV} (h1 : SimE W X n value f) :
    SimE W X n (.Subscript value (.Slice Option.none Option.none (Option.some (.UnaryOp .USub (.Constant (.int 1) k p1) p2)) p) pos) (M.bind f revF) := by
  intro env A σ b σ' G s P hA r hf
  obtain ⟨a, σ1, e1, hf⟩ := M.bind_some hf
  unfold revF at hf
  split at hf
  · rename_i l hv
    split at hf
    · rename_i hsz
      cases hf
      show wpAny W.M A (eval (.Subscript value (.Slice Option.none Option.none (Option.some (.UnaryOp .USub (.Constant (.int 1) k p1) p2)) p) pos) env) _ _ s
      rw [eval_Subscript]
      refine wpAny_bind (wpAny_mono (h1 env A _ _ _ G s P hA r e1) (fun ma s1 ⟨G1, l1, r1, p1⟩ => ?_) fun _ _ e => e)
      refine wpAny_bind (wpAny_holding (wpAny_Slice ?_))
      rw [evalPart_none, evalPart_some]
      refine wpAny_pure (wpAny_pure (wpAny_UnaryOp (wpAny_Constant_int (PySem.P.neg_int ?_))))
      obtain ⟨x, vs, k, e, hg, hr⟩ := r1.view p1 hv
      subst e
      have hl := fun (m : Value) => (isList_of (Heap.get?_push_of_some { cls := .type "slice", data := .fields #[.none, .none, m] } hg) : Heap.IsList (s1.heap.push { cls := .type "slice", data := .fields #[.none, .none, m] }) x vs)
      refine wpAny_bind (wpAny_standAt (wpAny_bind ?_))
      rw [getitemInPython_of_ne (by intro q; cases q)]
      refine wpAny_bind (wpAny_specialOf (hl _).typeIs list_getitem_lookup (wpAny_pure ?_))
      have hlen := hr.length
      rw [Array.length_toList] at hlen
      refine wpAny_bind ?_
      refine wpAny_operating (wpAny_getItem_list_slice (hl _) (Heap.IsSliceOf.new ..) .none .none (.int _ _) (by decide) ?_ (by rw [sizeLine_eq]; omega))
      refine wpAny_bind (wpAny_letTemporaryGo (wpAny_pure ?_))
      dsimp only
      have r4 := r1.keep (h' := s1.heap.push { cls := .type "slice", data := .fields #[.none, .none, .int (-1) (s1.toks + 1)] }) (tk := s1.toks + 1 + 1) fun b o e => Heap.get?_push_of_some _ e
      obtain ⟨r5, l5⟩ := r4.alloc .z (o := { cls := .type "list", data := .seq (slicePick vs Option.none Option.none (some (-1))) }) rfl (tk := s1.toks + 1 + 1)
      refine ⟨_, l1.trans l5, r5, _, slicePick vs Option.none Option.none (some (-1)), 0, rfl, Gh.z_iff.mpr Gh.set_self, ?_⟩
      have := Reps.le (RepVs.reverse hr) l5
      rw [krv_pick] at this ⊢
      simpa using this
    · cases hf
  · cases hf

/-! stores and deletions -/
def setItA : AV → AV → AV → M Unit
  | .ref n, .int i, v => fun σ => match σ.st n with
    | some (.dictI l) => if l.length ≤ 2 ^ 20 then some ((), { σ with st := fun m => if m = n then some (.dictI (setK l i v)) else σ.st m }) else none
    | _ => none
  | .ref n, .str x, v => fun σ => match σ.st n with
    | some (.dictS l) => if l.length ≤ 2 ^ 20 then some ((), { σ with st := fun m => if m = n then some (.dictS (setK l x v)) else σ.st m }) else none
    | _ => none
  | _, _, _ => M.fail
theorem OpSet.dict (ok : W.Ok) : OpSet W n setItA := by
  intro A σ σ' G s a b c ma mb mc hA r hne pa pb pc hf
  unfold setItA at hf
  split at hf
  · obtain ⟨t, rfl⟩ := pb
    split at hf
    · rename_i l hs
      split at hf
      · rename_i hl
        cases hf
        obtain ⟨x, kvs, ob, e, hm, hk, hD, hr, hsy⟩ := r.dict (dkI W) ok hs pa
        subst e
        refine wpAny_setItem_pairs (knd := intKind W.prog W.w) (intKind_is _ _ _ _) hD (fun h' hd' hs' => ?_) (by rw [hr.length, sizeLine_eq]; omega)
        obtain ⟨G', l', r', _⟩ := r.setDict (dkI W) (tk := s.toks + 1) hm hk hd' hs' (hr.set pc _)
        exact ⟨G', l', r', trivial⟩
      · cases hf
    · cases hf
  · obtain ⟨t, rfl⟩ := pb
    split at hf
    · rename_i l hs
      split at hf
      · rename_i hl
        cases hf
        obtain ⟨x, kvs, ob, e, hm, hk, hD, hr, hsy⟩ := r.dict (dkS W) ok hs pa
        subst e
        refine wpAny_setItem_pairs (knd := strKind W.prog W.w) (strKind_is _ _ _ _) hD (fun h' hd' hs' => ?_) (by rw [hr.length, sizeLine_eq]; omega)
        obtain ⟨G', l', r', _⟩ := r.setDict (dkS W) (tk := s.toks + 1) hm hk hd' hs' (hr.set pc _)
        exact ⟨G', l', r', trivial⟩
      · cases hf
    · cases hf
  · cases hf

def delItA : AV → AV → M Unit
  | .ref n, .int i => fun σ => match σ.st n with
    | some (.dictI l) => if l.length ≤ 2 ^ 20 ∧ (getK l i).isSome = true then some ((), { σ with st := fun m => if m = n then some (.dictI (delK l i)) else σ.st m }) else none
    | _ => none
  | _, _ => M.fail
theorem SimS.del (ok : W.Ok) {o i : Expr} {p pos : Pos} {f g : M AV} (h1 : SimE W X n o f) (h2 : SimE W X n i g) :
    SimS W X n (.Delete [.Subscript o i p] pos) (M.bind f fun a => M.bind g fun b => M.bind (delItA a b) fun _ => M.pure .next) := by
  intro env A σ b σ' G s P hA r hf
  obtain ⟨a, σ1, e1, hf⟩ := M.bind_some hf
  obtain ⟨c, σ2, e2, hf⟩ := M.bind_some hf
  obtain ⟨⟨⟩, σ3, e3, hf⟩ := M.bind_some hf
  cases hf
  refine wpAny_Delete (wpAny_deleteEach_cons (delete_Subscript ?_))
  refine wpAny_mono (h1 env A _ _ _ G s P hA r e1) (fun ma s1 ⟨G1, l1, r1, p1⟩ => ?_) fun _ _ e => e
  refine wpAny_mono (h2 env A _ _ _ G1 s1 (P.mono l1) hA r1 e2) (fun mb s2 ⟨G2, l2, r2, p2⟩ => ?_) fun _ _ e => e
  unfold delItA at e3
  split at e3
  · obtain ⟨t, rfl⟩ := p2
    split at e3
    · rename_i l hs
      split at e3
      · rename_i hl
        cases e3
        obtain ⟨x, kvs, ob, e, hm, hk, hD, hr, hsy⟩ := r2.dict (dkI W) ok hs (p1.le l2)
        subst e
        obtain ⟨v, hv⟩ := Option.isSome_iff_exists.mp hl.2
        obtain ⟨mv, hv1, _⟩ := hr.get hv
        unfold delItem
        refine wpAny_holding ?_
        refine wpAny_bind (wpAny_sequenceKey hD.typeIs (by decide) ?_)
        refine wpAny_bind (wpAny_callSpecial?_slot (name := Str.ofString "__delitem__") hD.typeIs PySem.F.slot_dict_delitem
          (call_meetsIn PySem.F.slot_dict_delitem hD.typeIs PySem.F.entry_dict_delitem (PySem.F.args_dict_delitem_2 _ _) (meets_dict_delitem_pairs (intKind W.prog W.w) x (intKind_is _ _ _ _)) ⟨kvs, hD, ?_, ?_, fun h' hd' hs' => ?_⟩))
        · rw [hr.length, sizeLine_eq]; omega
        · rw [hv1]; rfl
        · obtain ⟨G', l', r', _⟩ := r2.setDict (dkI W) (tk := s2.toks + 1) hm hk hd' hs' (hr.del _)
          exact wpAny_pure (wpAny_deleteEach_nil ⟨G', (l1.trans l2).trans l', r', trivial⟩)
      · cases e3
    · cases e3
  · cases e3
end
end Mine
end

section
open PySem PySem.W PySem.Calls PyProof.Rows
set_option Elab.async false
set_option maxRecDepth 20000
set_option linter.unusedSectionVars false
set_option linter.unusedVariables false
namespace Mine

def nsPut : List (Str × AV) → Str → AV → List (Str × AV)
  | [], x, v => [(x, v)]
  | (y, w) :: l, x, v => if y = x then (y, v) :: l else (y, w) :: nsPut l x v
theorem nsPut_lookup : ∀ (l : List (Str × AV)) (x : Str) (v : AV) (y : Str), (nsPut l x v).lookup y = if y = x then some v else l.lookup y
  | [], x, v, y => by
    unfold nsPut
    rw [List.lookup_cons]
    by_cases h : y = x
    · subst h; simp
    · have : (y == x) = false := by simpa using h
      rw [this, if_neg h]
  | (z, w) :: l, x, v, y => by
    unfold nsPut
    by_cases hz : z = x
    · subst hz
      rw [if_pos rfl, List.lookup_cons, List.lookup_cons]
      by_cases h : y = z
      · subst h; simp
      · have : (y == z) = false := by simpa using h
        rw [this, if_neg h]
    · rw [if_neg hz, List.lookup_cons, List.lookup_cons, nsPut_lookup l x v y]
      by_cases h : y = z
      · subst h
        simp [hz]
      · have : (y == z) = false := by simpa using h
        rw [this]

theorem NsE.length {V : Vw} : ∀ {l : List (Str × AV)} {es}, NsE V l es → es.length = l.length
  | [], _, h => by cases h; rfl
  | _ :: _, _, ⟨_, _, _, _, e, _, h⟩ => by subst e; simp [NsE.length h]
theorem isStr_str (x : Str) (t : Tok) (name : Str) : (Value.str x t).isStr name = decide (name = x) := by
  show (x == name) = _
  by_cases h : name = x
  · subst h; simp
  · have : ¬ x = name := fun e => h e.symm
    simp [h, this]
theorem NsE.noref {V : Vw} : ∀ {l : List (Str × AV)} {es}, NsE V l es → es.any (fun e => e.refKey) = false
  | [], _, h => by cases h; rfl
  | _ :: _, _, ⟨_, _, _, _, e, _, h⟩ => by
    subst e
    rw [List.any_cons, NsE.noref h]
    unfold DictEntry.refKey
    simp
theorem NsE.get {V : Vw} : ∀ {l : List (Str × AV)} {es}, NsE V l es → ∀ {x a}, l.lookup x = some a → ∃ v, getL x es = some (some v) ∧ RepV V a v
  | [], _, _, x, a, e => by simp at e
  | (y, b) :: l, _, ⟨h, t, v, r, q, h1, h2⟩, x, a, e => by
    subst q
    unfold getL
    rw [List.lookup_cons] at e
    rw [List.find?_cons]
    dsimp only
    rw [isStr_str]
    by_cases hx : x = y
    · subst hx
      simp only [beq_self_eq_true] at e
      cases e
      simp only [decide_true]
      exact ⟨v, rfl, h1⟩
    · have : (x == y) = false := by simpa using hx
      rw [this] at e
      simp only [hx, decide_false]
      obtain ⟨v', e1, e2⟩ := NsE.get h2 e
      refine ⟨v', ?_, e2⟩
      unfold getL at e1
      split at e1
      · rename_i en he
        rw [he]; exact e1
      · split at e1 <;> cases e1
theorem NsE.getNone {V : Vw} : ∀ {l : List (Str × AV)} {es}, NsE V l es → ∀ {x}, l.lookup x = none → getL x es = some none
  | l, es, h, x, e => by
    unfold getL
    have : es.find? (fun e => e.key.isStr x) = none := by
      induction l generalizing es with
      | nil => cases h; rfl
      | cons p l ih =>
        obtain ⟨y, b⟩ := p
        obtain ⟨hh, t, v, r, q, h1, h2⟩ := h
        subst q
        rw [List.lookup_cons] at e
        rw [List.find?_cons]
        dsimp only
        rw [isStr_str]
        by_cases hx : x = y
        · subst hx; simp at e
        · have hb : (x == y) = false := by simpa using hx
          rw [hb] at e
          simp only [hx, decide_false]
          exact ih _ h2 e
    rw [this]
    dsimp only
    rw [h.noref]
    rfl
theorem NsE.put {V : Vw} {x : Str} {a : AV} {v : Value} (hv : RepV V a v) (hsh : Int) (t : Tok) : ∀ {l : List (Str × AV)} {es}, NsE V l es → NsE V (nsPut l x a) (putL x hsh (.str x t) v es)
  | [], _, h => by cases h; exact ⟨hsh, t, v, [], rfl, hv, rfl⟩
  | (y, b) :: l, _, ⟨h, u, w, r, q, h1, h2⟩ => by
    subst q
    unfold nsPut putL
    dsimp only
    rw [isStr_str]
    by_cases hx : y = x
    · rw [if_pos hx, if_pos (by simp [hx])]
      exact ⟨h, u, v, r, rfl, hv, h2⟩
    · rw [if_neg hx, if_neg (by simp only [decide_eq_true_eq]; exact fun e => hx e.symm)]
      exact ⟨h, u, w, _, rfl, h1, NsE.put hv hsh t h2⟩

theorem NsOb.look {o : Obj} {m : Str → Option Value} (x : NsOb o m) (name : Str) : lookIn name o = some (m name) := by
  obtain ⟨es, ep, h1, h2, h3⟩ := x
  unfold lookIn
  rw [h1]
  dsimp only
  have hf := h3 name
  unfold nsFind findBy at hf
  rw [← Array.find?_toList] at hf
  cases e : es.toList.find? (fun e => e.key.isStr name) with
  | some en => rw [e] at hf; dsimp only; rw [← hf]; rfl
  | none =>
    rw [e] at hf
    dsimp only
    have : es.toList.any (fun e => e.refKey) = false := by
      rw [List.any_eq_false]
      intro e he
      obtain ⟨n, t, q⟩ := h2 e (Array.mem_toList_iff.mp he)
      unfold DictEntry.refKey
      rw [q]
      simp
    rw [this]
    rw [← hf]; rfl

structure ClsOK (W : Wd) (C : Addr) : Prop where
  ga : findIn W.K (.ref C) "__getattribute__" = some (some (.builtin "object.__getattribute__"))
  gt : findIn W.K (.ref C) "__getattr__" = some none
  hd : hasDictIn W.K C = true
  sa : findIn W.K (.ref C) "__setattr__" = some (some (.builtin "object.__setattr__"))
  po : plainOver W.K C = true

section
variable {W : Wd} {X : Sc} {n : Nat}

theorem R.inst {G : Gh} {σ : St} {s : Shared} (r : R W G σ s) {C : Addr} {h : Hd} {l : List (Str × AV)} {mv : Value} (hs : σ.st h = some (.ns l)) (p : Rep W G (.inst C h) mv) :
    ∃ a d es k, mv = .ref a ∧ G.mu h = some d ∧ G.kn d = some (.obj h, dictOf es k) ∧ s.heap.get? a = some ⟨.ref C, some d, .plain, #[]⟩ ∧ InstAt s.heap a ⟨.ref C, some d, .plain, #[]⟩ C (some (dictOf es k)) ∧ NsE (G.vw W) l es := by
  obtain ⟨a, d, e, hm, hz⟩ := p
  obtain ⟨d', od, h1, h2, es, k, h3, h4⟩ := r.inv.objs _ _ hs
  rw [show (G.vw W).mu = G.mu from rfl, h1] at hm
  cases hm
  subst h3
  exact ⟨a, d, es, k, e, h1, h2, r.z hz, ⟨r.z hz, rfl, rfl, r.sub _ _ _ h2⟩, h4⟩

def noMc : AV → Bool
  | .mc _ => false
  | _ => true
theorem Rep.handed {G : Gh} {a : AV} {v : Value} (p : Rep W G a v) (h : noMc a = true) : handedIn v = true := by
  cases a with
  | none => cases p; rfl
  | bool => cases p; rfl
  | int => obtain ⟨t, rfl⟩ := p; rfl
  | str => obtain ⟨t, rfl⟩ := p; rfl
  | tup => obtain ⟨a, vs, n, e, _⟩ := p; subst e; rfl
  | lst => obtain ⟨a, vs, n, e, _⟩ := p; subst e; rfl
  | dct => obtain ⟨a, o, k, e, _⟩ := p; subst e; rfl
  | ref => obtain ⟨a, e, _⟩ := p; subst e; rfl
  | mc => cases h
  | inst => obtain ⟨a, d, e, _⟩ := p; subst e; rfl
  | clo => obtain ⟨a, o, e, _⟩ := p; subst e; rfl
  | bm => obtain ⟨a, o, e, _⟩ := p; subst e; rfl
  | rng => obtain ⟨a, t, u, w, e, _⟩ := p; subst e; rfl
  | view => obtain ⟨a, d, e, _⟩ := p; subst e; rfl

/-- an attribute of the instance's own -/
def getNs (C : Addr) (x : Str) (a : AV) : M AV := fun σ => match a with
  | .inst C' h => if C' = C then (match σ.st h with
    | some (.ns l) => (match l.lookup x with
      | some v => if noMc v then some (v, σ) else none
      | none => none)
    | _ => none) else none
  | _ => none
theorem getNs_ok {A : Around} {G : Gh} {σ σ' : St} {s : Shared} {C : Addr} {x : Str} {a v : AV} {ma : Value} {attr : Option Value} {b : Bool} (ok : W.Ok) (c : ClsOK W C) (ha : findIn W.K (.ref C) x = some attr) (hn : noGet W.K attr = true) (r : R W G σ s) (p : Rep W G a ma)
    (hf : getNs C x a σ = some (v, σ')) : wpAny W.M A (getAttr ma x b) (Post W (Rep W) G σ' v) (fun _ _ => False) s := by
  unfold getNs at hf
  split at hf
  · split at hf
    · rename_i hC
      subst hC
      split at hf
      · rename_i l hs
        split at hf
        · rename_i v' hl
          split at hf
          · rename_i hm
            cases hf
            obtain ⟨y, d, es, k, e, h1, h2, h3, I, h5⟩ := r.inst hs p
            subst e
            obtain ⟨mv, e1, e2⟩ := h5.get hl
            exact get_value (r.kin ok) I c.ga (findObj_own c.hd ha hn e1) (Rep.handed e2 hm) (.now r.tok e2)
          · cases hf
        · cases hf
      · cases hf
    · cases hf
  · cases hf

theorem SimE.attr {o : Expr} {x : Str} {pos : Pos} {f : M AV} {g : AV → M AV} (h1 : SimE W X n o f) (h2 : Op1 W (Rep W) n (fun v => getAttr v x true) g) (hb : ∀ env, attributeBase o x env (eval o env) = eval o env) :
    SimE W X n (.Attribute o x pos) (M.bind f g) := by
  intro env A σ b σ' G s P hA r hf
  obtain ⟨a, σ1, e1, hf⟩ := M.bind_some hf
  show wpAny W.M A (eval (.Attribute o x pos) env) _ _ s
  have e : eval (.Attribute o x pos) env = (do
    let ov ← attributeBase o x env (eval o env)
    standAt pos.atName
    let r ← holding [ov] (getAttr ov x true)
    letTemporaryGo o ov r
    pure r) := rfl
  rw [e, hb]
  refine wpAny_bind (wpAny_mono (h1 env A _ _ _ G s P hA r e1) (fun ma s1 ⟨G1, l1, r1, p1⟩ => ?_) fun _ _ e => e)
  refine wpAny_bind (wpAny_standAt (wpAny_bind (wpAny_holding (wpAny_mono (h2 A _ _ G1 s1 _ _ _ hA r1 p1 hf) (fun v s2 q => ?_) fun _ _ e => e))))
  exact wpAny_bind (wpAny_letTemporaryGo (wpAny_pure (q.le l1)))
theorem Op1.ns (ok : W.Ok) {C : Addr} {x : Str} {attr : Option Value} {b : Bool} (c : ClsOK W C) (ha : findIn W.K (.ref C) x = some attr) (hn : noGet W.K attr = true) : Op1 W (Rep W) n (fun v => getAttr v x b) (getNs C x) :=
  fun A σ σ' G s a v ma hA r p hf => getNs_ok ok c ha hn r p hf

/-- a property -/
def getPr (C : Addr) (g : List AV → List AV → M AV) (a : AV) : M AV := fun σ => match a with
  | .inst C' h => if C' = C then (match σ.st h with
    | some (.ns _) => (M.bind (g [a] []) fun v => if noMc v then M.pure v else M.fail) σ
    | _ => none) else none
  | _ => none
def Op1g (W : Wd) (n : Nat) (t : Value → Sem Value) (f : AV → M AV) : Prop :=
  ∀ A σ σ' G s a c ma, AOK n A → R W G σ s → G.fr ≠ [] → Rep W G a ma → f a σ = some (c, σ') → wpAny W.M A (t ma) (Post W (Rep W) G σ' c) (fun _ _ => False) s
theorem Op1g.prop (ok : W.Ok) {C p fget : Addr} {x : Str} {rest : List Value} {b : Bool} {g : List AV → List AV → M AV} (c : ClsOK W C) (ha : findIn W.K (.ref C) x = some (some (.ref p))) (hn : specialIn W.K (.ref p) "__get__" = some (some (.builtin "property.__get__")))
    (ht : takesIn W.K (.ref p) = some true) (hp : recIn W.K p "property" = some (.ref fget :: rest)) (hg : SimCall W n (.ref fget) [] g) : Op1g W (n + 1) (fun v => getAttr v x b) (getPr C g) := by
  intro A σ σ' G s a v ma hA r hne q hf
  unfold getPr at hf
  split at hf
  · rename_i C' h
    split at hf
    · rename_i hC
      subst hC
      split at hf
      · rename_i l hs
        obtain ⟨y, d, es, k, e, h1, h2, h3, I, h5⟩ := r.inst hs q
        subst e
        obtain ⟨v', σ1, e1, hf⟩ := M.bind_some hf
        split at hf
        · rename_i hm
          cases hf
          have hh : (clsIn W.K C').isSome = true := by
            obtain ⟨cd, hc, _⟩ := any_some c.hd
            rw [hc]; rfl
          refine get_bind (r.kin ok) I c.ga (findObj_data hh ha hn ht) c.gt (wpAny_call (prop_get (s := { s with toks := s.toks + 1 }) (r.kin ok) hp ?_))
          refine codeAny_mono (hg A.in1 σ _ G _ [.inst C' h] [] [.ref y] [] v hA.in1 r.tok hne ⟨_, [], rfl, q, rfl⟩ (by exact rfl) e1) fun rr s' w => ?_
          match rr, w with
          | .ok (.ret u), ⟨G', l', r', p'⟩ =>
            show wpAny _ _ (handedOut u) _ _ _
            rw [handedOut_of (Rep.handed p' hm)]
            exact wpAny_pure ⟨G', l', r', p'⟩
        · cases hf
      · cases hf
    · cases hf
  · cases hf
theorem SimE.attrG {o : Expr} {x : Str} {pos : Pos} {f : M AV} {g : AV → M AV} (h1 : SimE W X n o f) (h2 : Op1g W n (fun v => getAttr v x true) g) (hb : ∀ env, attributeBase o x env (eval o env) = eval o env) :
    SimE W X n (.Attribute o x pos) (M.bind f g) := by
  intro env A σ b σ' G s P hA r hf
  obtain ⟨a, σ1, e1, hf⟩ := M.bind_some hf
  show wpAny W.M A (eval (.Attribute o x pos) env) _ _ s
  have e : eval (.Attribute o x pos) env = (do
    let ov ← attributeBase o x env (eval o env)
    standAt pos.atName
    let r ← holding [ov] (getAttr ov x true)
    letTemporaryGo o ov r
    pure r) := rfl
  rw [e, hb]
  refine wpAny_bind (wpAny_mono (h1 env A _ _ _ G s P hA r e1) (fun ma s1 ⟨G1, l1, r1, p1⟩ => ?_) fun _ _ e => e)
  refine wpAny_bind (wpAny_standAt (wpAny_bind (wpAny_holding (wpAny_mono (h2 A _ _ G1 s1 _ _ _ hA r1 (P.mono l1).ne p1 hf) (fun v s2 q => ?_) fun _ _ e => e))))
  exact wpAny_bind (wpAny_letTemporaryGo (wpAny_pure (q.le l1)))

/-- a bound method -/
def getBm (C f : Addr) (x : Str) (a : AV) : M AV := fun σ => match a with
  | .inst C' h => if C' = C then (match σ.st h with
    | some (.ns l) => if l.lookup x = none then some (.bm f a, σ) else none
    | _ => none) else none
  | _ => none
theorem Op1.bm (ok : W.Ok) {C f : Addr} {x : Str} {b : Bool} (c : ClsOK W C) (hf : findIn W.K (.ref C) x = some (some (.ref f))) (ht : typeIn W.K (.ref f) = some (.type "function"))
    (hfo : ∀ od, lookIn x od = some Option.none → findObj W.K C (some od) x = some (.bind (.builtin "function.__get__") (.ref f))) : Op1 W (Rep W) n (fun v => getAttr v x b) (getBm C f x) := by
  intro A σ σ' G s a v ma hA r q he
  unfold getBm at he
  split at he
  · rename_i C' h
    split at he
    · rename_i hC
      subst hC
      split at he
      · rename_i l hs
        split at he
        · rename_i hl
          cases he
          obtain ⟨y, d, es, k, e, h1, h2, h3, I, h5⟩ := r.inst hs q
          subst e
          refine get_bind (r.kin ok) I c.ga (hfo _ (h5.getNone hl)) c.gt (wpAny_call (fn_get (s := { s with toks := s.toks + 1 }) (r.kin ok) ht ?_))
          show wpAny _ _ (handedOut (.ref s.heap.objs.size)) _ _ _
          rw [handedOut_of rfl]
          obtain ⟨r', l'⟩ := r.alloc .z (o := methodObj (.ref f) (.ref y)) rfl (tk := s.toks + 1)
          exact wpAny_pure ⟨_, l', r', _, .ref y, rfl, Gh.z_iff.mpr Gh.set_self, RepV.mono (l'.vw W) _ _ q⟩
        · cases he
      · cases he
    · cases he
  · cases he

/-- storing an attribute -/
def setNs (C : Addr) (x : Str) (a v : AV) : M Unit := fun σ => match a with
  | .inst C' h => if C' = C then (match σ.st h with
    | some (.ns l) => if l.length ≤ 100 then some ((), { σ with st := fun m => if m = h then some (.ns (nsPut l x v)) else σ.st m }) else none
    | _ => none) else none
  | _ => none
theorem setNs_ok {A : Around} {G : Gh} {σ σ' : St} {s : Shared} {C : Addr} {x : Str} {a v : AV} {ma mv : Value} (ok : W.Ok) (c : ClsOK W C) (ht : takerIn W.K C x = some Option.none) (r : R W G σ s) (p : Rep W G a ma) (q : Rep W G v mv)
    (hf : setNs C x a v σ = some ((), σ')) : wpAny W.M A (setAttr ma x mv) (Post W (fun _ _ _ => True) G σ' ()) (fun _ _ => False) s := by
  unfold setNs at hf
  split at hf
  · split at hf
    · rename_i hC
      subst hC
      split at hf
      · rename_i h _ l hs
        split at hf
        · rename_i hlen
          cases hf
          obtain ⟨y, d, es, k, e, h1, h2, h3, I, h5⟩ := r.inst hs p
          subst e
          have k2 : s.heap.get? d = some (dictOf es k) := r.sub _ _ _ h2
          refine set_plain (r.kin ok) I c.sa (osa_open (s := { s with toks := s.toks + 1 }) (r.kin ok) I c.po ht fun b => ?_)
          obtain ⟨cd, hc, hd'⟩ := any_some c.hd
          refine wpAny_bind (wpAny_pure (wpAny_bind (wpAny_bind (wpAny_loadPart h3 ?_))))
          dsimp only
          have Lc := looks_clsIn (M := model W.prog W.w) (r.kin ok) hc
          refine wpAny_bind (Lc A.in1 _ _ _ (fun _ _ e => e) ?_)
          rw [hd']
          refine wpAny_pure (a := some d) (wpAny_bind (wpAny_pure (wpAny_bind ?_)))
          unfold nsSet
          refine wpAny_bind (wpAny_bind (wpAny_askSetting (wpAny_pure (wpAny_bind (wpAny_mkText (wpAny_bind (wpAny_loadPart k2 ?_)))))))
          have hg : (!es.toArray.any (fun e => e.key.isStr x) && es.toArray.any (fun e => e.refKey)) = false := by
            have h6 : es.toArray.any (fun e => e.refKey) = false := by
              rw [← Array.any_toList]; exact h5.noref
            rw [h6, Bool.and_false]
          rw [show (dictOf es k).data = .dict es.toArray k from rfl]
          dsimp only
          rw [aRefKeyMayBeTheName_at, hg]
          have e' : Heap.get? (s.heap.update d (Obj.putName x (PyData.keyHash W.w.params x) (.str x (s.toks + 1)) mv)) d = some (dictOf (putL x (PyData.keyHash W.w.params x) (.str x (s.toks + 1)) mv es) (putN x es k)) := by
            rw [Heap.get?_update_self _ k2 (by rw [putName_dict]; rfl), putName_dict]
          refine wpAny_updatePart k2 ?_
          have hput := NsE.put (x := x) q (PyData.keyHash W.w.params x) (s.toks + 1) h5
          have hl2 := hput.length
          have hl3 : (nsPut l x v).length ≤ l.length + 1 := by
            clear hput hl2 h5 hs hlen
            induction l with
            | nil => simp [nsPut]
            | cons p l ih =>
              obtain ⟨z, w⟩ := p
              unfold nsPut
              split
              · simp
              · simp only [List.length_cons]; omega
          refine wpAny_bind (wpAny_lookBehind e' (pastItsLine_dict (by rw [List.size_toArray, sizeLine_eq]; omega)) ?_)
          obtain ⟨G', l', r', _⟩ := r.setObj (o := .ns (nsPut l x v)) (tk := s.toks + 1 + 1) h1 h2 e' (Heap.SameBut.update ..) ⟨_, _, rfl, hput⟩
          exact wpAny_pure ⟨G', l', r', trivial⟩
        · cases hf
      · cases hf
    · cases hf
  · cases hf
theorem SimT.attr (ok : W.Ok) {C : Addr} {o : Expr} {x : Str} {pos : Pos} {f : M AV} (c : ClsOK W C) (ht : takerIn W.K C x = some Option.none) (h1 : SimE W X n o f) :
    SimT W X n (.Attribute o x pos) (fun v => M.bind f fun a => setNs C x a v) := by
  intro env A σ σ' G s v mv P hA r p hf
  obtain ⟨a, σ1, e1, hf⟩ := M.bind_some hf
  rw [arm_assign_Attribute]
  refine wpAny_bind (wpAny_holding (wpAny_mono (h1 env A _ _ _ G s P hA r e1) (fun ma s1 ⟨G1, l1, r1, p1⟩ => ?_) fun _ _ e => e))
  refine wpAny_bind (wpAny_standAt (wpAny_bind (wpAny_holding (wpAny_mono (setNs_ok ok c ht r1 p1 (p.le l1) hf) (fun _ s2 ⟨G2, l2, r2, _⟩ => ?_) fun _ _ e => e))))
  exact wpAny_release ⟨G2, l1.trans l2, r2, trivial⟩
end
end Mine
end

section
open PySem PySem.W PySem.Calls PyProof.Rows
set_option Elab.async false
set_option maxRecDepth 20000
set_option linter.unusedSectionVars false
set_option linter.unusedVariables false
namespace Mine

def Kp (M : Model) (h : Heap) (f : Value) : Prop := ∃ k, (k = Keeper.frame ∨ k = Keeper.machine ∨ k = Keeper.boundFrame) ∧ Looks M h (keeperOf f) k
theorem Kp.bi {M : Model} {h : Heap} {i : String} : Kp M h (.builtin i) := ⟨_, .inr (.inl rfl), Looks.of_pure rfl⟩
theorem Kp.ty {M : Model} {h : Heap} {i : String} : Kp M h (.type i) := ⟨_, .inr (.inl rfl), Looks.of_pure rfl⟩

theorem evalArgs_gen {M : Model} {A : Around} {E : Value → Shared → Prop} {s : Shared} {f : Value} {args : List (Bool × Sem Value)} {keywords : List (Option Str × Sem Value)} {Q : Args → Shared → Prop} (hs : args.any (·.1) = false) (hall : keywords.all (·.1.isSome) = true)
    (h : wpAny M A (spliced args) (fun vs s₁ => wpAny M A (evalAll (keywords.map (·.2))) (fun ks s₂ => Q ⟨vs, (keywords.filterMap (·.1)).zip ks⟩ s₂) E s₁) E s) :
    wpAny M A (evalArgs f true args keywords) Q E s := by
  cases args with
  | nil => exact PySem.evalArgs_kw_nil hall fun Γ p hΓ => (h Γ p hΓ : wpAny M A _ _ _ s) Γ p hΓ
  | cons x rest =>
    obtain ⟨b, t⟩ := x
    simp only [List.any_cons, Bool.or_eq_false_iff] at hs
    obtain ⟨rfl, _⟩ := hs
    exact PySem.evalArgs_kw hall h

def NoStar (es : List Expr) : Prop := ∀ env, (starEach es env).any (·.1) = false
def KwNames (kws : List Keyword) (ks : List Str) : Prop := ∀ env, (keywordEach kws env).map (·.1) = ks.map some
theorem NoStar.back {es : List Expr} (h : NoStar es) (pos : Pos) (env : Env) : (backTo pos (starEach es env)).any (·.1) = false := by
  have := h env
  unfold backTo
  rw [List.any_map]
  exact this
theorem KwNames.names {kws : List Keyword} {ks : List Str} (h : KwNames kws ks) (pos : Pos) (env : Env) : (backToKw pos (keywordEach kws env)).map (·.1) = ks.map some := by
  unfold backToKw
  rw [List.map_map]
  exact h env
theorem KwNames.all {kws : List Keyword} {ks : List Str} (h : KwNames kws ks) (pos : Pos) (env : Env) : (backToKw pos (keywordEach kws env)).all (·.1.isSome) = true := by
  have e : (backToKw pos (keywordEach kws env)).all (·.1.isSome) = ((backToKw pos (keywordEach kws env)).map (·.1)).all (·.isSome) := by rw [List.all_map]; rfl
  rw [e, h.names, List.all_map]
  simp
theorem KwNames.any {kws : List Keyword} {ks : List Str} (h : KwNames kws ks) (pos : Pos) (env : Env) : (backToKw pos (keywordEach kws env)).any (·.1.isNone) = false := by
  have e : (backToKw pos (keywordEach kws env)).any (·.1.isNone) = ((backToKw pos (keywordEach kws env)).map (·.1)).any (·.isNone) := by rw [List.any_map]; rfl
  rw [e, h.names, List.any_map]
  simp
theorem KwNames.fm {kws : List Keyword} {ks : List Str} (h : KwNames kws ks) (pos : Pos) (env : Env) : (backToKw pos (keywordEach kws env)).filterMap (·.1) = ks := by
  have e : (backToKw pos (keywordEach kws env)).filterMap (·.1) = ((backToKw pos (keywordEach kws env)).map (·.1)).filterMap id := by rw [List.filterMap_map]; rfl
  rw [e, h.names, List.filterMap_map]
  simp

abbrev SimK (W : Wd) (X : Sc) (n : Nat) (kws : List Keyword) (f : M (List AV)) : Prop := ∀ pos, Sim W (Reps W) (EF X) n (fun env => evalAll ((backToKw pos (keywordEach kws env)).map (·.2))) f

def SimF (W : Wd) (n : Nat) (ks : List Str) (g : AV → List AV → List AV → M AV) : Prop :=
  ∀ A σ σ' G s a args kws mf ms ks' v, AOK n A → R W G σ s → G.fr ≠ [] → Rep W G a mf → Reps W G args ms → Reps W G kws ks' → g a args kws σ = some (v, σ') →
    Kp W.M s.heap mf ∧ wpAny W.M A (call mf ms (ks.zip ks')) (Post W (Rep W) G σ' v) (fun _ _ => False) s

def SimM (W : Wd) (n : Nat) (name : Str) (ks : List Str) (pre : AV → M AV) (g : AV → List AV → List AV → M AV) : Prop :=
  ∀ A σ σ' G s a b ma pl, AOK n A → R W G σ s → G.fr ≠ [] → Rep W G a ma → pre a σ = some (b, σ') →
    wpAny W.M A (getMethod ma name pl) (fun fx s' => ∃ G', G.Le G' ∧ R W G' σ' s' ∧
      ∀ A σ2 σ3 G'' s'' args kws ms ks' v, AOK n A → G'.Le G'' → R W G'' σ2 s'' → Reps W G'' args ms → Reps W G'' kws ks' → g b args kws σ2 = some (v, σ3) →
        Kp W.M s''.heap fx.1 ∧ wpAny W.M A (call fx.1 (fx.2 ++ ms) (ks.zip ks')) (Post W (Rep W) G'' σ3 v) (fun _ _ => False) s'') (fun _ _ => False) s

section
variable {W : Wd} {X : Sc} {n : Nat}

theorem Sim.up {α β : Type} {rep : Gh → β → α → Prop} {P : Fa} {m : Nat} {t : Env → Sem α} {f : M β} (hm : m ≤ n) (h : Sim W rep P m t f) : Sim W rep P n t f :=
  fun env A σ b σ' G s p hA r hf => h env A σ b σ' G s p (hA.less hm) r hf
theorem SimCall.up {m : Nat} {f : Value} {ks : List Str} {g : List AV → List AV → M AV} (hm : m ≤ n) (h : SimCall W m f ks g) : SimCall W n f ks g :=
  fun A σ σ' G s args kws ms ks' v hA r hne h1 h2 hf => h A σ σ' G s args kws ms ks' v (hA.less hm) r hne h1 h2 hf

theorem SimK.nil : SimK W X n [] (M.pure []) := fun pos env A σ b σ' G s P hA r hf => by cases hf; exact wpAny_evalAll_nil (.now r rfl)
theorem SimK.cons {name : Option Str} {e : Expr} {p : Pos} {kws : List Keyword} {f : M AV} {g : M (List AV)} (h1 : SimE W X n e f) (h2 : SimK W X n kws g) : SimK W X n (⟨name, e, p⟩ :: kws) (M.bind f fun a => M.bind g fun l => M.pure (a :: l)) := by
  intro pos env A σ b σ' G s P hA r hf
  obtain ⟨a, σ1, e1, hf⟩ := M.bind_some hf
  obtain ⟨c, σ2, e2, hf⟩ := M.bind_some hf
  cases hf
  show wpAny W.M A (evalAll ((do let v ← eval e env; standAt pos; pure v) :: ((backToKw pos (keywordEach kws env)).map (·.2)))) _ _ s
  refine wpAny_evalAll_cons (wpAny_bind (wpAny_mono (h1 env A _ _ _ G s P hA r e1) (fun ma s1 ⟨G1, l1, r1, p1⟩ => wpAny_bind (wpAny_standAt (wpAny_pure ?_))) fun _ _ e => e))
  exact wpAny_mono (h2 pos env A _ _ _ G1 s1 (P.mono l1) hA r1 e2) (fun vs s2 ⟨G2, l2, r2, p2⟩ => ⟨G2, l1.trans l2, r2, _, _, rfl, p1.le l2, p2⟩) fun _ _ e => e

theorem SimE.call {id : Str} {p pos : Pos} {es : List Expr} {kws : List Keyword} {ks : List Str} {f : M AV} {ga gk : M (List AV)} {g : AV → List AV → List AV → M AV}
    (h1 : SimE W X n (.Name id p) f) (h2 : SimI W X n es ga) (h3 : SimK W X n kws gk) (h4 : SimF W n ks g) (hs : NoStar es) (hk : KwNames kws ks) :
    SimE W X n (.Call (.Name id p) es kws pos) (M.bind f fun a => M.bind ga fun l => M.bind gk fun k => g a l k) := by
  intro env A σ b σ' G s P hA r hf
  obtain ⟨a, σ1, e1, hf⟩ := M.bind_some hf
  obtain ⟨l, σ2, e2, hf⟩ := M.bind_some hf
  obtain ⟨k, σ3, e3, hf⟩ := M.bind_some hf
  refine wpAny_Call_Name_kw (wpAny_mono (h1 env A _ _ _ G s P hA r e1) (fun mf s1 ⟨G1, l1, r1, p1⟩ => ?_) fun _ _ e => e)
  refine callWith_of (P := fun h => Kp W.M h mf) (by rw [hs.back, hk.any]; rfl) (fun h q => q) (evalArgs_gen (hs.back _ _) (hk.all _ _) ?_)
  refine wpAny_mono (h2 pos env A _ _ _ G1 s1 (P.mono l1) hA r1 e2) (fun ms s2 ⟨G2, l2, r2, p2⟩ => ?_) fun _ _ e => e
  refine wpAny_mono (h3 pos env A _ _ _ G2 s2 (P.mono (l1.trans l2)) hA r2 e3) (fun ks' s3 ⟨G3, l3, r3, p3⟩ => ?_) fun _ _ e => e
  obtain ⟨q1, q2⟩ := h4 A _ _ G3 s3 a l k mf ms ks' _ hA r3 (P.mono ((l1.trans l2).trans l3)).ne (p1.le (l2.trans l3)) (Reps.le p2 l3) p3 hf
  refine ⟨q1, ?_⟩
  rw [hk.fm]
  exact wpAny_mono q2 (fun _ _ q => q.le ((l1.trans l2).trans l3)) fun _ _ e => e

theorem SimE.mcall {o : Expr} {name : Str} {apos pos : Pos} {es : List Expr} {kws : List Keyword} {ks : List Str} {f : M AV} {pre : AV → M AV} {ga gk : M (List AV)} {g : AV → List AV → List AV → M AV}
    (h1 : SimE W X n o f) (h2 : SimI W X n es ga) (h3 : SimK W X n kws gk) (h4 : SimM W n name ks pre g) (hs : NoStar es) (hk : KwNames kws ks)
    (he : ∀ env, ∃ pl, eval (.Call (.Attribute o name apos) es kws pos) env = (do
      let ov ← eval o env
      standAt apos.atName
      let (f, first) ← holding [ov] (getMethod ov name pl)
      callWith pos f first (backTo pos (starEach es env)) (backToKw pos (keywordEach kws env)))) :
    SimE W X n (.Call (.Attribute o name apos) es kws pos) (M.bind f fun a => M.bind (pre a) fun b => M.bind ga fun l => M.bind gk fun k => g b l k) := by
  intro env A σ b σ' G s P hA r hf
  obtain ⟨a, σ1, e1, hf⟩ := M.bind_some hf
  obtain ⟨c, σ1', e1', hf⟩ := M.bind_some hf
  obtain ⟨l, σ2, e2, hf⟩ := M.bind_some hf
  obtain ⟨k, σ3, e3, hf⟩ := M.bind_some hf
  obtain ⟨pl, he⟩ := he env
  refine methodCall_KW (pl := pl) (wpAny_mono (h1 env A _ _ _ G s P hA r e1) (fun ma s1 ⟨G1, l1, r1, p1⟩ => ?_) fun _ _ e => e) he
  refine wpAny_mono (h4 A _ _ G1 s1 a c ma pl hA r1 (P.mono l1).ne p1 e1') (fun fx s1' ⟨G1', l1', r1', cont⟩ => ?_) fun _ _ e => e
  refine callWith_of (P := fun h => Kp W.M h fx.1) (by rw [hs.back, hk.any]; rfl) (fun h q => q) (evalArgs_gen (hs.back _ _) (hk.all _ _) ?_)
  have lA := l1.trans l1'
  refine wpAny_mono (h2 pos env A _ _ _ G1' s1' (P.mono lA) hA r1' e2) (fun ms s2 ⟨G2, l2, r2, p2⟩ => ?_) fun _ _ e => e
  refine wpAny_mono (h3 pos env A _ _ _ G2 s2 (P.mono (lA.trans l2)) hA r2 e3) (fun ks' s3 ⟨G3, l3, r3, p3⟩ => ?_) fun _ _ e => e
  obtain ⟨q1, q2⟩ := cont A σ3 σ' G3 s3 l k ms ks' _ hA (l2.trans l3) r3 (Reps.le p2 l3) p3 hf
  refine ⟨q1, ?_⟩
  rw [hk.fm]
  exact wpAny_mono q2 (fun _ _ q => q.le ((lA.trans l2).trans l3)) fun _ _ e => e

/-- a method of the class -/
def selfIn (C : Addr) (x : Str) (a : AV) : M AV := fun σ => match a with
  | .inst C' h => if C' = C then (match σ.st h with
    | some (.ns l) => if l.lookup x = none then some (a, σ) else none
    | _ => none) else none
  | _ => none
theorem SimM.fn (ok : W.Ok) {C f : Addr} {name : Str} {ks : List Str} {g : List AV → List AV → M AV} (c : ClsOK W C) (hf : findIn W.K (.ref C) name = some (some (.ref f))) (ht : typeIn W.K (.ref f) = some (.type "function")) (hk : keepIn W.K (.ref f) = true) (h : SimCall W n (.ref f) ks g) :
    SimM W n name ks (selfIn C name) (fun b args kws => g (b :: args) kws) := by
  intro A σ σ' G s a b ma pl hA r hne q he
  unfold selfIn at he
  split at he
  · rename_i C' hh
    split at he
    · rename_i hC
      subst hC
      split at he
      · rename_i l hs
        split at he
        · rename_i hl
          cases he
          obtain ⟨y, d, es, k, e, h1, h2, h3, I, h5⟩ := r.inst hs q
          subst e
          refine method_fn (r.kin ok) I c.ga c.gt hf ht (by show (lookIn name (dictOf es k)).map _ = _; rw [lookIn_dict, h5.getNone hl]; rfl) ⟨G, .refl _, r, ?_⟩
          intro A σ2 σ3 G'' s'' args kws ms ks' v hA2 l2 r2 p2 p3 hg
          exact ⟨keeps_K hk _ (r2.kin ok), CP.call (h A _ _ G'' s'' (_ :: args) kws (.ref y :: ms) ks' v hA2 r2 (by rw [l2.fr]; exact hne) ⟨_, _, rfl, RepV.mono (l2.vw W) _ _ q, p2⟩ p3 hg)⟩
        · cases he
      · cases he
    · cases he
  · cases he

/-- a call of a bound method -/
def bmF (f : Addr) (g : List AV → List AV → M AV) : AV → List AV → List AV → M AV
  | .bm f' self, args, kws => if f' = f then g (self :: args) kws else M.fail
  | _, _, _ => M.fail
theorem SimF.bm (ok : W.Ok) {f : Addr} {ks : List Str} {g : List AV → List AV → M AV} (hk : fnIn W.K f = true) (h : SimCall W n (.ref f) ks g) : SimF W n ks (bmF f g) := by
  intro A σ σ' G s a args kws mf ms ks' v hA r hne p p2 p3 hg
  unfold bmF at hg
  split at hg
  · split at hg
    · rename_i hf
      subst hf
      obtain ⟨q, sv, e, hz, hr⟩ := p
      subst e
      have hq := r.z hz
      exact ⟨keeps_M hk _ ⟨hq, r.kin ok⟩, CP.call (method_call hq (h A _ _ G s (_ :: args) kws (sv :: ms) ks' v hA r hne ⟨_, _, rfl, hr, p2⟩ p3 hg))⟩
    · cases hg
  · cases hg
end
end Mine
end

section
open PySem PySem.W PySem.Calls PyProof.Rows
set_option Elab.async false
set_option maxRecDepth 20000
set_option linter.unusedSectionVars false
set_option linter.unusedVariables false
namespace Mine

section
variable {W : Wd} {X : Sc} {n : Nat}

/-- a method that lies in the instance's own dict -/
theorem SimM.own (ok : W.Ok) {C : Addr} {name : Str} {ks : List Str} {g : AV → List AV → List AV → M AV} (c : ClsOK W C) (ha : findIn W.K (.ref C) name = some Option.none) (h : SimF W n ks g) :
    SimM W n name ks (getNs C name) g := by
  intro A σ σ' G s a b ma pl hA r hne q he
  have hh : ∃ y d es k C' l, ma = .ref y ∧ C' = C ∧ InstAt s.heap y ⟨.ref C', some d, .plain, #[]⟩ C' (some (dictOf es k)) ∧ NsE (G.vw W) l es := by
    have he' := he
    unfold getNs at he'
    split at he'
    · split at he'
      · rename_i hC
        split at he'
        · rename_i l hs
          obtain ⟨y, d, es, k, e, h1, h2, h3, I, h5⟩ := r.inst hs q
          exact ⟨y, d, es, k, _, l, e, hC, I, h5⟩
        · cases he'
      · cases he'
    · cases he'
  obtain ⟨y, d, es, k, C', l, e, hC, I, h5⟩ := hh
  subst e hC
  refine method_usual (r.kin ok) I c.ga c.gt ha rfl (wpAny_mono (getNs_ok ok c ha rfl r q he) (fun v s' ⟨G', l', r', p'⟩ => ⟨G', l', r', ?_⟩) fun _ _ e => e)
  intro A σ2 σ3 G'' s'' args kws ms ks' v2 hA2 l2 r2 p2 p3 hg
  exact h A _ _ G'' s'' b args kws v ms ks' v2 hA2 r2 (by rw [l2.fr, l'.fr]; exact hne) (Rep.le p' l2) p2 p3 hg

/-! closures of the bottom frame -/
structure CloSc (W : Wd) (X : Sc) (ps : List Str) (sk : Sk) : Prop where
  scope : X.scope = sk.scope
  kind : sk.scope.kind = .function
  co : sk.scope.isCoroutine = false
  gen : sk.scope.isGenerator = false
  nocell : ∀ y ∈ sk.scope.names, y.2 ≠ .cell
  nd : (X.names.map (·.1)).Nodup
  pnd : ps.Nodup
  loc : ∀ y ∈ X.names, y.2 = .local
  sc : ∀ y ∈ X.names, X.scope.names.lookup y.1 = some y.2
  ps : ∀ p ∈ ps, (p, NameKind.local) ∈ X.names
  up : X.up = []
  bot : ∀ x i, (x, i) ∈ X.bot → (x, NameKind.free) ∈ sk.scope.names ∧ W.bnames[i]? = some (x, .cell)

theorem lookup_rev {l : List (Str × Value)} (nd : (l.map (·.1)).Nodup) (x : Str) : l.reverse.lookup x = l.lookup x := by
  induction l with
  | nil => rfl
  | cons p r ih =>
    obtain ⟨y, v⟩ := p
    rw [List.map_cons, List.nodup_cons] at nd
    rw [List.reverse_cons, List.lookup_append, ih nd.2, List.lookup_cons]
    by_cases h : x = y
    · subst h
      have : r.lookup x = none := by
        rw [List.lookup_eq_none_iff]
        intro p hp
        have : p.1 ≠ x := fun e => nd.1 (by rw [← e]; exact List.mem_map_of_mem (f := (·.1)) hp)
        simpa using fun e => this e.symm
      simp [this]
    · have hb : (x == y) = false := by simpa using h
      rw [hb, List.lookup_cons, hb]
      simp

theorem SimF.clo (ok : W.Ok) {k : Nat} {sk : Sk} {ps ks : List Str} {fb : M AFl} {fbind : List AV → List AV → Option (List AV)} (hk : W.clos k = some sk) (F : CloSc W X ps sk)
    (hb : ∀ fd : FuncData, fd.params = sk.params → fd.defaults = .none → fd.kwdefaults = .none → SimBind W fd ps ks fbind) (hB : SimX W X n sk.body fb) :
    SimF W (n + 1) ks (fun a args kws => match a with
      | .clo k' => if k' = k then (match fbind args kws with
        | some vals => fnA X.names ps fb vals
        | none => M.fail) else M.fail
      | _ => M.fail) := by
  intro A σ σ' G s a args kws mf ms ks' v hA r hne p p2 p3 hf
  dsimp only at hf
  split at hf
  · split at hf
    · rename_i k' hkk
      subst hkk
      obtain ⟨fa, o, e, hz, sk', fd, h1, h2, h3, h4, h5, h6, h7, h8, h9, h10, h11, ⟨c, oc, vs, t, i1, i2, i3, i4⟩, gf, h13, h14, h15⟩ := p
      subst e
      rw [hk] at h1
      cases h1
      have ho := r.z hz
      refine ⟨⟨.frame, .inl rfl, (Looks.ld (part := Option.none) ho).andThen (by rw [h3]; exact .now)⟩, CP.call ?_⟩
      cases hvals : fbind args kws with
      | none => simp only [hvals] at hf; cases hf
      | some vals =>
        simp only [hvals] at hf
        refine codeAny_call_function hA.room1 ho h3 (by rw [h7]; exact F.co) (by rw [h7]; exact F.gen) h6 ⟨c, oc, vs, t, i1, r.z i2, i3, i4⟩ ?_
        refine wpAny_mono (hb fd h5 h9 h10 A.in1 σ G s args kws ms ks' vals (hA.in1.less (Nat.zero_le _)) r p2 p3 hvals) (fun binds s1 ⟨bs, G1, e1, l1, r1, q1, len1⟩ => ?_) fun _ _ e => e.elim
        subst e1
        have hlen := q1.length
        have hzip : ((ps.zip bs).map (·.1)).Nodup := by
          rw [List.map_fst_zip (by omega)]
          exact F.pnd
        refine wpAny_newFunctionEnv (by rw [h7]; exact F.nocell) (fun x hx => ?_) (fun h' hns hsb => ?_) (by rw [h7]; exact F.kind)
        · rw [h7, ← F.scope]
          exact F.sc _ (F.ps _ (List.of_mem_zip hx).1)
        · have hne1 : G1.fr ≠ [] := by rw [l1.fr]; exact hne
          have hfr1 := r1.fresh
          obtain ⟨oL, hoL, hnL⟩ := NsOb.of hns
          have r2 := r1.push (hsy := r1.inv.sys.new hfr1 (.inl r1.big)) (G' := { G1.set s1.heap.objs.size (.loc G1.fr.length) oL with fr := ⟨X.names, s1.heap.objs.size, []⟩ :: G1.fr })
            (gf := ⟨X.names, s1.heap.objs.size, []⟩) (f := initF X.names (ps.zip vals)) (s' := { s1 with heap := h', toks := s1.toks + (ps.zip bs).length })
            (fun a t o e => Gh.set_keep e fun t₀ o₀ w => by rw [hfr1] at w; cases w) rfl rfl hne1
            (by
              have hvw : (G1.vw W).Le (Gh.vw { G1.set s1.heap.objs.size (.loc G1.fr.length) oL with fr := ⟨X.names, s1.heap.objs.size, []⟩ :: G1.fr } W) :=
                vw_le_fr (fun a o e => Gh.set_keep e fun t₀ o₀ w => by rw [hfr1] at w; cases w) (fun n a e => e) (by
                  show (_ :: G1.fr).getLast? = _
                  cases h : G1.fr with
                  | nil => exact absurd h hne1
                  | cons a l => rfl)
              have hv' := RepVs.mono hvw _ _ q1
              refine ⟨F.nd, by simp [initF], ⟨oL, _, Gh.set_self, hnL, fun i y hi v e => ?_⟩, fun i y hi => ?_⟩
              · unfold initF at e
                rw [List.getElem?_map, hi] at e
                have e : (ps.zip vals).lookup y = some v := Option.some.inj e
                obtain ⟨mv, e1, e2⟩ := zip_lookup ps vals bs hv' y v e
                exact ⟨mv, by rw [lookup_rev hzip]; exact e1, e2⟩
              · have := F.loc _ (List.mem_of_getElem? hi); cases this)
            (fun a t o e => by
              by_cases ha : a = s1.heap.objs.size
              · subst ha
                have e : (G1.set s1.heap.objs.size (.loc G1.fr.length) oL).kn s1.heap.objs.size = some (t, o) := e
                rw [Gh.set_self] at e
                cases e; exact hoL
              · have e : (G1.set s1.heap.objs.size (.loc G1.fr.length) oL).kn a = some (t, o) := e
                rw [Gh.set_ne ha] at e
                exact hsb.extBut a o ha (Heap.get?_push_of_some _ (r1.sub _ _ _ e))) rfl rfl
          have k2 : ∀ a t o, G1.kn a = some (t, o) → (G1.set s1.heap.objs.size (.loc G1.fr.length) oL).kn a = some (t, o) := fun a t o e => Gh.set_keep e fun t₀ o₀ w => by rw [hfr1] at w; cases w
          have hl : (G1.fr).getLast? = some gf := by rw [l1.fr]; exact h13
          have P2 : EnvOK X (newEnv fd.scope s1.heap.objs.size fd.globals fd.closure (fd.qualname ++ ".<locals>.") (some fa) fd.code Option.none fd.builtins) { G1.set s1.heap.objs.size (.loc G1.fr.length) oL with fr := ⟨X.names, s1.heap.objs.size, []⟩ :: G1.fr } := by
            refine ⟨by rw [F.scope]; exact h7, by rw [F.scope]; exact F.kind, h8, h11, ⟨_, rfl⟩, ⟨_, _, rfl, rfl, rfl, fun x hx => ?_⟩, fun x k i h => ?_, fun x i h => ?_⟩
            · have := F.loc _ hx; cases this
            · rw [F.up] at h; simp at h
            · obtain ⟨f1, f2⟩ := F.bot x i h
              obtain ⟨c', f3, f4⟩ := h15 x f1
              refine ⟨gf, ?_, by rw [h14]; exact f2, ?_⟩
              · show (_ :: G1.fr).getLast? = _
                cases hh : G1.fr with
                | nil => exact absurd hh hne1
                | cons a l => rw [hh] at hl; exact hl
              · show fd.closure.lookup x = _
                rw [f3, f4]
          refine ⟨r2.lim ok, codeAny_func ?_⟩
          unfold fnA at hf
          split at hf
          · rename_i fl σ2 hfb
            cases hf
            refine wpAny_mono (hB _ (A.deeper _) _ _ _ _ _ P2 hA.deeper r2 hfb) (fun f s3 ⟨G3, l3, r3, p3⟩ => ?_) fun _ _ e => e.elim
            have fr3 : G3.fr = ⟨X.names, s1.heap.objs.size, []⟩ :: G.fr := by rw [l3.fr]; show _ :: G1.fr = _; rw [l1.fr]
            refine ⟨G3.pop G.fr, ⟨fun b o e => l3.z _ _ (k2 _ _ _ (l1.z _ _ e)), fun b o e => l3.pin _ _ (k2 _ _ _ (l1.pin _ _ e)), fun m b e => l3.mu _ _ (l1.mu _ _ e), rfl⟩, r3.popF fr3 hne, ?_⟩
            cases fl <;> cases f <;> first | exact p3.elim | rfl | exact Rep.popF p3 fr3 hne
          · cases hf
    · cases hf
  · cases hf
end

/-! the law's own block, with a def in it -/
def SimLaw (W : Wd) (X : Sc) (c P : Addr) (n : Nat) (ps : Array Value) (body : List Stmt) (f : M AFl) : Prop :=
  ∀ env A σ fl σ' G s, EnvOK X env G → env.code = .ref c → (∃ gf, G.fr = [gf] ∧ gf.names = W.bnames) → G.kn P = some (.pin, tabObj ps) → AOK n A → R W G σ s → f σ = some (fl, σ') →
    wpAny W.M A (execs body env) (fun fl' s' => ∃ G', R W G' σ' s' ∧ RepFl W G' fl fl' ∧ LeX (· = P) G G' ∧ ∃ ps', G'.kn P = some (.pin, tabObj ps')) (fun _ _ => False) s

section
variable {W : Wd} {X : Sc} {n : Nat} {c P : Addr} {ps : Array Value}
theorem SimLaw.of {body : List Stmt} {f : M AFl} (h : SimX W X n body f) : SimLaw W X c P n ps body f :=
  fun env A σ fl σ' G s Pe hc hg hP hA r hf => wpAny_mono (h env A _ _ _ G s Pe hA r hf) (fun _ _ ⟨G', l', r', p'⟩ => ⟨G', r', p', l'.toX, _, l'.pin _ _ hP⟩) fun _ _ e => e
theorem SimLaw.cons {st : Stmt} {rest : List Stmt} {f g : M AFl} (h1 : SimS W X n st f) (h2 : SimLaw W X c P n ps rest g) : SimLaw W X c P n ps (st :: rest) (seqA f g) := by
  intro env A σ b σ' G s Pe hc hg hP hA r hf
  obtain ⟨a, σ1, e1, hf⟩ := M.bind_some hf
  refine wpAny_execs_cons (wpAny_mono (h1 env A _ _ _ G s Pe hA r e1) (fun fl s1 ⟨G1, l1, r1, p1⟩ => ?_) fun _ _ e => e)
  cases a <;> cases fl <;> first | exact p1.elim | skip
  · exact wpAny_mono (h2 env A _ _ _ G1 s1 (Pe.mono l1) hc (by rw [l1.fr]; exact hg) (l1.pin _ _ hP) hA r1 hf) (fun _ _ ⟨G', r', p', x', t'⟩ => ⟨G', r', p', l1.toX.trans x', t'⟩) fun _ _ e => e
  · cases hf; exact ⟨G1, r1, trivial, l1.toX, _, l1.pin _ _ hP⟩
  · cases hf; exact ⟨G1, r1, trivial, l1.toX, _, l1.pin _ _ hP⟩
  · cases hf; exact ⟨G1, r1, p1, l1.toX, _, l1.pin _ _ hP⟩

structure TopOK (W : Wd) (c P : Addr) : Prop where
  hd : ∃ o vs file tf flags tg inF text tt, W.H0.get? c = some o ∧ c ∉ W.TB ∧ o.cls = .type "code" ∧ o.data = .fields vs ∧ vs[11]? = some (.ref P) ∧ vs.getD 11 .none = .ref P ∧ vs.getD 18 .none = .str file tf ∧
    vs.getD 7 .none = .int flags tg ∧ vs.getD 9 .none = .bool inF ∧ vs.getD 10 .none = .int text tt ∧ c ≠ P
  bm : ∃ bm ob, W.mg "__builtins__" = some (.ref bm) ∧ bm ≠ builtinsNs ∧ bm ∉ W.TB ∧ W.H0.get? bm = some ob ∧ ob.cls = .type "module" ∧ ob.dict = some builtinsNs ∧ ob.data = .plain

theorem SimLaw.def {k : Nat} {name fname : Str} {params : Arguments} {body rest : List Stmt} {scope : Scope} {pos : Pos} {sk : Sk} {tgt : AV → M Unit} {f : M AFl} (ok : W.Ok) (T : TopOK W c P)
    (hk : W.clos k = some sk) (hp : sk.params = params) (hbd : sk.body = body) (hsc : sk.scope = scope) (hdef : PlainDefTree name params body scope pos)
    (ht : TriplesOk ps.toList) (hnf : codeAmong pos ps.toList = Option.none)
    (hfree : ∀ x, (x, NameKind.free) ∈ scope.names → (x, NameKind.cell) ∈ X.names) (hT : SimN W X n name tgt)
    (h2 : ∀ c', SimLaw W X c P n (ps ++ #[rawInt pos.line, rawInt pos.col, .ref c']) rest f) :
    SimLaw W X c P n ps (.FunctionDef name params body [] Option.none [] scope Option.none name pos :: rest) (M.bind (tgt (.clo k)) fun _ => f) := by
  intro env A σ fl σ' G s Pe hc hg hP hA r hf
  obtain ⟨⟨⟩, σ1, e1, hf⟩ := M.bind_some hf
  obtain ⟨gf, hfr, hnm⟩ := hg
  obtain ⟨cl, hcl1, hcl2⟩ := closureFor_is (scope := scope) (env := env) fun x hx => Pe.cells r (.inl (hfree x hx))
  obtain ⟨o, vs, file, tf, flags, tg, inF, text, tt, a1, a2, a3, a4, a5, a6, a7, a8, a9, a10, a11⟩ := T.hd
  have C : CodeHd s.heap c P := ⟨o, vs, file, tf, flags, tg, inF, text, tt, r.old a2 a1, a3, a4, a5, a6, a7, a8, a9, a10, a11⟩
  obtain ⟨bm, ob, b1, b2, b3, b4, b5, b6, b7⟩ := T.bm
  have hPs : s.heap.get? P = some (tabObj ps) := r.sub _ _ _ hP
  obtain ⟨og, g1, g2, g3⟩ := ok.glob
  have kG := r.inv.base _ _ g2 g1
  have kB := r.inv.base _ _ b3 b4
  have hgP : mainGlobals ≠ P := fun q => by rw [q, hP] at kG; cases kG
  have hbP : bm ≠ P := fun q => by rw [q, hP] at kB; cases kB
  have hbG : bm ≠ mainGlobals := fun q => by
    rw [q, kG] at kB; cases kB
    obtain ⟨es, ep, hd, _⟩ := g3
    rw [b7] at hd; cases hd
  refine wpAny_execs_cons ?_
  rw [hdef env]
  refine wpAny_bind (wpAny_standAt (wpAny_bind (wpAny_holding ?_)))
  refine makeFunction_K (mg := W.mg) hcl1 Pe.glob (r.gl ok) hc C hPs ht hnf hgP ⟨bm, ob, b1, b2, hbG, hbP, r.old b3 b4, b5, b6, b7⟩ fun c' ctv doc h' tk hx hge hlt hrec htb => ?_
  obtain ⟨c₂, oc, vs', t', q1, q2, q3, q4⟩ := hrec
  cases q1
  -- the table grows
  have hne : c' ≠ P := fun q => by
    rw [q] at hge
    exact absurd hge (Nat.not_le.mpr (Heap.lt_size hPs))
  have hfrC : G.kn c' = Option.none := by
    cases e : G.kn c' with
    | none => rfl
    | some p => exact absurd (Heap.lt_size (r.sub _ p.1 p.2 e)) (Nat.not_lt.mpr hge)
  obtain ⟨r1, lx1⟩ := r.pin (tk := tk) hP htb fun b x hb e => hx b x hb e
  -- its code
  have hfrC1 : (G.set P .pin (tabObj (ps ++ #[rawInt pos.line, rawInt pos.col, .ref c']))).kn c' = Option.none := by rw [Gh.set_ne hne]; exact hfrC
  have r2 : R W ((G.set P .pin (tabObj (ps ++ #[rawInt pos.line, rawInt pos.col, .ref c']))).set c' .z oc) σ { s with heap := h', toks := tk } :=
    ⟨r1.inv.set (fun t₀ o₀ e => by rw [hfrC1] at e; cases e) (.inr rfl), fun b t o e => by
      by_cases hb : b = c'
      · subst hb; rw [Gh.set_self] at e; cases e; exact q2
      · rw [Gh.set_ne hb] at e; exact r1.sub _ _ _ e, r1.os, r1.gens⟩
  have le2 : (G.set P .pin (tabObj (ps ++ #[rawInt pos.line, rawInt pos.col, .ref c']))).Le ((G.set P .pin (tabObj (ps ++ #[rawInt pos.line, rawInt pos.col, .ref c']))).set c' .z oc) := Gh.le_set fun t₀ o₀ e => by rw [hfrC1] at e; cases e
  obtain ⟨r3, le3⟩ := r2.alloc .z (o := fnMade name (qualnameIn env name name) params body scope cl doc ((W.mg "__name__").getD .none) c' ctv) rfl (tk := tk)
  have leA := le2.trans le3
  have P3 := (Pe.of_fr lx1.fr).mono leA
  have kP3 := leA.pin _ _ (Gh.set_self (G := G) (a := P) (t := .pin) (o := tabObj (ps ++ #[rawInt pos.line, rawInt pos.col, .ref c'])))
  have kc3 := le3.z _ _ (Gh.set_self (G := G.set P .pin (tabObj (ps ++ #[rawInt pos.line, rawInt pos.col, .ref c']))) (a := c') (t := .z) (o := oc))
  have kf3 := Gh.set_self (G := (G.set P .pin (tabObj (ps ++ #[rawInt pos.line, rawInt pos.col, .ref c']))).set c' .z oc) (a := h'.objs.size) (t := .z) (o := fnMade name (qualnameIn env name name) params body scope cl doc ((W.mg "__name__").getD .none) c' ctv)
  have fr3 : _ = G.fr := leA.fr.trans lx1.fr
  dsimp only at r3 leA P3 kP3 kc3 kf3 fr3
  generalize hG3 : ((G.set P .pin (tabObj (ps ++ #[rawInt pos.line, rawInt pos.col, .ref c']))).set c' .z oc).set h'.objs.size .z (fnMade name (qualnameIn env name name) params body scope cl doc ((W.mg "__name__").getD .none) c' ctv) = G3 at *
  have hz : Rep W G3 (.clo k) (.ref h'.objs.size) := by
    refine ⟨_, _, rfl, Gh.z_iff.mpr kf3, sk, _, hk, rfl, rfl, trivial, hp.symm, by rw [hbd], hsc.symm, rfl, rfl, rfl, rfl, ⟨c', oc, vs', t', rfl, ?_, q3, q4⟩, gf, ?_, hnm, fun x hx => ?_⟩
    · exact Gh.z_iff.mpr kc3
    · rw [fr3, hfr]; rfl
    · rw [hsc] at hx
      obtain ⟨gf', rest', w1, w2, w3, w4⟩ := Pe.own
      rw [hfr] at w1
      cases w1
      obtain ⟨f', lvl, v1, v2⟩ := r.inv.frames.get (k := 0) (gk := gf) (by rw [hfr]; rfl)
      have hm := hfree x hx
      obtain ⟨i, hi, ei⟩ := List.getElem_of_mem hm
      obtain ⟨cc, occ, cv, u1, _⟩ := v2.cel i x (by rw [w2, List.getElem?_eq_getElem hi, ei])
      exact ⟨cc, by show cl.lookup x = _; rw [hcl2 x hx, w4 x hm, u1], u1⟩
  refine wpAny_bind (wpAny_standAt (wpAny_bind (wpAny_bindName (wpAny_mono (hT env A σ σ1 G3 _ (.clo k) _ P3 hA r3 hz e1) (fun _ s4 ⟨G4, l4, r4, _⟩ => wpAny_pure ?_) fun _ _ e => e))))
  have lxB : LeX (· = P) G G4 := by
    have := (lx1.trans leA.toX).trans l4.toX
    exact this
  refine wpAny_mono (h2 c' env A _ _ _ G4 s4 (P3.mono l4) hc ⟨gf, by rw [l4.fr, fr3]; exact hfr, hnm⟩ (l4.pin _ _ kP3) hA r4 hf) (fun _ _ ⟨G', r', p', x', t'⟩ => ⟨G', r', p', lxB.trans x', t'⟩) fun _ _ e => e
end
end Mine
end

section
open PySem PySem.W PySem.Calls PyProof.Rows
set_option Elab.async false
set_option maxRecDepth 20000
set_option linter.unusedSectionVars false
set_option linter.unusedVariables false
namespace Mine

/-- a known callee -/
def SimV (W : Wd) (n : Nat) (mf : Value) (ks : List Str) (g : List AV → List AV → M AV) : Prop :=
  ∀ A σ σ' G s args kws ms ks' v, AOK n A → R W G σ s → G.fr ≠ [] → Reps W G args ms → Reps W G kws ks' → g args kws σ = some (v, σ') →
    Kp W.M s.heap mf ∧ wpAny W.M A (call mf ms (ks.zip ks')) (Post W (Rep W) G σ' v) (fun _ _ => False) s

section
variable {W : Wd} {X : Sc} {n : Nat}

theorem SimE.callV {id : Str} {p pos : Pos} {es : List Expr} {kws : List Keyword} {ks : List Str} {mf : Value} {ga gk : M (List AV)} {g : List AV → List AV → M AV}
    (h1 : SimE W X n (.Name id p) (M.pure (.mc mf))) (h2 : SimI W X n es ga) (h3 : SimK W X n kws gk) (h4 : SimV W n mf ks g) (hs : NoStar es) (hk : KwNames kws ks) :
    SimE W X n (.Call (.Name id p) es kws pos) (M.bind ga fun l => M.bind gk fun k => g l k) := by
  intro env A σ b σ' G s P hA r hf
  obtain ⟨l, σ2, e2, hf⟩ := M.bind_some hf
  obtain ⟨k, σ3, e3, hf⟩ := M.bind_some hf
  refine wpAny_Call_Name_kw (wpAny_mono (h1 env A σ (.mc mf) σ G s P hA r rfl) (fun mf' s1 ⟨G1, l1, r1, p1⟩ => ?_) fun _ _ e => e)
  cases p1
  refine callWith_of (P := fun h => Kp W.M h mf) (by rw [hs.back, hk.any]; rfl) (fun h q => q) (evalArgs_gen (hs.back _ _) (hk.all _ _) ?_)
  refine wpAny_mono (h2 pos env A _ _ _ G1 s1 (P.mono l1) hA r1 e2) (fun ms s2 ⟨G2, l2, r2, p2⟩ => ?_) fun _ _ e => e
  refine wpAny_mono (h3 pos env A _ _ _ G2 s2 (P.mono (l1.trans l2)) hA r2 e3) (fun ks' s3 ⟨G3, l3, r3, p3⟩ => ?_) fun _ _ e => e
  obtain ⟨q1, q2⟩ := h4 A _ _ G3 s3 l k ms ks' _ hA r3 (P.mono ((l1.trans l2).trans l3)).ne (Reps.le p2 l3) p3 hf
  refine ⟨q1, ?_⟩
  rw [hk.fm]
  exact wpAny_mono q2 (fun _ _ q => q.le ((l1.trans l2).trans l3)) fun _ _ e => e

theorem SimV.fn (ok : W.Ok) {f : Addr} {ks : List Str} {g : List AV → List AV → M AV} (hk : keepIn W.K (.ref f) = true) (h : SimCall W n (.ref f) ks g) : SimV W n (.ref f) ks g :=
  fun A σ σ' G s args kws ms ks' v hA r hne p2 p3 hg => ⟨keeps_K hk _ (r.kin ok), CP.call (h A _ _ G s args kws ms ks' v hA r hne p2 p3 hg)⟩

/-- anything at all, where the run never comes -/
theorem Sim.no {α β : Type} {rep : Gh → β → α → Prop} {P : Fa} {t : Env → Sem α} : Sim W rep P n t (M.fail : M β) := fun env A σ b σ' G s _ _ _ hf => by cases hf
theorem SimI.no {es : List Expr} : SimI W X n es M.fail := fun pos => Sim.no
theorem SimT.no {t : Expr} : SimT W X n t (fun _ => M.fail) := fun env A σ σ' G s v mv P hA r p hf => by cases hf

theorem Reps.one {G : Gh} {a : AV} {ms : List Value} (p : Reps W G [a] ms) : ∃ x, ms = [x] ∧ Rep W G a x := by
  obtain ⟨x, r, e, h1, h2⟩ := p
  cases h2
  exact ⟨x, e, h1⟩
theorem Reps.two {G : Gh} {a b : AV} {ms : List Value} (p : Reps W G [a, b] ms) : ∃ x y, ms = [x, y] ∧ Rep W G a x ∧ Rep W G b y := by
  obtain ⟨x, r, e, h1, y, r2, e2, h2, h3⟩ := p
  cases h3; subst e2
  exact ⟨x, y, e, h1, h2⟩
theorem Reps.three {G : Gh} {a b c : AV} {ms : List Value} (p : Reps W G [a, b, c] ms) : ∃ x y z, ms = [x, y, z] ∧ Rep W G a x ∧ Rep W G b y ∧ Rep W G c z := by
  obtain ⟨x, r, e, h1, y, r2, e2, h2, z, r3, e3, h3, h4⟩ := p
  cases h4; subst e3; subst e2
  exact ⟨x, y, z, e, h1, h2, h3⟩
theorem zipNil {ks : List Str} {ks' : List Value} {G : Gh} (p : Reps W G [] ks') : ks.zip ks' = [] := by
  have : ks' = [] := p
  rw [this]; simp

/-! builtins -/
def lenF : List AV → List AV → M AV
  | [a], [] => fun σ => match a with
    | .lst l => if l.length < 2 ^ 40 then some (.int l.length, σ) else none
    | .dct l => if l.length < 2 ^ 40 then some (.int l.length, σ) else none
    | .ref n => (match σ.st n with
      | some (.list l) => if l.length < 2 ^ 40 then some (.int l.length, σ) else none
      | some (.dictI l) => if l.length < 2 ^ 40 then some (.int l.length, σ) else none
      | some (.dictS l) => if l.length < 2 ^ 40 then some (.int l.length, σ) else none
      | _ => none)
    | _ => none
  | _, _ => M.fail
theorem SimV.len (ok : W.Ok) : SimV W n (.builtin "len") [] lenF := by
  intro A σ σ' G s args kws ms ks' v hA r hne p2 p3 hf
  refine ⟨.bi, ?_⟩
  unfold lenF at hf
  split at hf
  · obtain ⟨x, e, p⟩ := Reps.one p2
    rw [zipNil p3]
    subst e
    split at hf
    · split at hf
      · rename_i hl
        cases hf
        obtain ⟨y, vs, m, e, hz, hr⟩ := p
        subst e
        have hlen := hr.length
        rw [Array.length_toList] at hlen
        exact call_len_list (isList_of (r.z hz)) (by omega) (.now r.tok ⟨_, by rw [hlen]⟩)
      · cases hf
    · split at hf
      · rename_i hl
        cases hf
        obtain ⟨y, o, kvs, e, hsy, hz, hd, hr⟩ := p
        subst e
        have hlen := hr.length
        exact call_len_dict hsy (DictOb.dictOf hd (r.z hz)) (by omega) (.now r.tok ⟨_, by rw [hlen]⟩)
      · cases hf
    · split at hf
      · rename_i l hs
        split at hf
        · rename_i hl
          cases hf
          obtain ⟨x, vs, k, e, hz, hr⟩ := r.view p (l := l) (by unfold viewL; dsimp only; rw [hs])
          subst e
          have hlen := hr.length
          rw [Array.length_toList] at hlen
          exact call_len_list (isList_of hz) (by omega) (.now r.tok ⟨_, by rw [hlen]⟩)
        · cases hf
      · rename_i l hs
        split at hf
        · rename_i hl
          cases hf
          obtain ⟨x, kvs, ob, e, hm, hk, hD, hr, hsy⟩ := r.dict (dkI W) ok hs p
          subst e
          have hlen := hr.length
          exact call_len_dict (knd := intKind W.prog W.w) hsy hD (by omega) (.now r.tok ⟨_, by rw [hlen]⟩)
        · cases hf
      · rename_i l hs
        split at hf
        · rename_i hl
          cases hf
          obtain ⟨x, kvs, ob, e, hm, hk, hD, hr, hsy⟩ := r.dict (dkS W) ok hs p
          subst e
          have hlen := hr.length
          exact call_len_dict (knd := strKind W.prog W.w) hsy hD (by omega) (.now r.tok ⟨_, by rw [hlen]⟩)
        · cases hf
      · cases hf
    · cases hf
  · cases hf

def rangeF : List AV → List AV → M AV
  | [.int b], [] => M.pure (.rng 0 b 1)
  | [.int a, .int b], [] => M.pure (.rng a b 1)
  | [.int a, .int b, .int c], [] => if c ≠ 0 ∧ c.natAbs < 1073741824 then M.pure (.rng a b c) else M.fail
  | _, _ => M.fail
theorem SimV.range : SimV W n (.type "range") [] rangeF := by
  intro A σ σ' G s args kws ms ks' v hA r hne p2 p3 hf
  refine ⟨.ty, ?_⟩
  unfold rangeF at hf
  split at hf
  · cases hf
    obtain ⟨x, e, t, p⟩ := Reps.one p2
    rw [zipNil p3]
    subst e p
    obtain ⟨r', l'⟩ := r.alloc .z (o := { cls := .type "range", data := .fields #[.int 0 s.toks, .int _ t, .int 1 (s.toks + 1)] }) rfl (tk := s.toks + 1 + 1)
    exact call_range_1 ⟨_, l', r', _, _, _, _, rfl, Gh.z_iff.mpr Gh.set_self⟩
  · cases hf
    obtain ⟨x, y, e, ⟨t, p⟩, ⟨u, q⟩⟩ := Reps.two p2
    rw [zipNil p3]
    subst e p q
    obtain ⟨r', l'⟩ := r.alloc .z (o := { cls := .type "range", data := .fields #[.int _ t, .int _ u, .int 1 s.toks] }) rfl (tk := s.toks + 1)
    exact call_range_2 ⟨_, l', r', _, _, _, _, rfl, Gh.z_iff.mpr Gh.set_self⟩
  · split at hf
    · rename_i hc
      cases hf
      obtain ⟨x, y, z, e, ⟨t, p⟩, ⟨u, q⟩, ⟨w, q2⟩⟩ := Reps.three p2
      rw [zipNil p3]
      subst e p q q2
      obtain ⟨r', l'⟩ := r.alloc .z (o := { cls := .type "range", data := .fields #[.int _ t, .int _ u, .int _ w] }) rfl (tk := s.toks)
      exact call_range_3 hc.1 ⟨_, l', r', _, _, _, _, rfl, Gh.z_iff.mpr Gh.set_self⟩ (.inl (PyProof.noPylong_small hc.2))
    · cases hf
  · cases hf

def strF : List AV → List AV → M AV
  | [.int a], [] => if smallI a then M.pure (.str (toString a)) else M.fail
  | _, _ => M.fail
theorem smallI_log {a : Int} (h : smallI a = true) : a.natAbs.log2 < 1920 := by
  unfold smallI at h
  rw [Bool.and_eq_true, decide_eq_true_eq, decide_eq_true_eq] at h
  have h1 : a.natAbs < 2 ^ 62 := by omega
  by_cases h0 : a.natAbs = 0
  · rw [h0]; decide
  · have := (Nat.log2_lt h0).mpr h1
    omega
theorem SimV.str : SimV W n (.type "str") [] strF := by
  intro A σ σ' G s args kws ms ks' v hA r hne p2 p3 hf
  refine ⟨.ty, ?_⟩
  unfold strF at hf
  split at hf
  · split at hf
    · rename_i hs
      cases hf
      obtain ⟨x, e, t, p⟩ := Reps.one p2
      rw [zipNil p3]
      subst e p
      exact PySem.P.str_of_int (smallI_log hs) (.now r.tok ⟨_, rfl⟩)
    · cases hf
  · cases hf

def absF : List AV → List AV → M AV
  | [.int a], [] => M.pure (.int (if a < 0 then -a else a))
  | _, _ => M.fail
theorem SimV.abs : SimV W n (.builtin "abs") [] absF := by
  intro A σ σ' G s args kws ms ks' v hA r hne p2 p3 hf
  refine ⟨.bi, ?_⟩
  unfold absF at hf
  split at hf
  · cases hf
    obtain ⟨x, e, t, p⟩ := Reps.one p2
    rw [zipNil p3]
    subst e p
    exact call_abs_int fun u tk => .now r.tok ⟨_, rfl⟩
  · cases hf

/-- the builtin class of a value -/
def tyA (σ : St) : AV → Option String
  | .int _ => some "int"
  | .str _ => some "str"
  | .lst _ => some "list"
  | .dct _ => some "dict"
  | .ref n => match σ.st n with
    | some (.list _) => some "list"
    | some (.dictI _) => some "dict"
    | some (.dictS _) => some "dict"
    | _ => Option.none
  | _ => Option.none
theorem DictOb.cls {prog : Program} {w : World} {κ : Type} [DecidableEq κ] {knd : KeyKind prog w κ} {o : Obj} {kvs : List (κ × Value)} (h : DictOb knd o kvs) : o.cls = .type "dict" := by
  obtain ⟨es, ep, h1, _⟩ := h
  exact h1.1
theorem R.tyIs {G : Gh} {σ : St} {s : Shared} (r : R W G σ s) {a : AV} {mv : Value} {T : String} (p : Rep W G a mv) (h : tyA σ a = some T) : s.TypeIs mv T ∧ (T = "int" → ∃ i t, mv = .int i t) ∧ (T = "str" → ∃ i t, mv = .str i t) ∧ (T = "list" ∨ T = "dict" → ∃ b o, mv = .ref b ∧ s.heap.get? b = some o ∧ o.cls = .type T) := by
  unfold tyA at h
  split at h
  · cases h; obtain ⟨t, rfl⟩ := p; exact ⟨typeIs_int _ _ _, fun _ => ⟨_, _, rfl⟩, fun e => absurd e (by decide), fun e => absurd e (by decide)⟩
  · cases h; obtain ⟨t, rfl⟩ := p; exact ⟨typeIs_str _ _ _, fun e => absurd e (by decide), fun _ => ⟨_, _, rfl⟩, fun e => absurd e (by decide)⟩
  · cases h
    obtain ⟨x, vs, m, e, hz, hr⟩ := p
    subst e
    exact ⟨⟨_, r.z hz, rfl⟩, fun e => absurd e (by decide), fun e => absurd e (by decide), fun _ => ⟨_, _, rfl, r.z hz, rfl⟩⟩
  · cases h
    obtain ⟨x, o, kvs, e, hsy, hz, hd, hr⟩ := p
    subst e
    exact ⟨⟨_, r.z hz, DictOb.cls hd⟩, fun e => absurd e (by decide), fun e => absurd e (by decide), fun _ => ⟨_, _, rfl, r.z hz, DictOb.cls hd⟩⟩
  · obtain ⟨x, e, hm⟩ := p
    subst e
    split at h
    · rename_i l hs
      cases h
      obtain ⟨y, ob, h1, h2, vs, k, h3, h4⟩ := r.inv.objs _ _ hs
      rw [show (G.vw W).mu = G.mu from rfl, h1] at hm
      cases hm
      subst h3
      exact ⟨⟨_, r.sub _ _ _ h2, rfl⟩, fun e => absurd e (by decide), fun e => absurd e (by decide), fun _ => ⟨_, _, rfl, r.sub _ _ _ h2, rfl⟩⟩
    · rename_i l hs
      cases h
      obtain ⟨y, ob, h1, h2, kvs, h3, h4⟩ := r.inv.objs _ _ hs
      rw [show (G.vw W).mu = G.mu from rfl, h1] at hm
      cases hm
      exact ⟨⟨_, r.sub _ _ _ h2, DictOb.cls h3⟩, fun e => absurd e (by decide), fun e => absurd e (by decide), fun _ => ⟨_, _, rfl, r.sub _ _ _ h2, DictOb.cls h3⟩⟩
    · rename_i l hs
      cases h
      obtain ⟨y, ob, h1, h2, kvs, h3, h4⟩ := r.inv.objs _ _ hs
      rw [show (G.vw W).mu = G.mu from rfl, h1] at hm
      cases hm
      exact ⟨⟨_, r.sub _ _ _ h2, DictOb.cls h3⟩, fun e => absurd e (by decide), fun e => absurd e (by decide), fun _ => ⟨_, _, rfl, r.sub _ _ _ h2, DictOb.cls h3⟩⟩
    · cases h
  · cases h

/-- what the classes answer -/
structure IsiOK (Tx T : String) (b : Bool) : Prop where
  meta' : typeOf (.type T) = pure (.type "type")
  sub : isSubtype (.type Tx) (.type T) = pure b
  ne : b = false → (Value.type Tx == Value.type T) = false

theorem IsiOK.ans {Tx T : String} {b : Bool} (h : IsiOK Tx T b) {G : Gh} {σ : St} {s : Shared} (r : R W G σ s) {a : AV} {mv : Value} (p : Rep W G a mv) (ht : tyA σ a = some Tx) (hT : Tx = "int" ∨ Tx = "str" ∨ Tx = "list" ∨ Tx = "dict") :
    Answers (fun s => s.TypeIs mv Tx) mv (.type T) b := by
  cases b with
  | true => exact .of_true h.meta' h.sub
  | false =>
    obtain ⟨_, h1, h2, h3⟩ := r.tyIs p ht
    rcases hT with rfl | rfl | rfl | rfl
    · obtain ⟨i, t, rfl⟩ := h1 rfl; exact .of_false_int (h.ne rfl) h.meta' h.sub
    · obtain ⟨i, t, rfl⟩ := h2 rfl; exact .of_false_str (h.ne rfl) h.meta' h.sub
    · obtain ⟨i, o, rfl, _⟩ := h3 (.inl rfl); exact .of_false_list (h.ne rfl) h.meta' h.sub
    · obtain ⟨i, o, rfl, _⟩ := h3 (.inr rfl); exact .of_false_dict (h.ne rfl) h.meta' h.sub

/-- `isinstance` with one class -/
def isiF (T : String) : List AV → List AV → M AV
  | [a, .mc (.type T')], [] => fun σ => match tyA σ a with
    | some Tx => if T' = T then some (.bool (decide (Tx = T)), σ) else none
    | none => none
  | _, _ => M.fail
theorem tyA_four {σ : St} {a : AV} {Tx : String} (h : tyA σ a = some Tx) : Tx = "int" ∨ Tx = "str" ∨ Tx = "list" ∨ Tx = "dict" := by
  unfold tyA at h
  split at h
  · cases h; simp
  · cases h; simp
  · cases h; simp
  · cases h; simp
  · split at h <;> first | (cases h; simp; done) | cases h
  · cases h
theorem SimV.isi {T : String} (hT : ∀ Tx, Tx = "int" ∨ Tx = "str" ∨ Tx = "list" ∨ Tx = "dict" → IsiOK Tx T (decide (Tx = T))) : SimV W n (.builtin "isinstance") [] (isiF T) := by
  intro A σ σ' G s args kws ms ks' v hA r hne p2 p3 hf
  refine ⟨.bi, ?_⟩
  unfold isiF at hf
  split at hf
  · split at hf
    · rename_i Tx ht
      split at hf
      · rename_i hTT
        have hTT := hTT.symm
        subst hTT
        cases hf
        obtain ⟨x, y, e, p, q⟩ := Reps.two p2
        rw [zipNil p3]
        subst e
        cases q
        obtain ⟨t1, t2, t3, t4⟩ := r.tyIs p ht
        have h4 := tyA_four ht
        have hI := hT _ h4
        by_cases hb : Tx = T
        · have hd : decide (Tx = T) = true := decide_eq_true hb
          rw [hd] at hI ⊢
          exact call_isinstance (isinstance_true hI.meta' hI.sub) ⟨t1, .now r rfl⟩
        · have hd : decide (Tx = T) = false := decide_eq_false hb
          rw [hd] at hI ⊢
          rcases h4 with rfl | rfl | rfl | rfl
          · obtain ⟨i, t, rfl⟩ := t2 rfl
            exact call_isinstance (isinstance_false_int (hI.ne rfl) hI.meta' hI.sub) (.now r.tok rfl)
          · obtain ⟨i, t, rfl⟩ := t3 rfl
            exact call_isinstance (isinstance_false_str (hI.ne rfl) hI.meta' hI.sub) (.now r.tok rfl)
          · obtain ⟨i, o, rfl, g1, g2⟩ := t4 (.inl rfl)
            exact call_isinstance (isinstance_false_list (hI.ne rfl) hI.meta' hI.sub) ⟨⟨o, g1, g2⟩, .now r.tok rfl⟩
          · obtain ⟨i, o, rfl, g1, g2⟩ := t4 (.inr rfl)
            exact call_isinstance (isinstance_false_dict (hI.ne rfl) hI.meta' hI.sub) ⟨⟨o, g1, g2⟩, .now r.tok rfl⟩
      · cases hf
    · cases hf
  · cases hf
theorem isiInt (Tx : String) (h : Tx = "int" ∨ Tx = "str" ∨ Tx = "list" ∨ Tx = "dict") : IsiOK Tx "int" (decide (Tx = "int")) := by
  rcases h with rfl | rfl | rfl | rfl
  all_goals exact ⟨by first | exact F.isi_meta_int | kernel_rfl, by rw [isSubtype_type]; kernel_rfl, by decide⟩
theorem isiStr (Tx : String) (h : Tx = "int" ∨ Tx = "str" ∨ Tx = "list" ∨ Tx = "dict") : IsiOK Tx "str" (decide (Tx = "str")) := by
  rcases h with rfl | rfl | rfl | rfl
  all_goals exact ⟨by first | exact F.isi_meta_str | kernel_rfl, by rw [isSubtype_type]; kernel_rfl, by decide⟩
theorem isiDict (Tx : String) (h : Tx = "int" ∨ Tx = "str" ∨ Tx = "list" ∨ Tx = "dict") : IsiOK Tx "dict" (decide (Tx = "dict")) := by
  rcases h with rfl | rfl | rfl | rfl
  all_goals exact ⟨by first | exact F.isi_meta_dict | kernel_rfl, by rw [isSubtype_type]; kernel_rfl, by decide⟩
end
end Mine
end

section
open PySem PySem.W PySem.Calls PyProof.Rows
set_option Elab.async false
set_option maxRecDepth 20000
set_option linter.unusedSectionVars false
set_option linter.unusedVariables false
namespace Mine

/-- a look into a dict -/
def dget (σ : St) : AV → AV → Option (Option AV)
  | .ref n, .int i => match σ.st n with
    | some (.dictI l) => some (getK l i)
    | _ => none
  | .ref n, .str x => match σ.st n with
    | some (.dictS l) => some (getK l x)
    | _ => none
  | .dct l, .str x => some (getK l x)
  | _, _ => none

section
variable {W : Wd} {X : Sc} {n : Nat}

def dRep (W : Wd) (G : Gh) : Option AV → Option Value → Prop
  | some v, m => ∃ x, m = some x ∧ Rep W G v x
  | none, m => m = none
theorem RepKV.dRep {κ : Type} [DecidableEq κ] {G : Gh} {l : List (κ × AV)} {kvs} (h : RepKV (G.vw W) l kvs) (k : κ) : dRep W G (getK l k) (valueAt kvs k) := by
  cases e : getK l k with
  | some v => exact h.get e
  | none => exact h.getNone e

theorem R.dget {G : Gh} {σ : St} {s : Shared} (r : R W G σ s) (ok : W.Ok) {a k : AV} {ma mk : Value} {o : Option AV} (p : Rep W G a ma) (q : Rep W G k mk) (h : dget σ a k = some o) :
    ∃ (d : Addr) (κ : Type) (_ : DecidableEq κ) (knd : KeyKind W.prog W.w κ) (kk : κ) (kvs : List (κ × Value)), ma = .ref d ∧ (d == sysModules) = false ∧ s.heap.DictOf knd d kvs ∧ knd.is kk mk = true ∧ (keyPart mk).isSome = true ∧
      dRep W G o (valueAt kvs kk) := by
  unfold Mine.dget at h
  split at h
  · obtain ⟨t, rfl⟩ := q
    split at h
    · rename_i l hs
      cases h
      obtain ⟨x, kvs, ob, e, hm, hk, hD, hr, hsy⟩ := r.dict (dkI W) ok hs p
      exact ⟨x, Int, inferInstance, intKind W.prog W.w, _, kvs, e, hsy, hD, intKind_is _ _ _ _, rfl, hr.dRep _⟩
    · cases h
  · obtain ⟨t, rfl⟩ := q
    split at h
    · rename_i l hs
      cases h
      obtain ⟨x, kvs, ob, e, hm, hk, hD, hr, hsy⟩ := r.dict (dkS W) ok hs p
      exact ⟨x, Str, inferInstance, strKind W.prog W.w, _, kvs, e, hsy, hD, strKind_is _ _ _ _, rfl, hr.dRep _⟩
    · cases h
  · obtain ⟨t, rfl⟩ := q
    cases h
    obtain ⟨y, o, kvs, e, hsy, hz, hd, hr⟩ := p
    exact ⟨y, Str, inferInstance, strKind W.prog W.w, _, kvs, e, hsy, DictOb.dictOf hd (r.z hz), strKind_is _ _ _ _, rfl, hr.kv.dRep _⟩
  · cases h

theorem dict_nodict {prog : Program} {w : World} {κ : Type} [DecidableEq κ] {knd : KeyKind prog w κ} {h : Heap} {d : Addr} {kvs : List (κ × Value)} (x : h.DictOf knd d kvs) : ∀ b, Value.ref d = .ref b → ∃ ob, h.get? b = some ob ∧ ob.dict = none := by
  intro b e
  cases e
  obtain ⟨o, es, ep, h1, h2, _⟩ := x
  exact ⟨o, h1, h2.2.1⟩

/-- methods of builtin containers: the callee is fixed at once -/
def SimBM (W : Wd) (n : Nat) (id : String) (g : AV → List AV → M AV) : Prop :=
  ∀ A σ σ' G s a args ma ms v, AOK n A → R W G σ s → G.fr ≠ [] → Rep W G a ma → Reps W G args ms → g a args σ = some (v, σ') →
    wpAny W.M A (call (.builtin id) (ma :: ms)) (Post W (Rep W) G σ' v) (fun _ _ => False) s
/-- the builtin container's class, by its representation -/
def isDict (σ : St) (a : AV) : Prop := tyA σ a = some "dict"
def preT (T : String) (a : AV) : M AV := fun σ => if tyA σ a = some T then some (a, σ) else none
theorem R.nodict {G : Gh} {σ : St} {s : Shared} (r : R W G σ s) {a : AV} {ma : Value} {T : String} (p : Rep W G a ma) (h : tyA σ a = some T) : ∀ b, ma = .ref b → ∃ ob, s.heap.get? b = some ob ∧ ob.dict = Option.none := by
  intro b hb
  subst hb
  unfold tyA at h
  split at h
  · obtain ⟨t, e⟩ := p; cases e
  · obtain ⟨t, e⟩ := p; cases e
  · obtain ⟨x, vs, m, e, hz, hr⟩ := p
    cases e
    exact ⟨_, r.z hz, rfl⟩
  · obtain ⟨x, o, kvs, e, hsy, hz, hd, hr⟩ := p
    cases e
    obtain ⟨es, ep, h1, _⟩ := hd
    exact ⟨_, r.z hz, h1.2.1⟩
  · obtain ⟨x, e, hm⟩ := p
    cases e
    split at h
    · rename_i l hs
      obtain ⟨y, ob, h1, h2, vs, k, h3, h4⟩ := r.inv.objs _ _ hs
      rw [show (G.vw W).mu = G.mu from rfl, h1] at hm
      cases hm
      subst h3
      exact ⟨_, r.sub _ _ _ h2, rfl⟩
    · rename_i l hs
      obtain ⟨y, ob, h1, h2, kvs, h3, h4⟩ := r.inv.objs _ _ hs
      rw [show (G.vw W).mu = G.mu from rfl, h1] at hm
      cases hm
      obtain ⟨es, ep, h5, _⟩ := h3
      exact ⟨_, r.sub _ _ _ h2, h5.2.1⟩
    · rename_i l hs
      obtain ⟨y, ob, h1, h2, kvs, h3, h4⟩ := r.inv.objs _ _ hs
      rw [show (G.vw W).mu = G.mu from rfl, h1] at hm
      cases hm
      obtain ⟨es, ep, h5, _⟩ := h3
      exact ⟨_, r.sub _ _ _ h2, h5.2.1⟩
    · cases h
  · cases h
def noKw (g : AV → List AV → M AV) : AV → List AV → List AV → M AV
  | b, args, [] => g b args
  | _, _, _ => M.fail
theorem SimM.bi {T id : String} {name : Str} {g : AV → List AV → M AV} (pa : PlainAttrs T) (slot : Slot T name id) (hty : typeOf (.builtin id) = pure (.type "method_descriptor")) (h : SimBM W n id g) :
    SimM W n name [] (preT T) (noKw g) := by
  intro A σ σ' G s a b ma pl hA r hne p he
  unfold preT at he
  split at he
  · rename_i ht
    cases he
    refine getMethod_builtin (r.tyIs p ht).1 pa slot hty (r.nodict p ht) ⟨G, .refl _, r, ?_⟩
    intro A σ2 σ3 G'' s'' args kws ms ks' v hA2 l2 r2 p2 p3 hg
    refine ⟨.bi, ?_⟩
    have hk : (([] : List Str).zip ks') = [] := by simp
    rw [hk]
    cases kws with
    | nil => exact h A _ _ G'' s'' _ args ma ms v hA2 r2 (by rw [l2.fr]; exact hne) (p.le l2) p2 hg
    | cons k ks => cases hg
  · cases he

/-! lists -/
def appendF : AV → List AV → M AV
  | .ref m, [x] => fun σ => match σ.st m with
    | some (.list l) => if l.length ≤ 2 ^ 20 then some (.none, { σ with st := fun k => if k = m then some (.list (l ++ [x])) else σ.st k }) else none
    | _ => none
  | _, _ => M.fail
theorem SimBM.append : SimBM W n "list.append" appendF := by
  intro A σ σ' G s a args ma ms v hA r hne p p2 hf
  unfold appendF at hf
  split at hf
  · split at hf
    · rename_i l hs
      split at hf
      · rename_i hl
        cases hf
        obtain ⟨y, e, hm⟩ := p
        subst e
        obtain ⟨x, e, q⟩ := Reps.one p2
        subst e
        obtain ⟨y', ob, h1, h2, vs, k, h3, h4⟩ := r.inv.objs _ _ hs
        rw [show (G.vw W).mu = G.mu from rfl, h1] at hm
        cases hm
        subst h3
        have hlen := h4.length
        rw [Array.length_toList] at hlen
        refine wpAny_list_append_plain (l := y) (items := vs) ⟨k, r.sub _ _ _ h2⟩ (fun h' hp hs' => ?_) (by rw [sizeLine_eq]; omega)
        obtain ⟨k', hp⟩ := hp
        obtain ⟨G', l', r', _⟩ := r.setObj (o := .list (l ++ [_])) (tk := s.toks) h1 h2 hp hs' ⟨_, _, rfl, by rw [Array.toList_push]; exact RepVs.append h4 ⟨x, [], rfl, q, rfl⟩⟩
        exact ⟨G', l', r', rfl⟩
      · cases hf
    · cases hf
  · cases hf
theorem SimM.append : SimM W n "append" [] (preT "list") (noKw appendF) := SimM.bi F.plainAttrs_list F.slot_list_append F.type_list_append SimBM.append

/-! dicts -/
def dgetF : AV → List AV → M AV
  | a, [k] => fun σ => (dget σ a k).map fun o => (o.getD .none, σ)
  | a, [k, d] => fun σ => (dget σ a k).map fun o => (o.getD d, σ)
  | _, _ => M.fail
theorem SimBM.dget (ok : W.Ok) : SimBM W n "dict.get" dgetF := by
  intro A σ σ' G s a args ma ms v hA r hne p p2 hf
  unfold dgetF at hf
  split at hf
  · obtain ⟨o, e1, e2⟩ := Option.map_eq_some_iff.mp hf
    cases e2
    obtain ⟨x, e, q⟩ := Reps.one p2
    subst e
    obtain ⟨d, κ, _, knd, kk, kvs, e, hsy, hD, hkey, hpart, hr⟩ := r.dget ok p q e1
    subst e
    refine call_meetsIn F.slot_dict_get hD.typeIs F.entry_dict_get (F.args_dict_get_2 _ _) (meets_dict_get knd d hkey hsy) ⟨_, hD.mapOf, ?_⟩
    cases o with
    | some v => obtain ⟨mv, f1, f2⟩ := hr; rw [f1]; exact .now r.tok f2
    | none => rw [show valueAt kvs kk = Option.none from hr]; exact .now r.tok rfl
  · obtain ⟨o, e1, e2⟩ := Option.map_eq_some_iff.mp hf
    cases e2
    obtain ⟨x, y, e, q, q2⟩ := Reps.two p2
    subst e
    obtain ⟨d, κ, _, knd, kk, kvs, e, hsy, hD, hkey, hpart, hr⟩ := r.dget ok p q e1
    subst e
    refine call_meetsIn F.slot_dict_get hD.typeIs F.entry_dict_get (F.args_dict_get_3 _ _ _) (meets_dict_get_default knd d hkey hsy _) ⟨_, hD.mapOf, ?_⟩
    cases o with
    | some v => obtain ⟨mv, f1, f2⟩ := hr; rw [f1]; exact .now r.tok f2
    | none => rw [show valueAt kvs kk = Option.none from hr]; exact .now r.tok q2
  · cases hf
theorem SimM.dget (ok : W.Ok) : SimM W n "get" [] (preT "dict") (noKw dgetF) := SimM.bi F.plainAttrs_dict F.slot_dict_get F.type_dict_get (SimBM.dget ok)

/-- taking out of a dict of strs -/
def popF : AV → List AV → M AV
  | .ref m, .str x :: rest => fun σ => match σ.st m with
    | some (.dictS l) => if l.length ≤ 2 ^ 20 then (match getK l x, rest with
      | some v, [] => some (v, { σ with st := fun k => if k = m then some (.dictS (delK l x)) else σ.st k })
      | some v, [_] => some (v, { σ with st := fun k => if k = m then some (.dictS (delK l x)) else σ.st k })
      | none, [d] => some (d, σ)
      | _, _ => none) else none
    | _ => none
  | _, _ => M.fail
theorem SimBM.pop (ok : W.Ok) : SimBM W n "dict.pop" popF := by
  intro A σ σ' G s a args ma ms v hA r hne p p2 hf
  unfold popF at hf
  split at hf
  · rename_i m x rest
    split at hf
    · rename_i l hs
      split at hf
      · rename_i hl
        obtain ⟨y, kvs, ob, e, hm, hk, hD, hr, hsy⟩ := r.dict (dkS W) ok hs p
        subst e
        obtain ⟨mx, mr, e, ⟨t, q⟩, q2⟩ := p2
        subst e q
        have hlen := hr.length
        split at hf
        · rename_i v' hg
          cases hf
          cases q2
          obtain ⟨mv, f1, f2⟩ := hr.get hg
          refine call_meetsIn F.slot_dict_pop hD.typeIs F.entry_dict_pop (F.args_dict_pop_2 _ _) (meets_dict_pop_there (strKind W.prog W.w) y (strKind_is _ _ _ _) [] (.inl rfl) rfl) ⟨kvs, mv, hD, by rw [sizeLine_eq]; omega, f1, fun h' hd' hs' => ?_⟩
          obtain ⟨G', l', r', _⟩ := r.setDict (dkS W) (tk := s.toks + 1) hm hk hd' hs' (hr.del _)
          exact ⟨G', l', r', Rep.le f2 l'⟩
        · rename_i v' d hg
          cases hf
          obtain ⟨md, e, _⟩ := Reps.one q2
          subst e
          obtain ⟨mv, f1, f2⟩ := hr.get hg
          refine call_meetsIn F.slot_dict_pop hD.typeIs F.entry_dict_pop (F.args_dict_pop_3 _ _ _) (meets_dict_pop_there (strKind W.prog W.w) y (strKind_is _ _ _ _) [md] (.inr ⟨_, rfl⟩) rfl) ⟨kvs, mv, hD, by rw [sizeLine_eq]; omega, f1, fun h' hd' hs' => ?_⟩
          obtain ⟨G', l', r', _⟩ := r.setDict (dkS W) (tk := s.toks + 1) hm hk hd' hs' (hr.del _)
          exact ⟨G', l', r', Rep.le f2 l'⟩
        · rename_i d hg
          cases hf
          obtain ⟨md, e, q3⟩ := Reps.one q2
          subst e
          exact call_meetsIn F.slot_dict_pop hD.typeIs F.entry_dict_pop (F.args_dict_pop_3 _ _ _) (meets_dict_pop_default (strKind W.prog W.w) y (strKind_is _ _ _ _) hsy rfl md) ⟨kvs, hD, hr.getNone hg, .now r.tok q3⟩
        · cases hf
      · cases hf
    · cases hf
  · cases hf
theorem SimM.pop (ok : W.Ok) : SimM W n "pop" [] (preT "dict") (noKw popF) := SimM.bi F.plainAttrs_dict F.slot_dict_pop F.type_dict_pop (SimBM.pop ok)

/-! views -/
def viewF (k : Nat) : AV → List AV → M AV
  | a, [] => fun σ => if tyA σ a = some "dict" then some (.view k a, σ) else none
  | _, _ => M.fail
theorem R.anyDict {G : Gh} {σ : St} {s : Shared} (r : R W G σ s) (ok : W.Ok) {a : AV} {ma : Value} (p : Rep W G a ma) (h : tyA σ a = some "dict") :
    ∃ (d : Addr) (κ : Type) (_ : DecidableEq κ) (knd : KeyKind W.prog W.w κ) (kvs : List (κ × Value)), ma = .ref d ∧ (d == sysModules) = false ∧ s.heap.DictOf knd d kvs := by
  unfold tyA at h
  split at h
  · exact absurd h (by decide)
  · exact absurd h (by decide)
  · exact absurd h (by decide)
  · obtain ⟨y, o, kvs, e, hsy, hz, hd, hr⟩ := p
    exact ⟨y, Str, inferInstance, strKind W.prog W.w, kvs, e, hsy, DictOb.dictOf hd (r.z hz)⟩
  · split at h
    · exact absurd h (by decide)
    · rename_i l hs
      obtain ⟨x, kvs, ob, e, hm, hk, hD, hr, hsy⟩ := r.dict (dkI W) ok hs p
      exact ⟨x, Int, inferInstance, intKind W.prog W.w, kvs, e, hsy, hD⟩
    · rename_i l hs
      obtain ⟨x, kvs, ob, e, hm, hk, hD, hr, hsy⟩ := r.dict (dkS W) ok hs p
      exact ⟨x, Str, inferInstance, strKind W.prog W.w, kvs, e, hsy, hD⟩
    · cases h
  · cases h
theorem SimBM.keys (ok : W.Ok) : SimBM W n "dict.keys" (viewF 0) := by
  intro A σ σ' G s a args ma ms v hA r hne p p2 hf
  unfold viewF at hf
  split at hf
  · split at hf
    · rename_i ht
      cases hf
      cases p2
      obtain ⟨d, κ, _, knd, kvs, e, hsy, hD⟩ := r.anyDict ok p ht
      subst e
      obtain ⟨r', l'⟩ := r.alloc .z (o := { cls := .type "dict_keys", data := .fields #[.ref d] }) rfl (tk := s.toks)
      exact call_meetsIn F.slot_dict_keys hD.typeIs F.entry_dict_keys (F.args_dict_keys_1 _) (kdl_meets_keys knd d hsy) ⟨⟨kvs, hD⟩, _, l', r', _, _, rfl, Gh.z_iff.mpr Gh.set_self, p.le l'⟩
    · cases hf
  · cases hf
theorem SimM.keys (ok : W.Ok) : SimM W n "keys" [] (preT "dict") (noKw (viewF 0)) := SimM.bi F.plainAttrs_dict F.slot_dict_keys F.type_dict_keys (SimBM.keys ok)
theorem SimBM.items (ok : W.Ok) : SimBM W n "dict.items" (viewF 1) := by
  intro A σ σ' G s a args ma ms v hA r hne p p2 hf
  unfold viewF at hf
  split at hf
  · split at hf
    · rename_i ht
      cases hf
      cases p2
      obtain ⟨d, κ, _, knd, kvs, e, hsy, hD⟩ := r.anyDict ok p ht
      subst e
      obtain ⟨r', l'⟩ := r.alloc .z (o := { cls := .type "dict_items", data := .fields #[.ref d] }) rfl (tk := s.toks)
      exact call_meetsIn F.slot_dict_items hD.typeIs F.entry_dict_items (F.args_dict_items_1 _) (meets_dict_items knd d hsy) ⟨⟨kvs, hD⟩, _, l', r', _, _, rfl, Gh.z_iff.mpr Gh.set_self, p.le l'⟩
    · cases hf
  · cases hf
theorem SimM.items (ok : W.Ok) : SimM W n "items" [] (preT "dict") (noKw (viewF 1)) := SimM.bi F.plainAttrs_dict F.slot_dict_items F.type_dict_items (SimBM.items ok)
end
end Mine
end

section
open PySem PySem.W PySem.Calls PyProof.Rows
set_option Elab.async false
set_option maxRecDepth 20000
namespace Mine
def bisL (l : List Int) (x : Int) : Nat → Nat → Nat → Option Nat
  | 0, lo, hi => if lo < hi then none else some lo
  | f + 1, lo, hi => if lo < hi then (match l[(lo + hi) / 2]? with
      | some y => if x < y then bisL l x f lo ((lo + hi) / 2) else bisL l x f ((lo + hi) / 2 + 1) hi
      | none => none) else some lo

theorem entry_bis_loop : entryFor table "_bisect.bisect_right.loop" = some Builtin.«_bisect.bisect_right.loop» := entryFor_of_tree (by kernel_rfl)
theorem entry_bis : entryFor table "_bisect.bisect_right" = some Builtin.«_bisect.bisect_right» := entryFor_of_tree (by kernel_rfl)

theorem getitem_call {prog : Program} {w : World} {A : Around} {E : Value → Shared → Prop} {s : Shared} {l : Addr} {items : Array Value} {k : Int} {t : Tok} {x : Value} {Q : Value → Shared → Prop} (hl : s.heap.IsList l items)
    (h0 : 0 ≤ k) (hfit : k < 2 ^ 63) (hx : items[k.toNat]? = some x) (h : Q x s) : wpAny (model prog w) A (call (.builtin "list.__getitem__") [.ref l, .int k t]) Q E s := by
  obtain ⟨o, ho, hc, ne, hd⟩ := id hl
  refine wpAny_call_entry slot_list_getitem hl.typeIs entry_list_getitem ?_ (args_list_getitem _ _)
  show wpAny _ _ (Builtin.List.listSubscript? (.int k t) >>= _) _ _ s
  refine wpAny_bind (wpAny_listSubscript_int (fitsIndex_of h0 hfit) ?_)
  clear hfit
  obtain ⟨j, rfl⟩ := Int.eq_ofNat_of_zero_le h0
  have hx' : items[j]? = some x := hx
  show wpAny _ _ ((seqItemAt l j >>= fun r => pure (r.map (j, ·))) >>= _) _ _ s
  refine wpAny_bind (wpAny_bind (wpAny_seqItemAt ho hd (wpAny_pure ?_)))
  rw [hx']
  first
    | exact wpAny_bind (wpAny_pure (wpAny_pure ⟨x, rfl, h⟩))
    | exact wpAny_pure ⟨x, rfl, h⟩

theorem bis_loop {prog : Program} {w : World} {a : Addr} {vs : Array Value} {l : List Int} {x : Int} {t : Tok} (hI : ∀ (i : Nat) y, l[i]? = some y → ∃ u, vs[i]? = some (.int y u)) (hl : l.length < 2 ^ 40) :
    ∀ (f lo hi : Nat) (r : Nat) (A : Around) (s : Shared) (R : Result → Shared → Prop), s.heap.IsList a vs → hi ≤ l.length → bisL l x f lo hi = some r → (∀ u tk, R (.ok (.ret (.int r u))) { s with toks := tk }) →
    codeAny (model prog w) A (.builtin "_bisect.bisect_right.loop" ⟨[.ref a, .int x t, rawInt lo, rawInt hi, .none, .bool true, .bool true, rawInt 0], []⟩) R s
  | f, lo, hi, r, A, s, Q, hL, hh, hb, hQ => by
    refine codeAny_builtin entry_bis_loop ?_
    unfold Builtin.«_bisect.bisect_right.loop»
    show wpAny _ _ (ite ((lo : Int) < (hi : Int)) _ _) _ _ _
    by_cases hlt : lo < hi
    · rw [if_pos (by omega)]
      cases f with
      | zero => simp [bisL, hlt] at hb
      | succ f =>
      unfold bisL at hb
      rw [if_pos hlt] at hb
      have hm : ((lo : Int) + (hi : Int)) / 2 = (((lo + hi) / 2 : Nat) : Int) := by omega
      have hb1 : lo ≤ (lo + hi) / 2 := by omega
      have hb2 : (lo + hi) / 2 < hi := by omega
      generalize (lo + hi) / 2 = mid at hm hb hb1 hb2
      split at hb
      · rename_i y hy
        obtain ⟨u, hu⟩ := hI _ _ hy
        rw [hm]
        refine wpAny_bind (wpAny_mkInt ?_)
        refine wpAny_bind (wpAny_callSpecial?_slot (name := Str.ofString "__getitem__") hL.typeIs slot_list_getitem ?_)
        refine wpAny_mono (Q := fun v s' => ∃ tk, v = Value.int y u ∧ s' = { s with toks := tk }) ?_ ?_ fun _ _ e => e
        · exact getitem_call hL (by omega) (by omega) (x := .int y u) (by simpa using hu) ⟨_, rfl, rfl⟩
        · rintro v s' ⟨tk, rfl, rfl⟩
          dsimp only
          refine wpAny_bind (wpAny_pure ?_)
          refine wpAny_holding ?_
          refine wpAny_bind (wpAny_pure ?_)
          refine wpAny_bind (wpAny_pure ?_)
          rw [if_pos (by decide)]
          refine wpAny_bind (wpAny_cRoomFor_byValue rfl ?_)
          refine wpAny_bind (wpAny_callSpecialIfBound?_slot (name := Str.ofString "__lt__") (typeIs_int _ x t) slot_int_lt
            (wpAny_call_entry slot_int_lt (typeIs_int _ x t) entry_int_lt
              (show wpAny _ _ (ret (.bool (decide (x < y)))) _ _ _ from wpAny_pure ⟨_, rfl, ?_⟩) (args_int_lt _ _)))
          dsimp only
          refine wpAny_bind (wpAny_pure ?_)
          refine wpAny_bind (wpAny_pure ?_)
          by_cases hxy : x < y
          · rw [if_pos hxy] at hb
            simp only [hxy, decide_true, beq_self_eq_true, if_true]
            k_delta "bisectGo"
            refine wpAny_pure ⟨Code.quiet_builtin _ (by decide +kernel), ?_⟩
            exact bis_loop hI hl f lo mid r A _ Q hL (by omega) hb (fun u tk' => hQ u tk')
          · rw [if_neg hxy] at hb
            simp only [hxy, decide_false]
            k_delta "bisectGo"
            refine wpAny_pure ⟨Code.quiet_builtin _ (by decide +kernel), ?_⟩
            have hm2 : (mid : Int) + 1 = ((mid + 1 : Nat) : Int) := by omega
            rw [hm2]
            exact bis_loop hI hl f (mid + 1) hi r A _ Q hL hh hb (fun u tk' => hQ u tk')
      · cases hb
    · rw [if_neg (by omega)]
      have hr : r = lo := by
        cases f <;> (unfold bisL at hb; rw [if_neg hlt] at hb; cases hb; rfl)
      subst hr
      show wpAny _ _ (retInt (r : Int)) _ _ _
      unfold retInt
      exact wpAny_bind (wpAny_mkInt (wpAny_pure (hQ _ _)))

theorem bis_meets {a : Addr} {vs : Array Value} {l : List Int} {x : Int} {t : Tok} {r : Nat} (hI : ∀ (i : Nat) y, l[i]? = some y → ∃ u, vs[i]? = some (.int y u)) (hl : l.length < 2 ^ 40) (hz : vs.size = l.length)
    (hb : bisL l x l.length 0 l.length = some r) : Meets (Builtin.«_bisect.bisect_right» ⟨[.ref a, .int x t], []⟩) (fun _ R s => s.heap.IsList a vs ∧ ∀ u tk, R (.ok (.ret (.int r u))) { s with toks := tk }) := by
  intro prog w A R s ⟨hL, hQ⟩
  unfold Builtin.«_bisect.bisect_right»
  k_delta "bisectStart"
  dsimp only
  refine wpAny_bind (wpAny_of_eq (a := (Value.ref a, Value.int x t, none, none, none)) (by k_delta "bisectBind"; rfl) ?_)
  dsimp only
  refine wpAny_bind (wpAny_pure ?_)
  refine wpAny_bind (wpAny_pure ?_)
  rw [if_neg (by decide)]
  refine wpAny_bind (wpAny_pure ?_)
  refine wpAny_holding ?_
  rw [if_neg (by decide)]
  rw [if_neg (by decide)]
  have hT := hL.typeIs
  have hname : typeNameCut 200 (.type "list") = pure "list" := by
    first
    | (rw [show typeNameCut 200 (.type "list") = typeName (.type "list") from rfl]; first | exact typeName_list | rfl | kernel_rfl)
    | rfl
  have hmro : mroOf (.type "list") = pure [.type "list", .type "object"] := by rw [mroOf_type]; kernel_rfl
  have hlen : typeLookup (.type "list") "__len__" = pure (some (.builtin "list.__len__")) := by rw [typeLookup_type, builtinLookup_eq_fast]; kernel_rfl
  have hgi : typeLookup (.type "list") "__getitem__" = pure (some (.builtin "list.__getitem__")) := slot_list_getitem.lookup
  k_delta "bisectSequence"
  have name : ∀ (A : Around) (E : Value → Shared → Prop) (P : String → Shared → Prop) (s : Shared), s.TypeIs (.ref a) "list" → P "list" s → wpAny (model prog w) A (typeNameOfCut 200 (.ref a)) P E s := by
    intro A E P s hT hP
    unfold typeNameOfCut shownTypeOf
    refine wpAny_bind (wpAny_bind (wpAny_typeOf hT ?_))
    simp only [show (Value.type "list" == Value.type "builtin_function_or_method") = false by decide, Bool.false_eq_true, if_false]
    refine wpAny_pure ?_
    rw [hname]; exact wpAny_pure hP
  refine wpAny_bind ?_
  refine wpAny_bind (wpAny_typeOf hT ?_)
  refine wpAny_bind (name _ _ _ _ hT ?_)
  rw [hmro]
  refine wpAny_bind (wpAny_pure ?_)
  dsimp only
  rw [if_neg (by decide)]
  simp only [if_true]
  rw [hlen]
  refine wpAny_bind (wpAny_pure ?_)
  rw [if_neg (by decide), if_neg (by decide)]
  refine wpAny_pure ?_
  refine wpAny_bind ?_
  refine wpAny_mono (Q := fun v s' => ∃ u tk, v = Value.int (l.length : Int) u ∧ s' = { s with toks := tk }) ?_ ?_ fun _ _ e => e
  · obtain ⟨o, ho, hc, n, hd⟩ := id hL
    refine wpAny_runValue (codeAny_builtin entry_len ?_)
    unfold Builtin.«len»
    refine wpAny_bind (m := oneArg "len" _) (wpAny_pure ?_)
    refine wpAny_bind (m := callSpecial? (.ref a) (Str.ofString "__len__")) (wpAny_callSpecial?_slot (name := Str.ofString "__len__") hL.typeIs slot_list_len
      (wpAny_call_entry slot_list_len hL.typeIs entry_list_len ?_ (args_list_len _)))
    show wpAny _ _ (do retInt (← seqSize a)) _ _ s
    unfold seqSize
    refine wpAny_bind (wpAny_bind (wpAny_load ho ?_))
    rw [hd]
    refine wpAny_pure (wpAny_bind (wpAny_mkInt (wpAny_pure ⟨_, rfl, ?_⟩)))
    refine wpAny_bind (wpAny_holding (wpAny_pure ?_))
    refine wpAny_bind (wpAny_letGo ?_)
    show wpAny _ _ (if ((vs.size : Nat) : Int) < 0 then _ else _) _ _ _
    rw [if_neg (by omega)]
    show wpAny _ _ (if ((vs.size : Nat) : Int) ≥ 2 ^ 63 then _ else _) _ _ _
    rw [if_neg (by omega)]
    exact wpAny_bind (wpAny_mkInt (wpAny_pure ⟨_, _, by rw [hz], rfl⟩))
  · rintro v s' ⟨u, tk, rfl, rfl⟩
    dsimp only
    refine wpAny_bind (wpAny_pure ?_)
    refine wpAny_bind ?_
    have hT' : Shared.TypeIs { s with toks := tk } (.ref a) "list" := hT
    refine wpAny_bind (wpAny_typeOf hT' ?_)
    refine wpAny_bind (name _ _ _ _ hT' ?_)
    rw [hmro]
    refine wpAny_bind (wpAny_pure ?_)
    rw [if_neg (by decide), if_neg (by decide)]
    rw [hgi]
    refine wpAny_bind (wpAny_pure ?_)
    rw [if_neg (by decide), if_neg (by decide)]
    refine wpAny_pure ?_
    k_delta "bisectGo"
    refine wpAny_pure ⟨Code.quiet_builtin _ (by decide +kernel), ?_⟩
    exact bis_loop hI hl l.length 0 l.length r A _ R hL (Nat.le_refl _) hb (fun u tk' => hQ u tk')

/-! sorting ints -/
def insI (x : Int) : List Int → List Int
  | [] => [x]
  | y :: l => if x ≤ y then x :: y :: l else y :: insI x l
def isortI : List Int → List Int
  | [] => []
  | x :: l => insI x (isortI l)
theorem insI_perm (x : Int) : ∀ l, (insI x l).Perm (x :: l)
  | [] => .refl _
  | y :: l => by
    unfold insI
    split
    · exact .refl _
    · exact ((insI_perm x l).cons y).trans (.swap x y l)
theorem isortI_perm : ∀ l, (isortI l).Perm l
  | [] => .refl _
  | x :: l => (insI_perm x _).trans ((isortI_perm l).cons x)
theorem insI_sorted (x : Int) : ∀ l : List Int, l.Pairwise (· ≤ ·) → (insI x l).Pairwise (· ≤ ·)
  | [], _ => by simp [insI]
  | y :: l, h => by
    unfold insI
    rw [List.pairwise_cons] at h
    split
    · rename_i hxy
      rw [List.pairwise_cons, List.pairwise_cons]
      refine ⟨fun z hz => ?_, h⟩
      rcases List.mem_cons.mp hz with rfl | hz
      · exact hxy
      · exact Int.le_trans hxy (h.1 z hz)
    · rename_i hxy
      rw [List.pairwise_cons]
      refine ⟨fun z hz => ?_, insI_sorted x l h.2⟩
      rcases List.mem_cons.mp ((insI_perm x l).mem_iff.mp hz) with rfl | hz
      · omega
      · exact h.1 z hz
theorem isortI_sorted : ∀ l, (isortI l).Pairwise (· ≤ ·)
  | [] => by simp [isortI]
  | x :: l => insI_sorted x _ (isortI_sorted l)
theorem sorted_unique {l l' : List Int} (hp : l'.Perm l) (hs : l'.Pairwise (· ≤ ·)) : l' = isortI l :=
  List.Perm.eq_of_pairwise (fun a b _ _ h1 h2 => Int.le_antisymm h1 h2) hs (isortI_sorted l) (hp.trans (isortI_perm l).symm)

def asInt : AV → Option Int
  | .int i => some i
  | _ => none
def toInts : List AV → Option (List Int)
  | [] => some []
  | a :: l => match asInt a, toInts l with
    | some i, some r => some (i :: r)
    | _, _ => none
theorem asInt_some {a : AV} {i : Int} (h : asInt a = some i) : a = .int i := by
  unfold asInt at h
  split at h <;> cases h
  rfl

section
variable {W : Wd} {X : Sc} {n : Nat}
theorem ints_of {G : Gh} {l : List AV} : ∀ {vs : List Value} {ns : List Int}, Reps W G l vs → toInts l = some ns → IntsAre vs ns ∧ l = intsL ns := by
  induction l with
  | nil => intro vs ns h e; cases e; cases h; exact ⟨.nil, rfl⟩
  | cons a l ih =>
    intro vs ns h e
    obtain ⟨v, r, q, h1, h2⟩ := h
    subst q
    unfold toInts at e
    split at e
    · rename_i i ms e1 e2
      cases e
      have := asInt_some e1
      subst this
      obtain ⟨t, h1⟩ := h1
      subst h1
      obtain ⟨g1, g2⟩ := ih h2 e2
      exact ⟨.cons _ _ g1, by rw [g2]; rfl⟩
    · cases e
theorem reps_ints {G : Gh} : ∀ {vs : List Value} {ns : List Int}, IntsAre vs ns → Reps W G (intsL ns) vs
  | _, _, .nil => rfl
  | _, _, .cons n t h => ⟨_, _, rfl, ⟨t, rfl⟩, reps_ints h⟩
theorem IntsAre.get : ∀ {vs : List Value} {ns : List Int}, IntsAre vs ns → ∀ {i : Nat} {y : Int}, ns[i]? = some y → ∃ u, vs[i]? = some (.int y u)
  | _, _, .nil, i, y, e => by simp at e
  | _, _, .cons n t h, 0, y, e => by simp at e; subst e; exact ⟨t, rfl⟩
  | _, _, .cons n t h, i + 1, y, e => by simp at e; simpa using IntsAre.get h e
theorem IntsAre.len : ∀ {vs : List Value} {ns : List Int}, IntsAre vs ns → vs.length = ns.length
  | _, _, .nil => rfl
  | _, _, .cons n t h => by simp [IntsAre.len h]

/-- an object that a builtin has made -/
theorem R.found {G : Gh} {σ : St} {s : Shared} (r : R W G σ s) {D : Addr} {o : Obj} {h' : Heap} {tk : Nat} (hk : ∀ b o, s.heap.get? b = some o → h'.get? b = some o) (hn : G.kn D = none) (ho : h'.get? D = some o) :
    R W (G.set D .z o) σ { s with heap := h', toks := tk } ∧ G.Le (G.set D .z o) := by
  refine ⟨⟨r.inv.set (fun t₀ o₀ e => by rw [hn] at e; cases e) (.inr rfl), fun b t o' e => ?_, r.os, r.gens⟩, Gh.le_set fun t₀ o₀ e => by rw [hn] at e; cases e⟩
  by_cases hb : b = D
  · subst hb; rw [Gh.set_self] at e; cases e; exact ho
  · rw [Gh.set_ne hb] at e; exact hk _ _ (r.sub _ _ _ e)
theorem R.freshIn {G : Gh} {σ : St} {s : Shared} (r : R W G σ s) {h' : Heap} (hk : ∀ b o, s.heap.get? b = some o → h'.get? b = some o) : G.kn h'.objs.size = none := by
  cases e : G.kn h'.objs.size with
  | none => rfl
  | some p => exact absurd (Heap.lt_size (hk _ _ (r.sub _ p.1 p.2 e))) (Nat.lt_irrefl _)

def bisF : List AV → List AV → M AV
  | [a, .int x], [] => fun σ => match viewL σ a with
    | some l => (match toInts l with
      | some ns => if ns.length < 2 ^ 40 then (bisL ns x ns.length 0 ns.length).map fun (r : Nat) => (AV.int (r : Int), σ) else none
      | none => none)
    | none => none
  | _, _ => M.fail
theorem SimV.bis : SimV W n (.builtin "_bisect.bisect_right") [] bisF := by
  intro A σ σ' G s args kws ms ks' v hA r hne p2 p3 hf
  refine ⟨.bi, ?_⟩
  unfold bisF at hf
  split at hf
  · split at hf
    · rename_i l hv
      split at hf
      · rename_i ns hns
        split at hf
        · rename_i hl
          obtain ⟨rr, e1, e2⟩ := Option.map_eq_some_iff.mp hf
          cases e2
          obtain ⟨y, z, e, p, ⟨t, q⟩⟩ := Reps.two p2
          rw [zipNil p3]
          subst e q
          obtain ⟨x, vs, k, e, hg, hr⟩ := r.view p hv
          subst e
          obtain ⟨hI, hE⟩ := ints_of hr hns
          have hlen := IntsAre.len hI
          rw [Array.length_toList] at hlen
          exact call_function_meets (by decide +kernel) (by decide +kernel) entry_bis (by unfold argsOk; kernel_rfl) (bis_meets (a := x) (t := t) (vs := vs) (fun i y hy => by
            obtain ⟨u, hu⟩ := IntsAre.get hI hy
            rw [Array.getElem?_toList] at hu
            exact ⟨u, hu⟩) hl hlen e1) ⟨isList_of hg, fun u tk => .now r.tok ⟨u, rfl⟩⟩
        · cases hf
      · cases hf
    · cases hf
  · cases hf

/-- `sorted` of the keys of a dict of ints, and of a list of ints -/
def sortedIF : List AV → List AV → M AV
  | [a], [] => fun σ => match a with
    | .view 0 (.ref m) => (match σ.st m with
      | some (.dictI l) => if l.length < 64 then some (.lst (intsL (isortI (l.map (·.1)))), σ) else none
      | _ => none)
    | _ => (match viewL σ a with
      | some l => (match toInts l with
        | some ns => if ns.length < 64 then some (.lst (intsL (isortI ns)), σ) else none
        | none => none)
      | none => none)
  | _, _ => M.fail

theorem sort_core {A : Around} {G : Gh} {σ : St} {s : Shared} {h' : Heap} {tk : Nat} {vs : List Value} {ns : List Int} (r : R W G σ s) (hk : ∀ b o, s.heap.get? b = some o → h'.get? b = some o) (hI : IntsAre vs ns) (h64 : vs.length < 64) :
    wpAny W.M A (newList vs) (fun L s1 => wpAny W.M A (call (.builtin "list.sort") [L]) (fun _ s2 => Post W (Rep W) G σ (.lst (intsL (isortI ns))) L s2) (fun _ _ => False) s1) (fun _ _ => False) { s with heap := h', toks := tk } := by
  refine wpAny_newList ?_ (by rw [sizeLine_eq]; omega)
  refine wpAny_call_entry PyProof.Rows.slot_list_sort ⟨_, Heap.get?_push_size _ rfl, rfl⟩ PyProof.Rows.entry_list_sort
    (list_sort_tree (n := 0) (Heap.get?_push_size _ rfl) hI h64 fun out ns' a1 a2 a3 => ⟨_, rfl, ?_⟩) (PyProof.Rows.args_list_sort _)
  obtain ⟨e, he⟩ := sortedHeap_at (h := h'.push (seqObj "list" vs.toArray 0)) (a := h'.objs.size) (vs := vs) (n := 0) (out := out) (Heap.get?_push_size _ rfl)
  obtain ⟨r', l'⟩ := r.found (D := h'.objs.size) (h' := sortedHeap (h'.push (seqObj "list" vs.toArray 0)) h'.objs.size vs out) (tk := tk) (fun b o eb => by
    have hb := hk b o eb
    rw [sortedHeap_old (Nat.ne_of_lt (Heap.lt_size hb)) (by rw [size_push']; exact Nat.lt_succ_of_lt (Heap.lt_size hb))]
    exact Heap.get?_push_of_some _ hb) (r.freshIn hk) he
  refine ⟨_, l', r', _, out, e, rfl, Gh.z_iff.mpr Gh.set_self, ?_⟩
  rw [← sorted_unique a2 a3]
  exact reps_ints a1

theorem keys_ints {G : Gh} {l : List (Int × AV)} {kvs : List (Int × Value)} (h : RepKV (G.vw W) l kvs) : kvs.map (·.1) = l.map (·.1) := by
  induction l generalizing kvs with
  | nil => cases h; rfl
  | cons p l ih =>
    obtain ⟨k, a⟩ := p
    obtain ⟨v, r, q, h1, h2⟩ := h
    subst q
    simp [ih h2]
theorem intsAre_of {ns : List Int} : ∀ {vs : List Value}, vs.length = ns.length → (∀ (i : Nat) v, vs[i]? = some v → ∃ k, ns[i]? = some k ∧ Value.isInt k v = true) → IntsAre vs ns := by
  induction ns with
  | nil => intro vs hl _; cases vs with
    | nil => exact .nil
    | cons => simp at hl
  | cons k ns ih =>
    intro vs hl h
    cases vs with
    | nil => simp at hl
    | cons v vs =>
      obtain ⟨k', e, hk⟩ := h 0 v rfl
      simp at e
      subst e
      obtain ⟨t, rfl⟩ := Value.isInt_shape hk
      exact .cons _ _ (ih (by simpa using hl) fun i v e => by simpa using h (i + 1) v (by simpa using e))

theorem SimV.sortedI (ok : W.Ok) : SimV W n (.builtin "sorted") [] sortedIF := by
  intro A σ σ' G s args kws ms ks' v hA r hne p2 p3 hf
  refine ⟨.bi, ?_⟩
  unfold sortedIF at hf
  split at hf
  · obtain ⟨x, e, p⟩ := Reps.one p2
    rw [zipNil p3]
    subst e
    refine call_function_entry PyProof.Rows.kind_sorted PyProof.Rows.plain_sorted PyProof.Rows.entry_sorted (PyProof.Rows.args_sorted1 _) ?_
    unfold Builtin.«sorted»
    refine wpAny_bind (m := checkCount "sorted" 1 1 _) (wpAny_pure ?_)
    split at hf
    · rename_i m
      split at hf
      · rename_i l hs
        split at hf
        · rename_i hl
          cases hf
          obtain ⟨y, dv, e, hz, q⟩ := p
          subst e
          obtain ⟨d, kvs, ob, e, hm, hk, hD, hr, hsy⟩ := r.dict (dkI W) ok hs q
          subst e
          obtain ⟨ep, hat⟩ := hD.dictAt
          have hlen := hr.length
          refine wpAny_bind (kdu_collect (A := A.in1) (kdl_keys (knd := intKind W.prog W.w) (kvs := kvs) (ep := ep) (r := y) (d := d)) hA.hd ⟨⟨_, r.z hz, rfl, rfl⟩, hat⟩ (by rw [sizeLine_eq]; omega) fun h' tk acc hk hacc => ?_)
          have hI : IntsAre acc.toList (l.map (·.1)) := by
            rw [← keys_ints hr]
            refine intsAre_of (by rw [Array.length_toList, List.length_map]; exact hacc.1) fun i v e => ?_
            obtain ⟨k, x, e1, e2⟩ := hacc.2 i v (by rw [← Array.getElem?_toList]; exact e)
            exact ⟨k, by rw [List.getElem?_map, e1]; rfl, e2⟩
          have h64 := IntsAre.len hI
          rw [List.length_map] at h64
          refine wpAny_bind (wpAny_mono (sort_core r hk hI (by omega)) (fun L s1 h1 => wpAny_bind (wpAny_holding (wpAny_mono h1 (fun _ s2 q => wpAny_pure ⟨_, rfl, q⟩) fun _ _ e => e))) fun _ _ e => e)
        · cases hf
      · cases hf
    · split at hf
      · rename_i l hv
        split at hf
        · rename_i ns hns
          split at hf
          · rename_i hl
            cases hf
            obtain ⟨y, vs, k, e, hg, hr⟩ := r.view p hv
            subst e
            obtain ⟨hI, hE⟩ := ints_of hr hns
            have h64 := IntsAre.len hI
            have hL : s.heap.IsList y vs.toList.toArray := isList_of (by simpa using hg)
            refine wpAny_bind (collect_list hL ?_ (by rw [sizeLine_eq]; omega))
            have hk : ∀ b o, s.heap.get? b = some o → ((s.heap.push (seqObj "list" #[] 0)).update s.heap.objs.size (Obj.mapSeq (· ++ vs.toList.toArray))).get? b = some o := fun b o e => by
              rw [Heap.get?_update_ne _ _ _ _ (Nat.ne_of_lt (Heap.lt_size e))]
              exact Heap.get?_push_of_some _ e
            refine wpAny_bind (wpAny_mono (sort_core (tk := s.toks) r hk hI (by omega)) (fun L s1 h1 => wpAny_bind (wpAny_holding (wpAny_mono h1 (fun _ s2 q => wpAny_pure ⟨_, rfl, q⟩) fun _ _ e => e))) fun _ _ e => e)
          · cases hf
        · cases hf
      · cases hf
  · cases hf

/-- `sum` of a list of ints -/
def sumI : List Int → Int
  | [] => 0
  | x :: l => x + sumI l
theorem intsAre_items : ∀ {vs : List Value} {ns : List Int}, IntsAre vs ns → ∃ xs : List (Int × Tok), vs = xs.map (fun p => Value.int p.1 p.2) ∧ xs.map (·.1) = ns
  | _, _, .nil => ⟨[], rfl, rfl⟩
  | _, _, .cons n t h => by
    obtain ⟨xs, e1, e2⟩ := intsAre_items h
    exact ⟨(n, t) :: xs, by rw [e1]; rfl, by rw [← e2]; rfl⟩
theorem preSum_sumI : ∀ xs : List (Int × Tok), preSum (fun i => (xs[i]?.map (·.1)).getD 0) xs.length = sumI (xs.map (·.1))
  | [] => rfl
  | p :: l => by
    rw [List.length_cons, kdu_shift]
    simp only [List.getElem?_cons_succ]
    rw [preSum_sumI l]
    rfl
def sumF : List AV → List AV → M AV
  | [a], [] => fun σ => match viewL σ a with
    | some l => (match toInts l with
      | some ns => some (.int (sumI ns), σ)
      | none => none)
    | none => none
  | _, _ => M.fail
theorem SimV.sum : SimV W n (.builtin "sum") [] sumF := by
  intro A σ σ' G s args kws ms ks' v hA r hne p2 p3 hf
  refine ⟨.bi, ?_⟩
  unfold sumF at hf
  split at hf
  · obtain ⟨x, e, p⟩ := Reps.one p2
    rw [zipNil p3]
    subst e
    split at hf
    · rename_i l hv
      split at hf
      · rename_i ns hns
        cases hf
        obtain ⟨y, vs, k, e, hg, hr⟩ := r.view p hv
        subst e
        obtain ⟨hI, hE⟩ := ints_of hr hns
        obtain ⟨xs, e1, e2⟩ := intsAre_items hI
        have e1 : vs = intItems xs.toArray := by
          apply Array.toList_inj.mp
          rw [e1]; simp [intItems]
        subst e1
        refine sum_intListG hA.hd (isList_of hg) fun h' tk t' hk => ?_
        have : preSum (numAt xs.toArray) xs.toArray.size = sumI ns := by
          rw [← e2, ← preSum_sumI]
          have : numAt xs.toArray = fun i => (xs[i]?.map (·.1)).getD 0 := by funext i; simp [numAt]
          rw [this]; simp
        rw [this]
        exact ⟨G, .refl _, r.keep hk, _, rfl⟩
      · cases hf
    · cases hf
  · cases hf
end
end Mine
end

section
open PySem PySem.W PySem.Calls PyProof.Rows PySem.SeqAt
set_option Elab.async false
set_option maxRecDepth 20000
set_option linter.unusedSectionVars false
set_option linter.unusedVariables false
namespace Mine

theorem AOK.make {n : Nat} {A : Around} (h : AOK (n + 1) A) {C : Addr} {vals : List Value} {kw : List (Str × Value)} : AOK n (A.under (.builtin "type.__call__" ⟨.ref C :: vals, kw⟩)) := by
  have e1 : (A.under (.builtin "type.__call__" ⟨.ref C :: vals, kw⟩)).depth = A.depth + 1 := rfl
  have e2 : (A.under (.builtin "type.__call__" ⟨.ref C :: vals, kw⟩)).units ≤ A.units + 7 := by
    show A.units + (1 + 3 * Code.frames _) ≤ _
    have : Code.frames (.builtin "type.__call__" ⟨.ref C :: vals, kw⟩) ≤ 2 := by
      first
        | exact (fun e h => Nat.le_trans (Nat.le_of_eq e) h : ∀ {a b c : Nat}, a = b → b ≤ c → a ≤ c) (show Code.frames (.builtin "type.__call__" ⟨.ref C :: vals, kw⟩) = 0 from rfl) (by decide)
        | exact (fun e h => Nat.le_trans (Nat.le_of_eq e) h : ∀ {a b c : Nat}, a = b → b ≤ c → a ≤ c) (show Code.frames (.builtin "type.__call__" ⟨.ref C :: vals, kw⟩) = 1 from rfl) (by decide)
        | exact (fun e h => Nat.le_trans (Nat.le_of_eq e) h : ∀ {a b c : Nat}, a = b → b ≤ c → a ≤ c) (show Code.frames (.builtin "type.__call__" ⟨.ref C :: vals, kw⟩) = 0 by kernel_rfl) (by decide)
        | exact (fun e h => Nat.le_trans (Nat.le_of_eq e) h : ∀ {a b c : Nat}, a = b → b ≤ c → a ≤ c) (show Code.frames (.builtin "type.__call__" ⟨.ref C :: vals, kw⟩) = 1 by kernel_rfl) (by decide)
    omega
  exact ⟨h.hd, by rw [e1]; have := h.dep; omega, by have := h.un; omega⟩

section
variable {W : Wd} {X : Sc} {n : Nat}

/-! making an instance -/
def makeF (C : Addr) (site : Nat) (gI : List AV → List AV → M AV) (args kws : List AV) : M AV :=
  M.bind (allocA site (.ns [])) fun h => M.bind (gI (.inst C h :: args) kws) fun v => match v with
    | .none => M.pure (.inst C h)
    | _ => M.fail
theorem SimV.cls (ok : W.Ok) {C fI : Addr} {ks : List Str} (site : Nat) {gI : List AV → List AV → M AV} (hm : makesIn W.K C = true) (hi : findIn W.K (.ref C) "__init__" = some (some (.ref fI))) (hf : typeIn W.K (.ref fI) = some (.type "function")) (hkp : keepIn W.K (.ref C) = true)
    (h : SimCall W n (.ref fI) ks gI) : SimV W (n + 1) (.ref C) ks (makeF C site gI) := by
  intro A σ σ' G s args kws ms ks' v hA r hne p2 p3 he
  refine ⟨keeps_K hkp _ (r.kin ok), CP.call ?_⟩
  obtain ⟨hd, σ1, e1, he1⟩ := M.bind_some he
  clear he
  obtain ⟨v', σ2, e2, he2⟩ := M.bind_some he1
  clear he1
  cases e1
  split at he2
  · cases he2
    obtain ⟨G1, l1, r1, m1⟩ := r.allocObj (ob := emptyDict) (o := .ns []) rfl site (fun G' l' => ⟨[], 0, rfl, rfl⟩) (tk := s.toks)
    obtain ⟨r2, l2⟩ := r1.alloc .z (o := instObj C s.heap.objs.size) rfl (tk := s.toks)
    have lA := l1.trans l2
    obtain ⟨hh, g, d, t, os⟩ := s
    refine make_core (makes_of (r.kin ok) hm) (looks_findIn (r.kin ok) hi) (fun self => bind_fn (r.kin ok) self hf) (.inl rfl) ?_
    have hsz : (hh.push emptyDict).objs.size = hh.objs.size + 1 := Heap.size_push ..
    dsimp only at r2 l2 m1 lA ⊢
    generalize hG2 : G1.set (hh.push emptyDict).objs.size Tag.z (instObj C hh.objs.size) = G2 at r2 l2 lA
    have hz : G2.z (hh.objs.size + 1) = some (instObj C hh.objs.size) := by
      rw [← hG2, ← hsz]; exact Gh.z_iff.mpr Gh.set_self
    have hp : Rep W G2 (.inst C (site, σ.cnt)) (.ref (hh.objs.size + 1)) := ⟨_, _, rfl, l2.mu _ _ m1, hz⟩
    refine codeAny_mono (h _ _ σ' G2 _ (.inst C (site, σ.cnt) :: args) kws (.ref (hh.objs.size + 1) :: ms) ks' .none hA.make r2 (by rw [lA.fr]; exact hne) ⟨_, _, rfl, hp, Reps.le p2 lA⟩ (Reps.le p3 lA) e2) fun rr s' w => ?_
    match rr, w with
    | .ok (.ret u), ⟨G', l', r', p'⟩ =>
      cases p'
      exact ⟨rfl, G', lA.trans l', r', hp.le l'⟩
  · cases he2

/-! membership -/
open Classical in
theorem eqAt_list {A : Around} {s : Shared} {d : PyData} {x : Value} {as : List Addr} (rx : Reads s.heap x d as) (hd : dOk d = true) (hu : A.units ≤ 9000) {ds : List PyData} {vs : List Value} {bs : List Addr} (h : ReadsAll s.heap vs ds bs) (hds : ds.all dOk = true) :
    ∃ e : Value → Bool, (∀ y ∈ vs, EqAt A s y x (e y)) ∧ vs.any e = ds.any fun z => PyData.eqv z d := by
  have key : ∀ (y : Value) (dy : PyData) (cs : List Addr), Reads s.heap y dy cs → dOk dy = true → EqAt A s y x (PyData.eqv dy d) := fun y dy cs ry hy =>
    eqAt_reads dy d A s y x cs as ry rx (dOk.can hy) (dOk.can hd) (by
      unfold dOk at hy
      rw [Bool.and_eq_true, decide_eq_true_eq] at hy
      unfold cLine
      omega)
  let e : Value → Bool := fun y => decide (∃ dy cs, Reads s.heap y dy cs ∧ dOk dy = true ∧ PyData.eqv dy d = true)
  have he : ∀ y dy cs, Reads s.heap y dy cs → dOk dy = true → e y = PyData.eqv dy d := fun y dy cs ry hy => by
    cases hq : PyData.eqv dy d with
    | true => exact decide_eq_true ⟨dy, cs, ry, hy, hq⟩
    | false =>
      refine decide_eq_false ?_
      rintro ⟨dz, cz, rz, hz, qz⟩
      have := PySem.SeqAt.Reads.unique dy dz y cs cz (dOk.can hy) ry rz
      subst this
      rw [hq] at qz; cases qz
  have main : ∀ {ds : List PyData} {vs : List Value} {bs : List Addr}, ReadsAll s.heap vs ds bs → ds.all dOk = true → (∀ y ∈ vs, EqAt A s y x (e y)) ∧ vs.any e = ds.any fun z => PyData.eqv z d := by
    intro ds
    induction ds with
    | nil => intro vs bs h _; cases h; exact ⟨fun y hy => by simp at hy, rfl⟩
    | cons dy ds ih =>
      intro vs bs h hds
      cases h with
      | cons ry rest =>
        rw [List.all_cons, Bool.and_eq_true] at hds
        obtain ⟨i1, i2⟩ := ih rest hds.2
        refine ⟨fun y hy => ?_, by rw [List.any_cons, List.any_cons, he _ _ _ ry hds.1, i2]⟩
        rcases List.mem_cons.mp hy with rfl | hy
        · rw [he _ _ _ ry hds.1]; exact key _ _ _ ry hds.1
        · exact i1 y hy
  exact ⟨e, main h hds⟩

def inA (a b : AV) : M AV := fun σ => match viewL σ b with
  | some l => (match toD a, toDs l with
    | some d, some ds => if dOk d && ds.all dOk then some (.bool (ds.any fun x => PyData.eqv x d), σ) else none
    | _, _ => none)
  | none => (dget σ b a).map fun o => (AV.bool o.isSome, σ)
def notInA (a b : AV) : M AV := fun σ => match viewL σ b with
  | some l => (match toD a, toDs l with
    | some d, some ds => if dOk d && ds.all dOk then some (.bool (!ds.any fun x => PyData.eqv x d), σ) else none
    | _, _ => none)
  | none => (dget σ b a).map fun o => (AV.bool (!o.isSome), σ)
theorem AOK.un9 {A : Around} (h : AOK n A) : A.in1.units ≤ 9001 := by
  have := h.un
  show A.units + 1 ≤ 9001
  omega
theorem dRep.some {G : Gh} {o : Option AV} {m : Option Value} (h : dRep W G o m) : m.isSome = o.isSome := by
  cases o with
  | some v => obtain ⟨x, e, _⟩ := h; rw [e]; rfl
  | none => rw [show m = Option.none from h]; rfl
theorem Op2.in (ok : W.Ok) : Op2 W (Rep W) (n + 1) (compareOp .In) inA := by
  intro A σ σ' G s a b c ma mb hA r pa pb hf
  unfold inA at hf
  split at hf
  · rename_i l hv
    split at hf
    · rename_i d ds hd hds
      split at hf
      · rename_i hok
        rw [Bool.and_eq_true] at hok
        cases hf
        obtain ⟨y, vs, k, e, hg, hr⟩ := r.view pb hv
        subst e
        obtain ⟨as, ra⟩ := reads_of (h := s.heap) (fun _ _ q => r.z q) a _ _ pa hd
        obtain ⟨bs, rb⟩ := reads_ofs (h := s.heap) (fun _ _ q => r.z q) l _ _ hr hds
        obtain ⟨e, e1, e2⟩ := eqAt_list (A := A.in1) ra hok.1 (by have := hA.in1.un; omega) rb hok.2
        refine in_listAt e (isList_of hg) (fun y hy => e1 y (Array.mem_toList_iff.mpr hy)) (.now r ?_)
        rw [← Array.any_toList, e2]; rfl
      · cases hf
    · cases hf
  · obtain ⟨o, e1, e2⟩ := Option.map_eq_some_iff.mp hf
    cases e2
    obtain ⟨d, κ, _, knd, kk, kvs, e, hsy, hD, hkey, hpart, hr⟩ := r.dget ok pb pa e1
    subst e
    exact wpAny_in_of hkey hsy hD.mapOf (.now r.tok (by rw [dRep.some hr]; rfl))
theorem Op2.notIn (ok : W.Ok) : Op2 W (Rep W) (n + 1) (compareOp .NotIn) notInA := by
  intro A σ σ' G s a b c ma mb hA r pa pb hf
  unfold notInA at hf
  split at hf
  · rename_i l hv
    split at hf
    · rename_i d ds hd hds
      split at hf
      · rename_i hok
        rw [Bool.and_eq_true] at hok
        cases hf
        obtain ⟨y, vs, k, e, hg, hr⟩ := r.view pb hv
        subst e
        obtain ⟨as, ra⟩ := reads_of (h := s.heap) (fun _ _ q => r.z q) a _ _ pa hd
        obtain ⟨bs, rb⟩ := reads_ofs (h := s.heap) (fun _ _ q => r.z q) l _ _ hr hds
        obtain ⟨e, e1, e2⟩ := eqAt_list (A := A.in1) ra hok.1 (by have := hA.in1.un; omega) rb hok.2
        refine notIn_listAt e (isList_of hg) (fun y hy => e1 y (Array.mem_toList_iff.mpr hy)) (.now r ?_)
        rw [← Array.any_toList, e2]; rfl
      · cases hf
    · cases hf
  · obtain ⟨o, e1, e2⟩ := Option.map_eq_some_iff.mp hf
    cases e2
    obtain ⟨d, κ, _, knd, kk, kvs, e, hsy, hD, hkey, hpart, hr⟩ := r.dget ok pb pa e1
    subst e
    exact wpAny_notIn_of hkey hsy hD.mapOf (.now r.tok (by rw [dRep.some hr]; rfl))
end
end Mine
end

section
open PySem PySem.W PySem.Calls PyProof.Rows
set_option Elab.async false
set_option maxRecDepth 20000
set_option linter.unusedSectionVars false
set_option linter.unusedVariables false
namespace Mine

/-- the ghost at a law's start -/
def Gh.start (W : Wd) (tabs : List Addr) (X : Sc) (L : Addr) (cs : List (Str × Addr)) (h : Heap) : Gh :=
  { kn := fun b => if b = L then (h.get? b).map (Tag.loc 0, ·) else match cellSlot X.names cs b with
      | some i => (h.get? b).map (Tag.cel 0 i, ·)
      | none => if b ∈ tabs then (h.get? b).map (Tag.pin, ·) else (W.H0.get? b).map (Tag.z, ·)
    mu := fun _ => none
    fr := [⟨X.names, L, cs⟩] }

theorem R.start {W : Wd} {X : Sc} {ps : List Str} {tabs : List Addr} {s : Shared} {L : Addr} {m cm : Str → Option Value} {cs : List (Str × Addr)} {vals : List AV} {ms : List Value} (F : FnSc X ps)
    (hTB : W.TB = []) (hkeep : ∀ b o, W.H0.get? b = some o → s.heap.get? b = some o) (hL : s.heap.Ns L m) (hLf : W.H0.get? L = none) (htab : ∀ P ∈ tabs, W.H0.get? P = none ∧ P ≠ L ∧ ∀ x, (x, P) ∉ cs)
    (hcs : ∀ (i : Nat) x, X.names[i]? = some (x, NameKind.cell) → ∃ c o, cs.lookup x = some c ∧ c ≠ L ∧ W.H0.get? c = none ∧ s.heap.get? c = some o ∧ o.data = .cell (cm x))
    (hfree : ∀ x c, cs.lookup x = some c → W.H0.get? c = none)
    (hapart : cs.Pairwise fun x y => x.2 ≠ y.2)
    (hm : ∀ (i : Nat) x, X.names[i]? = some (x, NameKind.local) → m x = (ps.zip ms).lookup x) (hcm : ∀ (i : Nat) x, X.names[i]? = some (x, NameKind.cell) → cm x = (ps.zip ms).lookup x)
    (hv : RepVs ⟨fun a => (W.H0.get? a), fun _ => none, fun _ _ => False, fun o l => DictOb (strKind W.prog W.w) o l⟩ vals ms) (hos : s.os = W.os) (hg : s.gens = #[]) (hsy : SysK (Gh.start W tabs X L cs s.heap).kn) :
    R W (Gh.start W tabs X L cs s.heap) ⟨[initF X.names (ps.zip vals)], fun _ => none, 0⟩ s ∧ (∀ P ∈ tabs, ∀ o, s.heap.get? P = some o → (Gh.start W tabs X L cs s.heap).kn P = some (.pin, o)) := by
  obtain ⟨oL, hoL, hnL⟩ := NsOb.of hL
  have hslot : ∀ (i : Nat) y c, X.names[i]? = some (y, NameKind.cell) → cs.lookup y = some c → cellSlot X.names cs c = some i := fun i y c hi hc => by
    unfold cellSlot
    obtain ⟨hl, he⟩ := List.getElem?_eq_some_iff.mp hi
    rw [List.findIdx?_eq_some_iff_getElem]
    refine ⟨hl, by rw [he]; simp [hc], fun j hj => ?_⟩
    simp only [Bool.and_eq_true, beq_iff_eq, not_and]
    intro hk hc'
    have e : X.names[j].1 = y := name_of_addr hapart (mem_of_lookup hc') (mem_of_lookup hc)
    have : j = i := nodup_at F.nd (i := j) (j := i) (x := y) (a := X.names[j].2) (b := NameKind.cell) (by rw [List.getElem?_eq_getElem (by omega)]; rw [← e]) hi
    omega
  have hnoslot : ∀ b, (∀ x, cs.lookup x = some b → False) → cellSlot X.names cs b = none := fun b hb => by
    unfold cellSlot
    rw [List.findIdx?_eq_none_iff]
    intro p _
    simp only [Bool.and_eq_false_iff, beq_eq_false_iff_ne]
    right
    exact fun e => hb _ e
  have kz : ∀ b o, W.H0.get? b = some o → (Gh.start W tabs X L cs s.heap).kn b = some (.z, o) := fun b o e => by
    show (if b = L then _ else _) = _
    rw [if_neg (by rintro rfl; rw [hLf] at e; cases e), hnoslot b (fun x hx => by rw [hfree x b hx] at e; cases e)]
    dsimp only
    rw [if_neg (fun hb => by rw [(htab b hb).1] at e; cases e), e]; rfl
  have kp : ∀ P ∈ tabs, ∀ o, s.heap.get? P = some o → (Gh.start W tabs X L cs s.heap).kn P = some (.pin, o) := fun P hP o e => by
    show (if P = L then _ else _) = _
    rw [if_neg (htab P hP).2.1, hnoslot P (fun x hx => (htab P hP).2.2 x (mem_of_lookup hx))]
    dsimp only
    rw [if_pos hP, e]; rfl
  have hvw : (⟨fun a => (W.H0.get? a), fun _ => none, fun _ _ => False, fun o l => DictOb (strKind W.prog W.w) o l⟩ : Vw).Le ((Gh.start W tabs X L cs s.heap).vw W) :=
    ⟨fun a o e => Gh.z_iff.mpr (kz a o e), fun n a e => absurd e (by simp), fun _ _ (e : False) => e.elim, fun _ _ e => e⟩
  have hv' := RepVs.mono hvw _ _ hv
  refine ⟨⟨⟨fun b o _ e => kz b o e, ⟨_, [], rfl, ⟨F.nd, by simp [initF], ⟨oL, m, ?_, hnL, fun i y hi v e => ?_⟩, fun i y hi => ?_⟩, rfl⟩, fun n o e => absurd e (by simp), fun n a e => absurd e (by simp [Gh.start]), hsy⟩, fun a t o e => ?_, hos, hg⟩, kp⟩
  · show (if L = L then _ else _) = _
    rw [if_pos rfl, hoL]; rfl
  · have e : (initF X.names (ps.zip vals))[i]? = some (some v) := e
    unfold initF at e
    rw [List.getElem?_map, hi] at e
    have e : (ps.zip vals).lookup y = some v := Option.some.inj e
    obtain ⟨mv, e1, e2⟩ := zip_lookup ps vals ms hv' y v e
    exact ⟨mv, by rw [hm i y hi, e1], e2⟩
  · obtain ⟨c, oc, hc, hcl, _, ho, hd⟩ := hcs i y hi
    refine ⟨c, oc, _, hc, ?_, hd, fun v e => ?_⟩
    · show (if c = L then _ else _) = _
      rw [if_neg hcl, hslot i y c hi hc, ho]; rfl
    · unfold initF at e
      rw [List.getElem?_map, hi] at e
      have e : (ps.zip vals).lookup y = some v := Option.some.inj e
      obtain ⟨mv, e1, e2⟩ := zip_lookup ps vals ms hv' y v e
      exact ⟨mv, by rw [hcm i y hi, e1], e2⟩
  · have e : (if a = L then (s.heap.get? a).map (Tag.loc 0, ·) else match cellSlot X.names cs a with
      | some i => (s.heap.get? a).map (Tag.cel 0 i, ·)
      | none => if a ∈ tabs then (s.heap.get? a).map (Tag.pin, ·) else (W.H0.get? a).map (Tag.z, ·)) = some (t, o) := e
    split at e
    · obtain ⟨o', e1, e2⟩ := Option.map_eq_some_iff.mp e
      cases e2; exact e1
    · split at e
      · obtain ⟨o', e1, e2⟩ := Option.map_eq_some_iff.mp e
        cases e2; exact e1
      · split at e
        · obtain ⟨o', e1, e2⟩ := Option.map_eq_some_iff.mp e
          cases e2; exact e1
        · obtain ⟨o', e1, e2⟩ := Option.map_eq_some_iff.mp e
          cases e2; exact hkeep _ _ e1
theorem R.startEnv {W : Wd} {X : Sc} {tabs : List Addr} {s : Shared} {env : Env} (hk : X.scope.kind = .function) (hsc : env.scope = X.scope) (hg : env.globals = mainGlobals) (hb : env.builtins = builtinsNs) (hf : ∃ f, env.frame = some f) (hup : X.up = []) (hbot : X.bot = []) :
    EnvOK X env (Gh.start W tabs X env.locals env.cells s.heap) :=
  ⟨hsc, hk, hg, hb, hf, ⟨_, _, rfl, rfl, rfl, fun _ _ => rfl⟩, fun x k i h => by rw [hup] at h; simp at h, fun x i h => by rw [hbot] at h; simp at h⟩
end Mine
end

section
open PySem PySem.W PySem.Calls PyProof.Rows
set_option Elab.async false
set_option maxRecDepth 20000
set_option linter.unusedSectionVars false
set_option linter.unusedVariables false
namespace Mine

/-! scopes that are computed -/
def ownN (s : Scope) : List (Str × NameKind) := s.names.filter fun p => p.2 == .local || p.2 == .cell
def slotIn : List (Str × NameKind) → Str → Nat → Option (Nat × NameKind)
  | [], _, _ => none
  | (y, k) :: l, x, n => if y = x then some (n, k) else slotIn l x (n + 1)
theorem slotIn_get : ∀ {l : List (Str × NameKind)} {x : Str} {n i : Nat} {k : NameKind}, slotIn l x n = some (i, k) → n ≤ i ∧ l[i - n]? = some (x, k)
  | [], _, _, _, _, h => by cases h
  | (y, k') :: l, x, n, i, k, h => by
    unfold slotIn at h
    split at h
    · rename_i e
      cases h
      subst e
      exact ⟨Nat.le_refl _, by simp⟩
    · obtain ⟨h1, h2⟩ := slotIn_get h
      refine ⟨by omega, ?_⟩
      obtain ⟨j, rfl⟩ : ∃ j, i = n + 1 + j := ⟨i - (n + 1), by omega⟩
      rw [show n + 1 + j - n = j + 1 by omega]
      rw [show n + 1 + j - (n + 1) = j by omega] at h2
      simpa using h2
def nodupB : List Str → Bool
  | [] => true
  | x :: l => !l.contains x && nodupB l
theorem nodupB_of : ∀ {l : List Str}, nodupB l = true → l.Nodup
  | [], _ => .nil
  | x :: l, h => by
    unfold nodupB at h
    rw [Bool.and_eq_true, Bool.not_eq_true'] at h
    rw [List.nodup_cons]
    refine ⟨fun hm => ?_, nodupB_of h.2⟩
    have := List.contains_iff_mem.mpr hm
    rw [h.1] at this; cases this

def fnScB (s : Scope) (ps : List Str) : Bool := s.kind == .function && nodupB (s.names.map (·.1)) && nodupB ps && ps.all fun p => (slotIn (ownN s) p 0).isSome
def fnSc (s : Scope) : Sc := ⟨s, ownN s, [], []⟩
theorem lookup_of_nodup {l : List (Str × NameKind)} (nd : (l.map (·.1)).Nodup) {p : Str × NameKind} (h : p ∈ l) : l.lookup p.1 = some p.2 := by
  induction l with
  | nil => simp at h
  | cons q r ih =>
    obtain ⟨y, k⟩ := q
    rw [List.map_cons, List.nodup_cons] at nd
    rw [List.lookup_cons]
    rcases List.mem_cons.mp h with rfl | h2
    · simp
    · have : (p.1 == y) = false := by
        simp only [beq_eq_false_iff_ne, ne_eq]
        intro e
        exact nd.1 (by rw [← e]; exact List.mem_map_of_mem (f := (·.1)) h2)
      rw [this]
      exact ih nd.2 h2
theorem ownN_mem {s : Scope} {p : Str × NameKind} (h : p ∈ ownN s) : p ∈ s.names ∧ (p.2 = .local ∨ p.2 = .cell) := by
  unfold ownN at h
  rw [List.mem_filter] at h
  refine ⟨h.1, ?_⟩
  have := h.2
  rw [Bool.or_eq_true] at this
  rcases this with e | e
  · left; revert e; cases p.2 <;> decide
  · right; revert e; cases p.2 <;> decide
theorem ownN_nodup {s : Scope} (nd : (s.names.map (·.1)).Nodup) : ((ownN s).map (·.1)).Nodup :=
  nd.sublist (List.Sublist.map _ List.filter_sublist)
theorem fnSc_of {s : Scope} {ps : List Str} (h : fnScB s ps = true) : FnSc (fnSc s) ps := by
  unfold fnScB at h
  simp only [Bool.and_eq_true] at h
  obtain ⟨⟨⟨h1, h2⟩, h3⟩, h4⟩ := h
  have nd := nodupB_of h2
  refine ⟨by revert h1; cases hk : s.kind <;> first | (intro _; exact hk) | (intro q; exact absurd q (by decide)), ownN_nodup nd, nodupB_of h3, fun y hy => (ownN_mem hy).2, fun y hy => lookup_of_nodup nd (ownN_mem hy).1, fun y hy => (ownN_mem hy).1, rfl, rfl, fun p hp => ?_⟩
  have := List.all_eq_true.mp h4 p hp
  obtain ⟨⟨i, k⟩, hi⟩ := Option.isSome_iff_exists.mp this
  obtain ⟨_, hi⟩ := slotIn_get hi
  have hm := List.mem_of_getElem? hi
  rcases (ownN_mem hm).2 with e | e
  · left; rw [← e]; exact hm
  · right; rw [← e]; exact hm

/-- the scope of a comprehension in `X` -/
def upOf (X : Sc) : List (Str × NameKind) → List (Str × (Nat × Nat))
  | [] => []
  | (x, k) :: l => if k = .free then (match slotIn X.names x 0 with
      | some (i, .cell) => (x, (1, i)) :: upOf X l
      | _ => (match X.up.lookup x with
        | some (j, i) => (x, (j + 1, i)) :: upOf X l
        | none => upOf X l)) else upOf X l
def botOf (X : Sc) : List (Str × NameKind) → List (Str × Nat)
  | [] => []
  | (x, k) :: l => if k = .free then (match X.bot.lookup x with
      | some i => (x, i) :: botOf X l
      | none => botOf X l) else botOf X l
def subSc (X : Sc) (scope : Scope) : Sc := ⟨relS X.scope scope, scope.names.filter fun p => p.2 == .local, upOf X scope.names, botOf X scope.names⟩
def subScB (X : Sc) (scope : Scope) : Bool := scope.kind == .function && nodupB (scope.names.map (·.1)) && (scope.names.all fun p => !(p.2 == .cell)) &&
  scope.names.all fun p => !(p.2 == .free) || (match slotIn X.names p.1 0 with | some (_, .cell) => true | _ => false) || (X.up.lookup p.1).isSome || (X.bot.lookup p.1).isSome
theorem mem_of_lookup' {β : Type} {l : List (Str × β)} {x : Str} {b : β} (h : l.lookup x = some b) : (x, b) ∈ l := by
  induction l with
  | nil => simp at h
  | cons p r ih =>
    obtain ⟨y, c⟩ := p
    rw [List.lookup_cons] at h
    cases e : x == y with
    | true =>
      rw [e] at h
      cases h
      rw [beq_iff_eq.mp e]
      exact List.mem_cons_self ..
    | false => rw [e] at h; exact List.mem_cons_of_mem _ (ih h)
theorem upOf_mem {X : Sc} : ∀ {l : List (Str × NameKind)} {x : Str} {k i : Nat}, (x, (k, i)) ∈ upOf X l → (x, NameKind.free) ∈ l ∧ 1 ≤ k ∧ ((k = 1 ∧ X.names[i]? = some (x, NameKind.cell)) ∨ (x, (k - 1, i)) ∈ X.up)
  | [], _, _, _, h => by simp [upOf] at h
  | (y, kd) :: l, x, k, i, h => by
    have rec_ : (x, (k, i)) ∈ upOf X l → (x, NameKind.free) ∈ (y, kd) :: l ∧ 1 ≤ k ∧ ((k = 1 ∧ X.names[i]? = some (x, NameKind.cell)) ∨ (x, (k - 1, i)) ∈ X.up) := fun h => by
      obtain ⟨a, b⟩ := upOf_mem h
      exact ⟨List.mem_cons_of_mem _ a, b⟩
    unfold upOf at h
    split at h
    · rename_i hk
      subst hk
      split at h
      · rename_i j hj
        rcases List.mem_cons.mp h with h | h
        · cases h
          obtain ⟨_, q⟩ := slotIn_get hj
          exact ⟨List.mem_cons_self .., Nat.le_refl _, .inl ⟨rfl, q⟩⟩
        · exact rec_ h
      · split at h
        · rename_i j i' hj
          rcases List.mem_cons.mp h with h | h
          · cases h
            exact ⟨List.mem_cons_self .., by omega, .inr (mem_of_lookup' hj)⟩
          · exact rec_ h
        · exact rec_ h
    · exact rec_ h
theorem botOf_mem {X : Sc} : ∀ {l : List (Str × NameKind)} {x : Str} {i : Nat}, (x, i) ∈ botOf X l → (x, NameKind.free) ∈ l ∧ (x, i) ∈ X.bot
  | [], _, _, h => by simp [botOf] at h
  | (y, kd) :: l, x, i, h => by
    have rec_ : (x, i) ∈ botOf X l → (x, NameKind.free) ∈ (y, kd) :: l ∧ (x, i) ∈ X.bot := fun h => by
      obtain ⟨a, b⟩ := botOf_mem h
      exact ⟨List.mem_cons_of_mem _ a, b⟩
    unfold botOf at h
    split at h
    · rename_i hk
      subst hk
      split at h
      · rename_i j hj
        rcases List.mem_cons.mp h with h | h
        · cases h
          exact ⟨List.mem_cons_self .., mem_of_lookup' hj⟩
        · exact rec_ h
      · exact rec_ h
    · exact rec_ h
theorem kind_beq {a b : NameKind} : (a == b) = true ↔ a = b := by cases a <;> cases b <;> decide
theorem subSc_of {X : Sc} {scope : Scope} (h : subScB X scope = true) : SubSc X scope (subSc X scope) := by
  unfold subScB at h
  simp only [Bool.and_eq_true] at h
  obtain ⟨⟨⟨h1, h2⟩, h3⟩, h4⟩ := h
  have nd := nodupB_of h2
  refine ⟨rfl, by revert h1; cases hk : scope.kind <;> first | (intro _; rfl) | (intro q; exact absurd q (by decide)), fun y hy e => ?_, fun y hy e => ?_, fun y hy => ?_, nd.sublist (List.Sublist.map _ List.filter_sublist), fun x k i h => upOf_mem h, fun x i h => botOf_mem h, fun x hx => ?_⟩
  · have := List.all_eq_true.mp h3 y hy
    rw [e] at this
    exact absurd this (by decide)
  · rw [lookup_of_nodup nd hy, e]
  · exact kind_beq.mp (List.mem_filter.mp hy).2
  · have := List.all_eq_true.mp h4 _ hx
    dsimp only at this
    simp only [Bool.or_eq_true] at this
    rcases this with ((h | h) | h) | h
    · exact absurd h (by decide)
    · left
      split at h
      · rename_i j hj
        obtain ⟨_, q⟩ := slotIn_get hj
        exact List.mem_of_getElem? q
      · cases h
    · right; left
      obtain ⟨⟨k, i⟩, q⟩ := Option.isSome_iff_exists.mp h
      exact ⟨k, i, mem_of_lookup' q⟩
    · right; right
      obtain ⟨i, q⟩ := Option.isSome_iff_exists.mp h
      exact ⟨i, mem_of_lookup' q⟩

/-! names by computed slots -/
structure Ctx (W : Wd) (gt bt : List (Str × Value)) : Prop where
  ok : W.Ok
  mg : ∀ x v, gt.lookup x = some v → W.mg x = some v
  mb : ∀ x v, bt.lookup x = some v → W.mg x = none ∧ W.mb x = some v

section
variable {W : Wd} {X : Sc} {n : Nat} {gt bt : List (Str × Value)}
theorem Sim.ownL {x : Str} {i : Nat} (h : slotIn X.names x 0 = some (i, .local)) (hl : X.scope.names.lookup x = some .local) : Sim W (Rep W) (EF X) n (fun env => loadName env x) (ldv 0 i) := Sim.load_local (slotIn_get h).2 hl
theorem Sim.ownC {x : Str} {i : Nat} (h : slotIn X.names x 0 = some (i, .cell)) (hl : X.scope.names.lookup x = some .cell) : Sim W (Rep W) (EF X) n (fun env => loadName env x) (ldv 0 i) := Sim.load_cell (slotIn_get h).2 hl
theorem Sim.upF {x : Str} {k i : Nat} (h : X.up.lookup x = some (k, i)) (hl : X.scope.names.lookup x = some .free) (hx : (x == ("__classdict__" : Str)) = false) : Sim W (Rep W) (EF X) n (fun env => loadName env x) (ldv k i) := Sim.load_up (mem_of_lookup' h) (.inl hl) hx
theorem Sim.upC {x : Str} {k i : Nat} (h : X.up.lookup x = some (k, i)) (hl : X.scope.names.lookup x = some .cell) (hx : (x == ("__classdict__" : Str)) = false) : Sim W (Rep W) (EF X) n (fun env => loadName env x) (ldv k i) := Sim.load_up (mem_of_lookup' h) (.inr hl) hx
theorem Sim.botF {x : Str} {i : Nat} (h : X.bot.lookup x = some i) (hl : X.scope.names.lookup x = some .free) (hx : (x == ("__classdict__" : Str)) = false) : Sim W (Rep W) (EF X) n (fun env => loadName env x) (ldb i) := Sim.load_bot (mem_of_lookup' h) (.inl hl) hx
theorem Sim.glob (c : Ctx W gt bt) {x : Str} {v : Value} (hl : X.scope.names.lookup x = some .globalImplicit) (hv : gt.lookup x = some v) : Sim W (Rep W) (EF X) n (fun env => loadName env x) (M.pure (.mc v)) := Sim.load_glob c.ok hl (c.mg _ _ hv)
theorem Sim.bui (c : Ctx W gt bt) {x : Str} {v : Value} (hl : X.scope.names.lookup x = some .globalImplicit) (hv : bt.lookup x = some v) : Sim W (Rep W) (EF X) n (fun env => loadName env x) (M.pure (.mc v)) := Sim.load_bui c.ok hl (c.mb _ _ hv).1 (c.mb _ _ hv).2
theorem SimT.ownL {x : Str} {i : Nat} {pos : Pos} (h : slotIn X.names x 0 = some (i, .local)) (hl : X.scope.names.lookup x = some .local) : SimT W X n (.Name x pos) (stv i) := SimT.local (slotIn_get h).2 hl
theorem SimT.ownC {x : Str} {i : Nat} {pos : Pos} (h : slotIn X.names x 0 = some (i, .cell)) (hl : X.scope.names.lookup x = some .cell) : SimT W X n (.Name x pos) (stv i) := SimT.cell (slotIn_get h).2 hl
theorem SimN.ownL {x : Str} {i : Nat} (h : slotIn X.names x 0 = some (i, .local)) (hl : X.scope.names.lookup x = some .local) : SimN W X n x (stv i) := SimN.local (slotIn_get h).2 hl
theorem SimN.ownC {x : Str} {i : Nat} (h : slotIn X.names x 0 = some (i, .cell)) (hl : X.scope.names.lookup x = some .cell) : SimN W X n x (stv i) := SimN.cell (slotIn_get h).2 hl
end
end Mine
end

section
open PySem PySem.W PySem.Calls PyProof.Rows
set_option Elab.async false
set_option maxRecDepth 20000
set_option linter.unusedSectionVars false
set_option linter.unusedVariables false
namespace Mine

section
variable {W : Wd} {X : Sc} {n : Nat}

/-! f-strings -/
def partA : AV → M Str
  | .str x => if x.length ≤ 1000 then M.pure x else M.fail
  | .int a => if smallI a then M.pure (toString a : String) else M.fail
  | _ => M.fail
/-- a part of an f-string gives a str of which the text is known -/
def SimFP (W : Wd) (X : Sc) (n : Nat) (e : Expr) (f : M Str) : Prop := Sim W (fun _ x v => ∃ t, v = .str x t) (EF X) n (fun env => eval e env) f
theorem SimFP.lit {x : Str} {k : Nat} {pos : Pos} : SimFP W X n (.Constant (.str x) k pos) (M.pure x) := fun env A σ b σ' G s P hA r hf => by
  cases hf; exact wpAny_Constant_str (.now r.tok ⟨_, rfl⟩)
theorem SimFP.val {e : Expr} {pos : Pos} {f : M AV} (h : SimE W X n e f) : SimFP W X n (.FormattedValue e (-1) Option.none pos) (M.bind f partA) := by
  intro env A σ b σ' G s P hA r hf
  obtain ⟨a, σ1, e1, hf⟩ := M.bind_some hf
  refine wpAny_FormattedValue_plain (wpAny_mono (h env A _ _ _ G s P hA r e1) (fun mv s1 ⟨G1, l1, r1, p1⟩ => ?_) fun _ _ e => e)
  unfold partA at hf
  split at hf
  · split at hf
    · rename_i hx
      cases hf
      obtain ⟨t, rfl⟩ := p1
      exact wpAny_formatField_str ⟨G1, l1, r1, _, rfl⟩ ⟨G1, l1, r1.tok, _, rfl⟩ (by rw [sizeLine_eq]; omega)
    · cases hf
  · split at hf
    · rename_i hx
      cases hf
      obtain ⟨t, rfl⟩ := p1
      exact wpAny_formatField_int (smallI_log hx) ⟨G1, l1, r1.tok, _, rfl⟩
    · cases hf
  · cases hf
/-- the parts, joined -/
def SimJ (W : Wd) (X : Sc) (n : Nat) (es : List Expr) (f : Str → M Str) : Prop :=
  ∀ env A σ acc b σ' G s (Q : Str → Shared → Prop), EnvOK X env G → AOK n A → R W G σ s → f acc σ = some (b, σ') → (∀ G' s', G.Le G' → R W G' σ' s' → Q b s') → Joins W.M A (fun _ _ => False) (evalEach es env) acc Q s
theorem SimJ.nil : SimJ W X n [] (fun acc => if acc.length ≤ 4000 then M.pure acc else M.fail) := fun env A σ acc b σ' G s Q P hA r hf hQ => by
  dsimp only at hf
  split at hf
  · cases hf; exact hQ G s (.refl _) r
  · cases hf
theorem SimJ.cons {e : Expr} {es : List Expr} {f : M Str} {g : Str → M Str} (h1 : SimFP W X n e f) (h2 : SimJ W X n es g) (he : ∀ env, evalEach (e :: es) env = eval e env :: evalEach es env) :
    SimJ W X n (e :: es) (fun acc => M.bind f fun y => if (acc ++ y).length ≤ 4000 then g (acc ++ y) else M.fail) := by
  intro env A σ acc b σ' G s Q P hA r hf hQ
  obtain ⟨y, σ1, e1, hf⟩ := M.bind_some hf
  rw [he]
  show wpAny _ _ _ _ _ _
  refine wpAny_mono (h1 env A _ _ _ G s P hA r e1) (fun v s1 ⟨G1, l1, r1, ⟨t, p1⟩⟩ => ?_) fun _ _ e => e
  split at hf
  · rename_i hl
    exact ⟨y, t, p1, by rw [sizeLine_eq]; omega, h2 env A _ _ _ _ G1 s1 Q (P.mono l1) hA r1 hf fun G' s' l' r' => hQ G' s' (l1.trans l') r'⟩
  · cases hf
theorem SimE.fstr {v₁ v₂ : Expr} {rest : List Expr} {pos : Pos} {f : Str → M Str} (h : SimJ W X n (v₁ :: v₂ :: rest) f) :
    SimE W X n (.JoinedStr (v₁ :: v₂ :: rest) pos) (M.bind (f Str.empty) fun x => if x.length ≤ 4000 then M.pure (.str x) else M.fail) := by
  intro env A σ b σ' G s P hA r hf
  obtain ⟨x, σ1, e1, hf⟩ := M.bind_some hf
  split at hf
  · rename_i hl
    cases hf
    exact wpAny_JoinedStr (h env A _ _ _ _ G s _ P hA r e1 fun G' s' l' r' => ⟨by rw [sizeLine_eq]; omega, G', l', r'.tok, _, rfl⟩)
  · cases hf

/-! dict displays -/
def PRep (W : Wd) (G : Gh) : List (AV × AV) → List (Value × Value) → Prop
  | [], vs => vs = []
  | (a, b) :: l, vs => ∃ x y r, vs = (x, y) :: r ∧ Rep W G a x ∧ Rep W G b y ∧ PRep W G l r
theorem PRep.le {G G' : Gh} (h : G.Le G') : ∀ {l : List (AV × AV)} {vs}, PRep W G l vs → PRep W G' l vs
  | [], _, r => r
  | (a, b) :: l, _, ⟨x, y, r, e, h1, h2, h3⟩ => ⟨x, y, r, e, Rep.le h1 h, Rep.le h2 h, PRep.le h h3⟩
def SimPs (W : Wd) (X : Sc) (n : Nat) (kes : List (Expr × Expr)) (f : M (List (AV × AV))) : Prop :=
  ∀ pos, Sim W (PRep W) (EF X) n (fun env => evalPairs (kes.map fun p => (eval p.1 env, do let x ← eval p.2 env; standAt pos; pure x))) f
theorem SimPs.nil : SimPs W X n [] (M.pure []) := fun pos env A σ b σ' G s P hA r hf => by cases hf; exact wpAny_pure (.now r rfl)
theorem SimPs.cons {k v : Expr} {kes : List (Expr × Expr)} {f g : M AV} {h : M (List (AV × AV))} (h1 : SimE W X n k f) (h2 : SimE W X n v g) (h3 : SimPs W X n kes h) :
    SimPs W X n ((k, v) :: kes) (M.bind f fun a => M.bind g fun b => M.bind h fun l => M.pure ((a, b) :: l)) := by
  intro pos env A σ b σ' G s P hA r hf
  obtain ⟨a, σ1, e1, hf⟩ := M.bind_some hf
  obtain ⟨c, σ2, e2, hf⟩ := M.bind_some hf
  obtain ⟨l, σ3, e3, hf⟩ := M.bind_some hf
  cases hf
  show wpAny W.M A (do
    let kv ← eval k env
    let vv ← holding [kv] (do let x ← eval v env; standAt pos; pure x)
    return (kv, vv) :: (← holding [kv, vv] (evalPairs (kes.map fun p => (eval p.1 env, do let x ← eval p.2 env; standAt pos; pure x))))) _ _ s
  refine wpAny_bind (wpAny_mono (h1 env A _ _ _ G s P hA r e1) (fun ma s1 ⟨G1, l1, r1, p1⟩ => ?_) fun _ _ e => e)
  refine wpAny_bind (wpAny_holding (wpAny_bind (wpAny_mono (h2 env A _ _ _ G1 s1 (P.mono l1) hA r1 e2) (fun mb s2 ⟨G2, l2, r2, p2⟩ => wpAny_bind (wpAny_standAt (wpAny_pure ?_))) fun _ _ e => e)))
  refine wpAny_bind (wpAny_holding (wpAny_mono (h3 pos env A _ _ _ G2 s2 (P.mono (l1.trans l2)) hA r2 e3) (fun vs s3 ⟨G3, l3, r3, p3⟩ => wpAny_pure ?_) fun _ _ e => e))
  exact ⟨G3, (l1.trans l2).trans l3, r3, _, _, _, rfl, Rep.le p1 (l2.trans l3), Rep.le p2 l3, p3⟩

def strKs : List (AV × AV) → Option (List (Str × AV))
  | [] => some []
  | (a, b) :: l => match a, strKs l with
    | .str x, some r => some ((x, b) :: r)
    | _, _ => none
def mergeK (l : List (Str × AV)) (m : List (Str × AV)) : List (Str × AV) := m.foldl (fun acc kv => setK acc kv.1 kv.2) l
theorem carries_of {G : Gh} {l : List (AV × AV)} : ∀ {vs : List (Value × Value)} {m : List (Str × AV)}, PRep W G l vs → strKs l = some m → ∃ kvs, Carries (strKind W.prog W.w) vs kvs ∧ RepKV (G.vw W) m kvs := by
  induction l with
  | nil => intro vs m h e; cases e; cases h; exact ⟨[], trivial, rfl⟩
  | cons p l ih =>
    obtain ⟨a, b⟩ := p
    intro vs m h e
    obtain ⟨x, y, r, q, h1, h2, h3⟩ := h
    subst q
    unfold strKs at e
    split at e
    · rename_i z m' e1
      cases e
      obtain ⟨t, rfl⟩ := h1
      obtain ⟨kvs, c1, c2⟩ := ih h3 e1
      exact ⟨(z, y) :: kvs, ⟨strKind_is _ _ _ _, rfl, c1⟩, y, kvs, rfl, h2, c2⟩
    · cases e
theorem RepKV.merge {V : Vw} {m : List (Str × AV)} : ∀ {l : List (Str × AV)} {kvs kvs'}, RepKV V l kvs → RepKV V m kvs' → RepKV V (mergeK l m) (merged kvs kvs') := by
  induction m with
  | nil => intro l kvs kvs' h h'; cases h'; exact h
  | cons p m ih =>
    obtain ⟨k, a⟩ := p
    intro l kvs kvs' h h'
    obtain ⟨v, r, q, h1, h2⟩ := h'
    subst q
    exact ih (kvs := stored _ k v) (h.set h1 k) h2

theorem dict_disp {keys : List (Option Expr)} {values : List Expr} {pos : Pos} {kes : List (Expr × Expr)} {f : M (List (AV × AV))} (h : SimPs W X n kes f)
    (hsh : ∀ env, (evalEachOpt keys env).zip ((evalEach values env).map fun v => do let x ← v; standAt pos; pure x) = (kes.map fun p => (eval p.1 env, do let x ← eval p.2 env; standAt pos; pure x)).map fun p => (some p.1, p.2)) (h0 : kes ≠ []) (hlen : kes.length ≤ 15)
    {env : Env} {A : Around} {σ σ1 : St} {G : Gh} {s : Shared} {l : List (AV × AV)} {m : List (Str × AV)} {Q : Value → Shared → Prop} (P : EnvOK X env G) (hA : AOK n A) (r : R W G σ s) (e1 : f σ = some (l, σ1)) (hm : strKs l = some m)
    (hQ : ∀ d ob G' s', G.Le G' → (∀ o, G.kn d ≠ some (.pin, o)) → R W G' σ1 s' → G'.kn d = some (.pin, ob) → (∃ kvs, DictOb (strKind W.prog W.w) ob kvs ∧ RepKV (G'.vw W) (mergeK [] m) kvs) → (d == sysModules) = false → Q (.ref d) s') (ok : W.Ok) :
    wpAny W.M A (eval (.Dict keys values pos) env) Q (fun _ _ => False) s := by
  obtain ⟨r1, le1⟩ := r.alloc .pin (o := emptyDict) rfl (tk := s.toks)
  have hG0 : ∀ o, G.kn s.heap.objs.size ≠ some (.pin, o) := fun o e => by rw [r.fresh] at e; cases e
  refine wpAny_Dict_pairs (knd := strKind W.prog W.w) (pairs := kes.map fun p => (eval p.1 env, do let x ← eval p.2 env; standAt pos; pure x)) (hsh env) (by simpa using h0) (by simpa using hlen) ?_
  refine wpAny_mono (h pos env A _ _ _ _ _ (P.mono le1) hA r1 e1) (fun vs s2 ⟨G2, l2, r2, p2⟩ => ?_) fun _ _ e => e
  have k2 := l2.pin _ _ (Gh.set_self (G := G) (a := s.heap.objs.size) (t := .pin) (o := emptyDict))
  obtain ⟨kvs, c1, c2⟩ := carries_of p2 hm
  have hd0 : s2.heap.DictOf (strKind W.prog W.w) s.heap.objs.size [] := ⟨emptyDict, #[], 0, r2.sub _ _ _ k2, ⟨rfl, rfl, rfl⟩, rfl, fun _ he => by simp at he, Pairs.nil, List.nodup_nil⟩
  refine ⟨kvs, c1, hd0, fun h' hd hs => ?_⟩
  obtain ⟨ob, eo, q⟩ := DictOb.of hd
  obtain ⟨r3, lx3⟩ := r2.pin (tk := s2.toks + vs.length) k2 eo fun b x hb e => (hs.2 b hb).trans e
  refine hQ _ ob _ _ (LeX.le (le1.trans l2) lx3 fun a ha o => by subst ha; exact hG0 o) hG0 r3 Gh.set_self ⟨_, q, ?_⟩ (notSys r3 ok Gh.set_self Tag.noConfusion)
  exact RepKV.merge (show RepKV _ [] [] from rfl) (RepKV.mono (lx3.vw W) c2)

/-- a dict that will not change -/
def dictZ (l : List (AV × AV)) : M AV := fun σ => match strKs l with
  | some m => some (.dct (mergeK [] m), σ)
  | none => none
theorem SimE.dictz (ok : W.Ok) {keys : List (Option Expr)} {values : List Expr} {pos : Pos} (kes : List (Expr × Expr)) {f : M (List (AV × AV))} (h : SimPs W X n kes f)
    (hsh : ∀ env, (evalEachOpt keys env).zip ((evalEach values env).map fun v => do let x ← v; standAt pos; pure x) = (kes.map fun p => (eval p.1 env, do let x ← eval p.2 env; standAt pos; pure x)).map fun p => (some p.1, p.2)) (h0 : kes ≠ []) (hlen : kes.length ≤ 15) :
    SimE W X n (.Dict keys values pos) (M.bind f dictZ) := by
  intro env A σ b σ' G s P hA r hf
  obtain ⟨l, σ1, e1, hf⟩ := M.bind_some hf
  unfold dictZ at hf
  split at hf
  · rename_i m hm
    cases hf
    refine dict_disp h hsh h0 hlen P hA r e1 hm (fun d ob G' s' l' hd0 r' k' ⟨kvs, q1, q2⟩ hsy => ?_) ok
    obtain ⟨r2, lx2⟩ := r'.still k'
    exact ⟨_, LeX.le l' lx2 (fun a ha o => by subst ha; exact hd0 o), r2, d, ob, kvs, rfl, hsy, Gh.z_iff.mpr Gh.set_self, q1, (RepKV.mono (lx2.vw W) q2).vd⟩
  · cases hf
/-- a dict that may change -/
def dictN (site : Nat) (l : List (AV × AV)) : M AV := fun σ => match strKs l with
  | some m => (M.bind (allocA site (.dictS (mergeK [] m))) fun h => M.pure (.ref h)) σ
  | none => none
theorem SimE.dict (ok : W.Ok) (site : Nat) {keys : List (Option Expr)} {values : List Expr} {pos : Pos} (kes : List (Expr × Expr)) {f : M (List (AV × AV))} (h : SimPs W X n kes f)
    (hsh : ∀ env, (evalEachOpt keys env).zip ((evalEach values env).map fun v => do let x ← v; standAt pos; pure x) = (kes.map fun p => (eval p.1 env, do let x ← eval p.2 env; standAt pos; pure x)).map fun p => (some p.1, p.2)) (h0 : kes ≠ []) (hlen : kes.length ≤ 15) :
    SimE W X n (.Dict keys values pos) (M.bind f (dictN site)) := by
  intro env A σ b σ' G s P hA r hf
  obtain ⟨l, σ1, e1, hf⟩ := M.bind_some hf
  unfold dictN at hf
  split at hf
  · rename_i m hm
    cases hf
    refine dict_disp h hsh h0 hlen P hA r e1 hm (fun d ob G' s' l' hd0 r' k' ⟨kvs, q1, q2⟩ hsy => ?_) ok
    obtain ⟨G2, lx2, r2, m2⟩ := r'.wake (o := .dictS (mergeK [] m)) k' site ⟨kvs, q1, q2⟩
    exact ⟨_, LeX.le l' lx2 (fun a ha o => by subst ha; exact hd0 o), r2, d, rfl, m2⟩
  · cases hf
/-- `{}`, for str keys or for int keys -/
theorem SimE.dict0 (site : Nat) {pos : Pos} : SimE W X n (.Dict [] [] pos) (M.bind (allocA site (.dictS [])) fun h => M.pure (.ref h)) := by
  intro env A σ b σ' G s P hA r hf
  cases hf
  obtain ⟨G2, l2, r2, m2⟩ := r.allocObj (ob := emptyDict) (o := .dictS []) rfl site (fun G' l' => ⟨[], ⟨#[], 0, ⟨rfl, rfl, rfl⟩, rfl, fun _ he => by simp at he, Pairs.nil, List.nodup_nil⟩, rfl⟩) (tk := s.toks)
  exact wpAny_Dict_empty ⟨G2, l2, r2, _, rfl, m2⟩
theorem SimE.dict0I (site : Nat) {pos : Pos} : SimE W X n (.Dict [] [] pos) (M.bind (allocA site (.dictI [])) fun h => M.pure (.ref h)) := by
  intro env A σ b σ' G s P hA r hf
  cases hf
  obtain ⟨G2, l2, r2, m2⟩ := r.allocObj (ob := emptyDict) (o := .dictI []) rfl site (fun G' l' => ⟨[], ⟨#[], 0, ⟨rfl, rfl, rfl⟩, rfl, fun _ he => by simp at he, Pairs.nil, List.nodup_nil⟩, rfl⟩) (tk := s.toks)
  exact wpAny_Dict_empty ⟨G2, l2, r2, _, rfl, m2⟩
end
end Mine
end

section
open PySem PySem.W PySem.Calls PyProof.Rows
set_option Elab.async false
set_option maxRecDepth 20000
namespace Mine
theorem slot_fn_eq : Slot "function" "__eq__" "object.__eq__" :=
  .of (owner := "object") (n := "__eq__") (by rw [typeLookup_type, builtinLookup_eq_fast]; kernel_rfl) (by decide +kernel) (by decide +kernel) (by decide +kernel) (.inl (by decide +kernel)) (by rw [isSubtype_type]; kernel_rfl)
theorem entry_obj_eq : entryFor table "object.__eq__" = some Builtin.«object.__eq__» := entryFor_of_tree (by kernel_rfl)
theorem args_obj_eq (a b : Value) : argsOk "object.__eq__" ⟨[a, b], []⟩ := by unfold argsOk; kernel_rfl
theorem eq_fn_str {prog : Program} {w : World} {A : Around} {E : Value → Shared → Prop} {s : Shared} {a : Addr} {o : Obj} {x : Str} {t : Tok} {Q : Value → Shared → Prop} (hu : A.units < cLine) (ho : s.heap.get? a = some o) (hc : o.cls = .type "function") (hd : ∃ fd, o.data = .func fd)
    (h : Q (.bool false) s) : wpAny (model prog w) A (compareOp .Eq (.ref a) (.str x t)) Q E s := by
  show wpAny _ _ (richCompare .Eq (.ref a) (.str x t)) Q E s
  have hT : s.TypeIs (.ref a) "function" := ⟨o, ho, hc⟩
  unfold richCompare
  refine wpAny_holding (wpAny_bind (wpAny_cRoomFor hu ?_))
  have h1 : oneThing? .Eq (.ref a) (.str x t) = none := rfl
  rw [h1]
  dsimp only [cmpInfo]
  refine wpAny_bind (wpAny_typeOf hT (wpAny_bind (wpAny_typeOf (typeIs_str _ _ _) ?_)))
  have h2 : isSubtype (.type "str") (.type "function") = pure false := by rw [isSubtype_type]; kernel_rfl
  rw [if_pos (by decide), h2]
  refine wpAny_bind (wpAny_pure ?_)
  rw [if_neg (by decide)]
  unfold tryCompare
  refine wpAny_bind (wpAny_bind (wpAny_callSpecialIfBound?_slot hT slot_fn_eq (wpAny_call_entry slot_fn_eq hT entry_obj_eq ?_ (args_obj_eq _ _))))
  · unfold Builtin.«object.__eq__»
    refine wpAny_bind (wpAny_of_eq (a := (Value.ref a, [Value.str x t])) (by rfl) ?_)
    dsimp only
    refine wpAny_bind (wpAny_of_eq (a := false) (by rfl) ?_)
    rw [if_neg (by decide)]
    refine wpAny_pure ⟨_, rfl, ?_⟩
    dsimp only
    refine wpAny_pure ?_
    dsimp only
    rw [if_pos (by decide)]
    refine wpAny_bind (wpAny_bind (wpAny_callSpecialIfBound?_slot (typeIs_str _ _ _) PySem.F.slot_str_eq (wpAny_call_entry PySem.F.slot_str_eq (typeIs_str _ _ _) PySem.F.entry_str_eq ?_ (PySem.F.args_str_eq_2 _ _))))
    unfold Builtin.«str.__eq__»
    k_delta "strCompare"
    refine wpAny_bind (wpAny_of_eq (a := (Value.str x t, x, [Value.ref a])) (by rfl) ?_)
    dsimp only
    obtain ⟨fd, hd⟩ := hd
    refine wpAny_bind ?_
    show wpAny _ _ (asStr? (.ref a)) _ _ _
    unfold asStr?
    refine wpAny_bind (wpAny_load ho ?_)
    rw [hd]
    refine wpAny_pure ?_
    dsimp only
    refine wpAny_bind (wpAny_rule (wpAny_pure ⟨_, rfl, ?_⟩))
    dsimp only
    refine wpAny_pure ?_
    dsimp only
    refine wpAny_bind (wpAny_rule (wpAny_bind ?_))
    exact wpAny_of_eq (a := false) (by rfl) (wpAny_pure h)

section
variable {W : Wd} {X : Sc} {n : Nat}
/-- a closure is no str -/
def eqFS (a b : AV) : M AV := match a, b with
  | .clo _, .str _ => M.pure (.bool false)
  | _, _ => M.fail
theorem Op2.eqFS : Op2 W (Rep W) n (compareOp .Eq) eqFS := by
  intro A σ σ' G s a b c ma mb hA r pa pb hf
  unfold Mine.eqFS at hf
  split at hf
  · cases hf
    obtain ⟨x, o, e, hz, sk, fd, h1, h2, h3, _⟩ := pa
    obtain ⟨t, rfl⟩ := pb
    subst e
    exact eq_fn_str hA.units1 (r.z hz) h2 ⟨fd, h3⟩ (.now r rfl)
  · cases hf
end
end Mine
end

section
open PySem PySem.W PySem.Calls PyProof.Rows
set_option Elab.async false
set_option maxRecDepth 20000
set_option linter.unusedSectionVars false
set_option linter.unusedVariables false
namespace Mine

section
variable {W : Wd} {X : Sc} {n : Nat}

/-- a def of which some defaults stand in -/
theorem SimBind.dflt (ok : W.Ok) {fd : FuncData} {ps : List Str} (k : Nat) (dv : List Value) (D : List AV) {T : Addr} {o : Obj} (ho : W.K.lookup T = some o) (hlen : ps.length = k + dv.length)
    (hD : ∀ G σ s, R W G σ s → Reps W G D dv)
    (hb : ∀ (ms : List Value) (s : Shared), ms.length = k → s.heap.get? T = some o → BindsTo s fd ⟨ms, []⟩ (ps.zip (ms ++ dv))) :
    SimBind W fd ps [] (fun args _ => if args.length = k then some (args ++ D) else none) := by
  intro A σ G s args kws ms ks' vals hA r hm hk' hf
  dsimp only at hf
  split at hf
  · rename_i hl
    cases hf
    have h1 := hm.length
    have h2 := (hD _ _ _ r).length
    show wpAny W.M A (bindArgs fd ⟨ms, []⟩) _ _ s
    refine hb ms s (by omega) (r.kin ok _ _ ho) W.M A _ _ ⟨ms ++ dv, G, rfl, .refl _, r, RepVs.append hm (hD _ _ _ r), by simp; omega⟩
  · cases hf

theorem keyHash_str (w : World) (x : Str) : PyData.keyHash w.params x = hashStr w x := rfl

theorem nsSet_at {prog : Program} {w : World} {A : Around} {E : Value → Shared → Prop} {s : Shared} {d : Addr} {es : List DictEntry} {k : Nat} {x : Str} {v : Value} {Q : Unit → Shared → Prop} (h : s.heap.get? d = some (dictOf es k)) (hn : es.any (fun e => e.refKey) = false)
    (hQ : ∀ h', h'.get? d = some (dictOf (putL x (PyData.keyHash w.params x) (.str x s.toks) v es) (putN x es k)) → Heap.SameBut d s.heap h' → Q () { s with heap := h', toks := s.toks + 1 }) : wpAny (model prog w) A (nsSet d x v) Q E s := by
  unfold nsSet
  refine wpAny_bind (wpAny_bind (wpAny_askSetting (wpAny_pure (wpAny_bind (wpAny_mkText (wpAny_bind (wpAny_loadPart h ?_)))))))
  have hg : (!es.toArray.any (fun e => e.key.isStr x) && es.toArray.any (fun e => e.refKey)) = false := by
    have h6 : es.toArray.any (fun e => e.refKey) = false := by
      rw [← Array.any_toList]; exact hn
    rw [h6, Bool.and_false]
  rw [show (dictOf es k).data = .dict es.toArray k from rfl]
  dsimp only
  rw [aRefKeyMayBeTheName_at, hg]
  have e' : Heap.get? (s.heap.update d (Obj.putName x (PyData.keyHash w.params x) (.str x s.toks) v)) d = some (dictOf (putL x (PyData.keyHash w.params x) (.str x s.toks) v es) (putN x es k)) := by
    rw [Heap.get?_update_self _ h (by rw [putName_dict]; rfl), putName_dict]
  exact wpAny_updatePart h (hQ _ e' (Heap.SameBut.update ..))

/-- two keywords gathered into a dict -/
theorem gather2 {A : Around} {G : Gh} {σ : St} {s : Shared} {k1 k2 : Str} {a1 a2 : AV} {x1 x2 : Value} {Q : Addr → Shared → Prop} (ok : W.Ok) (r : R W G σ s) (hne : k1 ≠ k2) (p1 : Rep W G a1 x1) (p2 : Rep W G a2 x2)
    (hQ : ∀ d G' s', G.Le G' → R W G' σ s' → Rep W G' (.dct [(k1, a1), (k2, a2)]) (.ref d) → Q d s') :
    wpAny W.M A (do
      let d ← alloc { cls := .type "dict", data := .dict #[] }
      for (k, v) in [(k1, x1), (k2, x2)] do nsSet d k v
      pure d) Q (fun _ _ => False) s := by
  obtain ⟨r1, le1⟩ := r.alloc .pin (o := emptyDict) rfl (tk := s.toks)
  have hG0 : ∀ o, G.kn s.heap.objs.size ≠ some (.pin, o) := fun o e => by rw [r.fresh] at e; cases e
  have k0 := Gh.set_self (G := G) (a := s.heap.objs.size) (t := .pin) (o := emptyDict)
  refine wpAny_bind (wpAny_alloc ?_)
  refine wpAny_bind ?_
  rw [List.forIn_cons]
  refine wpAny_bind (wpAny_bind (nsSet_at (es := []) (k := 0) (r1.sub _ _ _ k0) rfl fun h1 e1 s1 => wpAny_pure ?_))
  obtain ⟨r2, lx2⟩ := r1.pin (tk := s.toks + 1) k0 e1 fun b x hb e => (s1.2 b hb).trans e
  dsimp only
  rw [List.forIn_cons]
  refine wpAny_bind (wpAny_bind (nsSet_at e1 (by rfl) fun h2 e2 s2 => wpAny_pure ?_))
  dsimp only
  rw [List.forIn_nil]
  have k2' := Gh.set_self (G := G.set s.heap.objs.size .pin emptyDict) (a := s.heap.objs.size) (t := .pin) (o := dictOf (putL k1 (PyData.keyHash W.w.params k1) (.str k1 s.toks) x1 []) (putN k1 [] 0))
  obtain ⟨r3, lx3⟩ := r2.pin (tk := s.toks + 1 + 1) k2' e2 fun b x hb e => (s2.2 b hb).trans e
  obtain ⟨r4, lx4⟩ := r3.still Gh.set_self
  have lx := (lx2.trans lx3).trans lx4
  have hf : (Value.str k1 s.toks).isStr k2 = false := by
    rw [isStr_str]; exact decide_eq_false (fun e => hne e.symm)
  have hput : putL k2 (PyData.keyHash W.w.params k2) (.str k2 (s.toks + 1)) x2 (putL k1 (PyData.keyHash W.w.params k1) (.str k1 s.toks) x1 []) = [⟨PyData.keyHash W.w.params k1, .str k1 s.toks, x1⟩, ⟨PyData.keyHash W.w.params k2, .str k2 (s.toks + 1), x2⟩] := by
    show (if (Value.str k1 s.toks).isStr k2 = true then _ else _) = _
    rw [hf]; rfl
  refine wpAny_pure (wpAny_pure (hQ _ _ _ (LeX.le le1 lx fun a ha o => by subst ha; exact hG0 o) r4 ⟨_, _, [(k1, x1), (k2, x2)], rfl, ?_, Gh.z_iff.mpr Gh.set_self, ?_, ?_⟩))
  · exact notSys r3 ok Gh.set_self Tag.noConfusion
  · rw [hput]
    refine ⟨_, _, ⟨rfl, rfl, rfl⟩, rfl, fun e he => ?_, ?_, ?_⟩
    · simp at he
      rcases he with rfl | rfl
      · exact ⟨k1, strKind_is _ _ _ _, rfl⟩
      · exact ⟨k2, strKind_is _ _ _ _, rfl⟩
    · exact .cons (strKind_is _ _ _ _) rfl (.cons (strKind_is _ _ _ _) rfl .nil)
    · simp [hne]
  · exact ⟨x1, _, rfl, repX (p1.le le1) lx, x2, _, rfl, repX (p2.le le1) lx, rfl⟩

theorem SimBind.kw2 (ok : W.Ok) {fd : FuncData} {p1 p2 p3 k1 k2 : Str} {T : Addr} {o : Obj} {its : Array Value} {m : Nat} (hd : fd.defaults = .ref T) (ho : W.K.lookup T = some o) (hs : o.data = .seq its m) (hne : k1 ≠ k2)
    (hb : ∀ x y u v, bindArgs fd ⟨[x, y], [(k1, u), (k2, v)]⟩ = seqItems? fd.defaults >>= fun _ => ((do
      let d ← alloc { cls := .type "dict", data := .dict #[] }
      for (k, v) in [(k1, u), (k2, v)] do nsSet d k v
      pure d) >>= fun d => pure [(p1, x), (p2, y), (p3, .ref d)])) :
    SimBind W fd [p1, p2, p3] [k1, k2] (fun args kws => match args, kws with
      | [a, b], [c, d] => some [a, b, .dct [(k1, c), (k2, d)]]
      | _, _ => none) := by
  intro A σ G s args kws ms ks' vals hA r hm hk' hf
  dsimp only at hf
  split at hf
  · rename_i a b c d
    cases hf
    obtain ⟨x, y, e, q1, q2⟩ := Reps.two hm
    obtain ⟨u, v, e', q3, q4⟩ := Reps.two hk'
    subst e e'
    show wpAny W.M A (bindArgs fd ⟨[x, y], [(k1, u), (k2, v)]⟩) _ _ s
    rw [hb, hd]
    refine wpAny_bind (wpAny_seqItems (r.kin ok _ _ ho) hs (wpAny_bind (gather2 ok r hne q3 q4 fun dd G' s' l' r' p' => wpAny_pure ?_)))
    exact ⟨[x, y, .ref dd], G', rfl, l', r', ⟨_, _, rfl, Rep.le q1 l', _, _, rfl, Rep.le q2 l', _, _, rfl, p', rfl⟩, rfl⟩
  · cases hf
end
end Mine
end

section
open PySem PySem.W PySem.Calls PyProof.Rows
set_option Elab.async false
set_option maxRecDepth 20000
set_option linter.unusedSectionVars false
set_option linter.unusedVariables false
namespace Mine

/-! a counter: an object of a class over dict -/
abbrev ctrObj (C dx : Addr) (es : Array DictEntry) (ep : Nat) : Obj := ⟨.ref C, some dx, .dict es ep, #[]⟩

section
variable {prog : Program} {w : World} {A : Around} {E : Value → Shared → Prop} {s : Shared} {C dx a : Addr} {es : Array DictEntry} {ep : Nat} {kvs : List (Str × Value)} {k : Str} {key v : Value}

theorem ctr_get {Q : Option Value → Shared → Prop} (hkey : (strKind prog w).is k key = true) (ho : s.heap.get? a = some (ctrObj C dx es ep)) (hk : KeysOf (strKind prog w) es) (hp : Pairs (strKind prog w) es.toList kvs)
    (h : Q (valueAt kvs k) { s with toks := s.toks + 1 }) : wpAny (model prog w) A (dictGet a key) Q E s := by
  unfold dictGet
  try with_reducible refine wpAny_holding ?_
  refine wpAny_bind ((strKind prog w).pyHash hkey (wpAny_bind (wpAny_dictFind_of (knd := strKind prog w) (s := { s with toks := s.toks + 1 }) hkey ho rfl hk ?_)))
  have e : valueAt kvs k = findBy (strKind prog w).is es k := by
    rw [← hp.find k]
    obtain ⟨l⟩ := es
    simp [findBy]
  rw [e, findBy_of_findIdx?] at h
  cases hi : es.findIdx? fun e => (strKind prog w).is k e.key with
  | none => rw [hi] at h; exact wpAny_pure h
  | some i => rw [hi] at h; exact wpAny_bind (wpAny_dictEntries (s := { s with toks := s.toks + 1 }) ho rfl (wpAny_pure h))

theorem ctr_set {Q : Unit → Shared → Prop} (hkey : (strKind prog w).is k key = true) (ho : s.heap.get? a = some (ctrObj C dx es ep)) (hk : KeysOf (strKind prog w) es) (hp : Pairs (strKind prog w) es.toList kvs) (hn : (kvs.map (·.1)).Nodup) (hsz : kvs.length ≤ 1000)
    (hQ : ∀ h' es' ep', h'.get? a = some (ctrObj C dx es' ep') → KeysOf (strKind prog w) es' → Pairs (strKind prog w) es'.toList (stored kvs k v) → ((stored kvs k v).map (·.1)).Nodup → Heap.SameBut a s.heap h' → Q () { s with heap := h', toks := s.toks + 1 }) :
    wpAny (model prog w) A (dictSet a key v) Q E s := by
  have hes : es.size ≤ sizeLine := by
    have e1 := hp.length
    rw [Array.length_toList] at e1
    rw [sizeLine_eq]; omega
  unfold dictSet
  try with_reducible refine wpAny_holding ?_
  refine wpAny_bind ((strKind prog w).pyHash hkey ?_)
  unfold dictSetHashed
  try with_reducible refine wpAny_holding ?_
  refine wpAny_bind (wpAny_dictFind_of (knd := strKind prog w) (s := { s with toks := s.toks + 1 }) hkey ho rfl hk ?_)
  have hidx : (es.findIdx? fun e => (strKind prog w).is k e.key) = kvs.findIdx? fun kv => decide (kv.1 = k) := by
    rw [← hp.findIdx k]; obtain ⟨l⟩ := es; simp
  cases hi : es.findIdx? fun e => (strKind prog w).is k e.key with
  | some i =>
    have hl : (es.toList.findIdx? fun e => (strKind prog w).is k e.key) = some i := by rw [← hi]; obtain ⟨l⟩ := es; simp
    refine wpAny_bind (wpAny_rule (wpAny_bind (wpAny_updateDict (s := { s with toks := s.toks + 1 }) ho rfl (wpAny_point (hQ _ _ ep (Heap.get?_update_self _ ho rfl) (hk.modify _ _) ?_ ?_ (Heap.SameBut.update ..))))))
    · rw [stored, if_pos (any_of_findIdx_some (hidx ▸ hi))]
      have := hp.modify hn hl v
      obtain ⟨l⟩ := es
      simpa using this
    · rw [stored, if_pos (any_of_findIdx_some (hidx ▸ hi)), keys_map_store]; exact hn
  | none =>
    have hnot : k ∉ kvs.map (·.1) := not_mem_of_findIdx_none (hidx ▸ hi)
    have hany : ¬ (kvs.any fun kv => decide (kv.1 = k)) = true := by
      rw [List.any_eq_true]
      rintro ⟨kv, hkv, he⟩
      exact hnot (List.mem_map.mpr ⟨kv, hkv, of_decide_eq_true he⟩)
    refine wpAny_bind (wpAny_rule (wpAny_updateDictKeys (hz := hes) (s := { s with toks := s.toks + 1 }) ho rfl (hQ _ _ (ep + 1) (Heap.get?_update_self _ ho rfl) (hk.push hkey _) ?_ ?_ (Heap.SameBut.update ..))))
    · rw [stored, if_neg hany]
      have := hp.append hkey ((strKind prog w).hash k) v
      obtain ⟨l⟩ := es
      simpa using this
    · rw [stored, if_neg hany, List.map_append, List.nodup_append]
      refine ⟨hn, by simp, ?_⟩
      intro x hx y hy
      simp only [List.map_cons, List.map_nil, List.mem_singleton] at hy
      subst hy
      exact fun e => hnot (e ▸ hx)

theorem ctr_takeOut {Q : Option DictEntry → Shared → Prop} (hkey : (strKind prog w).is k key = true) (ho : s.heap.get? a = some (ctrObj C dx es ep)) (hk : KeysOf (strKind prog w) es) (hp : Pairs (strKind prog w) es.toList kvs) (hn : (kvs.map (·.1)).Nodup) (hsz : kvs.length ≤ 1000)
    (hnone : valueAt kvs k = none → Q none { s with toks := s.toks + 1 })
    (hsome : ∀ e, valueAt kvs k = some e.val → ∀ h' es' ep', h'.get? a = some (ctrObj C dx es' ep') → KeysOf (strKind prog w) es' → Pairs (strKind prog w) es'.toList (without kvs k) → ((without kvs k).map (·.1)).Nodup → Heap.SameBut a s.heap h' → Q (some e) { s with heap := h', toks := s.toks + 1 }) :
    wpAny (model prog w) A (Builtin.Dict.takeOut a key) Q E s := by
  have hes : es.size ≤ sizeLine := by
    have e1 := hp.length
    rw [Array.length_toList] at e1
    rw [sizeLine_eq]; omega
  unfold Builtin.Dict.takeOut
  try with_reducible refine wpAny_holding ?_
  refine wpAny_bind ((strKind prog w).pyHash hkey ?_)
  refine wpAny_bind (wpAny_dictFind_of (knd := strKind prog w) (s := { s with toks := s.toks + 1 }) hkey ho rfl hk ?_)
  cases hi : es.findIdx? fun e => (strKind prog w).is k e.key with
  | none =>
    refine wpAny_pure (hnone ?_)
    rw [← hp.find k]
    have : (es.toList.find? fun e => (strKind prog w).is k e.key) = none := by
      rw [List.find?_eq_none]
      intro e he
      have := Array.findIdx?_eq_none_iff.mp hi e (Array.mem_toList_iff.mp he)
      simpa using this
    rw [this]; rfl
  | some i =>
    have hl : (es.toList.findIdx? fun e => (strKind prog w).is k e.key) = some i := by rw [← hi]; obtain ⟨l⟩ := es; simp
    obtain ⟨e, he, hek, hev⟩ := hp.at hl
    refine wpAny_bind (wpAny_dictEntries (s := { s with toks := s.toks + 1 }) ho rfl ?_)
    have he' : es[i]? = some e := by rw [← he]; obtain ⟨l⟩ := es; simp
    rw [he']
    refine wpAny_bind (wpAny_updateDictKeys (hz := hes) (s := { s with toks := s.toks + 1 }) ho rfl (wpAny_pure (hsome e hev _ _ (ep + 1) (Heap.get?_update_self _ ho rfl) (hk.erase _) ?_ (nodup_without hn k) (Heap.SameBut.update ..))))
    have := hp.erase hn hl
    obtain ⟨l⟩ := es
    simpa using this
end
end Mine
end

section
open PySem PySem.W PySem.Calls PyProof.Rows
set_option Elab.async false
set_option maxRecDepth 20000
set_option linter.unusedSectionVars false
set_option linter.unusedVariables false
namespace Mine

theorem check_any {M : Model} {A : Around} {E : Value → Shared → Prop} {s : Shared} {i owner n : String} {self : Value} {rest : List Value} {kw : List (Str × Value)} {Q : Unit → Shared → Prop}
    (hk : builtinKind i = some .slot ∨ builtinKind i = some .method) (hs : splitId i = some (owner, n)) (hi : Looks M s.heap (isInstance self (.type owner)) true) (ha : argsOk i ⟨self :: rest, kw⟩) (q : Q () s) :
    wpAny M A (checkBuiltinCall i ⟨self :: rest, kw⟩) Q E s := by
  have tail : wpAny M A (match Manifest.signature? i with | some sig => Bind.checkArgs i sig ⟨self :: rest, kw⟩ | none => pure ()) Q E s := by
    cases hsig : Manifest.signature? i with
    | none => exact wpAny_pure q
    | some sig =>
      simp only [argsOk, hsig] at ha
      have h2 : Bind.checkArgs i sig ⟨self :: rest, kw⟩ = pure () := ha
      show wpAny M A (Bind.checkArgs i sig ⟨self :: rest, kw⟩) Q E s
      rw [h2]; exact wpAny_pure q
  rcases hk with hk | hk
  · simp only [checkBuiltinCall, hk, hs]
    refine wpAny_bind (hi.here ?_)
    simp only [Bool.not_true, Bool.false_eq_true, if_false]
    cases hsig : Manifest.signature? i with
    | none => exact wpAny_pure q
    | some sig => rw [hsig] at tail; exact tail
  · simp only [checkBuiltinCall, hk, hs]
    refine wpAny_bind (hi.here ?_)
    simp only [Bool.not_true, Bool.false_eq_true, if_false]
    cases hsig : Manifest.signature? i with
    | none => exact wpAny_pure q
    | some sig => rw [hsig] at tail; exact tail

theorem kind_gi : builtinKind "dict.__getitem__" = some .slot ∨ builtinKind "dict.__getitem__" = some .method := by decide +kernel
theorem split_gi : splitId "dict.__getitem__" = some ("dict", "__getitem__") := by decide +kernel
theorem plain_gi : plainId "dict.__getitem__" = true := by decide +kernel
theorem kind_si : builtinKind "dict.__setitem__" = some .slot ∨ builtinKind "dict.__setitem__" = some .method := by decide +kernel
theorem split_si : splitId "dict.__setitem__" = some ("dict", "__setitem__") := by decide +kernel
theorem plain_si : plainId "dict.__setitem__" = true := by decide +kernel
theorem kind_pp : builtinKind "dict.pop" = some .slot ∨ builtinKind "dict.pop" = some .method := by decide +kernel
theorem split_pp : splitId "dict.pop" = some ("dict", "pop") := by decide +kernel
theorem plain_pp : plainId "dict.pop" = true := by decide +kernel

structure CtrCls (W : Wd) (C fM : Addr) : Prop where
  ns : noSeq W.K C = true
  gi : findIn W.K (.ref C) "__getitem__" = some (some (.builtin "dict.__getitem__"))
  si : findIn W.K (.ref C) "__setitem__" = some (some (.builtin "dict.__setitem__"))
  ms : findIn W.K (.ref C) "__missing__" = some (some (.ref fM))
  mf : typeIn W.K (.ref fM) = some (.type "function")
  sd : subIn W.K (.ref C) (.type "dict") = some true
  so : subIn W.K (.ref C) (.type "collections.OrderedDict") = some false
  ga : ∃ id, findIn W.K (.ref C) "__getattribute__" = some (some (.builtin id)) ∧ (Manifest.canonical id != "object.__getattribute__") = false
  gt : findIn W.K (.ref C) "__getattr__" = some none
  pp : findIn W.K (.ref C) "pop" = some (some (.builtin "dict.pop"))

section
variable {W : Wd} {X : Sc} {n : Nat}

theorem R.ctr {G : Gh} {σ : St} {s : Shared} (r : R W G σ s) {C : Addr} {h : Hd} {l : List (Str × AV)} {mv : Value} (hs : σ.st h = some (.ctr C l)) (p : Rep W G (.ref h) mv) :
    ∃ a dx od es ep kvs m, mv = .ref a ∧ G.mu h = some a ∧ G.kn a = some (.obj h, ctrObj C dx es ep) ∧ G.z dx = some od ∧ NsOb od m ∧ (∀ x, m x = none) ∧ KeysOf (strKind W.prog W.w) es ∧ Pairs (strKind W.prog W.w) es.toList kvs ∧ (kvs.map (·.1)).Nodup ∧ RepKV (G.vw W) l kvs ∧
      InstAt s.heap a (ctrObj C dx es ep) C (some od) := by
  obtain ⟨a, e, hm⟩ := p
  obtain ⟨b, ob, h1, h2, kvs, ⟨dx, od, es, ep, m, q1, q2, q3, q4, q5, q6, q7⟩, h4⟩ := r.inv.objs _ _ hs
  rw [show (G.vw W).mu = G.mu from rfl, h1] at hm
  cases hm
  subst q1
  exact ⟨a, dx, od, es, ep, kvs, m, e, h1, h2, q2, q3, q4, q5, q6, q7, h4, r.sub _ _ _ h2, rfl, rfl, r.z q2⟩
theorem R.setCtr {G : Gh} {σ : St} {s : Shared} (r : R W G σ s) {h : Hd} {C a dx : Addr} {od : Obj} {es es' : Array DictEntry} {ep ep' : Nat} {l : List (Str × AV)} {kvs} {m : Str → Option Value} {h' : Heap} {tk : Nat} (hm : G.mu h = some a) (hk : G.kn a = some (.obj h, ctrObj C dx es ep)) (hz : G.z dx = some od) (hn : NsOb od m) (he : ∀ x, m x = none)
    (hd : h'.get? a = some (ctrObj C dx es' ep')) (q5 : KeysOf (strKind W.prog W.w) es') (q6 : Pairs (strKind W.prog W.w) es'.toList kvs) (q7 : (kvs.map (·.1)).Nodup) (hs : Heap.SameBut a s.heap h') (hr : RepKV (G.vw W) l kvs) :
    ∃ G', G.Le G' ∧ R W G' { σ with st := fun k => if k = h then some (.ctr C l) else σ.st k } { s with heap := h', toks := tk } := by
  obtain ⟨G', l', r', _⟩ := r.setObj (o := .ctr C l) (tk := tk) hm hk hd hs ⟨kvs, ⟨dx, od, es', ep', m, rfl, hz, hn, he, q5, q6, q7⟩, hr⟩
  exact ⟨G', l', r'⟩

theorem ctr_is {M : Model} {h : Heap} (X : W.K.In h) {C fM a : Addr} {ox : Obj} {od : Option Obj} (c : CtrCls W C fM) (I : InstAt h a ox C od) : Looks M h (isInstance (.ref a) (.type "dict")) true := I.type.andThen (looks_subIn X c.sd)
theorem ctr_not {M : Model} {h : Heap} (X : W.K.In h) {C fM a : Addr} {ox : Obj} {od : Option Obj} (c : CtrCls W C fM) (I : InstAt h a ox C od) : Looks M h (isInstance (.ref a) (.type "collections.OrderedDict")) false := I.type.andThen (looks_subIn X c.so)

/-- `c[k]`, with nought for what is missing -/
def ctrGet (C : Addr) (gM : List AV → List AV → M AV) : AV → AV → M AV
  | .ref h, .str x => fun σ => match σ.st h with
    | some (.ctr C' l) => if C' = C then (match getK l x with
      | some v => some (v, σ)
      | none => gM [.ref h, .str x] [] σ) else none
    | _ => none
  | _, _ => M.fail
def Op2g (W : Wd) (n : Nat) (t : Value → Value → Sem Value) (f : AV → AV → M AV) : Prop :=
  ∀ A σ σ' G s a b c ma mb, AOK n A → R W G σ s → G.fr ≠ [] → Rep W G a ma → Rep W G b mb → f a b σ = some (c, σ') → wpAny W.M A (t ma mb) (Post W (Rep W) G σ' c) (fun _ _ => False) s

theorem Op2g.ctrGet (ok : W.Ok) {C fM : Addr} {gM : List AV → List AV → M AV} (c : CtrCls W C fM) (hM : SimCall W n (.ref fM) [] gM) : Op2g W (n + 1) getItem (ctrGet C gM) := by
  intro A σ σ' G s a b v ma mb hA r hne pa pb hf
  unfold Mine.ctrGet at hf
  split at hf
  · rename_i h x
    split at hf
    · rename_i C' l hs
      split at hf
      · rename_i hC
        subst hC
        obtain ⟨y, dx, od, es, ep, kvs, m, e, hm, hk, hz, hn, he, q5, q6, q7, hr, I⟩ := r.ctr hs pa
        obtain ⟨t, rfl⟩ := pb
        subst e
        have X := r.kin ok
        unfold getItem sequenceKey
        refine wpAny_holding (wpAny_bind (wpAny_bind (I.type.here ?_)))
        refine wpAny_bind ((anyM_none X c.ns).here ?_)
        rw [if_pos (show (!false) = true from rfl)]
        refine wpAny_pure (wpAny_bind ?_)
        unfold callSpecial? specialOf
        refine wpAny_bind (wpAny_bind (I.type.here ((looks_findIn X c.gi).here ?_)))
        dsimp only
        rw [slot_dict_getitem.bind]
        refine wpAny_holding (wpAny_bind (wpAny_pure (wpAny_bind ?_)))
        have hI := ctr_is (M := W.M) X c I
        refine wpAny_call ?_
        dsimp only [List.cons_append, List.nil_append]
        refine codeAny_call_builtin plain_gi PySem.F.entry_dict_getitem ?_
        refine @check_any (model W.prog W.w) _ _ s "dict.__getitem__" "dict" "__getitem__" (.ref y) [.str x t] [] _ kind_gi split_gi hI (PySem.F.args_dict_getitem_2 _ _) ?_
        have hkey : (strKind W.prog W.w).is x (.str x t) = true := strKind_is _ _ _ _
        show wpAny _ _ (dictGet y (.str x t) >>= _) _ _ _
        refine wpAny_bind (ctr_get hkey I.at_ q5 q6 ?_)
        split at hf
        · rename_i v' hg
          cases hf
          obtain ⟨mv, f1, f2⟩ := hr.get hg
          rw [f1]
          exact wpAny_pure (wpAny_pure (wpAny_pure ⟨G, .refl _, r.tok, f2⟩))
        · rename_i hg
          rw [hr.getNone hg]
          show wpAny _ _ (Builtin.Dict.missed y (.str x t) >>= _) _ _ _
          refine wpAny_bind (wpAny_missed_other (notSys r ok hk Tag.noConfusion) ?_)
          have I1 : InstAt ({ s with toks := s.toks + 1 } : Shared).heap y (ctrObj C' dx es ep) C' (some od) := I
          dsimp only
          refine wpAny_bind (I1.type.here ?_)
          rw [if_pos (by rfl)]
          refine wpAny_bind (special_fn (s := { s with toks := s.toks + 1 }) X I1 c.ms c.mf ?_)
          refine wpAny_mono (CP.call (hM _ _ _ G _ [.ref h, .str x] [] [.ref y, .str x t] [] v hA.in1 r.tok hne ⟨_, _, rfl, pa, _, _, rfl, ⟨_, rfl⟩, rfl⟩ (by exact rfl) hf)) (fun u s2 q => ?_) fun _ _ e => e.elim
          exact wpAny_bind (wpAny_rule (wpAny_pure (wpAny_pure (wpAny_pure q))))
      · cases hf
    · cases hf
  · cases hf

/-- `c[k] = v` -/
def ctrSet (C : Addr) : AV → AV → AV → M Unit
  | .ref h, .str x, v => fun σ => match σ.st h with
    | some (.ctr C' l) => if C' = C ∧ l.length ≤ 1000 then some ((), { σ with st := fun k => if k = h then some (.ctr C' (setK l x v)) else σ.st k }) else none
    | _ => none
  | _, _, _ => M.fail
theorem OpSet.ctr (ok : W.Ok) {C fM : Addr} (c : CtrCls W C fM) : OpSet W n (ctrSet C) := by
  intro A σ σ' G s a b v ma mb mv hA r hne pa pb pv hf
  unfold ctrSet at hf
  split at hf
  · rename_i h x
    split at hf
    · rename_i C' l hs
      split at hf
      · rename_i hC
        obtain ⟨hC, hl⟩ := hC
        subst hC
        cases hf
        obtain ⟨y, dx, od, es, ep, kvs, m, e, hm, hk, hz, hn, he, q5, q6, q7, hr, I⟩ := r.ctr hs pa
        obtain ⟨t, rfl⟩ := pb
        subst e
        have X := r.kin ok
        have hlen := hr.length
        unfold setItem sequenceKey
        refine wpAny_holding (wpAny_bind (wpAny_bind (I.type.here ?_)))
        refine wpAny_bind ((anyM_none X c.ns).here ?_)
        rw [if_pos (show (!false) = true from rfl)]
        refine wpAny_pure (wpAny_bind ?_)
        unfold callSpecial? specialOf
        refine wpAny_bind (wpAny_bind (I.type.here ((looks_findIn X c.si).here ?_)))
        dsimp only
        rw [slot_dict_setitem.bind]
        refine wpAny_holding (wpAny_bind (wpAny_pure (wpAny_bind ?_)))
        have hI := ctr_is (M := W.M) X c I
        have hN := ctr_not (M := W.M) X c I
        refine wpAny_call ?_
        dsimp only [List.cons_append, List.nil_append]
        refine codeAny_call_builtin plain_si PySem.F.entry_dict_setitem ?_
        refine @check_any (model W.prog W.w) _ _ s "dict.__setitem__" "dict" "__setitem__" (.ref y) [.str x t, mv] [] _ kind_si split_si hI (PySem.F.args_dict_setitem_3 _ _ _) ?_
        have hkey : (strKind W.prog W.w).is x (.str x t) = true := strKind_is _ _ _ _
        show wpAny _ _ (Builtin.Dict.notOrdered "__setitem__" ⟨[.ref y, .str x t, mv], []⟩ >>= _) _ _ _
        refine wpAny_bind ?_
        unfold Builtin.Dict.notOrdered
        rw [if_pos (by decide)]
        dsimp only [List.headD]
        refine wpAny_bind (I.type.here ?_)
        rw [if_pos (by rfl)]
        refine wpAny_bind (hN.here ?_)
        rw [if_neg (by decide)]
        refine wpAny_pure ?_
        show wpAny _ _ (dictSet y (.str x t) mv >>= _) _ _ _
        refine wpAny_bind (ctr_set hkey I.at_ q5 q6 q7 (by omega) fun h' es' ep' g1 g2 g3 g4 g5 => ?_)
        obtain ⟨G', l', r'⟩ := r.setCtr (l := setK l x v) (tk := s.toks + 1) hm hk hz hn he g1 g2 g3 g4 g5 (hr.set pv _)
        exact wpAny_pure (wpAny_pure (wpAny_pure ⟨G', l', r', trivial⟩))
      · cases hf
    · cases hf
  · cases hf

/-- `c.pop(k)` and `c.pop(k, d)` -/
def preCtr (C : Addr) (a : AV) : M AV := fun σ => match a with
  | .ref h => (match σ.st h with
    | some (.ctr C' _) => if C' = C then some (a, σ) else none
    | _ => none)
  | _ => none
def ctrPop (C : Addr) : AV → List AV → M AV
  | .ref h, .str x :: rest => fun σ => match σ.st h with
    | some (.ctr C' l) => if C' = C ∧ l.length ≤ 1000 then (match getK l x, rest with
      | some v, [] => some (v, { σ with st := fun k => if k = h then some (.ctr C' (delK l x)) else σ.st k })
      | some v, [_] => some (v, { σ with st := fun k => if k = h then some (.ctr C' (delK l x)) else σ.st k })
      | none, [d] => some (d, σ)
      | _, _ => none) else none
    | _ => none
  | _, _ => M.fail
theorem ctr_pop {C fM : Addr} (ok : W.Ok) (c : CtrCls W C fM) : SimBM W (n + 1) "dict.pop" (ctrPop C) := by
  intro A σ σ' G s a args ma ms v hA r hne p p2 hf
  unfold ctrPop at hf
  split at hf
  · rename_i h x rest
    split at hf
    · rename_i C' l hs
      split at hf
      · rename_i hC
        obtain ⟨hC, hl⟩ := hC
        subst hC
        obtain ⟨y, dx, od, es, ep, kvs, m, e, hm, hk, hz, hn, he, q5, q6, q7, hr, I⟩ := r.ctr hs p
        subst e
        obtain ⟨mx, mr, e, ⟨t, q⟩, q2⟩ := p2
        subst e q
        have X := r.kin ok
        have hlen := hr.length
        have hI := ctr_is (M := W.M) X c I
        have hN := ctr_not (M := W.M) X c I
        have hkey : (strKind W.prog W.w).is x (.str x t) = true := strKind_is _ _ _ _
        have hord : ∀ (args : List Value) (A : Around) (E : Value → Shared → Prop) (Q : Unit → Shared → Prop), Q () s → wpAny W.M A (Builtin.Dict.notOrdered "pop" ⟨.ref y :: args, []⟩) Q E s := by
          intro args A E Q hQ
          unfold Builtin.Dict.notOrdered
          rw [if_pos (by decide)]
          dsimp only [List.headD]
          refine wpAny_bind (I.type.here ?_)
          rw [if_pos (by rfl)]
          refine wpAny_bind (hN.here ?_)
          rw [if_neg (by decide)]
          exact wpAny_pure hQ
        have hms := notSys r ok hk Tag.noConfusion
        refine wpAny_call ?_
        cases rest with
        | nil =>
          cases q2
          refine codeAny_call_builtin plain_pp PySem.F.entry_dict_pop ?_
          refine @check_any (model W.prog W.w) _ _ s "dict.pop" "dict" "pop" (.ref y) [.str x t] [] _ kind_pp split_pp hI (PySem.F.args_dict_pop_2 _ _) ?_
          unfold Builtin.«dict.pop» Builtin.Dict.keyAndDefault
          refine wpAny_bind (wpAny_bind (hord _ _ _ _ ?_))
          show wpAny _ _ (pure (y, Value.str x t, (Option.none : Option Value))) _ _ s
          refine wpAny_pure ?_
          dsimp only
          rw [if_pos (by rfl)]
          refine wpAny_bind (wpAny_pure ?_)
          rw [if_neg (by decide)]
          refine wpAny_bind (ctr_takeOut hkey I.at_ q5 q6 q7 (by omega) (fun hnone => ?_) fun en hv h' es' ep' g1 g2 g3 g4 g5 => ?_)
          · split at hf
            · rename_i v' hg _
              obtain ⟨mv, f1, f2⟩ := hr.get hg
              rw [f1] at hnone; cases hnone
            · rename_i e1; cases e1
            · rename_i e1; cases e1
            · cases hf
          · split at hf
            · rename_i v' hg _
              cases hf
              obtain ⟨mv, f1, f2⟩ := hr.get hg
              rw [f1] at hv
              cases hv
              obtain ⟨G', l', r'⟩ := r.setCtr (l := delK l x) (tk := s.toks + 1) hm hk hz hn he g1 g2 g3 g4 g5 (hr.del _)
              rw [if_neg (by simp)]
              exact wpAny_bind (wpAny_letGo (wpAny_pure ⟨G', l', r', Rep.le f2 l'⟩))
            · rename_i e1; cases e1
            · rename_i e1; cases e1
            · cases hf
        | cons d rest' =>
          cases rest' with
          | cons => split at hf <;> first | (rename_i e1; cases e1; done) | cases hf
          | nil =>
          obtain ⟨md, e, q3⟩ := Reps.one q2
          subst e
          refine codeAny_call_builtin plain_pp PySem.F.entry_dict_pop ?_
          refine @check_any (model W.prog W.w) _ _ s "dict.pop" "dict" "pop" (.ref y) [.str x t, md] [] _ kind_pp split_pp hI (PySem.F.args_dict_pop_3 _ _ _) ?_
          unfold Builtin.«dict.pop» Builtin.Dict.keyAndDefault
          refine wpAny_bind (wpAny_bind (hord _ _ _ _ ?_))
          show wpAny _ _ (pure (y, Value.str x t, some md)) _ _ s
          refine wpAny_pure ?_
          dsimp only
          rw [if_pos (by rfl)]
          refine wpAny_bind (wpAny_pure ?_)
          rw [if_neg (by decide)]
          refine wpAny_bind (ctr_takeOut hkey I.at_ q5 q6 q7 (by omega) (fun hnone => ?_) fun en hv h' es' ep' g1 g2 g3 g4 g5 => ?_)
          · split at hf
            · rename_i e1; cases e1
            · rename_i v' d' hg hq
              cases hq
              obtain ⟨mv, f1, f2⟩ := hr.get hg
              rw [f1] at hnone; cases hnone
            · rename_i d' hg hq
              cases hq
              cases hf
              rw [if_pos (by rfl)]
              refine wpAny_bind (wpAny_missedRemoval_other hms ?_)
              exact wpAny_bind (wpAny_rule (wpAny_pure ⟨G, .refl _, r.tok, q3⟩))
            · cases hf
          · split at hf
            · rename_i e1; cases e1
            · rename_i v' d' hg hq
              cases hq
              cases hf
              obtain ⟨mv, f1, f2⟩ := hr.get hg
              rw [f1] at hv
              cases hv
              obtain ⟨G', l', r'⟩ := r.setCtr (l := delK l x) (tk := s.toks + 1) hm hk hz hn he g1 g2 g3 g4 g5 (hr.del _)
              rw [if_neg (by simp)]
              exact wpAny_bind (wpAny_letGo (wpAny_pure ⟨G', l', r', Rep.le f2 l'⟩))
            · rename_i d' hg hq
              cases hq
              rw [hr.getNone hg] at hv; cases hv
            · cases hf
      · cases hf
    · cases hf
  · cases hf
end
end Mine
end

section
open PySem PySem.W PySem.Calls PyProof.Rows
set_option Elab.async false
set_option maxRecDepth 20000
set_option linter.unusedSectionVars false
set_option linter.unusedVariables false
namespace Mine

theorem entry_dict_new' : entryFor table "dict.__new__" = some Builtin.«dict.__new__» := entryFor_of_tree (by kernel_rfl)

theorem plain_dict_new : plainId "dict.__new__" = true := by decide +kernel

structure CtrMk (K : Frag) (C fI : Addr) : Prop where
  obj : ∃ o, K.lookup C = some o ∧ ∃ cd, o.data = .cls cd ∧ cd.hasDel = false ∧ cd.mro.isEmpty = false
  call : ∀ M h, K.In h → Looks M h (specialOf (.ref C) "__call__") (some (.builtin "type.__call__"))
  typ : ∀ M h, K.In h → Looks M h (isInstance (.ref C) (.type "type")) true
  made : ∀ M h, K.In h → Looks M h (Bind.madeBy (.ref C)) (some "dict.__new__")
  chk : ∀ M h, K.In h → Looks M h (checkBuiltinCall "dict.__new__" ⟨[.ref C], []⟩) ()
  isty : ∀ M h, K.In h → Looks M h (isType (.ref C)) true
  sd : ∀ M h, K.In h → Looks M h (isSubtype (.ref C) (.type "dict")) true
  mro : ∃ l, (∀ M h, K.In h → Looks M h (mroOf (.ref C)) l) ∧ l.isEmpty = false ∧ (l.any fun | .type n => !["dict", "object", "collections.defaultdict", "collections.OrderedDict"].contains n | _ => false) = false
  self : ∀ M h, K.In h → Looks M h (isSubtype (.ref C) (.ref C)) true
  init : ∀ M h, K.In h → Looks M h (typeLookup (.ref C) "__init__") (some (.ref fI))
  fn : typeIn K (.ref fI) = some (.type "function")

theorem ctr_make {prog : Program} {w : World} {A : Around} {K : Frag} {C fI : Addr} {h : Heap} {g : Array GenState} {d : Drawn} {t : Nat} {os : OsState} {R : Result → Shared → Prop} (X : K.In h) (c : CtrMk K C fI)
    (hq : codeAny (model prog w) (A.under (.builtin "type.__call__" ⟨[.ref C], []⟩)) (.call (.ref fI) ⟨[.ref (h.objs.size + 1)], []⟩) (InitBack (h.objs.size + 1) R) ⟨(h.push emptyDict).push (ctrObj C h.objs.size #[] 0), g, d, t, os⟩) :
    codeAny (model prog w) A (.call (.ref C) ⟨[], []⟩) R ⟨h, g, d, t, os⟩ := by
  obtain ⟨o, ho, cd, hdat, hdel, hemp⟩ := c.obj
  obtain ⟨l, hm, hl0, hl1⟩ := c.mro
  have hC := X _ _ ho
  have call := c.call (model prog w) h X
  have typ := c.typ (model prog w) h X
  have made := c.made (model prog w) h X
  have hm := hm (model prog w) h X
  refine codeAny_of_tree ?_
  show wpAny _ _ (callAny (.ref C) _) _ _ _
  obtain ⟨oc, od, oda, osl⟩ := o
  dsimp only at hdat
  subst hdat
  refine nd_load hC ?_
  show wpAny _ _ (callAny.viaDunder (.ref C) _) _ _ _
  unfold callAny.viaDunder
  refine wpAny_bind (call.at ?_)
  dsimp only
  rw [tc_bind]
  refine wpAny_bind (wpAny_pure (wpAny_bind (wpAny_pure ?_)))
  refine wpAny_pure (a := Fin.again (.call (.builtin "type.__call__") ⟨[.ref C], []⟩)) (And.intro rfl ?_)
  refine codeAny_call_builtin_at (Code.quiet_builtin _ (by decide +kernel)) entry_typeCall (check_slot tc_kind tc_split typ (tc_args _ _ _) ?_)
  unfold Builtin.«type.__call__»
  dsimp only
  rw [if_neg (show ¬ ((Value.ref C == Value.type "type") = true) from Bool.false_ne_true)]
  refine wpAny_bind (hm.at ?_)
  rw [if_neg (by rw [hl0]; decide)]
  refine wpAny_bind (made.at ?_)
  dsimp only
  refine wpAny_bind (wpAny_pure ?_)
  refine wpAny_bind (wpAny_holding (wpAny_call ?_))
  refine codeAny_call_builtin plain_dict_new entry_dict_new' ((c.chk (model prog w) h X).at ?_)
  unfold Builtin.«dict.__new__»
  dsimp only
  refine wpAny_bind ((c.isty (model prog w) h X).at ?_)
  rw [if_neg (by decide)]
  refine wpAny_bind ((c.sd (model prog w) h X).at ?_)
  rw [if_neg (by decide)]
  refine wpAny_bind (hm.at ?_)
  refine wpAny_ite_split (fun e => absurd (hl1.symm.trans e) Bool.false_ne_true) (fun _ => ?_)
  refine wpAny_bind (wpAny_alloc ?_)
  refine wpAny_bind ?_
  show wpAny _ _ (newObjAsIs _ _ _) _ _ _
  unfold newObjAsIs classHasDel
  refine wpAny_bind (wpAny_alloc (wpAny_bind (wpAny_bind (wpAny_load (Heap.get?_push_of_some _ (Heap.get?_push_of_some _ hC)) (wpAny_pure ?_)))))
  rw [hdel]
  refine wpAny_pure (wpAny_pure ?_)
  have hs : (h.push emptyDict).objs.size = h.objs.size + 1 := Heap.size_push ..
  have k : ∀ b o, h.get? b = some o → ((h.push emptyDict).push (ctrObj C h.objs.size #[] 0)).get? b = some o := fun b o e => Heap.get?_push_of_some _ (Heap.get?_push_of_some _ e)
  have hx : ((h.push emptyDict).push (ctrObj C h.objs.size #[] 0)).get? (h.objs.size + 1) = some (ctrObj C h.objs.size #[] 0) := by
    rw [← hs]; exact Heap.get?_push_size _ rfl
  have t1 : Looks (model prog w) ((h.push emptyDict).push (ctrObj C h.objs.size #[] 0)) (typeOf (.ref (h.objs.size + 1))) (.ref C) := (Looks.ld hx).andThen .now
  have s1 := (c.self (model prog w) h X).keeps k
  have i1 := (c.init (model prog w) h X).keeps k
  have b1 := (bind_fn (M := model prog w) X (.ref (h.objs.size + 1)) c.fn).keeps k
  dsimp only
  rw [hs]
  show wpAny (model prog w) (A.under (.builtin "type.__call__" ⟨[.ref C], []⟩)) _ _ _ ⟨(h.push emptyDict).push (ctrObj C h.objs.size #[] 0), g, d, t, os⟩
  unfold isInstance
  refine wpAny_bind (wpAny_bind (t1.at (s1.at ?_)))
  rw [if_neg (by decide)]
  refine wpAny_bind (wpAny_holding ?_)
  unfold callSpecial? specialOf
  refine wpAny_bind (wpAny_bind (t1.at (i1.at ?_)))
  dsimp only
  refine wpAny_holding (wpAny_bind (b1.at ?_))
  refine wpAny_bind (wpAny_call ?_)
  refine codeAny_mono hq fun r s' z => ?_
  rcases r with e | (v | _ | _ | _) <;> first | exact z | exact z.elim | skip
  obtain ⟨rfl, z⟩ := z
  exact wpAny_pure (wpAny_pure z)
end Mine
end

section
open PySem PySem.W PySem.Calls PyProof.Rows
set_option Elab.async false
set_option maxRecDepth 20000
namespace Mine
theorem look_wd_get : typeLookup (.type "wrapper_descriptor") "__get__" = pure (some (.builtin "wrapper_descriptor.__get__")) := by rw [typeLookup_type, builtinLookup_eq_fast]; kernel_rfl
theorem entry_wd_get : entryFor table "wrapper_descriptor.__get__" = some Builtin.«wrapper_descriptor.__get__» := entryFor_of_tree (by kernel_rfl)
theorem args_wd_get (a b c : Value) : argsOk "wrapper_descriptor.__get__" ⟨[a, b, c], []⟩ := by unfold argsOk; kernel_rfl
theorem ty_dictInit : typeOf (.builtin "dict.__init__") = pure (.type "wrapper_descriptor") := by
  have hop : withoutEnding? "dict.__init__" "#opaque" = none := by decide +kernel
  have hdat : withoutEnding? "dict.__init__" "#data" = none := by decide +kernel
  have hk : builtinKind "dict.__init__" = some .slot := by decide +kernel
  simp only [typeOf, builtinType, hop, hdat, hk]; rfl

abbrev wrapObj (x : Addr) : Obj := { cls := .type "method-wrapper", data := .fields #[.builtin "dict.__init__", .ref x] }

theorem plain_wd_get : plainId "wrapper_descriptor.__get__" = true := by decide +kernel


theorem sub_wd : isSubtype (.type "wrapper_descriptor") (.type "wrapper_descriptor") = pure true := by rw [isSubtype_type]; kernel_rfl
theorem inst_wd (M : Model) (h : Heap) : Looks M h (isInstance (.builtin "dict.__init__") (.type "wrapper_descriptor")) true := by
  intro A Q E s k q
  unfold isInstance
  rw [ty_dictInit, pure_bind, sub_wd]
  exact wpAny_pure q
theorem wd_get {prog : Program} {w : World} {A : Around} {h : Heap} {g : Array GenState} {d : Drawn} {t : Nat} {os : OsState} {x C : Addr} {R : Result → Shared → Prop}
    (hinst : Looks (model prog w) h (isInstance (.ref x) (.type "dict")) true)
    (hq : R (.ok (.ret (.ref h.objs.size))) ⟨h.push (wrapObj x), g, d, t, os⟩) :
    codeAny (model prog w) A (.call (.builtin "wrapper_descriptor.__get__") ⟨[.builtin "dict.__init__", .ref x, .ref C], []⟩) R ⟨h, g, d, t, os⟩ := by
  have hk : builtinKind "wrapper_descriptor.__get__" = some .slot := by decide +kernel
  have hs : splitId "wrapper_descriptor.__get__" = some ("wrapper_descriptor", "__get__") := by decide +kernel
  have hi := inst_wd (model prog w) h
  refine codeAny_call_builtin plain_wd_get entry_wd_get ?_
  have ha := args_wd_get (.builtin "dict.__init__") (.ref x) (.ref C)
  refine @check_slot (model prog w) _ _ ⟨h, g, d, t, os⟩ _ _ _ _ _ _ _ hk hs hi ha ?_
  unfold Builtin.«wrapper_descriptor.__get__»
  k_delta "getArgs"
  refine wpAny_bind (wpAny_of_eq (a := (Value.builtin "dict.__init__", some (Value.ref x), some (Value.ref C))) rfl ?_)
  dsimp only
  k_delta "bindBuiltin"
  dsimp only
  k_delta "checkInstance"
  refine wpAny_bind (wpAny_bind ?_)
  refine wpAny_of_eq (a := (("__init__" : Str), Value.type "dict")) (by kernel_rfl) ?_
  dsimp only
  refine wpAny_bind (hinst.at ?_)
  rw [if_neg (by decide)]
  refine wpAny_pure (wpAny_bind ?_)
  unfold newFields
  repeat wp_step
  all_goals exact hq

theorem sb_ga {prog : Program} {w : World} {A : Around} {E : Value → Shared → Prop} {h : Heap} {g : Array GenState} {d : Drawn} {t : Nat} {os : OsState} {so D x C : Addr} {l₀ l : List Value} {K : Frag} {tk : Tok} {Q : Fin → Shared → Prop}
    (hso : h.get? so = some { cls := .type "super", dict := none, data := .fields #[.ref D, .ref x, .ref C], slots := #[] }) (hno : Looks (model prog w) h (opaqueClassAbove (.ref C)) none)
    (hC : Looks (model prog w) h (mroOf (.ref C)) l₀) (hl : (l₀.dropWhile (· != .ref D)).drop 1 = l) (X : K.In h)
    (hf : alongIn K "__init__" l = some (some (.builtin "dict.__init__"))) (hxC : x ≠ C) (hinst : Looks (model prog w) h (isInstance (.ref x) (.type "dict")) true)
    (hq : Q (.done (.ret (.ref h.objs.size))) ⟨h.push (wrapObj x), g, d, t, os⟩) :
    wpAny (model prog w) A (Builtin.«super.__getattribute__» ⟨[.ref so, .str "__init__" tk], []⟩) Q E ⟨h, g, d, t, os⟩ := by
  have hlk := look_wd_get
  have hne : (Value.ref x == Value.ref C) = false := by simp [hxC]
  have hn : (("__init__" : Str) == ("__class__" : Str)) = false := by decide +kernel
  have hdt : ({ cls := .type "super", dict := none, data := .fields #[.ref D, .ref x, .ref C], slots := #[] } : Obj).data = .fields #[.ref D, .ref x, .ref C] := rfl
  have f0 : (#[.ref D, .ref x, .ref C] : Array Value)[0]? = some (.ref D) := rfl
  have f1 : (#[.ref D, .ref x, .ref C] : Array Value)[1]? = some (.ref x) := rfl
  have f2 : (#[.ref D, .ref x, .ref C] : Array Value)[2]? = some (.ref C) := rfl
  unfold Builtin.«super.__getattribute__»
  repeat (first
    | (with_reducible refine wpAny_field hso hdt f0 ?_) | (with_reducible refine wpAny_field hso hdt f1 ?_) | (with_reducible refine wpAny_field hso hdt f2 ?_)
    | (with_reducible refine ks_wpAny_notOpaque hno ?_)
    | (with_reducible refine Looks.at hC ?_; rw [hl])
    | (refine ks_forIn_along X (fun _ _ => rfl) rfl ?_ hf)
    | (rw [ty_dictInit])
    | (with_reducible refine wpAny_of_eq hlk ?_)
    | (simp only [hn, hne, Bool.or_false, Bool.false_eq_true, if_false])
    | wp_step
    | dsimp only)
  refine wd_get hinst ?_
  exact wpAny_bind (wpAny_pure (wpAny_pure (wpAny_pure hq)))

theorem sb_gm {prog : Program} {w : World} {A : Around} {E : Value → Shared → Prop} {h : Heap} {g : Array GenState} {d : Drawn} {t : Nat} {os : OsState} {so D x C : Addr} {l₀ l : List Value} {K : Frag} {pl : Sem Bool} {Q : Value × List Value → Shared → Prop}
    (hso : h.get? so = some { cls := .type "super", dict := none, data := .fields #[.ref D, .ref x, .ref C], slots := #[] }) (hno : Looks (model prog w) h (opaqueClassAbove (.ref C)) none)
    (hC : Looks (model prog w) h (mroOf (.ref C)) l₀) (hl : (l₀.dropWhile (· != .ref D)).drop 1 = l) (X : K.In h)
    (hf : alongIn K "__init__" l = some (some (.builtin "dict.__init__"))) (hxC : x ≠ C) (hinst : Looks (model prog w) h (isInstance (.ref x) (.type "dict")) true)
    (hq : Q (.ref h.objs.size, []) ⟨h.push (wrapObj x), g, d, t + 1, os⟩) :
    wpAny (model prog w) A (getMethod (.ref so) "__init__" pl) Q E ⟨h, g, d, t, os⟩ := by
  have hlk := F.ks_slot_super_ga.lookup
  have hcan := F.ks_canon_super_ga
  have hT : ∀ t', (⟨h, g, d, t', os⟩ : Shared).TypeIs (.ref so) "super" := fun _ => ⟨_, hso, rfl⟩
  unfold getMethod
  refine wpAny_bind (wpAny_specialOf (hT _) hlk ?_)
  show wpAny _ _ (if (Manifest.canonical "super.__getattribute__" != "object.__getattribute__") = true then _ else _) _ _ _
  rw [if_pos hcan]
  unfold getAttr getAttrBy
  refine wpAny_bind (wpAny_bind (wpAny_mkText (wpAny_holding (wpAny_bind (wpAny_typeOf (hT _) (wpAny_bind (wpAny_of_eq hlk ?_)))))))
  show wpAny _ _ (getAttrByItsOwn (.ref so) (.str "__init__" t) (.type "super") (.builtin "super.__getattribute__") true false) _ _ _
  unfold getAttrByItsOwn hookBefore callGetattribute boundAndCalled
  refine wpAny_bind (wpAny_of_eq (show (if onTheHeap (.type "super") then typeLookup (.type "super") "__getattr__" else pure none) = pure none from rfl) ?_)
  refine wpAny_bind (wpAny_attempt (wpAny_holding ?_))
  show wpAny _ _ (bindSpecial (.builtin "super.__getattribute__") (.ref so) >>= _) _ _ _
  refine wpAny_bind (wpAny_of_eq (F.ks_slot_super_ga.bind _) ?_)
  refine wpAny_mono (Q := fun v s' => v = .ref h.objs.size ∧ s' = ⟨h.push (wrapObj x), g, d, t + 1, os⟩) (E := fun _ _ => False)
    (wpAny_call_entry F.ks_slot_super_ga (hT _) F.ks_entry_super_ga (sb_ga hso hno hC hl X hf hxC hinst ⟨_, rfl, rfl, rfl⟩) (F.ks_gaArgs_super _ _)) (fun v s' hv => ?_) fun _ _ z => z.elim
  obtain ⟨rfl, rfl⟩ := hv
  exact wpAny_pure (wpAny_pure hq)

end Mine
end

section
open PySem PySem.W PySem.Calls PyProof.Rows
set_option Elab.async false
set_option maxRecDepth 20000
namespace Mine
theorem entry_dict_init : entryFor table "dict.__init__" = some Builtin.«dict.__init__» := entryFor_of_tree (by kernel_rfl)
theorem plain_dict_init : plainId "dict.__init__" = true := by decide +kernel
theorem args_dict_init (a : Value) : argsOk "dict.__init__" ⟨[a], []⟩ := by unfold argsOk; kernel_rfl
theorem kind_dict_init : builtinKind "dict.__init__" = some .slot := by decide +kernel

/-- the wrapper of dict.__init__ is called without arguments -/
theorem wrap_call {prog : Program} {w : World} {A : Around} {h : Heap} {g : Array GenState} {d : Drawn} {t : Nat} {os : OsState} {b x C : Addr} {R : Result → Shared → Prop} {ox : Obj} {od : Option Obj}
    (hb : h.get? b = some (wrapObj x)) (I : InstAt h x ox C od) (hN : Looks (model prog w) h (isInstance (.ref x) (.type "collections.OrderedDict")) false)
    (hq : R (.ok (.ret .none)) ⟨h, g, d, t, os⟩) :
    codeAny (model prog w) A (.call (.ref b) ⟨[], []⟩) R ⟨h, g, d, t, os⟩ := by
  refine codeAny_of_tree ?_
  show wpAny _ A.in1 (callAny (.ref b) ⟨[], []⟩) _ _ _
  unfold callAny
  refine wpAny_bind (wpAny_load hb ?_)
  dsimp only
  rw [if_pos (by decide)]
  show wpAny (model prog w) _ (checkBoundCall "dict.__init__" ⟨[.ref x], []⟩ >>= _) _ _ _
  refine wpAny_bind ?_
  have hc : checkBoundCall "dict.__init__" ⟨[.ref x], []⟩ = pure () := by
    have ha := args_dict_init (.ref x)
    unfold argsOk at ha
    unfold checkBoundCall
    split at ha
    · rename_i sig hs
      simp only [hs, kind_dict_init]
      rw [if_pos (by decide)]
      exact ha
    · rename_i hs
      simp only [hs]
  refine wpAny_of_eq hc ?_
  refine wpAny_bind (wpAny_pure (wpAny_pure ⟨Code.quiet_builtin _ (by decide +kernel), ?_⟩))
  show codeAny (model prog w) A (.builtin "dict.__init__" ⟨[.ref x], []⟩) _ _
  refine codeAny_builtin entry_dict_init ?_
  unfold Builtin.«dict.__init__» Builtin.Dict.selfAndRest
  refine wpAny_bind (wpAny_bind ?_)
  unfold Builtin.Dict.notOrdered
  rw [if_pos (by decide)]
  dsimp only [List.headD]
  refine wpAny_bind (I.type.here ?_)
  rw [if_pos (by rfl)]
  refine wpAny_bind (hN.here ?_)
  rw [if_neg (by decide)]
  refine wpAny_pure ?_
  refine wpAny_bind (wpAny_pure (wpAny_pure ?_))
  unfold Builtin.Dict.updateCommon Builtin.Dict.addKeywords
  dsimp only
  exact wpAny_bind (wpAny_pure (wpAny_pure hq))
end Mine
end

section
open PySem PySem.W PySem.Calls PyProof.Rows
set_option Elab.async false
set_option maxRecDepth 20000
namespace Mine

theorem look_dict_iter : typeLookup (.type "dict") "__iter__" = pure (some (.builtin "dict.__iter__")) := by rw [typeLookup_type, builtinLookup_eq_fast]; kernel_rfl
theorem mmEmpty {M : Model} {A : Around} {h : Heap} {g : Array GenState} {d : Drawn} {t : Nat} {os : OsState} {dd a : Addr} {Q : Unit → Shared → Prop} {E : Value → Shared → Prop}
    (hd : h.get? dd = some emptyDict) (ha : h.get? a = some emptyDict) (hs : a ≠ sysModules) (hq : Q () ⟨h, g, d, t, os⟩) : wpAny M A (mergeMapping dd (.ref a) true) Q E ⟨h, g, d, t, os⟩ := by
  have hT : (⟨h, g, d, t, os⟩ : Shared).TypeIs (.ref a) "dict" := ⟨_, ha, rfl⟩
  have hsub : isSubtype (.type "dict") (.type "dict") = pure true := by rw [isSubtype_type]; kernel_rfl
  have hne : (a == sysModules) = false := by simpa using hs
  unfold mergeMapping
  refine wpAny_bind (wpAny_bind ?_)
  refine wpAny_typeOf hT ?_
  refine wpAny_of_eq hsub ?_
  dsimp only
  rw [if_pos rfl]
  refine wpAny_bind (wpAny_specialOf hT look_dict_iter ?_)
  refine wpAny_bind (wpAny_pure ?_)
  rw [show ((some (Value.builtin "dict.__iter__") == some (Value.builtin "dict.__iter__")) = true) from by decide]
  dsimp only
  rw [if_neg (by rw [hne]; decide)]
  refine wpAny_bind (wpAny_dictEntries hd rfl ?_)
  rw [if_pos (by rfl)]
  refine wpAny_bind (wpAny_dictEntries ha rfl ?_)
  refine wpAny_bind ?_
  rw [← Array.forIn_toList]
  dsimp only
  rw [List.forIn_nil]
  refine wpAny_pure ?_
  refine wpAny_bind (wpAny_dictEntries ha rfl ?_)
  refine wpAny_bind (wpAny_dictEpoch ha rfl ?_)
  rw [show List.range (#[] : Array DictEntry).size = [] from rfl, List.forIn_nil]
  exact wpAny_bind (wpAny_pure (wpAny_pure hq))

theorem mergeEmpty {prog : Program} {w : World} {A : Around} {h : Heap} {g : Array GenState} {d : Drawn} {t : Nat} {os : OsState} {f : Value} {a : Addr} {x : Sem Value} {Q : Args → Shared → Prop}  {E : Value → Shared → Prop}
    (ha : h.get? a = some emptyDict) (hs : a ≠ sysModules)
    (hx : ∀ (A' : Around) (E' : Value → Shared → Prop) Q' h' t', (∀ b o, h.get? b = some o → h'.get? b = some o) → Q' (.ref a) ⟨h', g, d, t', os⟩ → wpAny (model prog w) A' x Q' E' ⟨h', g, d, t', os⟩)
    (hq : ∀ h' t', (∀ b o, h.get? b = some o → h'.get? b = some o) → Q ⟨[], []⟩ ⟨h', g, d, t', os⟩) :
    wpAny (model prog w) A (mergedKeywords f [(none, x)] >>= fun dd => keywordsIn f dd >>= fun kw => pure ⟨[], kw⟩) Q E ⟨h, g, d, t, os⟩ := by
  have hsz : (h.push emptyDict).get? h.objs.size = some emptyDict := Heap.get?_push_size _ rfl
  have ha' : (h.push emptyDict).get? a = some emptyDict := Heap.get?_push_of_some _ ha
  have hT : ∀ t', (⟨h.push emptyDict, g, d, t', os⟩ : Shared).TypeIs (.ref a) "dict" := fun _ => ⟨_, ha', rfl⟩
  unfold mergedKeywords
  refine wpAny_bind (wpAny_bind (wpAny_alloc (wpAny_bind (wpAny_holding ?_))))
  dsimp only
  rw [List.forIn_cons]
  dsimp only
  rw [if_pos (by rfl)]
  refine wpAny_bind (wpAny_bind (wpAny_bind (wpAny_pure ?_)))
  refine wpAny_bind (hx _ _ _ _ _ (fun b o e => Heap.get?_push_of_some _ e) ?_)
  refine wpAny_bind (wpAny_onRaise ?_)
  refine wpAny_holding (wpAny_tryCatch (wpAny_onRaise (mmEmpty hsz ha' hs ?_)))
  refine wpAny_pure ?_
  dsimp only
  rw [List.forIn_nil]
  refine wpAny_pure ?_
  rw [if_pos (by rfl)]
  refine wpAny_pure (wpAny_pure ?_)
  unfold keywordsIn
  refine wpAny_bind (wpAny_bind (wpAny_dictEntries hsz rfl ?_))
  rw [← Array.forIn_toList]
  dsimp only
  rw [List.forIn_nil]
  refine wpAny_bind (wpAny_pure (wpAny_pure (wpAny_pure ?_)))
  exact hq _ _ fun b o e => Heap.get?_push_of_some _ e
end Mine
end

section
open PySem PySem.W PySem.Calls PyProof.Rows
set_option Elab.async false
set_option maxRecDepth 20000
set_option linter.unusedVariables false
namespace Mine
theorem bind_kw1 {M : Model} {A : Around} {E : Value → Shared → Prop} {h : Heap} {g : Array GenState} {d : Drawn} {t : Nat} {os : OsState} {fd : FuncData} {a1 a2 kw : Arg} {ds : List Expr} {T : Addr} {o : Obj} {m : Nat} {x : Value} {Q : List (Str × Value) → Shared → Prop}
    (hp : fd.params = { posonlyargs := [a1, a2], args := [], vararg := none, kwonlyargs := [], kw_defaults := [], kwarg := some kw, defaults := ds }) (hd : fd.defaults = .ref T) (ho : h.get? T = some o) (hs : o.data = .seq #[.none] m)
    (hne : (a1.arg == a2.arg) = false)
    (hq : Q [(a1.arg, x), (a2.arg, .none), (kw.arg, .ref h.objs.size)] ⟨h.push emptyDict, g, d, t, os⟩) :
    wpAny M A (bindArgs fd ⟨[x], []⟩) Q E ⟨h, g, d, t, os⟩ := by
  unfold bindArgs
  simp only [hp, hd]
  rw [List.forIn_nil, pure_bind]
  refine wpAny_bind ?_
  unfold seqItems?
  refine wpAny_bind (wpAny_load ho ?_)
  rw [hs]
  refine wpAny_pure ?_
  have e1 : List.lookup a1.arg [(a1.arg, x)] = some x := by simp [List.lookup_cons]
  have e2 : List.lookup a2.arg [(a1.arg, x)] = none := by
    rw [List.lookup_cons]
    have : (a2.arg == a1.arg) = false := by rw [BEq.comm]; exact hne
    rw [this]; rfl
  have e3 : List.lookup a1.arg [(a1.arg, x), (a2.arg, Value.none)] = some x := by simp [List.lookup_cons]
  have e4 : List.lookup a2.arg [(a1.arg, x), (a2.arg, Value.none)] = some .none := by
    rw [List.lookup_cons]
    have : (a2.arg == a1.arg) = false := by rw [BEq.comm]; exact hne
    rw [this]; simp [List.lookup_cons]
  simp [e1, e2, e3, e4]
  rw [← bind_pure_comp]
  exact wpAny_bind (wpAny_alloc (wpAny_pure hq))
theorem bind_kw2 {M : Model} {A : Around} {E : Value → Shared → Prop} {h : Heap} {g : Array GenState} {d : Drawn} {t : Nat} {os : OsState} {fd : FuncData} {a1 a2 kw : Arg} {ds : List Expr} {T : Addr} {o : Obj} {m : Nat} {x y : Value} {Q : List (Str × Value) → Shared → Prop}
    (hp : fd.params = { posonlyargs := [a1, a2], args := [], vararg := none, kwonlyargs := [], kw_defaults := [], kwarg := some kw, defaults := ds }) (hd : fd.defaults = .ref T) (ho : h.get? T = some o) (hs : o.data = .seq #[.none] m)
    (hne : (a1.arg == a2.arg) = false)
    (hq : Q [(a1.arg, x), (a2.arg, y), (kw.arg, .ref h.objs.size)] ⟨h.push emptyDict, g, d, t, os⟩) :
    wpAny M A (bindArgs fd ⟨[x, y], []⟩) Q E ⟨h, g, d, t, os⟩ := by
  unfold bindArgs
  simp only [hp, hd]
  rw [List.forIn_nil, pure_bind]
  refine wpAny_bind ?_
  unfold seqItems?
  refine wpAny_bind (wpAny_load ho ?_)
  rw [hs]
  refine wpAny_pure ?_
  have e3 : List.lookup a1.arg [(a1.arg, x), (a2.arg, y)] = some x := by simp [List.lookup_cons]
  have e4 : List.lookup a2.arg [(a1.arg, x), (a2.arg, y)] = some y := by
    rw [List.lookup_cons]
    have : (a2.arg == a1.arg) = false := by rw [BEq.comm]; exact hne
    rw [this]; simp [List.lookup_cons]
  simp [e3, e4]
  rw [← bind_pure_comp]
  exact wpAny_bind (wpAny_alloc (wpAny_pure hq))

/-- a function is entered of which no name is a cell -/
theorem enterA {prog : Program} {w : World} {A : Around} {s : Shared} {a : Addr} {o : Obj} {fd : FuncData} {body : List Stmt} {args : Args} {R : Result → Shared → Prop} {binds : List (Str × Value)} {s1 : Shared}
    (hroom : A.depth < recursionLimit) (ho : s.heap.get? a = some o) (hdata : o.data = .func fd) (hbody : fd.body = .stmts body) (hcd : s.heap.CodeRec fd.code fd.qualname)
    (hco : fd.scope.isCoroutine = false) (hgen : fd.scope.isGenerator = false) (hk : fd.scope.kind = .function)
    (hcell : ∀ x ∈ fd.scope.names, x.2 ≠ .cell) (hloc : ∀ x ∈ binds, fd.scope.names.lookup x.1 = some .local)
    (hb : ∀ Q E, Q binds s1 → wpAny (model prog w) A.in1 (bindArgs fd args) Q E s)
    (h : ∀ h₀, h₀.Ns s1.heap.objs.size (fun x => binds.reverse.lookup x) → (∀ b o, s1.heap.get? b = some o → h₀.get? b = some o) →
      h₀.NoLimit ∧ _root_.PySem.wpAt (model prog w) (A.deeper (callEnv fd s1.heap.objs.size a)) (.func body (callEnv fd s1.heap.objs.size a)) (execs body (callEnv fd s1.heap.objs.size a)) (fun f s' => R (.ok (.ret (match f with | .ret v => v | _ => .none))) s')
        (fun e s' => wpAny (model prog w) (A.deeper (callEnv fd s1.heap.objs.size a)) (leaving (callEnv fd s1.heap.objs.size a) e) (fun _ s'' => R (.error e) s'') (fun e' s'' => R (.error e') s'') s')
        { s1 with heap := h₀, toks := s1.toks + binds.length }) :
    codeAny (model prog w) A (.call (.ref a) args) R s := by
  refine codeAny_call_function hroom ho hdata hco hgen hbody hcd (hb _ _ ?_)
  refine wpAny_newFunctionEnv hcell hloc (fun h₀ hns₀ hsb₀ => ?_) hk
  obtain ⟨h1, h2⟩ := h h₀ hns₀ fun b o e => hsb₀.extBut b o (Nat.ne_of_lt (Heap.lt_size e)) (Heap.get?_push_of_some _ e)
  exact ⟨h1, ks_codeAny_funcAt h2⟩
end Mine
end

section
open PySem PySem.W PySem.Calls PyProof.Rows
set_option Elab.async false
set_option maxRecDepth 20000
set_option linter.unusedVariables false
set_option linter.unusedSectionVars false
namespace Mine

/-- a method of a counter's class is asked for -/
theorem ctr_method {W : Wd} {A : Around} {E : Value → Shared → Prop} {s : Shared} {C fM f x : Addr} {ox od : Obj} {m : Str → Option Value} {name : Str} {v : Value} {tv : Value} {pl : Sem Bool} {Q : Value × List Value → Shared → Prop} (c : CtrCls W C fM) (X : W.K.In s.heap)
    (I : InstAt s.heap x ox C (some od)) (hd : ox.dict.isSome = true) (hn : NsOb od m) (he : m name = none) (hf : findIn W.K (.ref C) name = some (some v)) (ht : Looks W.M s.heap (typeOf v) tv) (htv : (tv != .type "function" && tv != .type "method_descriptor" && tv != .type "wrapper_descriptor") = false)
    (h : Q (v, [.ref x]) s) : wpAny W.M A (getMethod (.ref x) name pl) Q E s := by
  obtain ⟨id, hga, hcan⟩ := c.ga
  unfold getMethod specialOf
  refine wpAny_bind (wpAny_bind (I.type.here ((looks_findIn X hga).here ?_)))
  dsimp only
  rw [if_neg (by rw [hcan]; decide)]
  refine wpAny_bind (wpAny_bind (I.type.here ((looks_findIn X c.gt).here ?_)))
  refine wpAny_bind (wpAny_bind (I.type.here ((looks_findIn X hf).here (wpAny_bind (ht.here ?_)))))
  rw [if_neg (by rw [htv]; decide)]
  refine wpAny_bind (wpAny_loadPart I.at_ ?_)
  have hdx := I.dict
  cases q : ox.dict with
  | none => rw [q] at hd; cases hd
  | some dx =>
    rw [q] at hdx
    dsimp only at hdx ⊢
    refine wpAny_bind (wpAny_nsGet (hn.ns hdx) ?_)
    rw [he]
    exact wpAny_bind (wpAny_rule (wpAny_pure h))

structure CtrIni (W : Wd) (C fM fI fU cc cda T : Addr) (fd : FuncData) (cd : ClassData) (a1 a2 kw : Arg) : Prop where
  cls : CtrCls W C fM
  at_ : ∃ o, W.K.lookup fI = some o ∧ o.data = .func fd
  params : ∃ ds, fd.params = { posonlyargs := [a1, a2], args := [], vararg := none, kwonlyargs := [], kw_defaults := [], kwarg := some kw, defaults := ds }
  dfl : fd.defaults = .ref T
  tup : ∃ o m, W.K.lookup T = some o ∧ o.data = .seq #[.none] m
  body : ∃ p0 p1 p2 p3 p4 p5 p6 p7 p8 p9 p10 p11, fd.body = .stmts [.Expr (.Call (.Attribute (.Call (.Name "super" p0) [] [] p1) "__init__" p2) [] [] p3) p4,
    .Expr (.Call (.Attribute (.Name a1.arg p5) "update" p6) [.Name a2.arg p7] [⟨none, .Name kw.arg p8, p9⟩] p10) p11]
  s1 : fd.scope.names.lookup a1.arg = some .local
  s2 : fd.scope.names.lookup a2.arg = some .local
  s3 : fd.scope.names.lookup kw.arg = some .local
  d12 : (a1.arg == a2.arg) = false
  d13 : (a1.arg == kw.arg) = false
  d23 : (a2.arg == kw.arg) = false
  b1 : (a1.arg == ("__debug__" : Str)) = false
  b2 : (a2.arg == ("__debug__" : Str)) = false
  b3 : (kw.arg == ("__debug__" : Str)) = false
  sup : fd.scope.names.lookup ("super" : Str) = some .globalImplicit
  cel : fd.scope.names.lookup ("__class__" : Str) = some .free
  nc : ∀ x ∈ fd.scope.names, x.2 ≠ .cell
  kind : fd.scope.kind = .function
  co : fd.scope.isCoroutine = false
  gen : fd.scope.isGenerator = false
  glob : fd.globals = mainGlobals
  bui : fd.builtins = builtinsNs
  clo : fd.closure = [(("__class__" : Str), cc)]
  cell : ∃ o, W.K.lookup cc = some o ∧ o.data = .cell (some (.ref C))
  code : ∃ o vs t file tf, fd.code = .ref cda ∧ W.K.lookup cda = some o ∧ o.data = .fields vs ∧ vs[1]? = some (.str fd.qualname t) ∧ vs[2]? = some (.str file tf) ∧ ((W.prog.main.file : Str) == file) = true
  mg : W.mg "super" = none
  mb : W.mb "super" = some (.type "super")
  top : (W.prog.main.scope.names.lookup ("super" : Str)).isSome = false
  cin : clsIn W.K C = some cd
  slf : mroIn W.K C (.ref C) = some true
  aft : alongIn W.K "__init__" ((cd.mro.dropWhile (· != .ref C)).drop 1) = some (some (.builtin "dict.__init__"))
  opq : nsIn W.K cStatics "thirdparty.any" = some none
  upd : findIn W.K (.ref C) "update" = some (some (.ref fU))
  ufn : typeIn W.K (.ref fU) = some (.type "function")
  ufd : ∃ o f, W.K.lookup fU = some o ∧ o.data = .func f

section
variable {W : Wd} {n : Nat}
theorem ini_super (ok : W.Ok) {C fM fI fU cc cda T : Addr} {fd : FuncData} {cd : ClassData} {a1 a2 kw : Arg} (c : CtrIni W C fM fI fU cc cda T fd cd a1 a2 kw) {A : Around} {E : Value → Shared → Prop} {G : Gh} {σ : St} {s : Shared} (r : R W G σ s) {L x : Addr} {ox : Obj} {od : Option Obj} {m : Str → Option Value}
    (I : InstAt s.heap x ox C od) (hnc : ∀ c, ox.data ≠ .cls c) (hL : s.heap.Ns L m) (hm : m a1.arg = some (.ref x)) {body : List Stmt} {p0 p1 p2 p3 p4 : Pos} {Q : Flow → Shared → Prop}
    (hq : ∀ h' t', (∀ b o, s.heap.get? b = some o → h'.get? b = some o) → Q .next { s with heap := h', toks := t' }) :
    _root_.PySem.wpAt W.M A (.func body (callEnv fd L fI)) (exec (.Expr (.Call (.Attribute (.Call (.Name "super" p0) [] [] p1) "__init__" p2) [] [] p3) p4) (callEnv fd L fI)) Q E s := by
  have X := r.kin ok
  obtain ⟨of, hf, hfd⟩ := c.at_
  obtain ⟨ds, hpar⟩ := c.params
  obtain ⟨oc, vs, tc, file, tf, hco, hcd, hvs, hv1, hv2, hfile⟩ := c.code
  obtain ⟨oce, hce, hced⟩ := c.cell
  obtain ⟨hh, g, d, t, os⟩ := s
  obtain ⟨oD, hD1, hD2⟩ : ∃ oD, hh.get? C = some oD ∧ oD.data = .cls cd := by
    have hD := c.cin
    unfold clsIn at hD
    split at hD
    · rename_i c d cd' sl ho
      cases hD
      exact ⟨_, X _ _ ho, rfl⟩
    · cases hD
  have hk : (callEnv fd L fI).scope.kind = .function := c.kind
  have hfile2 : (vs[2]? = some (.str file tf)) := hv2
  refine ks_wpAt_Expr_any ?_ (hi := by show (fd.scope.kind == .module && _) = false; rw [c.kind]; rfl)
  rw [arm_eval_Call]
  refine PySem.wpAt_bind ?_
  refine ks_wpAt_super_base (env := callEnv fd L fI) c.sup c.cel (by decide +kernel) rfl (X _ _ hf) hfd (by rw [hpar]; rfl) hco (X _ _ hcd) hvs hv2 hfile c.top ?_
  refine ks_loadName_global hk c.sup ?_
  refine loadGlobal_builtin (env := callEnv fd L fI) (mg := W.mg) (mb := W.mb) (by show Heap.Ns _ fd.globals _; rw [c.glob]; exact r.gl ok) c.mg (by show Heap.Ns _ fd.builtins _; rw [c.bui]; exact r.bu ok) c.mb ⟨rfl, ?_⟩
  refine wpAny_loadName_free hk c.cel (c := cc) (by show fd.closure.lookup _ = _; rw [c.clo]; simp [List.lookup_cons]) ⟨oce, X _ _ hce, hced⟩ ?_
  refine wpAny_loadName_local hk c.s1 hL hm ?_
  refine ks_wpAny_isType_cls hD1 hD2 ⟨rfl, ?_⟩
  refine ks_wpAny_call_super hD1 hD2 I.at_ I.cls hnc (looks_mroIn X c.slf) (fun h' e k => ?_)
  have X' := X.keeps k
  have hx' := k _ _ I.at_
  have hsd := looks_subIn (M := W.M) X' c.cls.sd
  have hso' := looks_subIn (M := W.M) X' c.cls.so
  have hty : Looks W.M h' (typeOf (.ref x)) (.ref C) := I.cls ▸ (Looks.ld hx').andThen .now
  have hxC : x ≠ C := by
    rintro rfl
    have e := I.at_
    rw [hD1] at e
    cases e
    exact hnc _ hD2
  refine PySem.wpAt_of_wpAny (wpAny_bind (wpAny_standAt ?_))
  unfold methodCall
  refine wpAny_bind (wpAny_holding ?_)
  unfold calleeOf
  rw [if_pos (by rfl)]
  refine sb_gm (C := C) (D := C) (l₀ := cd.mro) e (looks_opaque X' c.opq) ?_ rfl X' c.aft hxC (hty.andThen hsd) ?_
  · exact fun A Q E s k q => wpAny_bind ((looks_clsIn X' c.cin) A _ E s k (wpAny_pure q))
  · have k2 : ∀ b o, hh.get? b = some o → (h'.push (wrapObj x)).get? b = some o := fun b o q => Heap.get?_push_of_some _ (k _ _ q)
    have hw : (h'.push (wrapObj x)).get? h'.objs.size = some (wrapObj x) := Heap.get?_push_size _ rfl
    refine wpAny_bind ?_
    have hpos : ∀ (A : Around) (E : Value → Shared → Prop) (Q : Pos → Shared → Prop) s, (∀ p, Q p s) → wpAny (model W.prog W.w) A (methodCallPos (methodCallForm (([] : List Expr).length + ([] : List Keyword).length) (backTo p3 (starEach [] (callEnv fd L fI))) (backToKw p3 (keywordEach [] (callEnv fd L fI)))) (.Call (.Name "super" p0) [] [] p1) (callEnv fd L fI) p2 p3) Q E s := by
      intro A E Q s hQ
      unfold methodCallPos
      refine wpAny_ite_split (fun _ => wpAny_pure (hQ _)) (fun _ => ?_)
      refine wpAny_bind (wpAny_pure ?_)
      rw [if_neg (by decide)]
      unfold importBound
      refine wpAny_bind (wpAny_pure ?_)
      exact wpAny_pure (hQ _)
    refine hpos _ _ _ _ fun pp => ?_
    refine callWith_of (P := fun h => h = h'.push (wrapObj x)) rfl (fun h e => ⟨.machine, .inr (.inl rfl), ?_⟩) (evalArgs_nil3 ⟨rfl, ?_⟩)
    · subst e
      exact (Looks.ld (part := Option.none) hw).andThen .now
    · have I2 : InstAt (h'.push (wrapObj x)) x ox C od := ⟨k2 _ _ I.at_, I.cls, I.no, by
        have q := I.dict
        cases e1 : ox.dict <;> cases e2 : od <;> rw [e1, e2] at q <;> first | exact k2 _ _ q | exact q⟩
      have X2 : W.K.In (h'.push (wrapObj x)) := X.keeps k2
      refine wpAny_call (wrap_call hw I2 (I2.type.andThen (looks_subIn X2 c.cls.so)) ?_)
      exact hq _ _ k2
end
end Mine
end

section
open PySem PySem.W PySem.Calls PyProof.Rows
set_option Elab.async false
set_option maxRecDepth 20000
namespace Mine
theorem kind_dga : builtinKind "dict.__getattribute__" = some .slot := by decide +kernel
theorem split_dga : splitId "dict.__getattribute__" = some ("dict", "__getattribute__") := by decide +kernel
theorem plain_dga : plainId "dict.__getattribute__" = true := by decide +kernel
theorem entry_dga : entryFor table "dict.__getattribute__" = some Builtin.«object.__getattribute__» := entryFor_alias (id' := "object.__getattribute__") (by rw [fastTable_eq_tree]; kernel_rfl) (by decide +kernel) (by decide +kernel) (by rw [fastTable_eq_tree]; kernel_rfl)
theorem args_dga (a b : Value) : argsOk "dict.__getattribute__" ⟨[a, b], []⟩ := by unfold argsOk; kernel_rfl
theorem bind_dga (self : Value) : bindSpecial (.builtin "dict.__getattribute__") self = pure (.builtin "dict.__getattribute__", [self]) := by
  have hop : withoutEnding? "dict.__getattribute__" "#opaque" = none := by decide +kernel
  have hdat : withoutEnding? "dict.__getattribute__" "#data" = none := by decide +kernel
  simp only [bindSpecial, typeOf, builtinType, hop, hdat, kind_dga]; rfl

theorem dga_get {prog : Program} {w : World} {A : Around} {E : Value → Shared → Prop} {K : Frag} {h : Heap} {g : Array GenState} {d : Drawn} {t : Nat} {os : OsState} {x C f : Addr} {ox : Obj} {od : Option Obj} {name : Str} {Q : Value → Shared → Prop} (X : K.In h) (I : InstAt h x ox C od)
    (hga : findIn K (.ref C) "__getattribute__" = some (some (.builtin "dict.__getattribute__"))) (hk : findIn K (.ref C) "__getattr__" = some none)
    (hsd : Looks (model prog w) h (isInstance (.ref x) (.type "dict")) true)
    (hf : findObj K C od name = some (.bind (.builtin "function.__get__") (.ref f))) (ht : typeIn K (.ref f) = some (.type "function"))
    (hq : Q (.ref h.objs.size) ⟨h.push (methodObj (.ref f) (.ref x)), g, d, t + 1, os⟩) :
    wpAny (model prog w) A (getAttr (.ref x) name true) Q E ⟨h, g, d, t, os⟩ := by
  have L0 := I.type (M := model prog w)
  have L1 := looks_findIn (M := model prog w) X hga
  have L2 := looks_findIn (M := model prog w) X hk
  have L3 := looks_find (M := model prog w) X I hf
  unfold getAttr getAttrBy
  refine wpAny_bind (wpAny_mkText (wpAny_holding (wpAny_bind (L0.at (wpAny_bind (L1.at ?_))))))
  dsimp only
  rw [if_neg (by rw [show (Value.builtin "dict.__getattribute__" == Value.builtin "object.__getattribute__") = false from by decide, Bool.and_false]; decide)]
  unfold getAttrByItsOwn hookBefore callGetattribute boundAndCalled
  rw [if_pos (by rfl)]
  refine wpAny_bind (L2.at ?_)
  refine wpAny_bind (wpAny_attempt (wpAny_holding ?_))
  rw [if_neg (by decide), bind_dga, pure_bind]
  dsimp only
  refine wpAny_call (codeAny_call_builtin plain_dga entry_dga ?_)
  have ha := args_dga (.ref x) (.str name t)
  refine @check_slot (model prog w) _ _ ⟨h, g, d, t + 1, os⟩ _ _ _ _ _ _ _ kind_dga split_dga hsd ha ?_
  unfold Builtin.«object.__getattribute__»
  refine wpAny_bind (wpAny_pure (wpAny_bind (wpAny_pure (wpAny_bind (L0.at (wpAny_bind (L3.at ?_)))))))
  dsimp only
  unfold Builtin.ObjectAttr.bindTo
  dsimp only
  refine wpAny_bind (wpAny_holding (wpAny_call (fn_get X ht ?_)))
  refine wpAny_pure ?_
  dsimp only
  rw [handedOut_of rfl]
  exact wpAny_pure hq
end Mine
end

section
open PySem PySem.W PySem.Calls PyProof.Rows
set_option Elab.async false
set_option maxRecDepth 20000
set_option linter.unusedVariables false
set_option linter.unusedSectionVars false
namespace Mine
theorem mergedE {prog : Program} {w : World} {A : Around} {h : Heap} {g : Array GenState} {d : Drawn} {t : Nat} {os : OsState} {f : Value} {a : Addr} {x : Sem Value} {Q : Addr → Shared → Prop}  {E : Value → Shared → Prop}
    (ha : h.get? a = some emptyDict) (hs : a ≠ sysModules)
    (hx : ∀ (A' : Around) (E' : Value → Shared → Prop) Q' h' t', (∀ b o, h.get? b = some o → h'.get? b = some o) → Q' (.ref a) ⟨h', g, d, t', os⟩ → wpAny (model prog w) A' x Q' E' ⟨h', g, d, t', os⟩)
    (hq : Q h.objs.size ⟨h.push emptyDict, g, d, t, os⟩) :
    wpAny (model prog w) A (mergedKeywords f [(none, x)]) Q E ⟨h, g, d, t, os⟩ := by
  have hsz : (h.push emptyDict).get? h.objs.size = some emptyDict := Heap.get?_push_size _ rfl
  have ha' : (h.push emptyDict).get? a = some emptyDict := Heap.get?_push_of_some _ ha
  have hT : ∀ t', (⟨h.push emptyDict, g, d, t', os⟩ : Shared).TypeIs (.ref a) "dict" := fun _ => ⟨_, ha', rfl⟩
  unfold mergedKeywords
  refine wpAny_bind (wpAny_alloc (wpAny_bind (wpAny_holding ?_)))
  dsimp only
  rw [List.forIn_cons]
  dsimp only
  rw [if_pos (by rfl)]
  refine wpAny_bind (wpAny_bind (wpAny_bind (wpAny_pure ?_)))
  refine wpAny_bind (hx _ _ _ _ _ (fun b o e => Heap.get?_push_of_some _ e) ?_)
  refine wpAny_bind (wpAny_onRaise ?_)
  refine wpAny_holding (wpAny_tryCatch (wpAny_onRaise (mmEmpty hsz ha' hs ?_)))
  refine wpAny_pure ?_
  dsimp only
  rw [List.forIn_nil]
  refine wpAny_pure ?_
  rw [if_pos (by rfl)]
  refine wpAny_pure (wpAny_pure ?_)
  exact hq

theorem kwInE {M : Model} {A : Around} {s : Shared} {f : Value} {dd : Addr} {Q : List (Str × Value) → Shared → Prop} {E : Value → Shared → Prop} (hd : s.heap.get? dd = some emptyDict) (hq : Q [] s) : wpAny M A (keywordsIn f dd) Q E s := by
  unfold keywordsIn
  refine wpAny_bind (wpAny_dictEntries hd rfl ?_)
  refine wpAny_bind ?_
  rw [← Array.forIn_toList]
  dsimp only
  rw [List.forIn_nil]
  exact wpAny_pure (wpAny_pure hq)

/-- a bound method called with one argument and an empty dict of keywords -/
theorem call_star {prog : Program} {w : World} {A : Around} {E : Value → Shared → Prop} {h : Heap} {g : Array GenState} {d : Drawn} {t : Nat} {os : OsState} {q f a : Addr} {x y : Value} {ex ek : Sem Value} {pos : Pos} {of : Obj} {fd : FuncData} {Q : Value → Shared → Prop}
    (hqo : h.get? q = some (methodObj (.ref f) x)) (hfo : h.get? f = some of) (hfd : of.data = .func fd) (ha : h.get? a = some emptyDict) (hs : a ≠ sysModules)
    (hy : ∀ (A' : Around) (E' : Value → Shared → Prop) Q', Q' y ⟨h, g, d, t, os⟩ → wpAny (model prog w) A' ex Q' E' ⟨h, g, d, t, os⟩)
    (hx : ∀ (A' : Around) (E' : Value → Shared → Prop) Q' h' t', (∀ b o, h.get? b = some o → h'.get? b = some o) → Q' (.ref a) ⟨h', g, d, t', os⟩ → wpAny (model prog w) A' ek Q' E' ⟨h', g, d, t', os⟩)
    (hq : codeAny (model prog w) A (.call (.ref f) ⟨[x, y], []⟩) (fun r s' => match r with | .ok (.ret v) => Q v s' | .ok _ => False | .error e => E e s') ⟨h.push emptyDict, g, d, t, os⟩) :
    wpAny (model prog w) A (callWith pos (.ref q) [] [(false, ex)] [(none, ek)]) Q E ⟨h, g, d, t, os⟩ := by
  have k : ∀ b o, h.get? b = some o → (h.push emptyDict).get? b = some o := fun b o e => Heap.get?_push_of_some _ e
  unfold callWith
  refine wpAny_bind (wpAny_holding ?_)
  unfold evalArgs
  have kq : (h.push emptyDict).get? h.objs.size = some emptyDict := Heap.get?_push_size _ rfl
  refine wpAny_bind (spliced_cons (hy _ _ _ (Calls.spliced_nil ?_)))
  refine wpAny_bind (wpAny_pure (wpAny_holding ?_))
  rw [if_neg (by rw [show ([((Option.none : Option Str), ek)].all fun x => x.1.isSome) = false from rfl]; decide)]
  refine wpAny_bind (mergedE ha hs hx ?_)
  refine wpAny_bind (wpAny_pure (wpAny_bind (wpAny_holding (kwInE kq (wpAny_pure ?_)))))
  refine wpAny_bind (wpAny_standAt ?_)
  refine wpAny_bind (wpAny_bind (wpAny_load (k _ _ hqo) ?_))
  dsimp only
  rw [if_neg (by decide)]
  refine wpAny_bind (wpAny_load (k _ _ hfo) ?_)
  rw [hfd]
  refine wpAny_pure ?_
  dsimp only
  refine wpAny_bind (wpAny_operateT (wpAny_call ?_))
  refine ks_codeAny_call_bound (x := x) (f := f) (k _ _ hqo) (codeAny_mono hq fun r s' z => ?_)
  rcases r with e | (v | _ | _ | _) <;> first | exact z | exact z.elim | exact wpAny_bind (wpAny_holding (wpAny_point (wpAny_pure z)))
end Mine
end

section
open PySem PySem.W PySem.Calls PyProof.Rows
set_option Elab.async false
set_option maxRecDepth 20000
set_option linter.unusedVariables false
set_option linter.unusedSectionVars false
namespace Mine
theorem NsOb.lookIn {o : Obj} {m : Str → Option Value} {x : Str} (h : NsOb o m) (e : m x = none) : PySem.W.lookIn x o = some none := by
  obtain ⟨es, ep, hd, hk, hf⟩ := h
  have hx := (hf x).trans e
  unfold PySem.W.lookIn
  rw [hd]
  dsimp only
  have h1 : es.toList.find? (·.key.isStr x) = none := by
    unfold nsFind findBy at hx
    simpa using hx
  rw [h1]
  dsimp only
  rw [if_neg]
  simp only [List.any_eq_true, not_exists, not_and]
  intro e he
  obtain ⟨n, t, q⟩ := hk e (by simpa using he)
  unfold DictEntry.refKey
  rw [q]; simp

section
variable {W : Wd} {n : Nat}
def iniF (C : Addr) (gU : List AV → List AV → M AV) (a : AV) : M AV := fun σ => match a with
  | .ref h => match σ.st h with
    | some (.ctr C' l) => if C' = C then (match gU [a, .none] [] σ with
      | some (_, σ') => some (.none, σ')
      | none => none) else none
    | _ => none
  | _ => none

theorem SimCall.ini (ok : W.Ok) {C fM fI fU cc cda T : Addr} {fd : FuncData} {cd : ClassData} {a1 a2 kw : Arg} {gU : List AV → List AV → M AV} (c : CtrIni W C fM fI fU cc cda T fd cd a1 a2 kw)
    (hga : findIn W.K (.ref C) "__getattribute__" = some (some (.builtin "dict.__getattribute__")))
    (hfo : ∀ od, PySem.W.lookIn "update" od = some Option.none → findObj W.K C (some od) "update" = some (.bind (.builtin "function.__get__") (.ref fU)))
    (hU : SimCall W n (.ref fU) [] gU) :
    SimCall W (n + 1) (.ref fI) [] (fun args _ => match args with
      | [a] => iniF C gU a
      | _ => M.fail) := by
  intro A σ σ' G s args kws ms ks' v hA r hne hm hk' hf
  dsimp only at hf
  split at hf
  · rename_i a
    obtain ⟨mx, e, p⟩ := Reps.one hm
    subst e
    unfold iniF at hf
    split at hf
    · rename_i hd
      split at hf
      · rename_i C' l hs
        split at hf
        · rename_i hC
          subst hC
          split at hf
          · rename_i w0 σ1 hu
            cases hf
            obtain ⟨y, dx, od, es, ep, kvs, m, e, hmm, hk, hz, hn, he, q5, q6, q7, hr, I⟩ := r.ctr hs p
            subst e
            obtain ⟨of, hof, hfd⟩ := c.at_
            obtain ⟨ds, hpar⟩ := c.params
            obtain ⟨oT, mT, hT, hTd⟩ := c.tup
            obtain ⟨p0, p1, p2, p3, p4, p5, p6, p7, p8, p9, p10, p11, hbody⟩ := c.body
            obtain ⟨oc, vs, tc, file, tf, hco, hcd, hvs, hv1, hv2, hfile⟩ := c.code
            have X := r.kin ok
            show codeAny W.M A (.call (.ref fI) ⟨[.ref y], []⟩) _ s
            refine enterA (binds := [(a1.arg, .ref y), (a2.arg, .none), (kw.arg, .ref s.heap.objs.size)]) (s1 := { s with heap := s.heap.push emptyDict }) hA.room1 (X _ _ hof) hfd hbody ⟨cda, oc, vs, tc, hco, X _ _ hcd, hvs, hv1⟩ c.co c.gen c.kind c.nc ?_ (fun Q E hQ => bind_kw1 hpar c.dfl (X _ _ hT) hTd c.d12 hQ) ?_
            · intro x hx
              simp only [List.mem_cons, List.not_mem_nil, or_false] at hx
              rcases hx with rfl | rfl | rfl
              · exact c.s1
              · exact c.s2
              · exact c.s3
            · intro h₀ hns k0
              have kd : (s.heap.push emptyDict).get? s.heap.objs.size = some emptyDict := Heap.get?_push_size _ rfl
              have k1 : ∀ b o, s.heap.get? b = some o → h₀.get? b = some o := fun b o q => k0 _ _ (Heap.get?_push_of_some _ q)
              have r1 : R W G σ { s with heap := h₀ , toks := s.toks + 3 } := r.keep (tk := s.toks + 3) k1
              refine ⟨r1.lim ok, ?_⟩
              have I1 : InstAt h₀ y (ctrObj C' dx es ep) C' (some od) := ⟨k1 _ _ I.at_, I.cls, I.no, k1 _ _ I.dict⟩
              have e1 : [(a1.arg, Value.ref y), (a2.arg, .none), (kw.arg, .ref s.heap.objs.size)].reverse.lookup a1.arg = some (.ref y) := by
                show List.lookup a1.arg [(kw.arg, Value.ref s.heap.objs.size), (a2.arg, .none), (a1.arg, .ref y)] = _
                rw [List.lookup_cons, c.d13, List.lookup_cons, c.d12]; simp
              have e2 : [(a1.arg, Value.ref y), (a2.arg, .none), (kw.arg, .ref s.heap.objs.size)].reverse.lookup a2.arg = some .none := by
                show List.lookup a2.arg [(kw.arg, Value.ref s.heap.objs.size), (a2.arg, .none), (a1.arg, .ref y)] = _
                rw [List.lookup_cons, c.d23]; simp
              have e3 : [(a1.arg, Value.ref y), (a2.arg, .none), (kw.arg, .ref s.heap.objs.size)].reverse.lookup kw.arg = some (.ref s.heap.objs.size) := by
                show List.lookup kw.arg [(kw.arg, Value.ref s.heap.objs.size), (a2.arg, .none), (a1.arg, .ref y)] = _
                simp
              have hk3 : (callEnv fd (s.heap.push emptyDict).objs.size fI).scope.kind = .function := c.kind
              refine ks_wpAt_execs_cons (ini_super ok c r1 I1 (fun c => by intro e; cases e) hns e1 (fun h2 t2 k2 => ?_))
              dsimp only
              have r2 : R W G σ { s with heap := h2 , toks := t2 } := r1.keep (tk := t2) k2
              obtain ⟨oL, hoL, hnL⟩ := NsOb.of hns
              have hns2 := hnL.ns (k2 _ _ hoL)
              have I2 : InstAt h2 y (ctrObj C' dx es ep) C' (some od) := ⟨k2 _ _ I1.at_, I1.cls, I1.no, k2 _ _ I1.dict⟩
              have kd2 : h2.get? s.heap.objs.size = some emptyDict := k2 _ _ (k0 _ _ kd)
              refine ks_wpAt_execs_cons (PySem.wpAt_of_wpAny (wpAny_Expr_any ?_ (by show (fd.scope.kind == .module && _) = false; rw [c.kind]; rfl) rfl))
              rw [arm_eval_Call]
              refine wpAny_bind ?_
              unfold attributeBase
              dsimp only
              refine wpAny_Name (wpAny_loadName_local hk3 c.s1 hns2 e1 ?_) c.b1
              refine wpAny_bind (wpAny_standAt ?_)
              unfold methodCall
              refine wpAny_bind (wpAny_holding ?_)
              unfold calleeOf
              refine wpAny_ite_split (fun h => Bool.noConfusion (show false = true from h)) (fun _ => ?_)
              have X2 := r2.kin ok
              refine wpAny_bind (dga_get X2 I2 hga c.cls.gt (I2.type.andThen (looks_subIn X2 c.cls.sd)) (hfo _ (hn.lookIn (he _))) c.ufn ?_)
              refine wpAny_pure ?_
              dsimp only
              have kq : (h2.push (methodObj (.ref fU) (.ref y))).get? h2.objs.size = some (methodObj (.ref fU) (.ref y)) := Heap.get?_push_size _ rfl
              have k3 : ∀ b o, h2.get? b = some o → (h2.push (methodObj (.ref fU) (.ref y))).get? b = some o := fun b o q => Heap.get?_push_of_some _ q
              have r3 : R W G σ { s with heap := h2.push (methodObj (.ref fU) (.ref y)) , toks := t2 + 1 } := r2.keep (tk := t2 + 1) k3
              have hns3 := hnL.ns (k3 _ _ (k2 _ _ hoL))
              obtain ⟨oU, fU', hU1, hU2⟩ := c.ufd
              refine wpAny_bind ?_
              unfold methodCallPos
              rw [if_pos (by rfl)]
              refine wpAny_pure ?_
              have hsys : s.heap.objs.size ≠ sysModules := by
                obtain ⟨rp, _⟩ := r.alloc .pin (o := emptyDict) rfl (tk := s.toks)
                exact ne_of_beq_false (notSys rp ok Gh.set_self Tag.noConfusion)
              refine call_star (y := .none) (a := s.heap.objs.size) kq (r3.kin ok _ _ hU1) hU2 (k3 _ _ kd2) hsys (fun A' E' Q' hQ => ?_) (fun A' E' Q' h' t' k' hQ => ?_) ?_
              · exact wpAny_Name (wpAny_loadName_local hk3 c.s2 hns3 e2 hQ) c.b2
              · refine wpAny_bind (wpAny_Name (wpAny_loadName_local hk3 c.s3 (hnL.ns (k' _ _ (k3 _ _ (k2 _ _ hoL)))) e3 ?_) c.b3)
                exact wpAny_bind (wpAny_standAt (wpAny_pure hQ))
              · have k4 : ∀ b o, (h2.push (methodObj (.ref fU) (.ref y))).get? b = some o → ((h2.push (methodObj (.ref fU) (.ref y))).push emptyDict).get? b = some o := fun b o q => Heap.get?_push_of_some _ q
                have r4 : R W G σ { s with heap := (h2.push (methodObj (.ref fU) (.ref y))).push emptyDict , toks := t2 + 1 } := r3.keep (tk := t2 + 1) k4
                have hA' : AOK n (A.deeper (callEnv fd (s.heap.push emptyDict).objs.size fI)) := hA.deeper
                refine codeAny_mono (hU _ σ _ G _ [.ref hd, .none] [] [.ref y, .none] [] _ hA' r4 hne ⟨_, _, rfl, p, _, _, rfl, rfl, rfl⟩ rfl hu) fun rr s' z => ?_
                rcases rr with e | (v | _ | _ | _) <;> first | exact z.elim | skip
                obtain ⟨G', l', r', _⟩ := z
                show _root_.PySem.wpAt _ _ _ (execs [] _) _ _ _
                refine PySem.wpAt_of_wpAny ?_
                exact wpAny_pure ⟨G', l', r', rfl⟩
          · cases hf
        · cases hf
      · cases hf
    · cases hf
  · cases hf
end
end Mine
end

section
open PySem PySem.W PySem.Calls PyProof.Rows
set_option Elab.async false
set_option maxRecDepth 20000
set_option linter.unusedVariables false
set_option linter.unusedSectionVars false
namespace Mine
section
variable {W : Wd} {n : Nat}
def ctrMakeF (C : Addr) (site : Nat) (gI : List AV → List AV → M AV) (args kws : List AV) : M AV := match args, kws with
  | [], [] => M.bind (allocA site (.ctr C [])) fun h => M.bind (gI [.ref h] []) fun v => match v with
    | .none => M.pure (.ref h)
    | _ => M.fail
  | _, _ => M.fail
theorem SimV.ctr (ok : W.Ok) {C fI : Addr} (site : Nat) {gI : List AV → List AV → M AV} (c : CtrMk W.K C fI) (hkp : keepIn W.K (.ref C) = true)
    (h : SimCall W n (.ref fI) [] gI) : SimV W (n + 1) (.ref C) [] (ctrMakeF C site gI) := by
  intro A σ σ' G s args kws ms ks' v hA r hne p2 p3 he
  refine ⟨keeps_K hkp _ (r.kin ok), CP.call ?_⟩
  unfold ctrMakeF at he
  split at he
  · cases p2
    cases p3
    obtain ⟨hd, σ1, e1, he1⟩ := M.bind_some he
    clear he
    obtain ⟨v', σ2, e2, he2⟩ := M.bind_some he1
    clear he1
    cases e1
    split at he2
    · cases he2
      obtain ⟨r1, l1⟩ := r.alloc .z (o := emptyDict) rfl (tk := s.toks)
      have hz1 : (G.set s.heap.objs.size Tag.z emptyDict).z s.heap.objs.size = some emptyDict := Gh.z_iff.mpr Gh.set_self
      obtain ⟨G2, l2, r2, m2⟩ := r1.allocObj (ob := ctrObj C s.heap.objs.size #[] 0) (o := .ctr C []) rfl site (fun G' l' => ⟨[], ⟨s.heap.objs.size, emptyDict, #[], 0, fun _ => Option.none, rfl, Gh.z_iff.mpr (l'.z _ _ Gh.set_self), ⟨#[], 0, rfl, fun e he => by simp at he, fun x => rfl⟩, fun _ => rfl, fun e he => by simp at he, .nil, List.nodup_nil⟩, rfl⟩) (tk := s.toks)
      have lA := l1.trans l2
      obtain ⟨hh, g, d, t, os⟩ := s
      have hsz : (hh.push emptyDict).objs.size = hh.objs.size + 1 := Heap.size_push ..
      dsimp only at r2 l2 m2 lA ⊢
      rw [hsz] at m2
      have hp : Rep W G2 (.ref (site, σ.cnt)) (.ref (hh.objs.size + 1)) := ⟨_, rfl, m2⟩
      refine ctr_make (r.kin ok) c ?_
      refine codeAny_mono (h _ _ σ' G2 _ [.ref (site, σ.cnt)] [] [.ref (hh.objs.size + 1)] [] .none hA.make r2 (by rw [lA.fr]; exact hne) ⟨_, _, rfl, hp, rfl⟩ rfl e2) fun rr s' w => ?_
      match rr, w with
      | .ok (.ret u), ⟨G', l', r', p'⟩ =>
        cases p'
        exact ⟨rfl, G', lA.trans l', r', hp.le l'⟩
    · cases he2
  · cases he
end
end Mine
end

section
open PySem PySem.W PySem.Calls PyProof.Rows
set_option Elab.async false
set_option maxRecDepth 20000
set_option linter.unusedVariables false
set_option linter.unusedSectionVars false
namespace Mine
section
variable {W : Wd} {X : Sc} {n : Nat}
theorem SimM.ctrPop (ok : W.Ok) {C fM : Addr} (c : CtrCls W C fM) {g : AV → List AV → M AV} (h : SimBM W n "dict.pop" g) : SimM W n "pop" [] (preCtr C) (noKw g) := by
  intro A σ σ' G s a b ma pl hA r hne p he
  unfold preCtr at he
  split at he
  · rename_i hd
    split at he
    · rename_i C' l hs
      split at he
      · rename_i hC
        subst hC
        cases he
        obtain ⟨y, dx, od, es, ep, kvs, m, e, hmm, hk, hz, hn, hem, q5, q6, q7, hr, I⟩ := r.ctr hs p
        subst e
        have hty : Looks W.M s.heap (typeOf (.builtin "dict.pop")) (.type "method_descriptor") := fun A Q E s k q => by rw [PySem.F.type_dict_pop]; exact wpAny_pure q
        refine ctr_method (f := C') c (r.kin ok) I rfl hn (hem _) c.pp hty (by decide) ⟨G, .refl _, r, ?_⟩
        intro A σ2 σ3 G'' s'' args kws ms ks' v hA2 l2 r2 p2 p3 hg
        refine ⟨.bi, ?_⟩
        have hk : (([] : List Str).zip ks') = [] := by simp
        rw [hk]
        cases kws with
        | nil => exact h A _ _ G'' s'' _ args (.ref y) ms v hA2 r2 (by rw [l2.fr]; exact hne) (p.le l2) p2 hg
        | cons k ks => cases hg
      · cases he
    · cases he
  · cases he

/-- `o[i] op= e` -/
theorem SimS.augSub {o i e : Expr} {op : Operator} {tpos pos : Pos} {fo fi fe : M AV} {gg gop : AV → AV → M AV} {gs : AV → AV → AV → M Unit} (h1 : SimE W X n o fo) (h2 : SimE W X n i fi) (h3 : Op2g W n getItem gg) (h4 : SimE W X n e fe) (h5 : Op2 W (Rep W) n (inplaceOp op) gop) (h6 : OpSet W n gs)
    (hi : ∀ ov iv new, augStore i ov iv new = (do holding [new, ov, iv] (setItem ov iv new); release [new, ov, iv] []; pure .next)) :
    SimS W X n (.AugAssign (.Subscript o i tpos) op e pos) (M.bind fo fun a => M.bind fi fun b => M.bind (gg a b) fun old => M.bind fe fun v => M.bind (gop old v) fun nw => M.bind (gs a b nw) fun _ => M.pure .next) := by
  intro env A σ b σ' G s P hA r hf
  obtain ⟨va, σ1, e1, hf⟩ := M.bind_some hf
  obtain ⟨vb, σ2, e2, hf⟩ := M.bind_some hf
  obtain ⟨vo, σ3, e3, hf⟩ := M.bind_some hf
  obtain ⟨vv, σ4, e4, hf⟩ := M.bind_some hf
  obtain ⟨vn, σ5, e5, hf⟩ := M.bind_some hf
  obtain ⟨u, σ6, e6, hf⟩ := M.bind_some hf
  cases hf
  refine wpAny_AugAssign_SubscriptAny (wpAny_mono (h1 env A _ _ _ G s P hA r e1) (fun ma s1 ⟨G1, l1, r1, p1⟩ => ?_) fun _ _ e => e) hi
  have P1 := P.mono l1
  refine wpAny_mono (h2 env A _ _ _ G1 s1 P1 hA r1 e2) (fun mb s2 ⟨G2, l2, r2, p2⟩ => ?_) fun _ _ e => e
  have P2 := P1.mono l2
  refine wpAny_mono (h3 A _ _ G2 s2 _ _ _ _ _ hA r2 P2.ne (p1.le l2) p2 e3) (fun mo s3 ⟨G3, l3, r3, p3⟩ => ?_) fun _ _ e => e
  have P3 := P2.mono l3
  refine wpAny_mono (h4 env A _ _ _ G3 s3 P3 hA r3 e4) (fun mv s4 ⟨G4, l4, r4, p4⟩ => ?_) fun _ _ e => e
  have P4 := P3.mono l4
  refine wpAny_mono (h5 A _ _ G4 s4 _ _ _ _ _ hA r4 (p3.le l4) p4 e5) (fun mn s5 ⟨G5, l5, r5, p5⟩ => ?_) fun _ _ e => e
  have P5 := P4.mono l5
  refine wpAny_mono (h6 A _ _ G5 s5 _ _ _ _ _ _ hA r5 P5.ne (p1.le (((l2.trans l3).trans l4).trans l5)) (p2.le ((l3.trans l4).trans l5)) p5 e6) (fun _ s6 ⟨G6, l6, r6, _⟩ => ?_) fun _ _ e => e
  exact ⟨G6, ((((l1.trans l2).trans l3).trans l4).trans l5).trans l6, r6, trivial⟩
end
end Mine
end

section
open PySem PySem.W PySem.Calls PyProof.Rows
set_option Elab.async false
set_option maxRecDepth 20000
set_option linter.unusedVariables false
set_option linter.unusedSectionVars false
namespace Mine
section
variable {W : Wd} {X : Sc} {n : Nat}
/-- the class's own `__setitem__` -/
def setI (C : Addr) (g : List AV → List AV → M AV) (a b v : AV) : M Unit := fun σ => match a with
  | .inst C' h => if C' = C then (match σ.st h with
    | some (.ns _) => (g [a, b, v] [] σ).map fun p => ((), p.2)
    | _ => none) else none
  | _ => none
def delI (C : Addr) (g : List AV → List AV → M AV) (a b : AV) : M Unit := fun σ => match a with
  | .inst C' h => if C' = C then (match σ.st h with
    | some (.ns _) => (g [a, b] [] σ).map fun p => ((), p.2)
    | _ => none) else none
  | _ => none
def OpDel (W : Wd) (n : Nat) (h : AV → AV → M Unit) : Prop :=
  ∀ A σ σ' G s a b ma mb, AOK n A → R W G σ s → G.fr ≠ [] → Rep W G a ma → Rep W G b mb → h a b σ = some ((), σ') → wpAny W.M A (delItem ma mb) (Post W (fun _ _ _ => True) G σ' ()) (fun _ _ => False) s
theorem OpSet.inst (ok : W.Ok) {C f : Addr} {g : List AV → List AV → M AV} (hns : noSeq W.K C = true) (hf : findIn W.K (.ref C) "__setitem__" = some (some (.ref f))) (ht : typeIn W.K (.ref f) = some (.type "function")) (h : SimCall W n (.ref f) [] g) : OpSet W n (setI C g) := by
  intro A σ σ' G s a b v ma mb mv hA r hne pa pb pv he
  unfold setI at he
  split at he
  · rename_i C' hd
    split at he
    · rename_i hC
      subst hC
      split at he
      · rename_i l hs
        obtain ⟨⟨u, σ1⟩, e1, e2⟩ := Option.map_eq_some_iff.mp he
        cases e2
        obtain ⟨y, d, es, k, e, h1, h2, h3, I, h5⟩ := r.inst hs pa
        subst e
        have X := r.kin ok
        unfold setItem sequenceKey
        refine wpAny_holding (wpAny_bind (wpAny_bind (I.type.here ?_)))
        refine wpAny_bind ((anyM_none X hns).here ?_)
        rw [if_pos (show (!false) = true from rfl)]
        refine wpAny_pure (wpAny_bind ?_)
        refine special_fn X I hf ht (CP.call (CP.mono (h A _ _ G s [_, b, v] [] [.ref y, mb, mv] [] u hA r hne ⟨_, _, rfl, pa, _, _, rfl, pb, _, _, rfl, pv, rfl⟩ rfl e1) fun rv s' ⟨G', l', r', _⟩ => ?_))
        exact wpAny_pure ⟨G', l', r', trivial⟩
      · cases he
    · cases he
  · cases he
theorem OpDel.inst (ok : W.Ok) {C f : Addr} {g : List AV → List AV → M AV} (hns : noSeq W.K C = true) (hf : findIn W.K (.ref C) "__delitem__" = some (some (.ref f))) (ht : typeIn W.K (.ref f) = some (.type "function")) (h : SimCall W n (.ref f) [] g) : OpDel W n (delI C g) := by
  intro A σ σ' G s a b ma mb hA r hne pa pb he
  unfold delI at he
  split at he
  · rename_i C' hd
    split at he
    · rename_i hC
      subst hC
      split at he
      · rename_i l hs
        obtain ⟨⟨u, σ1⟩, e1, e2⟩ := Option.map_eq_some_iff.mp he
        cases e2
        obtain ⟨y, d, es, k, e, h1, h2, h3, I, h5⟩ := r.inst hs pa
        subst e
        have X := r.kin ok
        unfold delItem sequenceKey
        refine wpAny_holding (wpAny_bind (wpAny_bind (I.type.here ?_)))
        refine wpAny_bind ((anyM_none X hns).here ?_)
        rw [if_pos (show (!false) = true from rfl)]
        refine wpAny_pure (wpAny_bind ?_)
        refine special_fn X I hf ht (CP.call (CP.mono (h A _ _ G s [_, b] [] [.ref y, mb] [] u hA r hne ⟨_, _, rfl, pa, _, _, rfl, pb, rfl⟩ rfl e1) fun rv s' ⟨G', l', r', _⟩ => ?_))
        exact wpAny_pure ⟨G', l', r', trivial⟩
      · cases he
    · cases he
  · cases he
theorem SimS.delG {o i : Expr} {p pos : Pos} {f g : M AV} {hd : AV → AV → M Unit} (h1 : SimE W X n o f) (h2 : SimE W X n i g) (h3 : OpDel W n hd) :
    SimS W X n (.Delete [.Subscript o i p] pos) (M.bind f fun a => M.bind g fun b => M.bind (hd a b) fun _ => M.pure .next) := by
  intro env A σ b σ' G s P hA r hf
  obtain ⟨a, σ1, e1, hf⟩ := M.bind_some hf
  obtain ⟨c, σ2, e2, hf⟩ := M.bind_some hf
  obtain ⟨⟨⟩, σ3, e3, hf⟩ := M.bind_some hf
  cases hf
  refine wpAny_Delete (wpAny_deleteEach_cons (delete_Subscript ?_))
  refine wpAny_mono (h1 env A _ _ _ G s P hA r e1) (fun ma s1 ⟨G1, l1, r1, p1⟩ => ?_) fun _ _ e => e
  refine wpAny_mono (h2 env A _ _ _ G1 s1 (P.mono l1) hA r1 e2) (fun mb s2 ⟨G2, l2, r2, p2⟩ => ?_) fun _ _ e => e
  refine wpAny_mono (h3 A _ _ G2 s2 _ _ _ _ hA r2 (P.mono (l1.trans l2)).ne (p1.le l2) p2 e3) (fun _ s3 ⟨G3, l3, r3, _⟩ => ?_) fun _ _ e => e
  exact wpAny_deleteEach_nil ⟨G3, (l1.trans l2).trans l3, r3, trivial⟩
end
end Mine
end

section
open PySem PySem.W PySem.Calls PyProof.Rows
set_option Elab.async false
set_option maxRecDepth 20000
set_option linter.unusedVariables false
set_option linter.unusedSectionVars false
namespace Mine
def KIter (o : Obj) (d : Addr) (i n ep : Nat) : Prop := o.cls = .type "dict_keyiterator" ∧ o.data = .fields #[.ref d, .int i 0, .int n 0, .int ep 0]
def keysL (kvs : List (Str × Value)) : List AV := kvs.map fun p => .str p.1
/-- the keys of a dict that stays as it is -/
def itDct (W : Wd) (I d : Addr) (od : Obj) (es : Array DictEntry) (ep : Nat) (kvs : List (Str × Value)) (hO : od.ExactDict ∧ od.data = .dict es ep ∧ KeysOf (strKind W.prog W.w) es ∧ Pairs (strKind W.prog W.w) es.toList kvs ∧ (kvs.map (·.1)).Nodup) : It W (.ref I) where
  C := fun _ => True
  I := (· = I)
  K := fun _ => False
  T := fun _ => True
  J := fun l G => ∃ o i, G.kn I = some (.pin, o) ∧ KIter o d i kvs.length ep ∧ l = (keysL kvs).drop i ∧ G.kn d = some (.z, od) ∧ i ≤ kvs.length
  J1 := fun l _ G => ∃ o i, G.kn I = some (.pin, o) ∧ KIter o d i kvs.length ep ∧ l = (keysL kvs).drop i ∧ G.kn d = some (.z, od) ∧ i ≤ kvs.length
  mono := fun ⟨o, i, h1, h2, h3, h4, h5⟩ l => ⟨o, i, l.pin _ _ (.inl rfl) h1, h2, h3, l.z _ _ h4, h5⟩
  known := fun a ⟨o, _, h1, _⟩ e => by rcases e with e | e; (cases e; exact ⟨o, h1⟩); exact e.elim
  next := by
    rintro x l G σ s A hh hC ⟨o, i, h1, h2, h3, h4, h5⟩ r
    have hi : (keysL kvs)[i]? = some x := by
      have := congrArg (·[0]?) h3
      simpa using this.symm
    unfold keysL at hi
    rw [List.getElem?_map] at hi
    obtain ⟨⟨k, v⟩, hk, hx⟩ := Option.map_eq_some_iff.mp hi
    subst hx
    refine wpAny_pyNext_dict_item (knd := strKind W.prog W.w) ⟨o, r.sub _ _ _ h1, h2.1, h2.2⟩ ⟨od, es, r.sub _ _ _ h4, hO⟩ hk fun key h' hkey hit hs => ?_
    obtain ⟨o', e1, e2, e3⟩ := hit
    obtain ⟨r', lx⟩ := r.pin (tk := s.toks) h1 e1 fun b x hb e => (hs.2 b hb).trans e
    obtain ⟨t, rfl⟩ := Value.isStrOf_shape hkey
    refine ⟨_, _, rfl, lx, r', ⟨t, rfl⟩, o', i + 1, Gh.set_self, ⟨e2, e3⟩, ?_, lx.z _ _ h4, ?_⟩
    · have : (keysL kvs).drop (i + 1) = ((keysL kvs).drop i).drop 1 := by rw [List.drop_drop]
      rw [this, ← h3]; rfl
    · have := (List.getElem?_eq_some_iff.mp hk).1; omega
  go := by
    rintro l G σ s A mv target - ⟨o, i, h1, h2, h3, h4, h5⟩ r
    exact letGo_plain (r.sub _ _ _ h1) h2.1 (by decide) ⟨G, .refl _, r, o, i, h1, h2, h3, h4, h5⟩
  stop := by
    rintro G σ s A hh hC ⟨o, i, h1, h2, h3, h4, h5⟩ r
    have hi : kvs[i]? = Option.none := by
      have : (keysL kvs).length ≤ i := List.drop_eq_nil_iff.mp h3.symm
      unfold keysL at this
      rw [List.length_map] at this
      simp; omega
    refine wpAny_pyNext_dict_end (knd := strKind W.prog W.w) hh ⟨o, r.sub _ _ _ h1, h2.1, h2.2⟩ ⟨od, es, r.sub _ _ _ h4, hO⟩ hi fun h' hs => ?_
    obtain ⟨r', lx⟩ := r.drop (tk := s.toks) h1 fun b x hb e => hs b x hb e
    exact ⟨rfl, _, lx, r'⟩
  self := by
    rintro l G σ s A ⟨o, i, h1, h2, h3, h4, h5⟩ r
    exact wpAny_pyIter_keyiter ⟨o, r.sub _ _ _ h1, h2.1, h2.2⟩ ⟨rfl, rfl⟩
end Mine
end

section
open PySem PySem.W PySem.Calls PyProof.Rows
set_option Elab.async false
set_option maxRecDepth 20000
set_option linter.unusedVariables false
set_option linter.unusedSectionVars false
namespace Mine
def TIter (o : Obj) (d : Addr) (i : Nat) : Prop := o.cls = .type "tuple_iterator" ∧ o.data = .fields #[.ref d, .int i 0]
/-- the items of a tuple -/
def itTup (W : Wd) (I d : Addr) (vs : Array Value) (l₀ : List AV) : It W (.ref I) where
  C := fun _ => True
  I := (· = I)
  K := fun _ => False
  T := fun _ => True
  J := fun l G => ∃ o i, G.kn I = some (.pin, o) ∧ TIter o d i ∧ l = l₀.drop i ∧ G.kn d = some (.z, ⟨.type "tuple", Option.none, .seq vs 0, #[]⟩) ∧ i ≤ l₀.length ∧ RepVs (G.vw W) l₀ vs.toList
  J1 := fun l _ G => ∃ o i, G.kn I = some (.pin, o) ∧ TIter o d i ∧ l = l₀.drop i ∧ G.kn d = some (.z, ⟨.type "tuple", Option.none, .seq vs 0, #[]⟩) ∧ i ≤ l₀.length ∧ RepVs (G.vw W) l₀ vs.toList
  mono := fun ⟨o, i, h1, h2, h3, h4, h5, h6⟩ l => ⟨o, i, l.pin _ _ (.inl rfl) h1, h2, h3, l.z _ _ h4, h5, RepVs.mono l.vw _ _ h6⟩
  known := fun a ⟨o, _, h1, _⟩ e => by rcases e with e | e; (cases e; exact ⟨o, h1⟩); exact e.elim
  next := by
    rintro x l G σ s A hh hC ⟨o, i, h1, h2, h3, h4, h5, h6⟩ r
    have hi : l₀[i]? = some x := by
      have := congrArg (·[0]?) h3
      simpa using this.symm
    obtain ⟨mv, m1, m2⟩ := RepVs.get h6 hi
    rw [Array.getElem?_toList] at m1
    refine wpAny_pyNext_tuple_item ⟨o, r.sub _ _ _ h1, h2.1, h2.2⟩ ⟨_, r.sub _ _ _ h4, rfl, _, rfl⟩ m1 fun h' hit hs => ?_
    obtain ⟨o', e1, e2, e3⟩ := hit
    obtain ⟨r', lx⟩ := r.pin (tk := s.toks) h1 e1 fun b x hb e => (hs.2 b hb).trans e
    refine ⟨mv, _, rfl, lx, r', repX m2 lx, o', i + 1, Gh.set_self, ⟨e2, e3⟩, ?_, lx.z _ _ h4, ?_, RepVs.mono (lx.vw W) _ _ h6⟩
    · have : l₀.drop (i + 1) = (l₀.drop i).drop 1 := by rw [List.drop_drop]
      rw [this, ← h3]; rfl
    · have := (List.getElem?_eq_some_iff.mp hi).1; omega
  go := by
    rintro l G σ s A mv target - ⟨o, i, h1, h2, h3, h4, h5, h6⟩ r
    exact letGo_plain (r.sub _ _ _ h1) h2.1 (by decide) ⟨G, .refl _, r, o, i, h1, h2, h3, h4, h5, h6⟩
  stop := by
    rintro G σ s A hh hC ⟨o, i, h1, h2, h3, h4, h5, h6⟩ r
    have hlen := h6.length
    rw [Array.length_toList] at hlen
    have hi : vs[i]? = Option.none := by
      have : l₀.length ≤ i := List.drop_eq_nil_iff.mp h3.symm
      simp; omega
    refine wpAny_pyNext_tuple_end hh ⟨o, r.sub _ _ _ h1, h2.1, h2.2⟩ ⟨_, r.sub _ _ _ h4, rfl, _, rfl⟩ hi fun h' hs => ?_
    obtain ⟨r', lx⟩ := r.drop (tk := s.toks) h1 fun b x hb e => hs b x hb e
    exact ⟨rfl, _, lx, r'⟩
  self := by
    rintro l G σ s A ⟨o, i, h1, h2, h3, h4, h5, h6⟩ r
    exact wpAny_pyIter_tupleiter ⟨o, r.sub _ _ _ h1, h2.1, h2.2⟩ ⟨rfl, rfl⟩

/-- what is iterated: tuples, dicts that stay, and whatever itA knows -/
def itB (a : AV) : M (List AV × (St → Prop)) := match a with
  | .tup l => M.pure (l, fun _ => True)
  | .dct l => M.pure (l.map fun p => .str p.1, fun _ => True)
  | a => itA a
section
variable {W : Wd} {X : Sc} {n : Nat}
theorem RepVd_keys {V : Vw} : ∀ (l : List (Str × AV)) (kvs : List (Str × Value)), RepVd V l kvs → keysL kvs = l.map fun p => .str p.1
  | [], kvs, h => by cases h; rfl
  | (k, a) :: l, kvs, h => by
    obtain ⟨v, r, e, h1, h2⟩ := h
    subst e
    show _ :: keysL r = _ :: _
    rw [RepVd_keys l r h2]
theorem pyIter_B {A : Around} {σ σ' : St} {G : Gh} {s : Shared} {a : AV} {mv : Value} {l : List AV} {C : St → Prop} {tg : Expr} (r : R W G σ s) (p : Rep W G a mv) (hf : itB a σ = some ((l, C), σ')) :
    wpAny W.M A (pyIter mv) (ItPost W tg G σ' l C) (fun _ _ => False) s := by
  unfold itB at hf
  split at hf
  · cases hf
    obtain ⟨x, vs, _, e, hz, hr⟩ := p
    subst e
    have hk := Gh.z_iff.mp hz
    obtain ⟨r', le⟩ := r.alloc .pin (o := { cls := .type "tuple_iterator", data := .fields #[.ref x, .int 0 0] }) rfl (tk := s.toks)
    exact wpAny_pyIter_tuple ⟨_, r.z hz, rfl, _, rfl⟩ ⟨itTup W _ x vs _, _, le, r', rfl, trivial, ⟨_, 0, Gh.set_self, ⟨rfl, rfl⟩, rfl, le.z _ _ hk, Nat.zero_le _, Reps.le hr le⟩, fun a e o q => by cases e; rw [r.fresh] at q; cases q⟩
  · cases hf
    obtain ⟨x, o, kvs, e, hsy, hz, hd, hr⟩ := p
    subst e
    have hk := Gh.z_iff.mp hz
    obtain ⟨es, ep, d1, d2, d3, d4, d5⟩ : DictOb (strKind W.prog W.w) o kvs := hd
    obtain ⟨r', le⟩ := r.alloc .pin (o := { cls := .type "dict_keyiterator", data := .fields #[.ref x, .int 0 0, .int kvs.length 0, .int ep 0] }) rfl (tk := s.toks)
    rw [← RepVd_keys _ _ hr]
    exact wpAny_pyIter_dict (knd := strKind W.prog W.w) hsy ⟨o, es, r.z hz, d1, d2, d3, d4, d5⟩ ⟨itDct W _ x o es ep kvs ⟨d1, d2, d3, d4, d5⟩, _, le, r', rfl, trivial, ⟨_, 0, Gh.set_self, ⟨rfl, rfl⟩, rfl, le.z _ _ hk, Nat.zero_le _⟩, fun a e o q => by cases e; rw [r.fresh] at q; cases q⟩
  · exact pyIter_A r p hf
theorem SimIt.ofB {e tg : Expr} {f : M AV} (h : SimE W X n e f) : SimIt W X n e tg (M.bind f itB) := by
  intro env A σ l C σ' G s P hA r hf
  obtain ⟨a, σ1, e1, hf⟩ := M.bind_some hf
  refine wpAny_mono (h env A _ _ _ G s P hA r e1) (fun mv s1 ⟨G1, l1, r1, p1⟩ => ?_) fun _ _ e => e
  refine wpAny_mono (pyIter_B r1 p1 hf) (fun it s2 ⟨S, G2, l2, r2, c2, t2, j2, i2⟩ => ⟨S, G2, l1.trans l2, r2, c2, t2, j2, fun a ha o q => i2 a ha o (l1.pin _ _ q)⟩) fun _ _ e => e
end
end Mine
end

section
open PySem PySem.W PySem.Calls PyProof.Rows
set_option Elab.async false
set_option maxRecDepth 20000
set_option linter.unusedVariables false
set_option linter.unusedSectionVars false
namespace Mine
section
variable {W : Wd} {X : Sc} {n : Nat}
/-- an object is held fast for a while -/
theorem R.pinObj {G : Gh} {σ : St} {s : Shared} (r : R W G σ s) {d : Addr} {m : Hd} {od : Obj} (h : G.kn d = some (.obj m, od)) :
    R W (G.set d .pin od) { σ with st := fun k => if k = m then Option.none else σ.st k } s ∧ G.Le (G.set d .pin od) := by
  have le : G.Le (G.set d .pin od) := Gh.le_set fun t₀ o₀ e => by rw [h] at e; cases e; exact ⟨Tag.noConfusion, Tag.noConfusion⟩
  refine ⟨⟨⟨fun b o hb e => le.z _ _ (r.inv.base b o hb e), ?_, fun m' o e => ?_, r.inv.cnt, r.inv.sys.turn h Tag.noConfusion⟩, fun b t o e => ?_, r.os, r.gens⟩, le⟩
  · exact r.inv.frames.mono (le.vw W) fun b t' o' e ⟨_, _, q⟩ => Gh.set_keep e fun t₀ o₀ w => by
      rw [h] at w; cases w; rcases q with rfl | ⟨_, rfl⟩ <;> exact Tag.noConfusion
  · have e : (if m' = m then Option.none else σ.st m') = some o := e
    split at e
    · cases e
    · rename_i hm
      obtain ⟨a, ob, h1, h2, h3⟩ := r.inv.objs _ _ e
      refine ⟨a, ob, h1, Gh.set_keep h2 fun t₀ o₀ w => ?_, h3.mono (le.vw W)⟩
      rw [h] at w; cases w
      intro q
      cases q
      exact hm rfl
  · by_cases hb : b = d
    · subst hb; rw [Gh.set_self] at e; cases e; exact r.sub _ _ _ h
    · rw [Gh.set_ne hb] at e; exact r.sub _ _ _ e
/-- and let go again -/
theorem R.unpinObj {G : Gh} {σ : St} {s : Shared} (r : R W G σ s) {d : Addr} {m : Hd} {od : Obj} {o : AO} (h : G.kn d = some (.pin, od)) (hm : G.mu m = some d) (ho : ObjOK W (G.vw W) o od) :
    R W (G.set d (.obj m) od) { σ with st := fun k => if k = m then some o else σ.st k } s ∧ LeX (· = d) G (G.set d (.obj m) od) := by
  have k : ∀ b t x, G.kn b = some (t, x) → t ≠ .pin → (G.set d (.obj m) od).kn b = some (t, x) := fun b t x e ht => Gh.set_keep e fun t₀ o₀ w => by rw [h] at w; cases w; exact Ne.symm ht
  have lx : LeX (· = d) G (G.set d (.obj m) od) := ⟨fun b x e => k _ _ _ e Tag.noConfusion, fun b x hb e => by rw [Gh.set_ne hb]; exact e, fun _ _ e => e, rfl⟩
  refine ⟨⟨⟨fun b o hb e => k _ _ _ (r.inv.base b o hb e) Tag.noConfusion, ?_, fun m' o' e => ?_, r.inv.cnt, r.inv.sys.turn h Tag.noConfusion⟩, fun b t x e => ?_, r.os, r.gens⟩, lx⟩
  · exact r.inv.frames.mono (lx.vw W) fun b t' o' e ⟨_, _, q⟩ => k _ _ _ e (by rcases q with rfl | ⟨_, rfl⟩ <;> exact Tag.noConfusion)
  · have e : (if m' = m then some o else σ.st m') = some o' := e
    split at e
    · rename_i hm'
      cases e
      subst hm'
      exact ⟨d, od, hm, Gh.set_self, ho.mono (lx.vw W)⟩
    · obtain ⟨a, ob, h1, h2, h3⟩ := r.inv.objs _ _ e
      exact ⟨a, ob, h1, k _ _ _ h2 Tag.noConfusion, h3.mono (lx.vw W)⟩
  · by_cases hb : b = d
    · subst hb; rw [Gh.set_self] at e; cases e; exact r.sub _ _ _ h
    · rw [Gh.set_ne hb] at e; exact r.sub _ _ _ e
theorem RepKV.nth {κ : Type} {V : Vw} : ∀ {l : List (κ × AV)} {kvs : List (κ × Value)} {i : Nat} {k : κ} {a : AV}, RepKV V l kvs → l[i]? = some (k, a) → ∃ v, kvs[i]? = some (k, v) ∧ RepV V a v
  | [], _, _, _, _, _, e => by simp at e
  | (k', a') :: l, kvs, i, k, a, ⟨v, r, q, h1, h2⟩, e => by
    subst q
    cases i with
    | zero => simp at e; obtain ⟨rfl, rfl⟩ := e; exact ⟨v, by simp, h1⟩
    | succ i => simp at e; obtain ⟨v', e1, e2⟩ := RepKV.nth h2 e; exact ⟨v', by simpa using e1, e2⟩
end
end Mine
end

section
open PySem PySem.W PySem.Calls PyProof.Rows
set_option Elab.async false
set_option maxRecDepth 20000
set_option linter.unusedVariables false
set_option linter.unusedSectionVars false
namespace Mine
theorem entry_itemiter_iter : entryFor table "dict_itemiterator.__iter__" = some Builtin.«dict_keyiterator.__iter__» :=
  entryFor_alias (id' := "dict_keyiterator.__iter__") (by kernel_rfl) rfl (by decide +kernel) (by kernel_rfl)
theorem R.know {W : Wd} {G : Gh} {σ : St} {s : Shared} (r : R W G σ s) {a : Addr} {o : Obj} (h : G.kn a = Option.none) (ho : s.heap.get? a = some o) : R W (G.set a .z o) σ s ∧ G.Le (G.set a .z o) := by
  refine ⟨⟨r.inv.set (fun t₀ o₀ e => by rw [h] at e; cases e) (.inr rfl), fun b t x e => ?_, r.os, r.gens⟩, Gh.le_set (fun t₀ o₀ e => by rw [h] at e; cases e)⟩
  by_cases hb : b = a
  · subst hb; rw [Gh.set_self] at e; cases e; exact ho
  · rw [Gh.set_ne hb] at e; exact r.sub _ _ _ e
def ItOb (d : Addr) (i n ep : Nat) (ok ov f0 : Value) : Obj := { cls := .type "dict_itemiterator", dict := Option.none, data := .fields #[f0, .bool false, .ref d, .int i 0, .int n 0, .int ep 0, ok, ov], slots := #[] }
def itemsL (l : List (Str × AV)) : List AV := l.map fun p => .tup [.str p.1, p.2]
/-- the items of a dict that is held fast -/
def itItems (W : Wd) (I d : Addr) (hne : I ≠ d) (od : Obj) (es : Array DictEntry) (ep : Nat) (kvs : List (Str × Value)) (l₀ : List (Str × AV))
    (hO : od.ExactDict ∧ od.data = .dict es ep ∧ KeysOf (strKind W.prog W.w) es ∧ Pairs (strKind W.prog W.w) es.toList kvs ∧ (kvs.map (·.1)).Nodup) (hlen : kvs.length = l₀.length) : It W (.ref I) where
  C := fun _ => True
  I := (· = I)
  K := (· = d)
  T := fun t => ∃ es k p, t = .Tuple es k p
  J := fun l G => ∃ i ok ov, G.kn I = some (.pin, ItOb d i kvs.length ep ok ov .none) ∧ l = (itemsL l₀).drop i ∧ G.kn d = some (.pin, od) ∧ i ≤ l₀.length ∧ RepKV (G.vw W) l₀ kvs
  J1 := fun l mv G => ∃ i ok ov a, mv = .ref a ∧ G.kn I = some (.pin, ItOb d i kvs.length ep ok ov (rawInt a)) ∧ l = (itemsL l₀).drop i ∧ G.kn d = some (.pin, od) ∧ i ≤ l₀.length ∧ RepKV (G.vw W) l₀ kvs
  mono := fun ⟨i, ok, ov, h1, h2, h3, h4, h5⟩ l => ⟨i, ok, ov, l.pin _ _ (.inl rfl) h1, h2, l.pin _ _ (.inr rfl) h3, h4, RepKV.mono l.vw h5⟩
  known := fun a ⟨i, ok, ov, h1, h2, h3, _⟩ e => by rcases e with e | e <;> cases e <;> first | exact ⟨_, h1⟩ | exact ⟨_, h3⟩
  next := by
    rintro x l G σ s A hh hC ⟨i, ok, ov, h1, h2, h3, h4, h5⟩ r
    have hi : (itemsL l₀)[i]? = some x := by
      have := congrArg (·[0]?) h2
      simpa using this.symm
    unfold itemsL at hi
    rw [List.getElem?_map] at hi
    obtain ⟨⟨k, a⟩, hk, hx⟩ := Option.map_eq_some_iff.mp hi
    subst hx
    obtain ⟨v, hv, rv⟩ := h5.nth hk
    refine wpAny_pyNext_items_item (knd := strKind W.prog W.w) (r.sub _ _ _ h1) ⟨od, es, r.sub _ _ _ h3, hO⟩ hv fun key h' hkey hout htup hsz hs => ?_
    obtain ⟨r1, lx⟩ := r.pin (tk := s.toks) h1 hout fun b x hb e => hs b x hb e
    obtain ⟨t, rfl⟩ := Value.isStrOf_shape hkey
    have hIs : s.heap.objs.size ≠ I := Nat.ne_of_gt (Heap.lt_size (r.sub _ _ _ h1))
    obtain ⟨r2, le2⟩ := r1.know (a := s.heap.objs.size) ((Gh.set_ne hIs).trans r.fresh) htup
    have lxA := lx.trans (le2.toX (I := (· = I)))
    have hd1 : ∀ o', (G.set I .pin o').kn d = some (.pin, od) := fun o' => (Gh.set_ne (Ne.symm hne)).trans h3
    refine ⟨.ref s.heap.objs.size, _, rfl, lxA, r2, ⟨_, _, (), rfl, Gh.z_iff.mpr Gh.set_self, _, _, rfl, ⟨t, rfl⟩, _, _, rfl, RepV.mono (lxA.vw W) _ _ rv, rfl⟩, i + 1, _, _, _, rfl, le2.pin _ _ Gh.set_self, ?_, le2.pin _ _ (hd1 _), ?_, RepKV.mono (lxA.vw W) h5⟩
    · have : (itemsL l₀).drop (i + 1) = ((itemsL l₀).drop i).drop 1 := by rw [List.drop_drop]
      rw [this, ← h2]; rfl
    · have := (List.getElem?_eq_some_iff.mp hk).1; omega
  go := by
    rintro l G σ s A mv target ⟨es', k', p', rfl⟩ ⟨i, ok, ov, a, rfl, h1, h2, h3, h4, h5⟩ r
    refine wpAny_letOwnedTupleGo_items (r.sub _ _ _ h1) fun h' hit hs => ?_
    obtain ⟨r1, lx⟩ := r.pin (tk := s.toks) h1 hit fun b x hb e => (hs.2 b hb).trans e
    exact ⟨_, lx, r1, i, ok, ov, Gh.set_self, h2, by rw [Gh.set_ne (Ne.symm hne)]; exact h3, h4, RepKV.mono (lx.vw W) h5⟩
  stop := by
    rintro G σ s A hh hC ⟨i, ok, ov, h1, h2, h3, h4, h5⟩ r
    have hi : kvs[i]? = Option.none := by
      have : (itemsL l₀).length ≤ i := List.drop_eq_nil_iff.mp h2.symm
      unfold itemsL at this
      rw [List.length_map] at this
      simp; omega
    refine wpAny_pyNext_items_end (knd := strKind W.prog W.w) hh (r.sub _ _ _ h1) ⟨od, es, r.sub _ _ _ h3, hO⟩ hi fun h' hs => ?_
    obtain ⟨r', lx⟩ := r.drop (tk := s.toks) h1 fun b x hb e => hs b x hb e
    exact ⟨rfl, _, lx, r'⟩
  self := by
    rintro l G σ s A ⟨i, ok, ov, h1, h2, h3, h4, h5⟩ r
    have hT : s.TypeIs (.ref I) "dict_itemiterator" := ⟨_, r.sub _ _ _ h1, rfl⟩
    refine wpAny_pyIter_slot hT F.slot_dict_itemiterator_iter (wpAny_call_entry F.slot_dict_itemiterator_iter hT entry_itemiter_iter ?_ (F.args_dict_itemiterator_iter_1 _))
    show wpAny _ _ (ret (.ref I)) _ _ s
    exact wpAny_pure ⟨_, rfl, "dict_itemiterator", _, hT, F.slot_dict_itemiterator_next.lookup, rfl, rfl⟩
end Mine
end

section
open PySem PySem.W PySem.Calls PyProof.Rows
set_option Elab.async false
set_option maxRecDepth 20000
set_option linter.unusedVariables false
set_option linter.unusedSectionVars false
namespace Mine
section
variable {W : Wd} {X : Sc} {n : Nat}
noncomputable def forItems (fi : M AV) (tgt : AV → M Unit) (fb : M AFl) : M AFl := M.bind fi fun a => match a with
  | .view 1 (.ref m) => fun σ => match σ.st m with
    | some (.dictS l) => (match M.bind (forA (fun _ => True) tgt fb (itemsL l)) (fun | .done => M.pure .next | .brk => M.pure .next | .ret v => M.pure (.ret v)) { σ with st := fun k => if k = m then Option.none else σ.st k } with
      | some (fl, σ') => some (fl, { σ' with st := fun k => if k = m then some (.dictS l) else σ'.st k })
      | none => none)
    | _ => none
  | _ => M.fail
theorem RepFl.leX {G G' : Gh} {I} {fl : AFl} {f : Flow} (h : RepFl W G fl f) (x : LeX I G G') : RepFl W G' fl f := by
  cases fl <;> cases f <;> first | exact h.elim | trivial | exact repX h x
theorem SimS.forItems {target iter : Expr} {body : List Stmt} {pos : Pos} {fi : M AV} {tgt : AV → M Unit} {fb : M AFl} (hI : SimE W X n iter fi) (hT : SimT W X n target tgt) (hB : SimX W X n body fb)
    (ht : ∃ es k p, target = .Tuple es k p) (hs : ∀ env x, foldedSetIterable iter env x = pure x) : SimS W X n (.For target iter body [] pos) (Mine.forItems fi tgt fb) := by
  intro env A σ fl σ' G s P hA r hf
  obtain ⟨a, σ1, e1, hf⟩ := M.bind_some hf
  refine wpAny_For (wpAny_mono (hI env A σ a σ1 G s P hA r e1) (fun mv s1 ⟨G1, l1, r1, p1⟩ => ?_) fun _ _ e => e.elim) (hs env)
  split at hf
  · rename_i m _
    dsimp only at hf
    split at hf
    · rename_i l hst
      split at hf
      · rename_i fl' σ2 hl
        cases hf
        obtain ⟨x, dv, e, hz, hr⟩ := p1
        subst e
        obtain ⟨d, e, hm⟩ : ∃ d, dv = .ref d ∧ G1.mu m = some d := hr
        subst e
        obtain ⟨d', ob, h1, h2, kvs, h3, h4⟩ := r1.inv.objs _ _ hst
        rw [h1] at hm
        cases hm
        obtain ⟨es, ep, d1, d2, d3, d4, d5⟩ := h3
        refine wpAny_pyIter_items (knd := strKind W.prog W.w) (v := x) (d := d) ⟨_, r1.z hz, rfl, rfl⟩ ⟨ob, es, r1.sub _ _ _ h2, d1, d2, d3, d4, d5⟩ ?_
        obtain ⟨rp, lp⟩ := r1.pinObj h2
        obtain ⟨ri, li⟩ := rp.alloc .pin (o := ItOb d 0 kvs.length ep .none .none .none) rfl (tk := s1.toks)
        have hlen : kvs.length = l.length := h4.length
        have hne : s1.heap.objs.size ≠ d := Nat.ne_of_gt (Heap.lt_size (r1.sub _ _ _ h2))
        have hdp : (G1.set d .pin ob).kn d = some (.pin, ob) := Gh.set_self
        have leA := l1.trans lp
        refine codeAny_mono (for_loop hT hB SimX.nil hA (itItems W s1.heap.objs.size d hne ob es ep kvs l ⟨d1, d2, d3, d4, d5⟩ hlen) (G₀ := G1.set d .pin ob) li (fun a e o q => by cases e; rw [rp.fresh] at q; cases q) (P.mono leA) ri ht ⟨0, _, _, Gh.set_self, rfl, li.pin _ _ hdp, Nat.zero_le _, RepKV.mono ((lp.trans li).vw W) h4⟩ hl) fun res s3 h3 => ?_
        cases res with
        | error e => exact h3.elim
        | ok f =>
          obtain ⟨G3, l3, r3, p3⟩ := h3
          obtain ⟨r4, l4⟩ := r3.unpinObj (m := m) (o := .dictS l) (l3.pin _ _ hdp) (l3.mu _ _ (lp.mu _ _ h1)) ⟨kvs, ⟨es, ep, d1, d2, d3, d4, d5⟩, RepKV.mono ((lp.trans l3).vw W) h4⟩
          refine ⟨_, LeX.le (leA.trans l3) l4 (fun a e o q => ?_), r4, p3.leX l4⟩
          subst e
          rw [l1.pin _ _ q] at h2
          cases h2
      · cases hf
    · cases hf
  · cases hf
end
end Mine
end

section
open PySem PySem.W PySem.Calls PyProof.Rows
set_option Elab.async false
set_option maxRecDepth 20000
set_option linter.unusedVariables false
set_option linter.unusedSectionVars false
namespace Mine
section
variable {W : Wd} {X : Sc} {n : Nat}
/-- two arguments, and no keyword for `**kw` -/
theorem SimBind.kw0 (ok : W.Ok) {fd : FuncData} {a1 a2 kw : Arg} {ds : List Expr} {T : Addr} {o : Obj} {m : Nat} (hp : fd.params = { posonlyargs := [a1, a2], args := [], vararg := Option.none, kwonlyargs := [], kw_defaults := [], kwarg := some kw, defaults := ds }) (hd : fd.defaults = .ref T) (ho : W.K.lookup T = some o) (hs : o.data = .seq #[.none] m) (hne : (a1.arg == a2.arg) = false) :
    SimBind W fd [a1.arg, a2.arg, kw.arg] [] (fun args _ => match args with
      | [a, b] => some [a, b, .dct []]
      | _ => Option.none) := by
  intro A σ G s args kws ms ks' vals hA r hm hk' hf
  dsimp only at hf
  split at hf
  · rename_i a b
    cases hf
    obtain ⟨x, y, e, p1, p2⟩ := Reps.two hm
    subst e
    obtain ⟨r', le⟩ := r.alloc .z (o := emptyDict) rfl (tk := s.toks)
    obtain ⟨rp, _⟩ := r.alloc .pin (o := emptyDict) rfl (tk := s.toks)
    have hsy : (s.heap.objs.size == sysModules) = false := notSys rp ok Gh.set_self Tag.noConfusion
    refine bind_kw2 hp hd (r.kin ok _ _ ho) hs hne ⟨[x, y, .ref s.heap.objs.size], _, rfl, le, r', ⟨_, _, rfl, p1.le le, _, _, rfl, p2.le le, _, _, rfl, ⟨_, _, [], rfl, hsy, Gh.z_iff.mpr Gh.set_self, ⟨_, _, ⟨rfl, rfl, rfl⟩, rfl, fun e he => by simp at he, .nil, List.nodup_nil⟩, rfl⟩, rfl⟩, rfl⟩
  · cases hf
end
end Mine
end

section
open PySem PySem.W PySem.Calls PyProof.Rows
set_option Elab.async false
set_option maxRecDepth 20000
namespace Mine
section
variable {W : Wd} {X : Sc} {n : Nat}
def isNotA : AV → AV → M AV
  | a, .none => match a with
    | .none => M.pure (.bool false)
    | .int _ | .str _ | .bool _ | .clo _ | .lst _ | .ref _ | .dct _ => M.pure (.bool true)
    | _ => M.fail
  | _, _ => M.fail
theorem isNot_none {M : Model} {A : Around} {E : Value → Shared → Prop} {s : Shared} {a : Value} {Q : Value → Shared → Prop} (h : Q (.bool (!(a == .none))) s) : wpAny M A (compareOp .IsNot a .none) Q E s := isnot_none_gen h
theorem Op2.isNot : Op2 W (Rep W) n (compareOp .IsNot) isNotA := by
  intro A σ σ' G s a b c ma mb hA r pa pb hf
  unfold isNotA at hf
  split at hf
  · cases pb
    split at hf
    · cases hf; cases pa; exact isNot_none (.now r rfl)
    · cases hf; obtain ⟨t, rfl⟩ := pa; exact isNot_none (.now r rfl)
    · cases hf; obtain ⟨t, rfl⟩ := pa; exact isNot_none (.now r rfl)
    · cases hf; cases pa; exact isNot_none (.now r rfl)
    · cases hf; obtain ⟨x, o, e, _⟩ := pa; subst e; exact isNot_none (.now r rfl)
    · cases hf; obtain ⟨x, vs, k, e, _⟩ := pa; subst e; exact isNot_none (.now r rfl)
    · cases hf; obtain ⟨x, e, _⟩ := pa; subst e; exact isNot_none (.now r rfl)
    · cases hf; obtain ⟨x, o, kvs, e, _⟩ := pa; subst e; exact isNot_none (.now r rfl)
    · cases hf
  · cases hf
end
end Mine
end

section
open PySem PySem.W PySem.Calls PyProof.Rows
set_option Elab.async false
set_option maxRecDepth 20000
set_option linter.unusedVariables false
set_option linter.unusedSectionVars false
namespace Mine
structure CtrUpd (W : Wd) (fU T : Addr) (fd : FuncData) (a1 a2 kw : Arg) : Prop where
  at_ : ∃ o, W.K.lookup fU = some o ∧ o.data = .func fd
  params : ∃ ds, fd.params = { posonlyargs := [a1, a2], args := [], vararg := none, kwonlyargs := [], kw_defaults := [], kwarg := some kw, defaults := ds }
  dfl : fd.defaults = .ref T
  tup : ∃ o m, W.K.lookup T = some o ∧ o.data = .seq #[.none] m
  body : ∃ p0 k p1 p2 b1 p3 p4 b2 p5, fd.body = .stmts [.If (.Compare (.Name a2.arg p0) [.IsNot] [.Constant .none k p1] p2) b1 [] p3, .If (.Name kw.arg p4) b2 [] p5]
  s1 : fd.scope.names.lookup a1.arg = some .local
  s2 : fd.scope.names.lookup a2.arg = some .local
  s3 : fd.scope.names.lookup kw.arg = some .local
  d12 : (a1.arg == a2.arg) = false
  d23 : (a2.arg == kw.arg) = false
  b2 : (a2.arg == ("__debug__" : Str)) = false
  b3 : (kw.arg == ("__debug__" : Str)) = false
  nc : ∀ x ∈ fd.scope.names, x.2 ≠ .cell
  kind : fd.scope.kind = .function
  co : fd.scope.isCoroutine = false
  gen : fd.scope.isGenerator = false
  code : ∃ c o vs t, fd.code = .ref c ∧ W.K.lookup c = some o ∧ o.data = .fields vs ∧ vs[1]? = some (.str fd.qualname t)
section
variable {W : Wd} {n : Nat}
def updF : List AV → List AV → M AV
  | [_, .none], _ => M.pure .none
  | _, _ => M.fail
theorem SimCall.upd (ok : W.Ok) {fU T : Addr} {fd : FuncData} {a1 a2 kw : Arg} (c : CtrUpd W fU T fd a1 a2 kw) : SimCall W (n + 1) (.ref fU) [] updF := by
  intro A σ σ' G s args kws ms ks' v hA r hne hm hk' hf
  unfold updF at hf
  split at hf
  · cases hf
    obtain ⟨x, y, e, p1, p2⟩ := Reps.two hm
    cases p2
    subst e
    obtain ⟨of, hof, hfd⟩ := c.at_
    obtain ⟨ds, hpar⟩ := c.params
    obtain ⟨oT, mT, hT, hTd⟩ := c.tup
    obtain ⟨p0, k, p1', p2', b1, p3, p4, b2, p5, hbody⟩ := c.body
    obtain ⟨cda, oc, vs, tc, hco, hcd, hvs, hv1⟩ := c.code
    have X := r.kin ok
    show codeAny W.M A (.call (.ref fU) ⟨[x, .none], []⟩) _ s
    refine enterA (binds := [(a1.arg, x), (a2.arg, .none), (kw.arg, .ref s.heap.objs.size)]) (s1 := { s with heap := s.heap.push emptyDict }) hA.room1 (X _ _ hof) hfd hbody ⟨cda, oc, vs, tc, hco, X _ _ hcd, hvs, hv1⟩ c.co c.gen c.kind c.nc ?_ (fun Q E hQ => bind_kw2 hpar c.dfl (X _ _ hT) hTd c.d12 hQ) ?_
    · intro x hx
      simp only [List.mem_cons, List.not_mem_nil, or_false] at hx
      rcases hx with rfl | rfl | rfl
      · exact c.s1
      · exact c.s2
      · exact c.s3
    · intro h₀ hns k0
      have kd : (s.heap.push emptyDict).get? s.heap.objs.size = some emptyDict := Heap.get?_push_size _ rfl
      have k1 : ∀ b o, s.heap.get? b = some o → h₀.get? b = some o := fun b o q => k0 _ _ (Heap.get?_push_of_some _ q)
      have r1 : R W G σ { s with heap := h₀ , toks := s.toks + 3 } := r.keep (tk := s.toks + 3) k1
      refine ⟨r1.lim ok, ?_⟩
      have e2 : [(a1.arg, x), (a2.arg, Value.none), (kw.arg, .ref s.heap.objs.size)].reverse.lookup a2.arg = some .none := by
        show List.lookup a2.arg [(kw.arg, Value.ref s.heap.objs.size), (a2.arg, .none), (a1.arg, x)] = _
        rw [List.lookup_cons, c.d23]; simp
      have e3 : [(a1.arg, x), (a2.arg, Value.none), (kw.arg, .ref s.heap.objs.size)].reverse.lookup kw.arg = some (.ref s.heap.objs.size) := by
        show List.lookup kw.arg [(kw.arg, Value.ref s.heap.objs.size), (a2.arg, .none), (a1.arg, x)] = _
        simp
      have hk3 : (callEnv fd (s.heap.push emptyDict).objs.size fU).scope.kind = .function := c.kind
      refine PySem.wpAt_of_wpAny ?_
      have X1 := r1.kin ok
      have hsys : s.heap.objs.size ≠ sysModules := by
        obtain ⟨rp, _⟩ := r.alloc .pin (o := emptyDict) rfl (tk := s.toks)
        exact ne_of_beq_false (notSys rp ok Gh.set_self Tag.noConfusion)
      have kd2 : h₀.get? s.heap.objs.size = some emptyDict := k0 _ _ kd
      have hD : h₀.DictOf (strKind W.prog W.w) s.heap.objs.size [] := ⟨emptyDict, #[], 0, kd2, ⟨rfl, rfl, rfl⟩, rfl, (fun e he => by simp at he), .nil, List.nodup_nil⟩
      refine wpAny_execs_cons (wpAny_If (wpAny_isTrue_Compare1 (wpAny_Name (wpAny_loadName_local hk3 c.s2 hns e2 (wpAny_Constant_none (isNot_none ?_))) c.b2) rfl))
      refine wpAny_truthy_bool ?_
      refine wpAny_execs_nil ?_
      dsimp only
      refine wpAny_execs_cons (wpAny_If (wpAny_isTrue_value (wpAny_Name (wpAny_loadName_local hk3 c.s3 hns e3 ?_) c.b3) rfl))
      refine wpAny_truthy_dict (knd := strKind W.prog W.w) (beq_false_of_ne hsys) hD (by decide) ?_
      refine wpAny_execs_nil ?_
      refine wpAny_execs_nil ?_
      exact ⟨G, .refl _, r1.keep (tk := _) fun _ _ q => q, rfl⟩
  · cases hf
end
end Mine
end

section
open PySem PySem.W PySem.Calls PyProof.Rows
set_option Elab.async false
set_option maxRecDepth 20000
namespace Mine
theorem kind_dn : builtinKind "dict.__new__" = some .builtinFn := by decide +kernel
theorem split_dn : splitId "dict.__new__" = some ("dict", "__new__") := by decide +kernel
theorem args_dn (a : Value) : argsOk "dict.__new__" ⟨[a], []⟩ := by unfold argsOk; kernel_rfl
theorem newname_dn : ("__new__" == "__new__") = true := by decide +kernel

theorem ctrMk_of {K : Frag} {C fI : Addr} {oc : Value} {od : Option Addr} {cd : ClassData} {sl : Array (Option Value)} {c0 : Value} {l0 : List Value} (ho : K.lookup C = some ⟨oc, od, .cls cd, sl⟩) (hdel : cd.hasDel = false) (hl : cd.mro = c0 :: l0)
    (h4 : (sl.toList[4]?).join = some (.builtin "dict.__new__")) (hcall : specialIn K (.ref C) "__call__" = some (some (.builtin "type.__call__")))
    (htyp : instIn K (.ref C) (.type "type") = some true) (hsd : mroIn K C (.type "dict") = some true) (hself : mroIn K C (.ref C) = some true)
    (hbad : (cd.mro.any fun | .type n => !["dict", "object", "collections.defaultdict", "collections.OrderedDict"].contains n | _ => false) = false)
    (hinit : findIn K (.ref C) "__init__" = some (some (.ref fI))) (hfn : typeIn K (.ref fI) = some (.type "function")) : CtrMk K C fI := by
  have hc : clsIn K C = some cd := by unfold clsIn; rw [ho]
  have hm : ∀ M h, K.In h → Looks M h (mroOf (.ref C)) cd.mro := fun M h X => (looks_clsIn X hc).andThen .now
  have made : ∀ M h, K.In h → Looks M h (Bind.madeBy (.ref C)) (some "dict.__new__") := by
    intro M h X A Q E s k q
    unfold Bind.madeBy
    refine wpAny_bind (hm M h X A _ E s k ?_)
    rw [hl, List.forIn_cons]
    refine wpAny_bind (wpAny_bind (wpAny_bind (wpAny_bind (wpAny_loadPart (k _ _ (X _ _ ho)) (wpAny_pure ?_)))))
    dsimp only
    rw [← Array.getElem?_toList, h4]
    exact wpAny_pure (wpAny_pure (wpAny_pure q))
  have isty : ∀ M h, K.In h → Looks M h (isType (.ref C)) true := by
    intro M h X A Q E s k q
    unfold isType
    exact wpAny_bind (wpAny_loadPart (k _ _ (X _ _ ho)) (wpAny_pure q))
  have base : ∀ M h, K.In h → Looks M h (Bind.staticBase (.ref C)) (.ref C) := by
    intro M h X A Q E s k q
    unfold Bind.staticBase
    refine wpAny_bind (hm M h X A _ E s k ?_)
    rw [hl, List.forIn_cons]
    exact wpAny_bind (wpAny_bind (wpAny_bind (made M h X A _ E s k (wpAny_pure (wpAny_pure (wpAny_pure q))))))
  refine ⟨⟨_, ho, cd, rfl, hdel, by rw [hl]; rfl⟩, fun M h X => looks_specialIn X hcall, fun M h X => looks_instIn X htyp, made, ?_, isty, fun M h X => looks_mroIn X hsd, ⟨cd.mro, hm, by rw [hl]; rfl, hbad⟩, fun M h X => looks_mroIn X hself, fun M h X => looks_findIn X hinit, hfn⟩
  intro M h X A Q E s k q
  have tail : wpAny M A (match Manifest.signature? "dict.__new__" with | some sig => Bind.checkArgs "dict.__new__" sig ⟨[.ref C], []⟩ | none => pure ()) Q E s := by
    cases hsig : Manifest.signature? "dict.__new__" with
    | none => exact wpAny_pure q
    | some sig =>
      have ha := args_dn (.ref C)
      simp only [argsOk, hsig] at ha
      have h2 : Bind.checkArgs "dict.__new__" sig ⟨[.ref C], []⟩ = pure () := ha
      show wpAny M A (Bind.checkArgs "dict.__new__" sig ⟨[.ref C], []⟩) Q E s
      rw [h2]; exact wpAny_pure q
  simp only [checkBuiltinCall, kind_dn, split_dn, newname_dn, if_true]
  refine wpAny_bind (isty M h X A _ E s k ?_)
  simp only [Bool.not_true, Bool.false_eq_true, if_false]
  refine wpAny_bind (looks_mroIn X hsd A _ E s k ?_)
  simp only [Bool.not_true, Bool.false_eq_true, if_false]
  refine wpAny_bind (base M h X A _ E s k ?_)
  refine wpAny_bind (made M h X A _ E s k ?_)
  dsimp only
  rw [show (Manifest.canonical "dict.__new__" != Manifest.canonical "dict.__new__") = false from by simp]
  cases hsig : Manifest.signature? "dict.__new__" with
  | none => exact wpAny_pure q
  | some sig => rw [hsig] at tail; exact tail
end Mine
end

section
open PySem PySem.W PySem.Calls PyProof.Rows
set_option Elab.async false
set_option maxRecDepth 100000
namespace Mine
theorem look_fn_ga : Slot "function" "__getattribute__" "object.__getattribute__" :=
  .of (owner := "object") (n := "__getattribute__") (by rw [typeLookup_type, builtinLookup_eq_fast]; kernel_rfl) (by decide +kernel) (by decide +kernel) (by decide +kernel) (.inl (by decide +kernel)) (by rw [isSubtype_type]; kernel_rfl)
theorem lk_fn_class : typeLookup (.type "function") "__class__" = pure (some (.builtin "object.__class__")) := by rw [typeLookup_type, builtinLookup_eq_fast]; kernel_rfl
theorem sub_fn_class_owner : isSubtype (.type "function") (.type (".".intercalate ("object.__class__".cutAt '.').dropLast)) = pure true := by
  rw [PySem.F.owner_object_class, isSubtype_type]; kernel_rfl
section
variable {prog : Program} {w : World} {A : Around} {E : Value → Shared → Prop} {h : Heap} {g : Array GenState} {d : Drawn} {t : Nat} {os : OsState} {a : Addr} {o : Obj}
theorem fnc_get {R : Result → Shared → Prop} (hx : h.get? a = some o) (hc : o.cls = .type "function") (hq : R (.ok (.ret (.type "function"))) ⟨h, g, d, t, os⟩) :
    codeAny (model prog w) A (.call (.builtin "getset_descriptor.__get__") ⟨[.builtin "object.__class__", .ref a, .type "function"], []⟩) R ⟨h, g, d, t, os⟩ := by
  have hT : (⟨h, g, d, t, os⟩ : Shared).TypeIs (.ref a) "function" := ⟨_, hx, hc⟩
  have hT5 : (⟨h, g, d, t, os⟩ : Shared).TypeIs (.builtin "object.__class__") "getset_descriptor" := PySem.F.typeOf_object_class
  have f8 := sub_fn_class_owner
  refine codeAny_call_builtin PySem.F.slot_gs_get.plain PySem.F.entry_gs_get (PySem.F.slot_gs_get.check _ _ _ _ _ _ _ _ hT5 (PySem.F.args_gs_get _ _ _) ?_)
  repeat (any_goals (first | assumption | wp_step))
  refine ⟨Code.quiet_builtin _ (by decide +kernel), codeAny_builtin PySem.F.entry_object_class ?_⟩
  repeat (any_goals (first | assumption | wp_step))
theorem entry_ga' : entryFor table "object.__getattribute__" = some Builtin.«object.__getattribute__» := entryFor_of_tree (by kernel_rfl)
theorem args_ga' (a b : Value) : argsOk "object.__getattribute__" ⟨[a, b], []⟩ := by unfold argsOk; kernel_rfl
theorem fnc_entry {tk : Tok} {Q : Fin → Shared → Prop} (hx : h.get? a = some o) (hc : o.cls = .type "function") (hq : Q (.done (.ret (.type "function"))) ⟨h, g, d, t, os⟩) :
    wpAny (model prog w) A (Builtin.«object.__getattribute__» ⟨[.ref a, .str "__class__" tk], []⟩) Q E ⟨h, g, d, t, os⟩ := by
  have hT : (⟨h, g, d, t, os⟩ : Shared).TypeIs (.ref a) "function" := ⟨_, hx, hc⟩
  have hT5 : (⟨h, g, d, t, os⟩ : Shared).TypeIs (.builtin "object.__class__") "getset_descriptor" := PySem.F.typeOf_object_class
  have f4 := lk_fn_class
  have f5 := PySem.F.typeOf_object_class
  have f6 := PySem.F.slot_gs_get.lookup
  have f7 := PySem.F.slot_gs_set.lookup
  repeat (any_goals (first | assumption | wp_step))
  refine fnc_get hx hc ?_
  repeat (any_goals (first | assumption | wp_step))
theorem fnc_attr {Q : Option Value → Shared → Prop} (hx : h.get? a = some o) (hc : o.cls = .type "function") (hq : Q (some (.type "function")) ⟨h, g, d, t + 1, os⟩) : wpAny (model prog w) A (getAttr? (.ref a) "__class__") Q E ⟨h, g, d, t, os⟩ := by
  have hT : ∀ t, (⟨h, g, d, t, os⟩ : Shared).TypeIs (.ref a) "function" := fun _ => ⟨_, hx, hc⟩
  have f2 := look_fn_ga.lookup
  have f3 := look_fn_ga.bind (.ref a)
  have hT := hT t
  unfold getAttr? getAttrBy?
  repeat (any_goals (first | assumption | wp_step))
  rw [hc, f2]
  refine wpAny_pure ?_
  dsimp only
  refine wpAny_ite_split (fun h => ?_) (fun _ => ?_)
  · simp [onTheHeap] at h
  unfold getAttrByItsOwn
  repeat (any_goals (first | assumption | wp_step))
  have hT1 : (⟨h, g, d, t + 1, os⟩ : Shared).TypeIs (.ref a) "function" := ⟨_, hx, hc⟩
  refine codeAny_call_builtin look_fn_ga.plain entry_ga' (look_fn_ga.check _ _ _ _ _ _ _ _ hT1 (args_ga' _ _) (fnc_entry hx hc ?_))
  exact wpAny_pure (wpAny_pure hq)
theorem isn_fn {T : String} {dep : Int} {tk : Tok} {Q : Fin → Shared → Prop} (hx : h.get? a = some o) (hc : o.cls = .type "function") (hne : (Value.type "function" == Value.type T) = false) (hty : typeOf (.type T) = pure (.type "type"))
    (hsub : isSubtype (.type "function") (.type T) = pure false) (hq : Q (.done (.ret (.bool false))) ⟨h, g, d, t + 1, os⟩) :
    wpAny (model prog w) A (Builtin.«isinstance.nested» ⟨[.ref a, .type T, .int dep tk], []⟩) Q E ⟨h, g, d, t, os⟩ := by
  have hT : (⟨h, g, d, t, os⟩ : Shared).TypeIs (.ref a) "function" := ⟨_, hx, hc⟩
  repeat (any_goals (first | assumption | with_reducible apply fnc_attr hx hc | wp_step))
theorem ans_fn {T : String} (hne : (Value.type "function" == Value.type T) = false) (hty : typeOf (.type T) = pure (.type "type")) (hsub : isSubtype (.type "function") (.type T) = pure false) :
    Answers (fun s => s.TypeIs (.ref a) "function") (.ref a) (.type T) false :=
  fun _ _ _ _ _ _ s hs => by
    obtain ⟨h, g, d, t, os⟩ := s
    obtain ⟨⟨o, hx, hc⟩, hq⟩ := hs
    exact isn_fn hx hc hne hty hsub (hq (t + 1))
end
end Mine
end

section
open PySem PySem.W PySem.Calls PyProof.Rows
set_option Elab.async false
set_option maxRecDepth 100000
namespace Mine
section
variable {W : Wd} {n : Nat}
def tyB (σ : St) : AV → Option String
  | .clo _ => some "function"
  | a => tyA σ a
def knownT : List String := ["str", "bytes", "int", "list", "tuple", "dict", "set"]
def tyNm : List AV → Option (List String)
  | [] => some []
  | .mc (.type T) :: l => if T ∈ knownT then (tyNm l).map (T :: ·) else none
  | _ => none
def isiTF : List AV → List AV → M AV
  | [a, .tup ts], [] => fun σ => match tyB σ a with
    | some Tx => (match tyNm ts with
      | some Ts => some (.bool (Ts.any fun T => decide (Tx = T)), σ)
      | none => none)
    | none => none
  | _, _ => M.fail
theorem isiAny (Tx T : String) (h : Tx = "int" ∨ Tx = "str" ∨ Tx = "list" ∨ Tx = "dict" ∨ Tx = "function") (hT : T ∈ knownT) : IsiOK Tx T (decide (Tx = T)) := by
  simp only [knownT, List.mem_cons, List.not_mem_nil, or_false] at hT
  rcases hT with rfl | rfl | rfl | rfl | rfl | rfl | rfl <;> rcases h with rfl | rfl | rfl | rfl | rfl <;>
    exact ⟨by kernel_rfl, by rw [isSubtype_type]; kernel_rfl, by decide⟩
theorem tyB_five {σ : St} {a : AV} {Tx : String} (h : tyB σ a = some Tx) : Tx = "int" ∨ Tx = "str" ∨ Tx = "list" ∨ Tx = "dict" ∨ Tx = "function" := by
  unfold tyB at h
  split at h
  · cases h; simp
  · rcases tyA_four h with h | h | h | h <;> simp [h]
theorem clo_fn {G : Gh} {σ : St} {s : Shared} (r : R W G σ s) {k : Nat} {mv : Value} (p : Rep W G (.clo k) mv) : ∃ a o, mv = .ref a ∧ s.heap.get? a = some o ∧ o.cls = .type "function" := by
  obtain ⟨a, o, e, hz, sk, fd, h1, h2, _⟩ := p
  exact ⟨a, o, e, r.z hz, h2⟩
theorem tyB_ans {G : Gh} {σ : St} {s : Shared} (r : R W G σ s) {a : AV} {mv : Value} {Tx : String} (p : Rep W G a mv) (ht : tyB σ a = some Tx) :
    s.TypeIs mv Tx ∧ ∀ T ∈ knownT, Answers (fun s => s.TypeIs mv Tx) mv (.type T) (decide (Tx = T)) := by
  have h5 := tyB_five ht
  unfold tyB at ht
  split at ht
  · cases ht
    obtain ⟨x, o, e, h1, h2⟩ := clo_fn r p
    subst e
    refine ⟨⟨o, h1, h2⟩, fun T hT => ?_⟩
    have hI := isiAny "function" T h5 hT
    have hd : decide ("function" = T) = false := by
      simp only [knownT, List.mem_cons, List.not_mem_nil, or_false] at hT
      rcases hT with rfl | rfl | rfl | rfl | rfl | rfl | rfl <;> decide
    rw [hd] at hI ⊢
    exact ans_fn (hI.ne rfl) hI.meta' hI.sub
  · obtain ⟨t1, _⟩ := r.tyIs p ht
    exact ⟨t1, fun T hT => (isiAny Tx T h5 hT).ans r p ht (tyA_four ht)⟩
theorem tyNm_reps {G : Gh} : ∀ {ts : List AV} {Ts : List String} {vs : List Value}, tyNm ts = some Ts → Reps W G ts vs → vs = Ts.map .type ∧ ∀ T ∈ Ts, T ∈ knownT
  | [], Ts, vs, h, p => by cases h; cases p; exact ⟨rfl, fun T h => by cases h⟩
  | x :: l, Ts, vs, h, p => by
    unfold tyNm at h
    split at h
    · rename_i hh; cases hh
    · rename_i T l' e
      cases e
      split at h
      · rename_i hT
        cases hl : tyNm l with
        | none => rw [hl] at h; cases h
        | some Ts' =>
          rw [hl] at h; cases h
          obtain ⟨v, r, e1, e2, e3⟩ := p
          cases e2
          obtain ⟨q1, q2⟩ := tyNm_reps hl e3
          subst e1 q1
          exact ⟨rfl, fun T' h' => by rcases List.mem_cons.mp h' with rfl | h'; exact hT; exact q2 _ h'⟩
      · cases h
    · cases h
theorem answersAll {P : Shared → Prop} {x : Value} {Tx : String} : ∀ {Ts : List String}, (∀ T ∈ Ts, Answers P x (.type T) (decide (Tx = T))) → AnswersAll P x (Ts.map .type) (Ts.map fun T => decide (Tx = T))
  | [], _ => trivial
  | T :: l, h => ⟨h T (by simp), answersAll fun T' h' => h T' (by simp [h'])⟩
theorem SimV.isiT : SimV W n (.builtin "isinstance") [] isiTF := by
  intro A σ σ' G s args kws ms ks' v hA r hne p2 p3 hf
  refine ⟨.bi, ?_⟩
  unfold isiTF at hf
  split at hf
  · split at hf
    · rename_i Tx ht
      split at hf
      · rename_i Ts hT
        cases hf
        obtain ⟨x, y, e, p, q⟩ := Reps.two p2
        rw [zipNil p3]
        subst e
        obtain ⟨t, vs, _, e, hz, hr⟩ := q
        subst e
        obtain ⟨q1, q2⟩ := tyNm_reps hT hr
        obtain ⟨a1, a2⟩ := tyB_ans r p ht
        have hq := r.z hz
        refine IsiPair.tupleOf (cs := Ts.map .type) (vs := Ts.map fun T => decide (Tx = T)) (answersAll fun T h' => a2 T (q2 T h')) a1 ?_ fun tk => ?_
        · rw [hq]
          rw [← q1]
        · rw [List.any_map]
          exact .now r.tok rfl
      · cases hf
    · cases hf
  · cases hf
end
end Mine
end

section
open PySem PySem.W PySem.Calls PyProof.Rows
set_option Elab.async false
set_option maxRecDepth 20000
namespace Mine
section
variable {W : Wd} {X : Sc} {n : Nat}
/-- try the one, else the other -/
def orA {α : Type} (f g : M α) : M α := fun σ => match f σ with
  | some r => some r
  | none => g σ
theorem orA_some {α : Type} {f g : M α} {σ : St} {r : α × St} (h : orA f g σ = some r) : f σ = some r ∨ g σ = some r := by
  unfold orA at h
  split at h
  · rename_i r' e; cases h; exact .inl e
  · exact .inr h
theorem Sim.or {α β : Type} {rep : Gh → β → α → Prop} {P : Fa} {t : Env → Sem α} {f g : M β} (h1 : Sim W rep P n t f) (h2 : Sim W rep P n t g) : Sim W rep P n t (orA f g) := fun env A σ b σ' G s Pe hA r hf =>
  (orA_some hf).elim (fun h => h1 env A σ b σ' G s Pe hA r h) (fun h => h2 env A σ b σ' G s Pe hA r h)
theorem Op2.or {α β : Type} {rep : Gh → β → α → Prop} {t : Value → Value → Sem α} {f g : AV → AV → M β} (h1 : Op2 W rep n t f) (h2 : Op2 W rep n t g) : Op2 W rep n t (fun a b => orA (f a b) (g a b)) := by
  intro A σ σ' G s a b c ma mb hA r pa pb hf
  exact (orA_some hf).elim (fun h => h1 A σ σ' G s a b c ma mb hA r pa pb h) (fun h => h2 A σ σ' G s a b c ma mb hA r pa pb h)
end
end Mine
end

section
open PySem PySem.W PySem.Calls PyProof.Rows
set_option Elab.async false
set_option maxRecDepth 20000
namespace Mine
section
variable {W : Wd} {X : Sc} {n : Nat}
def zipK : List (Option Expr) → List Expr → List (Expr × Expr)
  | some k :: ks, v :: vs => (k, v) :: zipK ks vs
  | _, _ => []
theorem SimE.dictzK (ok : W.Ok) {keys : List (Option Expr)} {values : List Expr} {pos : Pos} {f : M (List (AV × AV))} (h : SimPs W X n (zipK keys values) f)
    (hsh : ∀ env, (evalEachOpt keys env).zip ((evalEach values env).map fun v => do let x ← v; standAt pos; pure x) = ((zipK keys values).map fun p => (eval p.1 env, do let x ← eval p.2 env; standAt pos; pure x)).map fun p => (some p.1, p.2)) (h0 : (zipK keys values).isEmpty = false) (hlen : (zipK keys values).length ≤ 15) :
    SimE W X n (.Dict keys values pos) (M.bind f dictZ) := SimE.dictz ok _ h hsh (fun e => by rw [e] at h0; cases h0) hlen
theorem SimE.dictK (ok : W.Ok) (site : Nat) {keys : List (Option Expr)} {values : List Expr} {pos : Pos} {f : M (List (AV × AV))} (h : SimPs W X n (zipK keys values) f)
    (hsh : ∀ env, (evalEachOpt keys env).zip ((evalEach values env).map fun v => do let x ← v; standAt pos; pure x) = ((zipK keys values).map fun p => (eval p.1 env, do let x ← eval p.2 env; standAt pos; pure x)).map fun p => (some p.1, p.2)) (h0 : (zipK keys values).isEmpty = false) (hlen : (zipK keys values).length ≤ 15) :
    SimE W X n (.Dict keys values pos) (M.bind f (dictN site)) := SimE.dict ok site _ h hsh (fun e => by rw [e] at h0; cases h0) hlen
end
theorem SimBind.kw2e {W : Wd} (ok : W.Ok) {fd : FuncData} {p1 p2 p3 k1 k2 : Str} {T : Addr} {o : Obj} {its : Array Value} {m : Nat} (hd : fd.defaults = .ref T) (ho : W.K.lookup T = some o) (hs : o.data = .seq its m) (hne : k1 ≠ k2)
    (hb : ∀ x y u v, ∃ k, bindArgs fd ⟨[x, y], [(k1, u), (k2, v)]⟩ = seqItems? fd.defaults >>= k ∧ k (some its) = (do
      let d ← alloc { cls := .type "dict", data := .dict #[] }
      for (k, v) in [(k1, u), (k2, v)] do nsSet d k v
      pure [(p1, x), (p2, y), (p3, .ref d)])) :
    SimBind W fd [p1, p2, p3] [k1, k2] (fun args kws => match args, kws with
      | [a, b], [c, d] => some [a, b, .dct [(k1, c), (k2, d)]]
      | _, _ => none) := by
  intro A σ G s args kws ms ks' vals hA r hm hk' hf
  dsimp only at hf
  split at hf
  · rename_i a b c d
    cases hf
    obtain ⟨x, y, e, q1, q2⟩ := Reps.two hm
    obtain ⟨u, v, e', q3, q4⟩ := Reps.two hk'
    subst e e'
    show wpAny W.M A (bindArgs fd ⟨[x, y], [(k1, u), (k2, v)]⟩) _ _ s
    obtain ⟨k, e1, e2⟩ := hb x y u v
    rw [e1, hd]
    refine wpAny_bind (wpAny_seqItems (r.kin ok _ _ ho) hs ?_)
    rw [e2]
    have e3 : (do
      let d ← alloc { cls := .type "dict", data := .dict #[] }
      for (k, v) in [(k1, u), (k2, v)] do nsSet d k v
      pure [(p1, x), (p2, y), (p3, Value.ref d)] : Sem _) = (do
      let d ← alloc { cls := .type "dict", data := .dict #[] }
      for (k, v) in [(k1, u), (k2, v)] do nsSet d k v
      pure d) >>= fun d => pure [(p1, x), (p2, y), (p3, Value.ref d)] := by
      simp only [bind_assoc, pure_bind]
    rw [e3]
    refine wpAny_bind (gather2 ok r hne q3 q4 fun dd G' s' l' r' p' => wpAny_pure ?_)
    exact ⟨[x, y, .ref dd], G', rfl, l', r', ⟨_, _, rfl, Rep.le q1 l', _, _, rfl, Rep.le q2 l', _, _, rfl, p', rfl⟩, rfl⟩
  · cases hf
theorem SimV.up {W : Wd} {n m : Nat} {f : Value} {ks : List Str} {g : List AV → List AV → M AV} (hm : m ≤ n) (h : SimV W m f ks g) : SimV W n f ks g :=
  fun A σ σ' G s args kws ms ks' v hA r hne h1 h2 hf => h A σ σ' G s args kws ms ks' v (hA.less hm) r hne h1 h2 hf
theorem findObj_meth {K : Frag} {C f : Addr} {od : Obj} {name : Str} (hh : hasDictIn K C = true) (ha : findIn K (.ref C) name = some (some (.ref f))) (hg : specialIn K (.ref f) "__get__" = some (some (.builtin "function.__get__"))) (ht : takesIn K (.ref f) = some false)
    (hc : copiedNames.contains name = false) (hl : PySem.W.lookIn name od = some Option.none) : findObj K C (some od) name = some (.bind (.builtin "function.__get__") (.ref f)) := by
  unfold hasDictIn at hh
  cases hcl : clsIn K C with
  | none => rw [hcl] at hh; simp at hh
  | some cd =>
    rw [hcl] at hh
    have hd : cd.hasDict = true := by simpa using hh
    have ho : PySem.W.ownOf cd (some od) name = some none := by unfold PySem.W.ownOf; rw [if_pos hd]; exact hl
    unfold findObj
    rw [hcl, Option.bind_some, ha, Option.bind_some]
    simp only [hg, ht, Option.bind_some, ho, hc, Bool.false_and, Bool.false_eq_true, if_false]
/-- the scope of a closure made by the law's frame -/
def botIx (own : List (Str × NameKind)) : List (Str × NameKind) → List (Str × Nat)
  | [] => []
  | (x, k) :: l => if k = .free then (match slotIn own x 0 with
      | some (i, .cell) => (x, i) :: botIx own l
      | _ => botIx own l) else botIx own l
def cloScp (own : List (Str × NameKind)) (s : Scope) : Sc := ⟨s, ownN s, [], botIx own s.names⟩
def cloScB (s : Scope) (ps : List Str) : Bool := s.kind == .function && !s.isCoroutine && !s.isGenerator && (s.names.all fun p => !(p.2 == .cell)) && nodupB (s.names.map (·.1)) && nodupB ps && ps.all fun p => match slotIn (ownN s) p 0 with
  | some (_, .local) => true
  | _ => false
theorem botIx_mem {own : List (Str × NameKind)} : ∀ {l : List (Str × NameKind)} {x : Str} {i : Nat}, (x, i) ∈ botIx own l → (x, NameKind.free) ∈ l ∧ own[i]? = some (x, .cell)
  | [], _, _, h => by simp [botIx] at h
  | (y, k) :: l, x, i, h => by
    have rec_ : (x, i) ∈ botIx own l → (x, NameKind.free) ∈ (y, k) :: l ∧ own[i]? = some (x, .cell) := fun h => by
      obtain ⟨a, b⟩ := botIx_mem h
      exact ⟨List.mem_cons_of_mem _ a, b⟩
    unfold botIx at h
    split at h
    · rename_i hk
      subst hk
      split at h
      · rename_i j hj
        rcases List.mem_cons.mp h with h | h
        · cases h
          obtain ⟨_, q⟩ := slotIn_get hj
          exact ⟨List.mem_cons_self .., q⟩
        · exact rec_ h
      · exact rec_ h
    · exact rec_ h
theorem cloSc_of {W : Wd} {sk : Sk} {ps : List Str} {own : List (Str × NameKind)} (hb : W.bnames = own) (h : cloScB sk.scope ps = true) : CloSc W (cloScp own sk.scope) ps sk := by
  unfold cloScB at h
  simp only [Bool.and_eq_true, Bool.not_eq_true'] at h
  obtain ⟨⟨⟨⟨⟨⟨h1, h2⟩, h3⟩, h4⟩, h5⟩, h6⟩, h7⟩ := h
  have nd := nodupB_of h5
  have nc : ∀ y ∈ sk.scope.names, y.2 ≠ .cell := fun y hy e => by
    have := List.all_eq_true.mp h4 y hy
    rw [e] at this; exact absurd this (by decide)
  refine ⟨rfl, by revert h1; cases hk : sk.scope.kind <;> first | (intro _; rfl) | (intro q; exact absurd q (by decide)), h2, h3, nc, ownN_nodup nd, nodupB_of h6, ?_, fun y hy => lookup_of_nodup nd (ownN_mem hy).1, fun p hp => ?_, rfl, fun x i hx => ?_⟩
  · intro y hy
    rcases (ownN_mem hy).2 with e | e
    · exact e
    · exact absurd e (nc y (ownN_mem hy).1)
  · have := List.all_eq_true.mp h7 p hp
    split at this
    · rename_i i hi
      exact List.mem_of_getElem? (slotIn_get hi).2
    · cases this
  · obtain ⟨a, b⟩ := botIx_mem hx
    rw [hb]; exact ⟨a, b⟩
end Mine
end

section
open PySem PySem.W PySem.Calls PyProof.Rows
set_option Elab.async false
set_option maxRecDepth 20000
set_option linter.unusedVariables false
set_option linter.unusedSectionVars false
namespace Mine
/-- the items of a dict that never changes -/
def itItemsZ (W : Wd) (I d : Addr) (hne : I ≠ d) (od : Obj) (es : Array DictEntry) (ep : Nat) (kvs : List (Str × Value)) (l₀ : List (Str × AV))
    (hO : od.ExactDict ∧ od.data = .dict es ep ∧ KeysOf (strKind W.prog W.w) es ∧ Pairs (strKind W.prog W.w) es.toList kvs ∧ (kvs.map (·.1)).Nodup) (hlen : kvs.length = l₀.length) : It W (.ref I) where
  C := fun _ => True
  I := (· = I)
  K := fun _ => False
  T := fun t => ∃ es k p, t = .Tuple es k p
  J := fun l G => ∃ i ok ov, G.kn I = some (.pin, ItOb d i kvs.length ep ok ov .none) ∧ l = (itemsL l₀).drop i ∧ G.kn d = some (.z, od) ∧ i ≤ l₀.length ∧ RepKV (G.vw W) l₀ kvs
  J1 := fun l mv G => ∃ i ok ov a, mv = .ref a ∧ G.kn I = some (.pin, ItOb d i kvs.length ep ok ov (rawInt a)) ∧ l = (itemsL l₀).drop i ∧ G.kn d = some (.z, od) ∧ i ≤ l₀.length ∧ RepKV (G.vw W) l₀ kvs
  mono := fun ⟨i, ok, ov, h1, h2, h3, h4, h5⟩ l => ⟨i, ok, ov, l.pin _ _ (.inl rfl) h1, h2, l.z _ _ h3, h4, RepKV.mono l.vw h5⟩
  known := fun a ⟨i, ok, ov, h1, h2, h3, _⟩ e => by
    rcases e with e | e
    · cases e; exact ⟨_, h1⟩
    · exact e.elim
  next := by
    rintro x l G σ s A hh hC ⟨i, ok, ov, h1, h2, h3, h4, h5⟩ r
    have hi : (itemsL l₀)[i]? = some x := by
      have := congrArg (·[0]?) h2
      simpa using this.symm
    unfold itemsL at hi
    rw [List.getElem?_map] at hi
    obtain ⟨⟨k, a⟩, hk, hx⟩ := Option.map_eq_some_iff.mp hi
    subst hx
    obtain ⟨v, hv, rv⟩ := h5.nth hk
    refine wpAny_pyNext_items_item (knd := strKind W.prog W.w) (r.sub _ _ _ h1) ⟨od, es, r.sub _ _ _ h3, hO⟩ hv fun key h' hkey hout htup hsz hs => ?_
    obtain ⟨r1, lx⟩ := r.pin (tk := s.toks) h1 hout fun b x hb e => hs b x hb e
    obtain ⟨t, rfl⟩ := Value.isStrOf_shape hkey
    have hIs : s.heap.objs.size ≠ I := Nat.ne_of_gt (Heap.lt_size (r.sub _ _ _ h1))
    obtain ⟨r2, le2⟩ := r1.know (a := s.heap.objs.size) ((Gh.set_ne hIs).trans r.fresh) htup
    have lxA := lx.trans (le2.toX (I := (· = I)))
    have hd1 : ∀ o', (G.set I .pin o').kn d = some (.z, od) := fun o' => (Gh.set_ne (Ne.symm hne)).trans h3
    refine ⟨.ref s.heap.objs.size, _, rfl, lxA, r2, ⟨_, _, (), rfl, Gh.z_iff.mpr Gh.set_self, _, _, rfl, ⟨t, rfl⟩, _, _, rfl, RepV.mono (lxA.vw W) _ _ rv, rfl⟩, i + 1, _, _, _, rfl, le2.pin _ _ Gh.set_self, ?_, le2.z _ _ (hd1 _), ?_, RepKV.mono (lxA.vw W) h5⟩
    · have : (itemsL l₀).drop (i + 1) = ((itemsL l₀).drop i).drop 1 := by rw [List.drop_drop]
      rw [this, ← h2]; rfl
    · have := (List.getElem?_eq_some_iff.mp hk).1; omega
  go := by
    rintro l G σ s A mv target ⟨es', k', p', rfl⟩ ⟨i, ok, ov, a, rfl, h1, h2, h3, h4, h5⟩ r
    refine wpAny_letOwnedTupleGo_items (r.sub _ _ _ h1) fun h' hit hs => ?_
    obtain ⟨r1, lx⟩ := r.pin (tk := s.toks) h1 hit fun b x hb e => (hs.2 b hb).trans e
    exact ⟨_, lx, r1, i, ok, ov, Gh.set_self, h2, by rw [Gh.set_ne (Ne.symm hne)]; exact h3, h4, RepKV.mono (lx.vw W) h5⟩
  stop := by
    rintro G σ s A hh hC ⟨i, ok, ov, h1, h2, h3, h4, h5⟩ r
    have hi : kvs[i]? = Option.none := by
      have : (itemsL l₀).length ≤ i := List.drop_eq_nil_iff.mp h2.symm
      unfold itemsL at this
      rw [List.length_map] at this
      simp; omega
    refine wpAny_pyNext_items_end (knd := strKind W.prog W.w) hh (r.sub _ _ _ h1) ⟨od, es, r.sub _ _ _ h3, hO⟩ hi fun h' hs => ?_
    obtain ⟨r', lx⟩ := r.drop (tk := s.toks) h1 fun b x hb e => hs b x hb e
    exact ⟨rfl, _, lx, r'⟩
  self := by
    rintro l G σ s A ⟨i, ok, ov, h1, h2, h3, h4, h5⟩ r
    have hT : s.TypeIs (.ref I) "dict_itemiterator" := ⟨_, r.sub _ _ _ h1, rfl⟩
    refine wpAny_pyIter_slot hT F.slot_dict_itemiterator_iter (wpAny_call_entry F.slot_dict_itemiterator_iter hT entry_itemiter_iter ?_ (F.args_dict_itemiterator_iter_1 _))
    show wpAny _ _ (ret (.ref I)) _ _ s
    exact wpAny_pure ⟨_, rfl, "dict_itemiterator", _, hT, F.slot_dict_itemiterator_next.lookup, rfl, rfl⟩
section
variable {W : Wd} {X : Sc} {n : Nat}
noncomputable def forItemsZ (fi : M AV) (tgt : AV → M Unit) (fb : M AFl) : M AFl := M.bind fi fun a => match a with
  | .view 1 (.dct l) => M.bind (forA (fun _ => True) tgt fb (itemsL l)) (fun | .done => M.pure .next | .brk => M.pure .next | .ret v => M.pure (.ret v))
  | _ => M.fail
theorem SimS.forItemsZ {target iter : Expr} {body : List Stmt} {pos : Pos} {fi : M AV} {tgt : AV → M Unit} {fb : M AFl} (hI : SimE W X n iter fi) (hT : SimT W X n target tgt) (hB : SimX W X n body fb)
    (ht : ∃ es k p, target = .Tuple es k p) (hs : ∀ env x, foldedSetIterable iter env x = pure x) : SimS W X n (.For target iter body [] pos) (Mine.forItemsZ fi tgt fb) := by
  intro env A σ fl σ' G s P hA r hf
  obtain ⟨a, σ1, e1, hf⟩ := M.bind_some hf
  refine wpAny_For (wpAny_mono (hI env A σ a σ1 G s P hA r e1) (fun mv s1 ⟨G1, l1, r1, p1⟩ => ?_) fun _ _ e => e.elim) (hs env)
  split at hf
  · rename_i l _
    obtain ⟨x, dv, e, hz, hr⟩ := p1
    subst e
    obtain ⟨d, ob, kvs, e, hsys, hzd, hD, hv⟩ := hr
    subst e
    obtain ⟨es, ep, d1, d2, d3, d4, d5⟩ := hD
    have hzk := Gh.z_iff.mp hzd
    refine wpAny_pyIter_items (knd := strKind W.prog W.w) (v := x) (d := d) ⟨_, r1.z hz, rfl, rfl⟩ ⟨ob, es, r1.z hzd, d1, d2, d3, d4, d5⟩ ?_
    obtain ⟨ri, li⟩ := r1.alloc .pin (o := ItOb d 0 kvs.length ep .none .none .none) rfl (tk := s1.toks)
    have h4 : RepKV (G1.vw W) l kvs := hv.kv
    have hlen : kvs.length = l.length := h4.length
    have hne : s1.heap.objs.size ≠ d := Nat.ne_of_gt (Heap.lt_size (r1.sub _ _ _ hzk))
    refine codeAny_mono (for_loop hT hB SimX.nil hA (itItemsZ W s1.heap.objs.size d hne ob es ep kvs l ⟨d1, d2, d3, d4, d5⟩ hlen) (G₀ := G1) li (fun a e o q => by cases e; rw [r1.fresh] at q; cases q) (P.mono l1) ri ht ⟨0, _, _, Gh.set_self, rfl, li.z _ _ hzk, Nat.zero_le _, RepKV.mono (li.vw W) h4⟩ hf) fun res s3 h3 => ?_
    cases res with
    | error e => exact h3.elim
    | ok f =>
      obtain ⟨G3, l3, r3, p3⟩ := h3
      exact ⟨G3, l1.trans l3, r3, p3⟩
  · cases hf
end
end Mine
end

section
open PySem PySem.W PySem.Calls PyProof.Rows
set_option Elab.async false
set_option maxRecDepth 20000
set_option linter.unusedVariables false
set_option linter.unusedSectionVars false
namespace Mine
/-! sorting flat tuples -/
def runK {α : Type} (cmp : Nat → Nat → Option Bool) : KasT α → Option α
  | .ret a => some a
  | .ask i j k => match cmp i j with
    | some true => runK cmp (k true)
    | some false => runK cmp (k false)
    | none => none
theorem runK_wp {α : Type} {cmp : Nat → Nat → Option Bool} {ask : Nat → Nat → (Bool → Shared → Prop) → Shared → Prop} {s : Shared} (H : ∀ i j b (C : Bool → Shared → Prop), cmp i j = some b → C b s → ask i j C s) {Q : α → Shared → Prop} :
    ∀ {t : KasT α} {a : α}, runK cmp t = some a → Q a s → t.kasWp ask Q s
  | .ret _, _, h, q => by cases h; exact q
  | .ask i j k, a, h, q => by
    unfold runK at h
    show ask i j (fun b s' => (k b).kasWp ask Q s') s
    split at h
    · rename_i e; exact H _ _ _ _ e (runK_wp H h q)
    · rename_i e; exact H _ _ _ _ e (runK_wp H h q)
    · cases h
def lexA (fin : Bool) : List (AV × AV) → Option Bool
  | [] => some fin
  | (.int a, .int b) :: r => if a = b then lexA fin r else some (decide (a < b))
  | (.str a, .str b) :: r => if a = b then lexA fin r else none
  | _ => none
def firstInt : AV → Bool
  | .tup (.int _ :: _) => true
  | _ => false
def cmpT (l : List AV) (i j : Nat) : Option Bool := match l[i]?, l[j]? with
  | some (.tup x), some (.tup y) => lexA (decide (x.length < y.length)) (x.zip y)
  | _, _ => none
def sortedTF : List AV → List AV → M AV
  | [a], [] => fun σ => match viewL σ a with
    | some l => if 2 ≤ l.length ∧ l.length < 64 ∧ l.all firstInt = true then (match runK (cmpT l) (kas_sort l.length) with
      | some p => some (.lst (p.toList.map fun i => l.getD i .none), σ)
      | none => none) else none
    | none => none
  | _, _ => M.fail
section
variable {W : Wd} {n : Nat}
/-- the frame's namespace may be another object of the same content; all else stands -/
theorem R.shift {G : Gh} {σ : St} {s : Shared} (r : R W G σ s) {a : Addr} {t : Tag} {o o₀ : Obj} {h' : Heap} {tk : Nat} (hk : G.kn a = some (t, o₀)) (hz : t ≠ .z) (hp : t ≠ .pin) (he : h'.get? a = some o) (hs : ∀ b x, b ≠ a → s.heap.get? b = some x → h'.get? b = some x)
    (hfr : FramesOK (G.vw W) (G.set a t o).kn G.fr σ.fs) (hob : ∀ n o', σ.st n = some o' → ∃ b ob, G.mu n = some b ∧ (G.set a t o).kn b = some (.obj n, ob) ∧ ObjOK W (G.vw W) o' ob) :
    R W (G.set a t o) σ { s with heap := h', toks := tk } ∧ G.Le (G.set a t o) := by
  have hv := Gh.vw_set (W := W) (o := o) hk hz hz
  have le : G.Le (G.set a t o) := Gh.le_set fun t₀ o₀' e => by rw [hk] at e; cases e; exact ⟨hz, hp⟩
  refine ⟨⟨⟨fun b o hb e => le.z _ _ (r.inv.base b o hb e), by rw [hv]; exact hfr, fun n o' e => by rw [hv]; exact hob n o' e, r.inv.cnt, r.inv.sys.turn hk hz⟩, fun b t' o' e => ?_, r.os, r.gens⟩, le⟩
  by_cases hb : b = a
  · subst hb
    rw [Gh.set_self] at e; cases e; exact he
  · rw [Gh.set_ne hb] at e
    exact hs b _ hb (r.sub _ _ _ e)
theorem R.anew {G : Gh} {σ : St} {s : Shared} (r : R W G σ s) {gf : GF} {rest : List GF} (hf : G.fr = gf :: rest) {h' : Heap} {tk : Nat} {m : Str → Option Value} (hm : s.heap.Ns gf.L m) (hn : h'.Ns gf.L m) (hs : ∀ b x, b ≠ gf.L → s.heap.get? b = some x → h'.get? b = some x) :
    ∃ G', G.Le G' ∧ R W G' σ { s with heap := h', toks := tk } ∧ ∀ b, b ≠ gf.L → G'.kn b = G.kn b := by
  have FF := r.inv.frames
  rw [hf] at FF
  obtain ⟨f, fr, hfs, h2, h3⟩ := FF
  obtain ⟨o, m', k1, k2, k3⟩ := h2.loc
  obtain ⟨o', e', q'⟩ := NsOb.of hn
  have hmm : m' = m := by
    obtain ⟨o1, e1, q1⟩ := NsOb.of hm
    have := r.sub _ _ _ k1
    rw [e1] at this; cases this
    funext x
    obtain ⟨es, ep, a1, a2, a3⟩ := k2
    obtain ⟨es', ep', b1, b2, b3⟩ := q1
    rw [a1] at b1; cases b1
    rw [← a3, ← b3]
  subst hmm
  have hfx : FramesOK (G.vw W) (G.set gf.L (.loc rest.length) o').kn G.fr σ.fs := by
    rw [hf]
    refine ⟨f, fr, hfs, ⟨h2.nd, h2.len, ⟨o', m', Gh.set_self, q', k3⟩, fun j y hj => ?_⟩, ?_⟩
    · obtain ⟨c, oc, cv, a1, a2, a3, a4⟩ := h2.cel j y hj
      exact ⟨c, oc, cv, a1, Gh.set_keep a2 fun t₀ o₀ e => by rw [k1] at e; cases e; exact Tag.noConfusion, a3, a4⟩
    · refine h3.mono ⟨fun _ _ e => e, fun _ _ e => e, fun _ _ e => e, fun _ _ e => e⟩ fun a t o e ⟨lvl, hlt', q⟩ => Gh.set_keep e fun t₀ o₀ w => ?_
      rw [k1] at w; cases w
      rcases q with rfl | ⟨_, rfl⟩
      · intro e; cases e; omega
      · exact Tag.noConfusion
  obtain ⟨r', le⟩ := r.shift (h' := h') (tk := tk) k1 (by exact Tag.noConfusion) (by exact Tag.noConfusion) e' hs hfx (fun nn o'' e => by
    obtain ⟨b, ob, b1, b2, b3⟩ := r.inv.objs nn o'' e
    exact ⟨b, ob, b1, Gh.set_keep b2 fun t₀ o₀ w => by rw [k1] at w; cases w; exact Tag.noConfusion, b3⟩)
  exact ⟨_, le, r', fun b hb => Gh.set_ne hb⟩
def othersOf (h : Heap) (L : Addr) : List (Addr × Obj) := (List.range h.objs.size).filterMap fun a => if a = L then none else (h.get? a).map (a, ·)
theorem others_mem {h : Heap} {L a : Addr} {o : Obj} : (a, o) ∈ othersOf h L ↔ a ≠ L ∧ h.get? a = some o := by
  unfold othersOf
  rw [List.mem_filterMap]
  constructor
  · rintro ⟨b, hb, e⟩
    split at e
    · cases e
    · rename_i hne
      obtain ⟨o', h1, h2⟩ := Option.map_eq_some_iff.mp e
      cases h2
      exact ⟨hne, h1⟩
  · rintro ⟨h1, h2⟩
    exact ⟨a, List.mem_range.mpr (Heap.lt_size h2), by rw [if_neg h1, h2]; rfl⟩
theorem lex_wp {V : Vw} {A : Around} {fin b : Bool} {Q : Bool → Shared → Prop} {s : Shared} {fl : Bool} : ∀ {x y : List AV} {xs ys : List Value} {i : Nat}, RepVs V x xs → RepVs V y ys → lexA fin (x.zip y) = some b → Q b s → KatLex W.prog W.w A fl fin Q (xs.zip ys) i s
  | [], y, xs, ys, i, hx, hy, h, q => by
    cases hx
    cases h
    simp only [List.zip_nil_left]
    exact kat_nil q
  | a :: x, [], xs, ys, i, hx, hy, h, q => by
    cases hy
    cases h
    simp only [List.zip_nil_right]
    exact kat_nil q
  | a :: x, c :: y, xs, ys, i, hx, hy, h, q => by
    obtain ⟨v, xr, e1, p1, p2⟩ := hx
    obtain ⟨w, yr, e2, q1, q2⟩ := hy
    subst e1; subst e2
    rw [List.zip_cons_cons] at h ⊢
    unfold lexA at h
    split at h
    · rename_i hh; cases hh
    · rename_i a' c' r hh
      cases hh
      obtain ⟨t, rfl⟩ := p1
      obtain ⟨u, rfl⟩ := q1
      refine kat_cons (wpAny_eqBool_int ?_)
      refine kat_go (fun e => ?_) (fun e => ?_)
      · refine kat_yes ?_
        rw [if_pos (beq_iff_eq.mp e)] at h
        exact lex_wp p2 q2 h q
      · refine kat_no ?_
        rw [if_neg (by intro q; rw [q] at e; simp at e)] at h
        cases h
        cases fl && i == 0 with
        | true => exact oneLt_int q
        | false => exact kat_one _ _ (PySem.P.lt_int q)
    · rename_i a' c' r hh
      cases hh
      obtain ⟨t, rfl⟩ := p1
      obtain ⟨u, rfl⟩ := q1
      refine kat_cons (eqBool_str ?_)
      refine kat_go (fun e => ?_) (fun e => ?_)
      · refine kat_yes ?_
        rw [if_pos (beq_iff_eq.mp e)] at h
        exact lex_wp p2 q2 h q
      · rw [if_neg (by intro q; rw [q] at e; simp at e)] at h
        cases h
    · cases h
end
end Mine
end

section
open PySem PySem.W PySem.Calls PyProof.Rows
set_option Elab.async false
set_option maxRecDepth 20000
set_option linter.unusedVariables false
set_option linter.unusedSectionVars false
namespace Mine
section
variable {W : Wd} {n : Nat}
theorem reps_getD {V : Vw} {l : List AV} {vs : List Value} (h : RepVs V l vs) (i : Nat) : RepV V (l.getD i .none) (vs.getD i .none) := by
  rw [List.getD_eq_getElem?_getD, List.getD_eq_getElem?_getD]
  cases e : l[i]? with
  | none =>
    have hl := h.length
    have : vs[i]? = none := List.getElem?_eq_none (by rw [hl]; exact List.getElem?_eq_none_iff.mp e)
    rw [this]; rfl
  | some a =>
    obtain ⟨v, hv, p⟩ := h.get e
    rw [hv]; exact p
theorem reps_perm {V : Vw} {l : List AV} {vs : List Value} (h : RepVs V l vs) : ∀ p : List Nat, RepVs V (p.map fun i => l.getD i .none) (p.map fun i => vs.getD i .none)
  | [] => rfl
  | i :: p => ⟨_, _, rfl, reps_getD h i, reps_perm h p⟩
theorem tups_of {G : Gh} {h' : Heap} (hz : ∀ a o, G.z a = some o → h'.get? a = some o) : ∀ {l : List AV} {vs : List Value}, Reps W G l vs → l.all firstInt = true → ∃ fs, KatTups h' vs fs ∧ fs.length = l.length ∧ ∀ v ∈ fs, ∃ i t, v = Value.int i t
  | [], vs, h, _ => by cases h; exact ⟨[], KatTups.nil, rfl, fun v h => by cases h⟩
  | a :: l, vs, h, hall => by
    obtain ⟨v, r, e, p1, p2⟩ := h
    subst e
    rw [List.all_cons, Bool.and_eq_true] at hall
    obtain ⟨fs, q1, q2, q3⟩ := tups_of hz p2 hall.2
    have h1 := hall.1
    unfold firstInt at h1
    split at h1
    · rename_i i rest
      obtain ⟨a, xs, _, e, hza, w, xr, e2, ⟨t, e3⟩, _⟩ := p1
      subst e
      refine ⟨w :: fs, KatTups.cons (hz _ _ hza) rfl rfl ?_ q1, by simp [q2], fun v hv => ?_⟩
      · rw [← Array.getElem?_toList, e2]; rfl
      · rcases List.mem_cons.mp hv with rfl | hv
        · exact ⟨i, t, e3⟩
        · exact q3 v hv
    · cases h1
theorem SimV.sortedT : SimV W n (.builtin "sorted") [] sortedTF := by
  intro A σ σ' G s args kws ms ks' v hA r hne p2 p3 hf
  refine ⟨.bi, ?_⟩
  unfold sortedTF at hf
  split at hf
  · rename_i a
    split at hf
    · rename_i l hl
      split at hf
      · rename_i hc
        obtain ⟨c1, c2, c3⟩ := hc
        split at hf
        · rename_i pm hpm
          cases hf
          obtain ⟨x, e, p⟩ := Reps.one p2
          rw [zipNil p3]
          subst e
          obtain ⟨la, vs, k, e, hx, hr⟩ := r.view p hl
          subst e
          obtain ⟨gf, rest, hfr⟩ : ∃ gf rest, G.fr = gf :: rest := by
            cases h : G.fr with
            | nil => exact absurd h hne
            | cons a l => exact ⟨a, l, rfl⟩
          have FF := r.inv.frames
          rw [hfr] at FF
          obtain ⟨f, fr, hfs, hF, _⟩ := FF
          obtain ⟨oL, m, k1, k2, _⟩ := hF.loc
          have hns : s.heap.Ns gf.L m := k2.ns (r.sub _ _ _ k1)
          have hvl : vs.toList.length = l.length := hr.length
          refine kat_sorted (h₀ := {}) (L := gf.L) (m := m) (news := othersOf s.heap gf.L) (vs := vs.toList) ⟨hns, fun b o e => by simp [Heap.get?] at e, Nat.zero_le _⟩
            (fun q hq => ⟨(others_mem.mp hq).2, (others_mem.mp hq).1, by simp [Heap.get?]⟩) (by simpa using isList_of hx) (by omega) (by omega) (fun D e1 h' F' N' hD => ?_)
          have hk : ∀ b o, b ≠ gf.L → s.heap.get? b = some o → h'.get? b = some o := fun b o hb e => (N' (b, o) (List.mem_cons_of_mem _ (others_mem.mpr ⟨hb, e⟩))).1
          have hzL : ∀ a o, G.z a = some o → a ≠ gf.L := fun a o e q => by
            subst q
            have := Gh.z_iff.mp e
            rw [k1] at this; cases this
          have hz : ∀ a o, G.z a = some o → h'.get? a = some o := fun a o e => hk a o (hzL a o e) (r.z e)
          obtain ⟨fs, t1, t2, t3⟩ := tups_of (W := W) hz hr c3
          refine kat_kind (s := { s with heap := h' }) (T := .type "int") t1 (by omega) (fun v hv => ?_) rfl ?_
          · obtain ⟨i, t, rfl⟩ := t3 v hv
            exact Looks.of_pure rfl
          rw [hvl]
          refine runK_wp (cmp := cmpT l) (fun i j b C hc hC => ?_) hpm ?_
          · unfold cmpT at hc
            split at hc
            · rename_i x y hx' hy'
              obtain ⟨u, hu, pu⟩ := hr.get hx'
              obtain ⟨w, hw, pw⟩ := hr.get hy'
              obtain ⟨ax, xs, _, e, hzx, rx⟩ := pu
              obtain ⟨ay, ys, _, e', hzy, ry⟩ := pw
              subst e; subst e'
              unfold kas_ask
              rw [List.getD_eq_getElem?_getD, List.getD_eq_getElem?_getD, hu, hw]
              refine kat_lt (hz _ _ hzx) rfl (hz _ _ hzy) rfl ?_
              have e1 := rx.length
              have e2 := ry.length
              rw [show xs.size = x.length from by rw [← e1]; simp, show ys.size = y.length from by rw [← e2]; simp]
              exact lex_wp rx ry hc hC
            · cases hc
          · refine KasFin.intro F' N' (.head fun q hq e => ?_) (fun h3 c F3 N3 => ?_)
            · have := hD q hq
              rw [e] at this
              exact absurd this (Nat.lt_irrefl _)
            · have hs3 : ∀ b x, b ≠ gf.L → s.heap.get? b = some x → h3.get? b = some x := fun b x hb e => (N3 (b, x) (List.mem_cons_of_mem _ (others_mem.mpr ⟨hb, e⟩))).1
              obtain ⟨G1, le1, r1, hkn⟩ := r.anew hfr (h' := h3) (tk := s.toks) hns F3.ns hs3
              have hDL : D ≠ gf.L := (N3 _ (.head _)).2.1
              have hDn : G1.kn D = none := by
                rw [hkn D hDL]
                cases e : G.kn D with
                | none => rfl
                | some q => exact absurd (hD (D, q.2) (others_mem.mpr ⟨hDL, r.sub _ q.1 q.2 e⟩)) (Nat.lt_irrefl _)
              obtain ⟨r2, le2⟩ := r1.found (D := D) (h' := h3) (tk := s.toks) (fun b o e => e) hDn (N3 _ (.head _)).1
              refine ⟨_, le1.trans le2, r2, D, _, c, rfl, Gh.z_iff.mpr Gh.set_self, ?_⟩
              exact Reps.le (reps_perm hr pm.toList) (le1.trans le2)
        · cases hf
      · cases hf
    · cases hf
  · cases hf
end
end Mine
end

section
open PySem PySem.W PySem.Calls PyProof.Rows
set_option Elab.async false
set_option maxRecDepth 20000
set_option linter.unusedVariables false
set_option linter.unusedSectionVars false
namespace Mine
/-! a dict that stays as it is from now on -/
mutual
def subV (m : Hd) (d : List (Str × AV)) : AV → AV
  | .ref n => if n = m then .dct d else .ref n
  | .tup l => .tup (subVs m d l)
  | .lst l => .lst (subVs m d l)
  | .dct l => .dct (subVd m d l)
  | .bm f s => .bm f (subV m d s)
  | .view k a => .view k (subV m d a)
  | .none => .none
  | .bool b => .bool b
  | .int i => .int i
  | .str x => .str x
  | .mc v => .mc v
  | .inst C n => .inst C n
  | .clo k => .clo k
  | .rng a b c => .rng a b c
def subVs (m : Hd) (d : List (Str × AV)) : List AV → List AV
  | [] => []
  | a :: l => subV m d a :: subVs m d l
def subVd (m : Hd) (d : List (Str × AV)) : List (Str × AV) → List (Str × AV)
  | [] => []
  | (x, a) :: l => (x, subV m d a) :: subVd m d l
end
def subKV {κ : Type} (m : Hd) (d : List (Str × AV)) : List (κ × AV) → List (κ × AV)
  | [] => []
  | (x, a) :: l => (x, subV m d a) :: subKV m d l
def subO (m : Hd) (d : List (Str × AV)) : AO → AO
  | .list l => .list (subVs m d l)
  | .dictI l => .dictI (subKV m d l)
  | .dictS l => .dictS (subKV m d l)
  | .ctr C l => .ctr C (subKV m d l)
  | .sset l => .sset l
  | .ns l => .ns (subKV m d l)
def subSt (m : Hd) (d : List (Str × AV)) (σ : St) : St :=
  ⟨σ.fs.map fun f => f.map fun o => o.map (subV m d), fun k => if k = m then none else (σ.st k).map (subO m d), σ.cnt⟩
structure Froz (V : Vw) (m : Hd) (d : List (Str × AV)) : Prop where
  ex : ∃ a o kvs, V.mu m = some a ∧ (a == sysModules) = false ∧ V.z a = some o ∧ V.dob o kvs ∧ RepVd V d kvs
section
variable {V : Vw} {m : Hd} {d : List (Str × AV)}
mutual
theorem Froz.v (F : Froz V m d) : ∀ (a : AV) (v : Value), RepV V a v → RepV V (subV m d a) v
  | .ref n, v, r => by
    unfold subV
    split
    · rename_i e
      subst e
      obtain ⟨a, e, h⟩ := r
      obtain ⟨a', o, kvs, h1, h2, h3, h4, h5⟩ := F.ex
      rw [h] at h1; cases h1
      exact ⟨a, o, kvs, e, h2, h3, h4, h5⟩
    · exact r
  | .tup l, v, ⟨a, vs, u, e, h, q⟩ => by unfold subV; exact ⟨a, vs, u, e, h, Froz.vs F l _ q⟩
  | .lst l, v, ⟨a, vs, u, e, h, q⟩ => by unfold subV; exact ⟨a, vs, u, e, h, Froz.vs F l _ q⟩
  | .dct l, v, ⟨a, o, kvs, e, h, h2, h3, q⟩ => by unfold subV; exact ⟨a, o, kvs, e, h, h2, h3, Froz.vd F l _ q⟩
  | .bm f s, v, ⟨a, sv, e, h, q⟩ => by unfold subV; exact ⟨a, sv, e, h, Froz.v F s _ q⟩
  | .view k a, v, ⟨x, dv, e, h, q⟩ => by unfold subV; exact ⟨x, dv, e, h, Froz.v F a _ q⟩
  | .none, v, r => r
  | .bool _, v, r => r
  | .int _, v, r => r
  | .str _, v, r => r
  | .mc _, v, r => r
  | .inst _ _, v, r => r
  | .clo _, v, r => r
  | .rng _ _ _, v, r => r
theorem Froz.vs (F : Froz V m d) : ∀ (l : List AV) (vs : List Value), RepVs V l vs → RepVs V (subVs m d l) vs
  | [], _, r => r
  | a :: l, _, ⟨v, r, e, h1, h2⟩ => ⟨v, r, e, Froz.v F a _ h1, Froz.vs F l _ h2⟩
theorem Froz.vd (F : Froz V m d) : ∀ (l : List (Str × AV)) (vs : List (Str × Value)), RepVd V l vs → RepVd V (subVd m d l) vs
  | [], _, r => r
  | (x, a) :: l, _, ⟨v, r, e, h1, h2⟩ => ⟨v, r, e, Froz.v F a _ h1, Froz.vd F l _ h2⟩
end
theorem Froz.kv {κ : Type} (F : Froz V m d) : ∀ {l : List (κ × AV)} {kvs}, RepKV V l kvs → RepKV V (subKV m d l) kvs
  | [], _, r => r
  | (x, a) :: l, _, ⟨v, r, e, h1, h2⟩ => ⟨v, r, e, F.v a _ h1, F.kv h2⟩
theorem Froz.ns (F : Froz V m d) : ∀ {l : List (Str × AV)} {es}, NsE V l es → NsE V (subKV m d l) es
  | [], _, r => r
  | (x, a) :: l, _, ⟨h, t, v, r, e, h1, h2⟩ => ⟨h, t, v, r, e, F.v a _ h1, F.ns h2⟩
theorem Froz.obj {W : Wd} (F : Froz V m d) : ∀ {o : AO} {ob : Obj}, ObjOK W V o ob → ObjOK W V (subO m d o) ob
  | .list _, _, ⟨vs, n, e, r⟩ => ⟨vs, n, e, F.vs _ _ r⟩
  | .dictI _, _, ⟨kvs, e, r⟩ => ⟨kvs, e, F.kv r⟩
  | .dictS _, _, ⟨kvs, e, r⟩ => ⟨kvs, e, F.kv r⟩
  | .ctr _ _, _, ⟨kvs, e, r⟩ => ⟨kvs, e, F.kv r⟩
  | .sset _, _, h => h.elim
  | .ns _, _, ⟨es, n, e, r⟩ => ⟨es, n, e, F.ns r⟩
def subF (m : Hd) (d : List (Str × AV)) (f : Frm) : Frm := f.map fun o => o.map (subV m d)
theorem Froz.slot (F : Froz V m d) {f : Frm} {i : Nat} {mv : Option Value} (h : slotRep V f[i]? mv) : slotRep V (subF m d f)[i]? mv := by
  intro v e
  unfold subF at e
  rw [List.getElem?_map] at e
  cases hf : f[i]? with
  | none => rw [hf] at e; cases e
  | some o =>
    cases o with
    | none => rw [hf] at e; cases e
    | some a =>
      rw [hf] at e; cases e
      obtain ⟨x, e1, e2⟩ := h a hf
      exact ⟨x, e1, F.v a x e2⟩
theorem Froz.frame (F : Froz V m d) {kn : Addr → Option (Tag × Obj)} {lvl : Nat} {gf : GF} {f : Frm} (h : FrameOK V kn lvl gf f) : FrameOK V kn lvl gf (subF m d f) := by
  obtain ⟨nd, ln, ⟨o, mm, h1, h2, h3⟩, h4⟩ := h
  refine ⟨nd, by unfold subF; rw [List.length_map]; exact ln, ⟨o, mm, h1, h2, fun i x e => F.slot (h3 i x e)⟩, fun i x e => ?_⟩
  obtain ⟨c, o, cv, a1, a2, a3, a4⟩ := h4 i x e
  exact ⟨c, o, cv, a1, a2, a3, F.slot a4⟩
theorem Froz.frames (F : Froz V m d) {kn : Addr → Option (Tag × Obj)} : ∀ {gs : List GF} {fs : List Frm}, FramesOK V kn gs fs → FramesOK V kn gs (fs.map (subF m d))
  | [], _, h => by
    have h : _ = [] := h
    subst h; rfl
  | gf :: gs, _, ⟨f, r, e, h1, h2⟩ => by subst e; exact ⟨subF m d f, r.map (subF m d), rfl, F.frame h1, F.frames h2⟩
end
section
variable {W : Wd} {X : Sc} {n : Nat}
theorem R.freeze {G : Gh} {σ : St} {s : Shared} (r : R W G σ s) {m : Hd} {l : List (Str × AV)} (hm : σ.st m = some (.dictS l)) : ∃ G', G.Le G' ∧ R W G' (subSt m l σ) s := by
  obtain ⟨a, ob, h1, h2, kvs, h3, h4⟩ := r.inv.objs _ _ hm
  have le : G.Le (G.set a .z ob) := Gh.le_set fun t₀ o₀ e => by rw [h2] at e; cases e; exact ⟨Tag.noConfusion, Tag.noConfusion⟩
  have hsy : (a == sysModules) = false := by
    rw [beq_eq_false_iff_ne]
    intro e
    subst e
    exact absurd (r.inv.sys.2 _ _ h2) Tag.noConfusion
  have F : Froz ((G.set a .z ob).vw W) m l := ⟨⟨a, ob, kvs, h1, hsy, Gh.z_iff.mpr Gh.set_self, h3, (h4.mono (le.vw W)).vd⟩⟩
  refine ⟨G.set a .z ob, le, ⟨⟨fun b o hb e => le.z _ _ (r.inv.base b o hb e), ?_, fun k o e => ?_, r.inv.cnt, r.inv.sys.turn h2 Tag.noConfusion⟩, fun b t o e => ?_, r.os, r.gens⟩⟩
  · refine F.frames ?_
    exact r.inv.frames.mono (le.vw W) fun b t' o' e ⟨_, _, q⟩ => Gh.set_keep e fun t₀ o₀ w => by
      rw [h2] at w; cases w; rcases q with rfl | ⟨_, rfl⟩ <;> exact Tag.noConfusion
  · have e : (if k = m then Option.none else (σ.st k).map (subO m l)) = some o := e
    split at e
    · cases e
    · rename_i hk
      obtain ⟨o0, e0, e1⟩ := Option.map_eq_some_iff.mp e
      subst e1
      obtain ⟨b, ob', q1, q2, q3⟩ := r.inv.objs _ _ e0
      refine ⟨b, ob', q1, Gh.set_keep q2 fun t₀ o₀ w => ?_, F.obj (q3.mono (le.vw W))⟩
      rw [h2] at w; cases w
      intro q; cases q; exact hk rfl
  · by_cases hb : b = a
    · subst hb; rw [Gh.set_self] at e; cases e; exact r.sub _ _ _ h2
    · rw [Gh.set_ne hb] at e; exact r.sub _ _ _ e
/-- the dict in slot i, if it is one, stays from now on -/
def frzA (i : Nat) : M Unit := fun σ => match ldv 0 i σ with
  | some (.ref m, _) => (match σ.st m with
    | some (.dictS l) => some ((), subSt m l σ)
    | _ => none)
  | some (.dct _, _) => some ((), σ)
  | _ => none
theorem R.frz {G : Gh} {σ σ' : St} {s : Shared} {i : Nat} {u : Unit} (r : R W G σ s) (h : frzA i σ = some (u, σ')) : ∃ G', G.Le G' ∧ R W G' σ' s := by
  unfold frzA at h
  split at h
  · split at h
    · rename_i l hl
      cases h
      exact r.freeze hl
    · cases h
  · cases h; exact ⟨G, .refl _, r⟩
  · cases h
theorem SimX.frz {b : List Stmt} {f : M AFl} (x : Str) {i : Nat} {k : NameKind} (_ : slotIn X.names x 0 = some (i, k)) (h : SimX W X n b f) : SimX W X n b (M.bind (frzA i) fun _ => f) := by
  intro env A σ fl σ' G s P hA r hf
  obtain ⟨u, σ1, e1, hf⟩ := M.bind_some hf
  obtain ⟨G1, l1, r1⟩ := r.frz e1
  exact wpAny_mono (h env A _ _ _ G1 s (P.mono l1) hA r1 hf) (fun _ _ q => q.le l1) fun _ _ e => e
end
end Mine
end

section
open PySem PySem.W PySem.Calls PyProof.Rows
set_option Elab.async false
set_option maxRecDepth 20000
set_option linter.unusedVariables false
set_option linter.unusedSectionVars false
namespace Mine
section
variable {W : Wd} {X : Sc} {n : Nat}
theorem R.pin2 {G : Gh} {σ : St} {s : Shared} (r : R W G σ s) {a b : Addr} {o o' p p' : Obj} {h' : Heap} {tk : Nat} (hne : a ≠ b) (ha : G.kn a = some (.pin, o)) (hb : G.kn b = some (.pin, p)) (ha' : h'.get? a = some o') (hb' : h'.get? b = some p')
    (hs : ∀ c x, c ≠ a → c ≠ b → s.heap.get? c = some x → h'.get? c = some x) :
    R W ((G.set a .pin o').set b .pin p') σ { s with heap := h', toks := tk } ∧ LeX (fun c => c = a ∨ c = b) G ((G.set a .pin o').set b .pin p') := by
  have hb1 : (G.set a .pin o').kn b = some (.pin, p) := by rw [Gh.set_ne (Ne.symm hne)]; exact hb
  refine ⟨⟨(r.inv.pin ha).pin hb1, fun c t x e => ?_, r.os, r.gens⟩, ⟨fun c x e => ?_, fun c x hc e => ?_, fun _ _ e => e, rfl⟩⟩
  · by_cases h1 : c = b
    · subst h1; rw [Gh.set_self] at e; cases e; exact hb'
    · rw [Gh.set_ne h1] at e
      by_cases h2 : c = a
      · subst h2; rw [Gh.set_self] at e; cases e; exact ha'
      · rw [Gh.set_ne h2] at e; exact hs c x h2 h1 (r.sub _ _ _ e)
  · rw [Gh.set_ne, Gh.set_ne]
    · exact e
    · rintro rfl; rw [ha] at e; cases e
    · rintro rfl; rw [hb] at e; cases e
  · rw [Gh.set_ne fun q => hc (.inr q), Gh.set_ne fun q => hc (.inl q)]; exact e
theorem R.knowP {G : Gh} {σ : St} {s : Shared} (r : R W G σ s) {a : Addr} {o : Obj} (h : G.kn a = Option.none) (ha : a ≠ sysModules) (ho : s.heap.get? a = some o) : R W (G.set a .pin o) σ s ∧ G.Le (G.set a .pin o) := by
  refine ⟨⟨r.inv.set (fun t₀ o₀ e => by rw [h] at e; cases e) (.inl ha), fun b t x e => ?_, r.os, r.gens⟩, Gh.le_set (fun t₀ o₀ e => by rw [h] at e; cases e)⟩
  by_cases hb : b = a
  · subst hb; rw [Gh.set_self] at e; cases e; exact ho
  · rw [Gh.set_ne hb] at e; exact r.sub _ _ _ e
theorem R.bigS {G : Gh} {σ : St} {s : Shared} (r : R W G σ s) (k : Nat) : s.heap.objs.size + k ≠ sysModules := by
  obtain ⟨oc, hc⟩ := r.inv.sys.1
  have h1 := Heap.lt_size (r.sub _ _ _ hc)
  have h2 : sysModules < cStatics := by decide
  intro e
  rw [← e] at h2
  exact absurd (Nat.lt_trans h2 h1) (Nat.not_lt.mpr (Nat.le_add_right _ _))
theorem R.freshS {G : Gh} {σ : St} {s : Shared} (r : R W G σ s) (k : Nat) : G.kn (s.heap.objs.size + k) = Option.none := by
  cases e : G.kn (s.heap.objs.size + k) with
  | none => rfl
  | some p => exact absurd (Heap.lt_size (r.sub _ p.1 p.2 e)) (Nat.not_lt.mpr (Nat.le_add_right _ _))
end
def EnOb (it : Addr) (i : Int) (f0 old : Value) : Obj := { cls := .type "enumerate", dict := Option.none, data := .fields #[f0, .bool false, .ref it, rawInt i, .none, old], slots := #[] }
def enumL : Nat → List AV → List AV
  | _, [] => []
  | i, a :: l => .tup [.int i, a] :: enumL (i + 1) l
/-- the items of a list, counted -/
def itEnum (W : Wd) (e it a : Addr) (hne : e ≠ it) (l₀ : List AV) (C : St → Prop) (Fx : Gh → Prop) (S : Src W a l₀ C Fx) : It W (.ref e) where
  C := C
  I := fun c => c = e ∨ c = it
  K := fun _ => False
  T := fun t => ∃ es k p, t = .Tuple es k p
  J := fun l G => ∃ (o : Obj) (i : Nat) (old : Value), G.kn e = some (.pin, EnOb it i .none old) ∧ G.kn it = some (.pin, o) ∧ LIter o a i ∧ l = enumL i (l₀.drop i) ∧ Fx G ∧ i ≤ l₀.length
  J1 := fun l mv G => ∃ (o : Obj) (i : Nat) (old : Value) (t : Addr), mv = .ref t ∧ G.kn e = some (.pin, EnOb it i (rawInt t) old) ∧ G.kn it = some (.pin, o) ∧ LIter o a i ∧ l = enumL i (l₀.drop i) ∧ Fx G ∧ i ≤ l₀.length
  mono := fun ⟨o, i, old, h0, h1, h2, h3, h4, h5⟩ l => ⟨o, i, old, l.pin _ _ (.inl (.inl rfl)) h0, l.pin _ _ (.inl (.inr rfl)) h1, h2, h3, S.mono h4 l, h5⟩
  known := fun c ⟨o, i, old, h0, h1, _⟩ q => by
    rcases q with (q | q) | q
    · cases q; exact ⟨_, h0⟩
    · cases q; exact ⟨_, h1⟩
    · exact q.elim
  next := by
    rintro x l G σ s A hh hC ⟨o, i, old, h0, h1, h2, h3, h4, h5⟩ r
    obtain ⟨vs, v1, v2⟩ := S.at_ h4 hC r
    cases hd : l₀.drop i with
    | nil => rw [hd] at h3; cases h3
    | cons y l' =>
      rw [hd] at h3
      cases h3
      have hi : l₀[i]? = some y := by
        have := congrArg (·[0]?) hd
        simpa using this
      obtain ⟨mv, m1, m2⟩ := RepVs.get v2 hi
      rw [Array.getElem?_toList] at m1
      refine wpAny_pyNext_enum_item (r.sub _ _ _ h0) ⟨o, r.sub _ _ _ h1, h2.1, h2.2⟩ v1 m1 hne fun h' hout hit htup hsz hs => ?_
      obtain ⟨o', e1, e2, e3⟩ := hit
      obtain ⟨r1, lx⟩ := r.pin2 (tk := s.toks + 1) hne h0 h1 hout e1 hs
      have hes : s.heap.objs.size ≠ e := Nat.ne_of_gt (Heap.lt_size (r.sub _ _ _ h0))
      have his : s.heap.objs.size ≠ it := Nat.ne_of_gt (Heap.lt_size (r.sub _ _ _ h1))
      obtain ⟨r2, le2⟩ := r1.know (a := s.heap.objs.size) ((Gh.set_ne his).trans ((Gh.set_ne hes).trans r.fresh)) htup
      have lxA := lx.trans (le2.toX (I := fun c => c = e ∨ c = it))
      refine ⟨.ref s.heap.objs.size, _, rfl, lxA, r2, ⟨_, _, (), rfl, Gh.z_iff.mpr Gh.set_self, _, _, rfl, ⟨_, rfl⟩, _, _, rfl, repX m2 lxA, rfl⟩, o', i + 1, mv, _, rfl, le2.pin _ _ ((Gh.set_ne hne).trans Gh.set_self), le2.pin _ _ Gh.set_self, ⟨e2, e3⟩, ?_, ?_, ?_⟩
      · have : l₀.drop (i + 1) = (l₀.drop i).drop 1 := by rw [List.drop_drop]
        rw [this, hd]; rfl
      · exact S.mono (I := fun _ => False) (S.mono (I := fun _ => False) h4 (lx.toZ fun _ h => h.elim)) le2.toI
      · have := (List.getElem?_eq_some_iff.mp hi).1; omega
  go := by
    rintro l G σ s A mv target ⟨es', k', p', rfl⟩ ⟨o, i, old, t, rfl, h0, h1, h2, h3, h4, h5⟩ r
    refine wpAny_letOwnedTupleGo_enum (r.sub _ _ _ h0) fun h' hit hs => ?_
    obtain ⟨r1, lx⟩ := r.pin (tk := s.toks) h0 hit fun b x hb q => (hs.2 b hb).trans q
    exact ⟨_, lx.more fun c q => .inl q, r1, o, i, old, Gh.set_self, by rw [Gh.set_ne (Ne.symm hne)]; exact h1, h2, h3, S.mono (I := fun _ => False) h4 (lx.toZ fun _ h => h.elim), h5⟩
  stop := by
    rintro G σ s A hh hC ⟨o, i, old, h0, h1, h2, h3, h4, h5⟩ r
    obtain ⟨vs, v1, v2⟩ := S.at_ h4 hC r
    have hlen := v2.length
    rw [Array.length_toList] at hlen
    have hi : vs[i]? = none := by
      have : l₀.drop i = [] := by
        cases hd : l₀.drop i with
        | nil => rfl
        | cons y l' => rw [hd] at h3; cases h3
      have := List.drop_eq_nil_iff.mp this
      simp; omega
    refine wpAny_pyNext_enum_end hh (r.sub _ _ _ h0) ⟨o, r.sub _ _ _ h1, h2.1, h2.2⟩ v1 hi fun h' hs => ?_
    obtain ⟨r', lx⟩ := r.drop (tk := s.toks) h1 fun b x hb q => hs b x hb q
    exact ⟨rfl, _, lx.more fun c q => .inr q, r'⟩
  self := by
    rintro l G σ s A ⟨o, i, old, h0, h1, h2, h3, h4, h5⟩ r
    exact wpAny_pyIter_enum (r.sub _ _ _ h0) ⟨rfl, rfl⟩

def itEn : AV → M (List AV × (St → Prop))
  | .lst l => M.pure (enumL 0 l, fun _ => True)
  | .ref n => fun σ => match σ.st n with
    | some (.list l) => some ((enumL 0 l, fun σ' => σ'.st n = some (.list l)), σ)
    | _ => none
  | _ => M.fail
section
variable {W : Wd} {X : Sc} {n : Nat}
theorem en_start {A : Around} {σ σ' : St} {G : Gh} {s : Shared} {a : AV} {mv : Value} {l : List AV} {C : St → Prop} {tg : Expr} (ht : ∃ es k p, tg = .Tuple es k p) (r : R W G σ s) (p : Rep W G a mv) (hf : itEn a σ = some ((l, C), σ')) :
    wpAny W.M A (call (.type "enumerate") [mv]) (fun v s' => wpAny W.M A (pyIter v) (ItPost W tg G σ' l C) (fun _ _ => False) s') (fun _ _ => False) s := by
  have key : ∀ {x : Addr} {l₀ : List AV} {vs : Array Value} {Fx : Gh → Prop} (S : Src W x l₀ C Fx), mv = .ref x → s.heap.IsList x vs → Fx G → l = enumL 0 l₀ → σ' = σ → 
      wpAny W.M A (call (.type "enumerate") [mv]) (fun v s' => wpAny W.M A (pyIter v) (ItPost W tg G σ' l C) (fun _ _ => False) s') (fun _ _ => False) s := by
    rintro x l₀ vs Fx S rfl hL hFx rfl rfl
    refine call_enumerate_list hL fun h' he hit hsz hk => ?_
    obtain ⟨oi, e1, e2, e3⟩ := hit
    have r0 := r.keep (h' := h') (tk := s.toks) hk
    obtain ⟨r1, l1⟩ := r0.knowP (a := s.heap.objs.size) r.fresh r.big e1
    obtain ⟨r2, l2⟩ := r1.knowP (a := s.heap.objs.size + 1) ((Gh.set_ne (Nat.succ_ne_self _)).trans (r.freshS 1)) (r.bigS 1) he
    refine wpAny_pyIter_enum he ⟨itEnum W (s.heap.objs.size + 1) s.heap.objs.size x (Nat.succ_ne_self _) l₀ C Fx S, _, l1.trans l2, r2, rfl, ht, ⟨oi, 0, .none, Gh.set_self, l2.pin _ _ Gh.set_self, ⟨e2, e3⟩, rfl, S.mono (I := fun _ => False) hFx (l1.trans l2).toI, Nat.zero_le _⟩, fun c q o w => ?_⟩
    rcases q with q | q
    · subst q; rw [r.freshS 1] at w; cases w
    · subst q; rw [r.fresh] at w; cases w
  unfold itEn at hf
  split at hf
  · cases hf
    obtain ⟨x, vs, k, e, hz, hr⟩ := p
    exact key (srcZ W x _ _) e (isList_of (r.z hz)) ⟨vs, k, Gh.z_iff.mp hz, hr⟩ rfl rfl
  · split at hf
    · rename_i m _ l' hs
      cases hf
      obtain ⟨x, e, hm⟩ := p
      obtain ⟨x', ob, h1, h2, vs, k, h3, h4⟩ := r.inv.objs _ _ hs
      rw [show (G.vw W).mu = G.mu from rfl, h1] at hm
      cases hm
      exact key (srcL W x _ _) e (isList_of (h3 ▸ r.sub _ _ _ h2)) h1 rfl rfl
    · cases hf
  · cases hf
theorem SimIt.enum {id : Str} {p pos : Pos} {x tg : Expr} {f : M AV} (h1 : SimE W X n (.Name id p) (M.pure (.mc (.type "enumerate")))) (h2 : SimE W X n x f) (hs : NoStar [x]) (he : ∀ env, starEach [x] env = (false, eval x env) :: starEach [] env) (ht : ∃ es k p, tg = .Tuple es k p) :
    SimIt W X n (.Call (.Name id p) [x] [] pos) tg (M.bind f itEn) := by
  intro env A σ l C σ' G s P hA r hf
  obtain ⟨a, σ2, e2, hf⟩ := M.bind_some hf
  have hk : KwNames [] [] := fun env => rfl
  refine wpAny_Call_Name_kw (wpAny_mono (h1 env A σ (.mc (.type "enumerate")) σ G s P hA r rfl) (fun mf' s1 ⟨G1, l1, r1, p1⟩ => ?_) fun _ _ e => e)
  cases p1
  refine callWith_of (P := fun h => Kp W.M h (.type "enumerate")) (by rw [hs.back, hk.any]; rfl) (fun h q => q) (evalArgs_gen (hs.back _ _) (hk.all _ _) ?_)
  have hl : M.bind f (fun a => M.bind (M.pure []) fun l => M.pure (a :: l)) σ = some ([a], σ2) := by
    unfold M.bind; rw [e2]; rfl
  refine wpAny_mono (SimI.cons h2 SimI.nil he pos env A _ _ _ G1 s1 (P.mono l1) hA r1 hl) (fun ms s2 ⟨G2, l2, r2, p2⟩ => ?_) fun _ _ e => e
  refine wpAny_mono (SimK.nil (W := W) (X := X) (n := n) pos env A σ2 [] σ2 G2 s2 (P.mono (l1.trans l2)) hA r2 rfl) (fun ks' s3 ⟨G3, l3, r3, p3⟩ => ?_) fun _ _ e => e
  obtain ⟨mv, e, q⟩ := Reps.one (Reps.le p2 l3)
  subst e
  refine ⟨.ty, ?_⟩
  rw [hk.fm]
  have le := (l1.trans l2).trans l3
  refine wpAny_mono (en_start ht r3 q hf) (fun v s' h => wpAny_mono h (fun it s2 ⟨S, G2, l2, r2, c2, t2, j2, i2⟩ => ⟨S, G2, le.trans l2, r2, c2, t2, j2, fun a ha o q => i2 a ha o (le.pin _ _ q)⟩) fun _ _ e => e) fun _ _ e => e
end
end Mine
end

section
open PySem PySem.W PySem.Calls PyProof.Rows
set_option Elab.async false
set_option maxRecDepth 20000
set_option linter.unusedVariables false
set_option linter.unusedSectionVars false
namespace Mine
section
variable {W : Wd} {n : Nat}
/-- a copy of a dict; it stays as it is -/
def dictOfF : List AV → List AV → M AV
  | [.ref m], [] => fun σ => match σ.st m with
    | some (.dictS l) => if l.length ≤ 1000 then some (.dct l, σ) else none
    | _ => none
  | _, _ => M.fail
theorem SimV.dictOf : SimV W n (.type "dict") [] dictOfF := by
  intro A σ σ' G s args kws ms ks' v hA r hne p2 p3 hf
  refine ⟨.ty, ?_⟩
  unfold dictOfF at hf
  split at hf
  · rename_i m
    split at hf
    · rename_i l hl
      split at hf
      · rename_i hlen
        cases hf
        obtain ⟨x, e, p⟩ := Reps.one p2
        rw [zipNil p3]
        subst e
        obtain ⟨d, e, hm⟩ := p
        subst e
        obtain ⟨d', ob, h1, h2, kvs, h3, h4⟩ := r.inv.objs _ _ hl
        rw [show (G.vw W).mu = G.mu from rfl, h1] at hm
        cases hm
        have hsy : (d == sysModules) = false := by
          rw [beq_eq_false_iff_ne]
          intro e
          subst e
          exact absurd (r.inv.sys.2 _ _ h2) Tag.noConfusion
        have hk : kvs.length ≤ sizeLine := by
          rw [h4.length]
          exact Nat.le_trans hlen (by decide)
        refine kt_call_dict (knd := strKind W.prog W.w) hsy (h3.dictOf (r.sub _ _ _ h2)) hk fun h' hd hs => ?_
        obtain ⟨o', ho', hd'⟩ := DictOb.of hd
        have hkeep : ∀ b o, s.heap.get? b = some o → h'.get? b = some o := fun b o e => (hs.2 b (Nat.ne_of_lt (Heap.lt_size e))).trans (Heap.get?_push_of_some _ e)
        obtain ⟨r1, l1⟩ := (r.keep (h' := h') (tk := s.toks) hkeep).know (a := s.heap.objs.size) r.fresh ho'
        exact ⟨_, l1, r1, _, o', kvs, rfl, beq_eq_false_iff_ne.mpr r.big, Gh.z_iff.mpr Gh.set_self, hd', (h4.mono (l1.vw W)).vd⟩
      · cases hf
    · cases hf
  · cases hf
end
end Mine
end

section
open PySem PySem.W PySem.Calls PyProof.Rows
set_option Elab.async false
set_option maxRecDepth 20000
set_option linter.unusedVariables false
set_option linter.unusedSectionVars false
namespace Mine
/-! sorting names, and lists of one item -/
def leS (a b : Str) : Bool := !(Spec.ltCps b.cps.toList a.cps.toList)
def insS (x : Str) : List Str → List Str
  | [] => [x]
  | y :: l => if leS x y = true then x :: y :: l else y :: insS x l
def isortS : List Str → List Str
  | [] => []
  | x :: l => insS x (isortS l)
theorem ltCps_iff {a b : Str} : Spec.ltCps b.cps.toList a.cps.toList = true ↔ b.cps.toList < a.cps.toList := by
  rw [ltCps_eq]; simp
theorem leS_iff {a b : Str} : leS a b = true ↔ a.cps.toList ≤ b.cps.toList := by
  unfold leS
  rw [Bool.not_eq_true', ← Bool.not_eq_true, ltCps_iff, List.not_lt]
theorem leS_total (a b : Str) : leS a b = true ∨ leS b a = true := by
  rw [leS_iff, leS_iff]; exact List.le_total _ _
theorem leS_trans {a b c : Str} (h1 : leS a b = true) (h2 : leS b c = true) : leS a c = true := by
  rw [leS_iff] at *; exact List.le_trans h1 h2
theorem str_ext {a b : Str} (h : a.cps.toList = b.cps.toList) : a = b := by
  cases a; cases b
  congr
  exact Array.toList_inj.mp h
theorem leS_antisymm {a b : Str} (h1 : leS a b = true) (h2 : leS b a = true) : a = b := by
  rw [leS_iff] at *; exact str_ext (List.le_antisymm h1 h2)
theorem insS_perm (x : Str) : ∀ l, (insS x l).Perm (x :: l)
  | [] => List.Perm.refl _
  | y :: l => by
    unfold insS
    split
    · exact List.Perm.refl _
    · exact ((insS_perm x l).cons y).trans (List.Perm.swap x y l)
theorem isortS_perm : ∀ l, (isortS l).Perm l
  | [] => List.Perm.refl _
  | x :: l => (insS_perm x _).trans ((isortS_perm l).cons x)
theorem insS_sorted (x : Str) : ∀ l : List Str, l.Pairwise (fun a b => leS a b = true) → (insS x l).Pairwise (fun a b => leS a b = true)
  | [], _ => by simp [insS]
  | y :: l, h => by
    rw [List.pairwise_cons] at h
    unfold insS
    split
    · rename_i hxy
      rw [List.pairwise_cons, List.pairwise_cons]
      refine ⟨fun z hz => ?_, h⟩
      rcases List.mem_cons.mp hz with rfl | hz
      · exact hxy
      · exact leS_trans hxy (h.1 z hz)
    · rename_i hxy
      rw [List.pairwise_cons]
      refine ⟨fun z hz => ?_, insS_sorted x l h.2⟩
      rcases List.mem_cons.mp ((insS_perm x l).mem_iff.mp hz) with rfl | hz
      · exact (leS_total z y).resolve_left hxy
      · exact h.1 z hz
theorem isortS_sorted : ∀ l, (isortS l).Pairwise (fun a b => leS a b = true)
  | [] => by simp [isortS]
  | x :: l => insS_sorted x _ (isortS_sorted l)
theorem sortedS_unique {l l' : List Str} (hp : l'.Perm l) (hs : l'.Pairwise (fun a b => leS a b = true)) : l' = isortS l :=
  List.Perm.eq_of_pairwise (fun a b _ _ h1 h2 => leS_antisymm h1 h2) hs (isortS_sorted l) (hp.trans (isortS_perm l).symm)
def strsL (l : List Str) : List AV := l.map .str
theorem risingS_pairwise : ∀ (p : Str) (l : List Str), risingS p l = true → (p :: l).Pairwise (fun a b => leS a b = true)
  | p, [], _ => by simp
  | p, x :: r, h => by
    have h : (!Spec.ltCps x.cps.toList p.cps.toList && risingS x r) = true := h
    rw [Bool.and_eq_true] at h
    have ih := risingS_pairwise x r h.2
    rw [List.pairwise_cons]
    refine ⟨fun z hz => ?_, ih⟩
    rcases List.mem_cons.mp hz with rfl | hz
    · exact h.1
    · exact leS_trans h.1 ((List.pairwise_cons.mp ih).1 z hz)
theorem sortedS_pairwise {l : List Str} (h : sortedS l = true) : l.Pairwise (fun a b => leS a b = true) := by
  cases l with
  | nil => simp
  | cons x r => exact risingS_pairwise x r h
def asStr : AV → Option Str
  | .str x => some x
  | _ => none
def toStrs : List AV → Option (List Str)
  | [] => some []
  | a :: l => match asStr a, toStrs l with
    | some i, some r => some (i :: r)
    | _, _ => none
theorem asStr_some {a : AV} {i : Str} (h : asStr a = some i) : a = .str i := by
  unfold asStr at h
  split at h <;> cases h
  rfl
section
variable {W : Wd} {X : Sc} {n : Nat}
theorem strs_of {G : Gh} {l : List AV} : ∀ {vs : List Value} {ns : List Str}, Reps W G l vs → toStrs l = some ns → StrsAre vs ns ∧ l = strsL ns := by
  induction l with
  | nil => intro vs ns h e; cases e; cases h; exact ⟨.nil, rfl⟩
  | cons a l ih =>
    intro vs ns h e
    obtain ⟨v, r, q, h1, h2⟩ := h
    subst q
    unfold toStrs at e
    split at e
    · rename_i i ms e1 e2
      cases e
      have := asStr_some e1
      subst this
      obtain ⟨t, h1⟩ := h1
      subst h1
      obtain ⟨g1, g2⟩ := ih h2 e2
      exact ⟨.cons _ _ g1, by rw [g2]; rfl⟩
    · cases e
theorem reps_strs {G : Gh} : ∀ {vs : List Value} {ns : List Str}, StrsAre vs ns → Reps W G (strsL ns) vs
  | _, _, .nil => rfl
  | _, _, .cons n t h => ⟨_, _, rfl, ⟨t, rfl⟩, reps_strs h⟩
theorem StrsAre.len : ∀ {vs : List Value} {ns : List Str}, StrsAre vs ns → vs.length = ns.length
  | _, _, .nil => rfl
  | _, _, .cons n t h => by simp [StrsAre.len h]
theorem list_sort_small {prog : Program} {w : World} {A : Around} {E : Value → Shared → Prop} {s : Shared} {a : Addr} {vs : List Value} {n : Nat} {P : PySem.Fin → Shared → Prop} (ho : s.heap.get? a = some (seqObj "list" vs.toArray n)) (h2 : vs.length < 2)
    (h : P (.done (.ret .none)) { s with heap := sortedHeap s.heap a vs vs.toArray }) : wpAny (model prog w) A (Builtin.«list.sort» ⟨[.ref a], []⟩) P E s := by
  rw [list_sort_plain]
  have ha : a < s.heap.objs.size := Heap.lt_size ho
  have hb : vs.length ≤ sizeLine := by rw [sizeLine_eq]; omega
  refine wpAny_bind (listItems_at ho rfl ?_)
  refine wpAny_bind (listUpdate_at ho rfl ?_ (by rw [List.size_toArray]; exact hb) (Nat.zero_le _))
  obtain ⟨e1, ho1⟩ : ∃ e1, (s.heap.update a (Obj.mapSeq fun _ => #[])).get? a = some (seqObj "list" #[] e1) := ⟨_, get?_update_seq ho (fun _ => #[])⟩
  refine wpAny_bind (seqEpoch_at ho1 rfl ?_)
  refine wpAny_bind (wpAny_newTuple ?_ (by show vs.length ≤ _; exact hb))
  refine wpAny_bind (wpAny_newList ?_ (Nat.zero_le _))
  refine wpAny_holding ?_
  have ho6 : (((s.heap.update a (Obj.mapSeq fun _ => #[])).push (seqObj "tuple" vs.toArray 0)).push (seqObj "list" #[] 0)).get? a = some (seqObj "list" #[] e1) :=
    Heap.get?_push_of_some _ (Heap.get?_push_of_some _ ho1)
  show wpAny (model prog w) A _ P E { s with heap := ((s.heap.update a (Obj.mapSeq fun _ => #[])).push (seqObj "tuple" vs.toArray 0)).push (seqObj "list" #[] 0) }
  dsimp only
  have h2' : vs.toArray.size < 2 := by simpa using h2
  rw [if_pos h2', if_pos h2']
  refine wpAny_bind (wpAny_pure ?_)
  rw [StateT.run_pure]
  refine wpAny_bind (wpAny_pure ?_)
  dsimp only
  have e0 : (arrOf (SortSt.mk' general' (vs.toArray.zip vs.toArray) #[] 7 none)).map (·.2) = vs.toArray := by
    show (vs.toArray.zip vs.toArray).map (·.2) = vs.toArray
    match vs, h2 with
    | [], _ => simp
    | [x], _ => simp
  rw [e0]
  refine wpAny_bind (seqEpoch_at ho6 rfl ?_)
  refine wpAny_bind (listUpdate_at ho6 rfl ?_ (Nat.zero_le _) (by rw [List.size_toArray]; exact Nat.le_succ_of_le hb))
  simp only [bne_self_eq_false, Bool.false_eq_true, if_false]
  exact wpAny_pure h
theorem sort_coreH {A : Around} {G : Gh} {σ : St} {s : Shared} {h' : Heap} {tk : Nat} {vs : List Value} {l : List AV} {out : Array Value} (r : R W G σ s) (hk : ∀ b o, s.heap.get? b = some o → h'.get? b = some o) (ho : Reps W G l out.toList) :
    Post W (Rep W) G σ (.lst l) (.ref h'.objs.size) { s with heap := sortedHeap (h'.push (seqObj "list" vs.toArray 0)) h'.objs.size vs out, toks := tk } := by
  obtain ⟨e, he⟩ := sortedHeap_at (h := h'.push (seqObj "list" vs.toArray 0)) (a := h'.objs.size) (vs := vs) (n := 0) (out := out) (Heap.get?_push_size _ rfl)
  obtain ⟨r', l'⟩ := r.found (D := h'.objs.size) (h' := sortedHeap (h'.push (seqObj "list" vs.toArray 0)) h'.objs.size vs out) (tk := tk) (fun b o eb => by
    have hb := hk b o eb
    rw [sortedHeap_old (Nat.ne_of_lt (Heap.lt_size hb)) (by rw [size_push']; exact Nat.lt_succ_of_lt (Heap.lt_size hb))]
    exact Heap.get?_push_of_some _ hb) (r.freshIn hk) he
  exact ⟨_, l', r', _, out, e, rfl, Gh.z_iff.mpr Gh.set_self, ho.le l'⟩
theorem sort_coreS {A : Around} {G : Gh} {σ : St} {s : Shared} {h' : Heap} {tk : Nat} {vs : List Value} {ns : List Str} (r : R W G σ s) (hk : ∀ b o, s.heap.get? b = some o → h'.get? b = some o) (hI : StrsAre vs ns) (h64 : vs.length < 64) :
    wpAny W.M A (newList vs) (fun L s1 => wpAny W.M A (call (.builtin "list.sort") [L]) (fun _ s2 => Post W (Rep W) G σ (.lst (strsL (isortS ns))) L s2) (fun _ _ => False) s1) (fun _ _ => False) { s with heap := h', toks := tk } := by
  refine wpAny_newList ?_ (by rw [sizeLine_eq]; omega)
  refine wpAny_call_entry PyProof.Rows.slot_list_sort ⟨_, Heap.get?_push_size _ rfl, rfl⟩ PyProof.Rows.entry_list_sort
    (list_sort_treeK strKind_oneLt (n := 0) (Heap.get?_push_size _ rfl) hI.keysOf (fun v₁ v₂ rest e => keyKind_strs (by rw [← e]; exact hI)) h64 fun st' hp hs => ⟨_, rfl, ?_⟩) (PyProof.Rows.args_list_sort _)
  obtain ⟨ss', h1, h2, h3⟩ := sorted_out_str hI hp hs
  rw [← sortedS_unique h2 (sortedS_pairwise h3)]
  have := sort_coreH (A := A) (vs := vs) (tk := tk) r hk (reps_strs (W := W) (G := G) h1)
  exact this
theorem sort_core1 {A : Around} {G : Gh} {σ : St} {s : Shared} {h' : Heap} {tk : Nat} {vs : List Value} {l : List AV} (r : R W G σ s) (hk : ∀ b o, s.heap.get? b = some o → h'.get? b = some o) (hI : Reps W G l vs) (h2 : vs.length < 2) :
    wpAny W.M A (newList vs) (fun L s1 => wpAny W.M A (call (.builtin "list.sort") [L]) (fun _ s2 => Post W (Rep W) G σ (.lst l) L s2) (fun _ _ => False) s1) (fun _ _ => False) { s with heap := h', toks := tk } := by
  refine wpAny_newList ?_ (by rw [sizeLine_eq]; omega)
  refine wpAny_call_entry PyProof.Rows.slot_list_sort ⟨_, Heap.get?_push_size _ rfl, rfl⟩ PyProof.Rows.entry_list_sort
    (list_sort_small (n := 0) (Heap.get?_push_size _ rfl) h2 ⟨_, rfl, ?_⟩) (PyProof.Rows.args_list_sort _)
  have := sort_coreH (A := A) (vs := vs) (tk := tk) (out := vs.toArray) r hk (by simpa using hI)
  exact this
theorem keys_strs {G : Gh} {l : List (Str × AV)} {kvs : List (Str × Value)} (h : RepKV (G.vw W) l kvs) : kvs.map (·.1) = l.map (·.1) := by
  induction l generalizing kvs with
  | nil => cases h; rfl
  | cons p l ih =>
    obtain ⟨k, a⟩ := p
    obtain ⟨v, r, q, h1, h2⟩ := h
    subst q
    simp [ih h2]
theorem strsAre_of {ns : List Str} : ∀ {vs : List Value}, vs.length = ns.length → (∀ (i : Nat) v, vs[i]? = some v → ∃ k, ns[i]? = some k ∧ Value.isStrOf k v = true) → StrsAre vs ns := by
  induction ns with
  | nil => intro vs hl _; cases vs with
    | nil => exact .nil
    | cons => simp at hl
  | cons k ns ih =>
    intro vs hl h
    cases vs with
    | nil => simp at hl
    | cons v vs =>
      obtain ⟨k', e, hk⟩ := h 0 v rfl
      simp at e
      subst e
      obtain ⟨t, rfl⟩ := Value.isStrOf_shape hk
      exact .cons _ _ (ih (by simpa using hl) fun i v e => by simpa using h (i + 1) v (by simpa using e))
/-- `sorted` of the keys of a dict of names, and of a list of names -/
def sortedSF : List AV → List AV → M AV
  | [a], [] => fun σ => match a with
    | .view 0 (.ref m) => (match σ.st m with
      | some (.dictS l) => if l.length < 64 then some (.lst (strsL (isortS (l.map (·.1)))), σ) else none
      | _ => none)
    | _ => (match viewL σ a with
      | some l => (match toStrs l with
        | some ns => if ns.length < 64 then some (.lst (strsL (isortS ns)), σ) else none
        | none => none)
      | none => none)
  | _, _ => M.fail
/-- `sorted` of one item or none -/
def sorted1F : List AV → List AV → M AV
  | [a], [] => fun σ => match viewL σ a with
      | some l => if l.length < 2 then some (.lst l, σ) else none
      | none => none
  | _, _ => M.fail
theorem SimV.sorted1 : SimV W n (.builtin "sorted") [] sorted1F := by
  intro A σ σ' G s args kws ms ks' v hA r hne p2 p3 hf
  refine ⟨.bi, ?_⟩
  unfold sorted1F at hf
  split at hf
  · obtain ⟨x, e, p⟩ := Reps.one p2
    rw [zipNil p3]
    subst e
    refine call_function_entry PyProof.Rows.kind_sorted PyProof.Rows.plain_sorted PyProof.Rows.entry_sorted (PyProof.Rows.args_sorted1 _) ?_
    unfold Builtin.«sorted»
    refine wpAny_bind (m := checkCount "sorted" 1 1 _) (wpAny_pure ?_)
    split at hf
    · rename_i l hv
      split at hf
      · rename_i hl
        cases hf
        obtain ⟨y, vs, k, e, hg, hr⟩ := r.view p hv
        subst e
        have h64 := hr.length
        have hL : s.heap.IsList y vs.toList.toArray := isList_of (by simpa using hg)
        refine wpAny_bind (collect_list hL ?_ (by rw [sizeLine_eq]; omega))
        have hk : ∀ b o, s.heap.get? b = some o → ((s.heap.push (seqObj "list" #[] 0)).update s.heap.objs.size (Obj.mapSeq (· ++ vs.toList.toArray))).get? b = some o := fun b o e => by
          rw [Heap.get?_update_ne _ _ _ _ (Nat.ne_of_lt (Heap.lt_size e))]
          exact Heap.get?_push_of_some _ e
        refine wpAny_bind (wpAny_mono (sort_core1 (tk := s.toks) r hk hr (by omega)) (fun L s1 h1 => wpAny_bind (wpAny_holding (wpAny_mono h1 (fun _ s2 q => wpAny_pure ⟨_, rfl, q⟩) fun _ _ e => e))) fun _ _ e => e)
      · cases hf
    · cases hf
  · cases hf
theorem SimV.sortedS (ok : W.Ok) : SimV W n (.builtin "sorted") [] sortedSF := by
  intro A σ σ' G s args kws ms ks' v hA r hne p2 p3 hf
  refine ⟨.bi, ?_⟩
  unfold sortedSF at hf
  split at hf
  · obtain ⟨x, e, p⟩ := Reps.one p2
    rw [zipNil p3]
    subst e
    refine call_function_entry PyProof.Rows.kind_sorted PyProof.Rows.plain_sorted PyProof.Rows.entry_sorted (PyProof.Rows.args_sorted1 _) ?_
    unfold Builtin.«sorted»
    refine wpAny_bind (m := checkCount "sorted" 1 1 _) (wpAny_pure ?_)
    split at hf
    · rename_i m
      split at hf
      · rename_i l hs
        split at hf
        · rename_i hl
          cases hf
          obtain ⟨y, dv, e, hz, q⟩ := p
          subst e
          obtain ⟨d, kvs, ob, e, hm, hk, hD, hr, hsy⟩ := r.dict (dkS W) ok hs q
          subst e
          obtain ⟨ep, hat⟩ := hD.dictAt
          have hlen := hr.length
          refine wpAny_bind (kdu_collect (A := A.in1) (kdl_keys (knd := strKind W.prog W.w) (kvs := kvs) (ep := ep) (r := y) (d := d)) hA.hd ⟨⟨_, r.z hz, rfl, rfl⟩, hat⟩ (by rw [sizeLine_eq]; omega) fun h' tk acc hk hacc => ?_)
          have hI : StrsAre acc.toList (l.map (·.1)) := by
            rw [← keys_strs hr]
            refine strsAre_of (by rw [Array.length_toList, List.length_map]; exact hacc.1) fun i v e => ?_
            obtain ⟨k, x, e1, e2⟩ := hacc.2 i v (by rw [← Array.getElem?_toList]; exact e)
            exact ⟨k, by rw [List.getElem?_map, e1]; rfl, e2⟩
          have h64 := StrsAre.len hI
          rw [List.length_map] at h64
          refine wpAny_bind (wpAny_mono (sort_coreS r hk hI (by omega)) (fun L s1 h1 => wpAny_bind (wpAny_holding (wpAny_mono h1 (fun _ s2 q => wpAny_pure ⟨_, rfl, q⟩) fun _ _ e => e))) fun _ _ e => e)
        · cases hf
      · cases hf
    · split at hf
      · rename_i l hv
        split at hf
        · rename_i ns hns
          split at hf
          · rename_i hl
            cases hf
            obtain ⟨y, vs, k, e, hg, hr⟩ := r.view p hv
            subst e
            obtain ⟨hI, hE⟩ := strs_of hr hns
            have h64 := StrsAre.len hI
            have hL : s.heap.IsList y vs.toList.toArray := isList_of (by simpa using hg)
            refine wpAny_bind (collect_list hL ?_ (by rw [sizeLine_eq]; omega))
            have hk : ∀ b o, s.heap.get? b = some o → ((s.heap.push (seqObj "list" #[] 0)).update s.heap.objs.size (Obj.mapSeq (· ++ vs.toList.toArray))).get? b = some o := fun b o e => by
              rw [Heap.get?_update_ne _ _ _ _ (Nat.ne_of_lt (Heap.lt_size e))]
              exact Heap.get?_push_of_some _ e
            refine wpAny_bind (wpAny_mono (sort_coreS (tk := s.toks) r hk hI (by omega)) (fun L s1 h1 => wpAny_bind (wpAny_holding (wpAny_mono h1 (fun _ s2 q => wpAny_pure ⟨_, rfl, q⟩) fun _ _ e => e))) fun _ _ e => e)
          · cases hf
        · cases hf
      · cases hf
  · cases hf
/-- `sorted`, whatever of these it is given -/
def sortedAF (l k : List AV) : M AV := orA (sortedIF l k) (orA (sortedSF l k) (orA (sorted1F l k) (sortedTF l k)))
theorem SimV.sortedA (ok : W.Ok) : SimV W n (.builtin "sorted") [] sortedAF := by
  intro A σ σ' G s args kws ms ks' v hA r hne p2 p3 hf
  rcases orA_some hf with h | h
  · exact SimV.sortedI ok A σ σ' G s args kws ms ks' v hA r hne p2 p3 h
  rcases orA_some h with h | h
  · exact SimV.sortedS ok A σ σ' G s args kws ms ks' v hA r hne p2 p3 h
  rcases orA_some h with h | h
  · exact SimV.sorted1 A σ σ' G s args kws ms ks' v hA r hne p2 p3 h
  · exact SimV.sortedT A σ σ' G s args kws ms ks' v hA r hne p2 p3 h
end
end Mine
end

section
open PySem PySem.W PySem.Calls PyProof.Rows
set_option Elab.async false
set_option maxRecDepth 20000
set_option linter.unusedVariables false
set_option linter.unusedSectionVars false
namespace Mine
section
variable {W : Wd} {X : Sc} {n : Nat}
/-- `{}` that stays empty -/
theorem SimE.dictz0 {pos : Pos} : SimE W X n (.Dict [] [] pos) (M.pure (.dct [])) := by
  intro env A σ b σ' G s P hA r hf
  cases hf
  obtain ⟨r', l'⟩ := r.alloc .z (o := emptyDict) rfl (tk := s.toks)
  exact wpAny_Dict_empty ⟨_, l', r', s.heap.objs.size, emptyDict, [], rfl, by simpa using r.big, Gh.z_iff.mpr Gh.set_self, ⟨#[], 0, ⟨rfl, rfl, rfl⟩, rfl, fun _ he => by simp at he, Pairs.nil, List.nodup_nil⟩, rfl⟩
end
end Mine
end

section
open PySem PySem.W PySem.Calls PyProof.Rows
set_option Elab.async false
set_option maxRecDepth 20000
set_option linter.unusedVariables false
set_option linter.unusedSectionVars false
namespace Mine
/-! comprehensions with the number of their names written out -/
section
variable {W : Wd} {X Xi : Sc} {n : Nat}
theorem SimE.compN (k : Nat) (hk : Xi.names.length = k) {target iter elt : Expr} {ifs : List Expr} {scope : Scope} {pos : Pos} {fi : M (List AV × (St → Prop))} {tgt : AV → M Unit} {ft : M Bool} {fe : M AV} (Sx : SubSc X scope Xi) (hI : SimIt W X n iter target fi) (hT : SimT W Xi n target tgt) (hC : SimC W Xi n ifs ft) (hE : SimE W Xi n elt fe)
    (hs : ∀ env x, foldedSetIterable iter env x = pure x) :
    SimE W X n (.ListComp elt [⟨target, iter, ifs, 0⟩] scope pos) (M.bind (compM k fi tgt ft fe) fun l => M.pure (.lst l)) := hk ▸ SimE.comp Sx hI hT hC hE hs
theorem SimE.compLiveN (k : Nat) (hk : Xi.names.length = k) (site : Nat) {target iter elt : Expr} {ifs : List Expr} {scope : Scope} {pos : Pos} {fi : M (List AV × (St → Prop))} {tgt : AV → M Unit} {ft : M Bool} {fe : M AV} (Sx : SubSc X scope Xi) (hI : SimIt W X n iter target fi) (hT : SimT W Xi n target tgt) (hC : SimC W Xi n ifs ft) (hE : SimE W Xi n elt fe)
    (hs : ∀ env x, foldedSetIterable iter env x = pure x) :
    SimE W X n (.ListComp elt [⟨target, iter, ifs, 0⟩] scope pos) (M.bind (compM k fi tgt ft fe) fun l => M.bind (allocA site (.list l)) fun h => M.pure (.ref h)) := hk ▸ SimE.compLive site Sx hI hT hC hE hs
theorem SimS.compUseN (k : Nat) (hk : Xi.names.length = k) {target iter elt : Expr} {ifs : List Expr} {scope : Scope} {pos ypos spos : Pos} {y : Str} {i : Nat} {fi : M (List AV × (St → Prop))} {tgt : AV → M Unit} {ft : M Bool} {fe : M AV} (Sx : SubSc X scope Xi) (hI : SimIt W X n iter target fi) (hT : SimT W Xi n target tgt) (hC : SimC W Xi n ifs ft) (hE : SimE W Xi n elt fe)
    (hs : ∀ env x, foldedSetIterable iter env x = pure x) (hi : X.names[i]? = some (y, .local)) (hl : X.scope.names.lookup y = some .local)
    (hsw : ∀ env : Env, env.scope = X.scope → swapsWith (.ListComp elt [⟨target, iter, ifs, 0⟩] scope pos) (some (.Name y ypos)) spos.line env = pure true) :
    SimS W X n (.Assign [.Name y ypos] (.ListComp elt [⟨target, iter, ifs, 0⟩] scope pos) spos) (M.bind (M.bind (compM k fi tgt ft fe) fun l => M.pure (.lst l)) fun v => M.bind (stv i v) fun _ => M.pure .next) :=
  hk ▸ SimS.compUse Sx hI hT hC hE hs hi hl hsw
end
end Mine
end

section
open PySem PySem.W PySem.Calls PyProof.Rows
set_option Elab.async false
set_option maxRecDepth 20000
set_option linter.unusedVariables false
set_option linter.unusedSectionVars false
namespace Mine
/-! `sorted` sorts -/
theorem runK_bind {α β : Type} {cmp : Nat → Nat → Option Bool} {f : α → KasT β} : ∀ t : KasT α, runK cmp (t.bind f) = (runK cmp t).bind fun a => runK cmp (f a)
  | .ret a => rfl
  | .ask i j k => by
    show (match cmp i j with
      | some true => runK cmp ((k true).bind f)
      | some false => runK cmp ((k false).bind f)
      | none => none) = (match cmp i j with
      | some true => runK cmp (k true)
      | some false => runK cmp (k false)
      | none => none).bind _
    cases cmp i j with
    | none => rfl
    | some b => cases b <;> exact runK_bind _
section
variable {n : Nat} {cmp : Nat → Nat → Option Bool} {le : Nat → Nat → Prop}
structure CmpOK (n : Nat) (cmp : Nat → Nat → Option Bool) (le : Nat → Nat → Prop) : Prop where
  ask : ∀ i j, i < n → j < n → ∃ b, cmp i j = some b ∧ (b = true → le i j) ∧ (b = false → le j i)
  refl : ∀ i, le i i
  trans : ∀ i j k, le i j → le j k → le i k
theorem runK_ask {α : Type} (H : CmpOK n cmp le) {i j : Nat} (hi : i < n) (hj : j < n) {k : Bool → KasT α} {P : α → Prop} (h1 : le i j → ∃ a, runK cmp (k true) = some a ∧ P a) (h2 : le j i → ∃ a, runK cmp (k false) = some a ∧ P a) : ∃ a, runK cmp (.ask i j k) = some a ∧ P a := by
  obtain ⟨b, e, q1, q2⟩ := H.ask i j hi hj
  show ∃ a, (match cmp i j with
      | some true => runK cmp (k true)
      | some false => runK cmp (k false)
      | none => none) = some a ∧ P a
  rw [e]
  cases b with
  | true => exact h1 (q1 rfl)
  | false => exact h2 (q2 rfl)
def at_ (p : Array Nat) (k : Nat) : Nat := p.getD k 0
structure Good (n : Nat) (p : Array Nat) : Prop where
  perm : p.toList.Perm (List.range n)
theorem Good.size {p : Array Nat} (h : Good n p) : p.size = n := by
  have := h.perm.length_eq
  rw [List.length_range, Array.length_toList] at this; exact this
theorem Good.lt {p : Array Nat} (h : Good n p) {k : Nat} (hk : k < n) : at_ p k < n := by
  have hs := h.size
  have : at_ p k ∈ p.toList := by
    unfold at_
    rw [Array.getD_eq_getD_getElem?, Array.getElem?_eq_getElem (by omega)]
    simp
  rw [h.perm.mem_iff, List.mem_range] at this
  exact this
def Asc (le : Nat → Nat → Prop) (p : Array Nat) (m : Nat) : Prop := ∀ i j, i < j → j < m → le (at_ p i) (at_ p j)
def Desc (le : Nat → Nat → Prop) (p : Array Nat) (m : Nat) : Prop := ∀ i j, i < j → j < m → le (at_ p j) (at_ p i)
theorem Asc.le' (H : CmpOK n cmp le) {p : Array Nat} {m : Nat} (h : Asc le p m) {i j : Nat} (hij : i ≤ j) (hj : j < m) : le (at_ p i) (at_ p j) := by
  rcases Nat.eq_or_lt_of_le hij with e | e
  · subst e; exact H.refl _
  · exact h i j e hj
theorem Asc.succ (H : CmpOK n cmp le) {p : Array Nat} {m : Nat} (h : Asc le p m) (hm : 1 ≤ m) (hl : le (at_ p (m - 1)) (at_ p m)) : Asc le p (m + 1) := by
  intro i j hij hj
  rcases Nat.lt_or_ge j m with h1 | h1
  · exact h i j hij h1
  · have : j = m := by omega
    subst this
    exact H.trans _ _ _ (h.le' H (show i ≤ j - 1 by omega) (by omega)) hl
theorem asc_spec (H : CmpOK n cmp le) {p : Array Nat} (G : Good n p) : ∀ f m, 1 ≤ m → m + f ≤ n → Asc le p m → ∃ m', runK cmp (kas_asc p f m) = some m' ∧ (m ≤ m' ∧ m' ≤ m + f ∧ Asc le p m' ∧ (m' = m + f ∨ (m' < m + f ∧ le (at_ p m') (at_ p (m' - 1)))))
  | 0, m, h1, h2, h3 => ⟨m, rfl, Nat.le_refl _, Nat.le_refl _, h3, .inl rfl⟩
  | f + 1, m, h1, h2, h3 => by
    unfold kas_asc
    refine runK_ask H (G.lt (by omega)) (G.lt (by omega)) (fun hl => ⟨m, rfl, Nat.le_refl _, by omega, h3, .inr ⟨by omega, hl⟩⟩) fun hl => ?_
    obtain ⟨m', e, a, b, c, d⟩ := asc_spec H G f (m + 1) (by omega) (by omega) (h3.succ H h1 hl)
    refine ⟨m', e, by omega, by omega, c, ?_⟩
    rcases d with d | d
    · exact .inl (by omega)
    · exact .inr ⟨by omega, d.2⟩
theorem rev_at {p : Array Nat} {i j k : Nat} (hj : j ≤ p.size) : at_ (kas_rev p i j) k = if i ≤ k ∧ k < j then at_ p (i + j - 1 - k) else at_ p k := by
  unfold at_ kas_rev
  rw [Array.getD_eq_getD_getElem?, getElem?_mirror_all hj]
  split <;> rw [Array.getD_eq_getD_getElem?]
theorem rev_good {p : Array Nat} {i j : Nat} (G : Good n p) : Good n (kas_rev p i j) := ⟨(Array.perm_iff_toList_perm.mp (mirror_perm p i j ((j - i) / 2))).trans G.perm⟩
/-- the last q + 1 before m are alike -/
def Alike (le : Nat → Nat → Prop) (p : Array Nat) (m q : Nat) : Prop := ∀ i j, m ≤ i + q + 1 → i < m → m ≤ j + q + 1 → j < m → le (at_ p i) (at_ p j)
theorem desc_rev (H : CmpOK n cmp le) {p : Array Nat} {m q : Nat} (G : Good n p) (hm : m ≤ n) (hq : q + 1 ≤ m) (hd : Desc le p m) (ha : Alike le p m q) : Desc le (kas_rev p (m - (q + 1)) m) m := by
  have hsz : m ≤ p.size := by rw [G.size]; exact hm
  have D : ∀ i j, i ≤ j → j < m → le (at_ p j) (at_ p i) := by
    intro i j hij hj
    rcases Nat.eq_or_lt_of_le hij with e | e
    · subst e; exact H.refl _
    · exact hd i j e hj
  intro i j hij hj
  rw [rev_at hsz, rev_at hsz]
  by_cases hi : m - (q + 1) ≤ i
  · rw [if_pos (c := m - (q + 1) ≤ j ∧ j < m) ⟨by omega, hj⟩, if_pos (c := m - (q + 1) ≤ i ∧ i < m) ⟨hi, by omega⟩]
    exact ha _ _ (by omega) (by omega) (by omega) (by omega)
  · rw [if_neg (c := m - (q + 1) ≤ i ∧ i < m) (by omega)]
    split
    · exact D _ _ (by omega) (by omega)
    · exact D _ _ (by omega) hj
theorem desc_spec (H : CmpOK n cmp le) : ∀ f p m q, Good n p → 1 ≤ m → m + f ≤ n → q + 1 ≤ m → Desc le p m → Alike le p m q → ∃ r, runK cmp (kas_desc f p m q) = some r ∧ (Good n r.1 ∧ m ≤ r.2.1 ∧ r.2.1 ≤ m + f ∧ r.2.2 + 1 ≤ r.2.1 ∧ Desc le r.1 r.2.1 ∧ Alike le r.1 r.2.1 r.2.2)
  | 0, p, m, q, G, h1, h2, h3, h4, h5 => ⟨(p, m, q), rfl, G, Nat.le_refl _, Nat.le_refl _, h3, h4, h5⟩
  | f + 1, p, m, q, G, h1, h2, h3, h4, h5 => by
    unfold kas_desc
    have hsz : m ≤ p.size := by rw [G.size]; omega
    have succ : ∀ p' : Array Nat, Desc le p' m → le (at_ p' m) (at_ p' (m - 1)) → Desc le p' (m + 1) := by
      intro p' hd hl i j hij hj
      rcases Nat.lt_or_ge j m with h | h
      · exact hd i j hij h
      · have : j = m := by omega
        subst this
        rcases Nat.eq_or_lt_of_le (show i ≤ j - 1 by omega) with e | e
        · subst e; exact hl
        · exact H.trans _ _ _ hl (hd i (j - 1) e (by omega))
    have one : ∀ p' : Array Nat, Alike le p' (m + 1) 0 := by
      intro p' i j a b c d
      have : i = j := by omega
      subst this; exact H.refl _
    refine runK_ask H (G.lt (by omega)) (G.lt (by omega)) (fun hl => ?_) fun hl => ?_
    · rw [if_pos rfl]
      by_cases hq : q > 0
      · rw [if_pos hq]
        have hd := desc_rev H G (by omega) h3 h4 h5
        have := desc_spec H f (kas_rev p (m - (q + 1)) m) (m + 1) 0 (rev_good G) (by omega) (by omega) (by omega) (succ _ hd (by
          rw [rev_at hsz, rev_at hsz, if_neg (by omega)]
          rw [if_pos (by omega)]
          exact H.trans _ _ _ hl (h5 _ _ (by omega) (by omega) (by omega) (by omega)))) (one _)
        obtain ⟨r, e, a, b, c, d⟩ := this
        exact ⟨r, e, a, by omega, by omega, d⟩
      · rw [if_neg hq]
        obtain ⟨r, e, a, b, c, d⟩ := desc_spec H f p (m + 1) 0 G (by omega) (by omega) (by omega) (succ _ h4 hl) (one _)
        exact ⟨r, e, a, by omega, by omega, d⟩
    · rw [if_neg (by simp)]
      refine runK_ask H (G.lt (by omega)) (G.lt (by omega)) (fun _ => ?_) fun hl2 => ?_
      · exact ⟨_, rfl, G, Nat.le_refl _, by show m ≤ m + (f + 1); omega, h3, h4, h5⟩
      · rw [if_neg (by simp)]
        have ha : Alike le p (m + 1) (q + 1) := by
          intro i j a b c d
          have e1 : ∀ k, m ≤ k + q + 1 → k < m → le (at_ p k) (at_ p (m - 1)) ∧ le (at_ p (m - 1)) (at_ p k) := fun k a b => ⟨h5 _ _ a b (by omega) (by omega), h5 _ _ (by omega) (by omega) a b⟩
          rcases Nat.lt_or_ge i m with hi | hi <;> rcases Nat.lt_or_ge j m with hj | hj
          · exact h5 i j (by omega) hi (by omega) hj
          · have : j = m := by omega
            subst this
            exact H.trans _ _ _ (e1 i (by omega) hi).1 hl
          · have : i = m := by omega
            subst this
            exact H.trans _ _ _ hl2 (e1 j (by omega) hj).2
          · have : i = j := by omega
            subst this; exact H.refl _
        obtain ⟨r, e, a, b, c, d⟩ := desc_spec H f p (m + 1) (q + 1) G (by omega) (by omega) (by omega) (succ _ h4 hl2) ha
        exact ⟨r, e, a, by omega, by omega, d⟩
theorem rev_asc {p : Array Nat} {m : Nat} (hm : m ≤ p.size) (hd : Desc le p m) : Asc le (kas_rev p 0 m) m := by
  intro i j hij hj
  rw [rev_at hm, rev_at hm, if_pos (by omega), if_pos (by omega)]
  exact hd _ _ (by omega) (by omega)
theorem tail3_spec (H : CmpOK n cmp le) {p : Array Nat} {m : Nat} (G : Good n p) (h1 : 1 ≤ m) (h2 : m ≤ n) (hd : Desc le p m) : ∃ r, runK cmp (kas_tail3 m n p) = some r ∧ (Good n r.2 ∧ 1 ≤ r.1 ∧ r.1 ≤ n ∧ Asc le r.2 r.1) := by
  have hsz : m ≤ p.size := by rw [G.size]; exact h2
  obtain ⟨m', e, a, b, c, _⟩ := asc_spec H (rev_good (i := 0) (j := m) G) (n - m) m h1 (by omega) (rev_asc hsz hd)
  refine ⟨(m', kas_rev p 0 m), ?_, rev_good G, by omega, by omega, c⟩
  unfold kas_tail3
  rw [runK_bind, e]; rfl
theorem descPart_spec (H : CmpOK n cmp le) {p : Array Nat} {m : Nat} (G : Good n p) (h1 : 1 ≤ m) (h2 : m + 1 ≤ n) (hd : Desc le p (m + 1)) : ∃ r, runK cmp (kas_descPart m n p) = some r ∧ (Good n r.2 ∧ 1 ≤ r.1 ∧ r.1 ≤ n ∧ Asc le r.2 r.1) := by
  obtain ⟨r, e, a, b, c, d, f, g⟩ := desc_spec H (n - (m + 1)) p (m + 1) 0 G (by omega) (by omega) (by omega) hd (fun i j q1 q2 q3 q4 => by
    have : i = j := by omega
    subst this; exact H.refl _)
  unfold kas_descPart
  rw [runK_bind, e]
  show ∃ r', runK cmp (if r.2.2 > 0 then kas_tail3 r.2.1 n (kas_rev r.1 (r.2.1 - (r.2.2 + 1)) r.2.1) else kas_tail3 r.2.1 n r.1) = some r' ∧ _
  split
  · exact tail3_spec H (rev_good a) (by omega) (by omega) (desc_rev H a (by omega) d f g)
  · exact tail3_spec H a (by omega) (by omega) f
theorem count_spec (H : CmpOK n cmp le) {p : Array Nat} (G : Good n p) (hn : 1 ≤ n) : ∃ r, runK cmp (kas_count n p) = some r ∧ (Good n r.2 ∧ 1 ≤ r.1 ∧ r.1 ≤ n ∧ Asc le r.2 r.1) := by
  obtain ⟨m, e, a, b, c, d⟩ := asc_spec H G (n - 1) 1 (Nat.le_refl _) (by omega) (fun i j hij hj => by omega)
  unfold kas_count
  rw [runK_bind, e]
  show ∃ r, runK cmp (if (m == n) = true then .ret (m, p) else if m > 1 then .ask (p.getD 0 0) (p.getD (m - 1) 0) fun c => if c = true then .ret (m, p) else kas_descPart m n (kas_rev p 0 m)
    else kas_descPart m n p) = some r ∧ _
  by_cases hm : m = n
  · rw [if_pos (by simpa using hm)]
    exact ⟨_, rfl, G, a, by show m ≤ n; omega, c⟩
  · rw [if_neg (by simpa using hm)]
    have hlt : m < n := by omega
    have hd1 : le (at_ p m) (at_ p (m - 1)) := by
      rcases d with d | d
      · omega
      · exact d.2
    by_cases h1 : m > 1
    · rw [if_pos h1]
      refine runK_ask H (G.lt (by omega)) (G.lt (by omega)) (fun _ => ⟨_, rfl, G, a, by show m ≤ n; omega, c⟩) fun hl => ?_
      rw [if_neg (by simp)]
      have hsz : m ≤ p.size := by rw [G.size]; omega
      refine descPart_spec H (rev_good G) a (by omega) ?_
      have al : ∀ i j, i < m → j < m → le (at_ p i) (at_ p j) := by
        intro i j hi hj
        exact H.trans _ _ _ (c.le' H (show i ≤ m - 1 by omega) (by omega)) (H.trans _ _ _ hl (c.le' H (Nat.zero_le _) hj))
      intro i j hij hj
      rw [rev_at hsz, rev_at hsz, if_pos (c := 0 ≤ i ∧ i < m) (by omega)]
      split
      · exact al _ _ (by omega) (by omega)
      · have : j = m := by omega
        subst this
        exact H.trans _ _ _ hd1 (al _ _ (by omega) (by omega))
    · rw [if_neg h1]
      have : m = 1 := by omega
      subst this
      refine descPart_spec H G (Nat.le_refl _) (by omega) ?_
      intro i j hij hj
      have e1 : i = 0 := by omega
      have e2 : j = 1 := by omega
      subst e1; subst e2
      exact hd1
theorem place_spec (H : CmpOK n cmp le) {p : Array Nat} (G : Good n p) {k : Nat} (hk : k < n) : ∀ f l r, l ≤ r → r ≤ k → r - l ≤ f → (∀ i, i < l → le (at_ p i) (at_ p k)) → (∀ i, r ≤ i → i < k → le (at_ p k) (at_ p i)) → Asc le p k →
    ∃ l', runK cmp (kas_place p k f l r) = some l' ∧ (l' ≤ k ∧ (∀ i, i < l' → le (at_ p i) (at_ p k)) ∧ ∀ i, l' ≤ i → i < k → le (at_ p k) (at_ p i))
  | 0, l, r, h1, h2, h3, h4, h5, _ => by
    have : l = r := by omega
    subst this
    exact ⟨l, rfl, h2, h4, h5⟩
  | f + 1, l, r, h1, h2, h3, h4, h5, h6 => by
    unfold kas_place
    by_cases hlr : l ≥ r
    · rw [if_pos hlr]
      have : l = r := by omega
      subst this
      exact ⟨l, rfl, h2, h4, h5⟩
    · rw [if_neg hlr]
      have hm : (l + r) / 2 < k := by omega
      refine runK_ask H (G.lt hk) (G.lt (by omega)) (fun hl => ?_) fun hl => ?_
      · rw [if_pos rfl]
        refine place_spec H G hk f l _ (by omega) (by omega) (by omega) h4 (fun i hi hik => ?_) h6
        exact H.trans _ _ _ hl (h6.le' H hi hik)
      · rw [if_neg (by simp)]
        refine place_spec H G hk f _ r (by omega) h2 (by omega) (fun i hi => ?_) h5 h6
        exact H.trans _ _ _ (h6.le' H (show i ≤ (l + r) / 2 by omega) hm) hl
theorem bin_spec (H : CmpOK n cmp le) : ∀ f p k, Good n p → f + k = n → Asc le p k → ∃ p', runK cmp (kas_bin f p k) = some p' ∧ (Good n p' ∧ Asc le p' n)
  | 0, p, k, G, h1, h2 => by
    have : k = n := by omega
    subst this
    exact ⟨p, rfl, G, h2⟩
  | f + 1, p, k, G, h1, h2 => by
    unfold kas_bin
    obtain ⟨l, e, a, b, c⟩ := place_spec H G (show k < n by omega) k 0 k (Nat.zero_le _) (Nat.le_refl _) (by omega) (fun i hi => by omega) (fun i h1 h2 => by omega) h2
    rw [runK_bind, e]
    show ∃ p', runK cmp (kas_bin f (bubble p k (k - l)) (k + 1)) = some p' ∧ _
    have hs : k < p.size := by rw [G.size]; omega
    have bat : ∀ i, at_ (bubble p k (k - l)) i = if i = l then at_ p k else if l < i ∧ i ≤ k then at_ p (i - 1) else at_ p i := by
      intro i
      have e1 : k - (k - l) = l := by omega
      have ag : ∀ (p : Array Nat) i, at_ p i = (p[i]?).getD 0 := fun p i => Array.getD_eq_getD_getElem? ..
      rw [ag, getElem?_bubble hs _ (by omega), e1]
      split
      · exact (ag _ _).symm
      · split
        · exact (ag _ _).symm
        · exact (ag _ _).symm
    refine bin_spec H f _ (k + 1) ⟨(Array.perm_iff_toList_perm.mp (bubble_perm p k (k - l))).trans G.perm⟩ (by omega) ?_
    intro i j hij hj
    rw [bat, bat]
    by_cases hi : i = l
    · subst hi
      rw [if_pos rfl, if_neg (by omega), if_pos (by omega)]
      exact c _ (by omega) (by omega)
    · rw [if_neg hi]
      by_cases hj2 : j = l
      · subst hj2
        rw [if_pos rfl, if_neg (by omega)]
        exact b _ (by omega)
      · rw [if_neg hj2]
        repeat' split
        all_goals first
          | (exfalso; omega)
          | exact h2.le' H (by omega) (by omega)
theorem sort_spec (H : CmpOK n cmp le) (hn : 1 ≤ n) : ∃ p, runK cmp (kas_sort n) = some p ∧ p.toList.Perm (List.range n) ∧ ∀ i j, i < j → j < n → le (at_ p i) (at_ p j) := by
  obtain ⟨r, e, a, b, c, d⟩ := count_spec H (p := List.toArray (List.range n)) ⟨by simp⟩ hn
  unfold kas_sort
  rw [runK_bind, e]
  show ∃ p, runK cmp (if r.1 < n then kas_bin (n - max r.1 1) r.2 (max r.1 1) else .ret r.2) = some p ∧ _
  have hm : max r.1 1 = r.1 := by omega
  rw [hm]
  split
  · obtain ⟨p, e2, G, h⟩ := bin_spec H (n - r.1) r.2 r.1 a (by omega) d
    exact ⟨p, e2, G.perm, h⟩
  · have : r.1 = n := by omega
    exact ⟨_, rfl, a.perm, by rw [this] at d; exact d⟩
end
end Mine
end

section
open PySem PySem.W PySem.Calls PyProof.Rows
set_option Elab.async false
set_option maxRecDepth 20000
set_option linter.unusedVariables false
set_option linter.unusedSectionVars false
namespace Mine
/-! `list.count`, `max` and `min` of a list of ints, an item of a list stored -/
def countF : AV → List AV → M AV
  | a, [.int k] => fun σ => match viewL σ a with
    | some l => (match toInts l with
      | some ns => some (.int ((ns.count k : Nat) : Int), σ)
      | none => none)
    | none => none
  | _, _ => M.fail
def maxI : List Int → Int
  | [] => 0
  | [x] => x
  | x :: l => max x (maxI l)
def minI : List Int → Int
  | [] => 0
  | [x] => x
  | x :: l => min x (minI l)
theorem maxI_spec : ∀ {l : List Int}, l ≠ [] → maxI l ∈ l ∧ ∀ y ∈ l, y ≤ maxI l
  | [x], _ => ⟨by simp [maxI], fun y hy => by simp at hy; subst hy; exact Int.le_refl _⟩
  | x :: z :: l, _ => by
    obtain ⟨h1, h2⟩ := maxI_spec (l := z :: l) (by simp)
    show max x (maxI (z :: l)) ∈ _ ∧ ∀ y ∈ _, y ≤ max x (maxI (z :: l))
    refine ⟨?_, fun y hy => ?_⟩
    · rcases Int.le_total x (maxI (z :: l)) with h | h
      · rw [Int.max_eq_right h]; exact List.mem_cons_of_mem _ h1
      · rw [Int.max_eq_left h]; exact List.mem_cons_self ..
    · rcases List.mem_cons.mp hy with rfl | hy
      · exact Int.le_max_left ..
      · exact Int.le_trans (h2 y hy) (Int.le_max_right ..)
theorem minI_spec : ∀ {l : List Int}, l ≠ [] → minI l ∈ l ∧ ∀ y ∈ l, minI l ≤ y
  | [x], _ => ⟨by simp [minI], fun y hy => by simp at hy; subst hy; exact Int.le_refl _⟩
  | x :: z :: l, _ => by
    obtain ⟨h1, h2⟩ := minI_spec (l := z :: l) (by simp)
    show min x (minI (z :: l)) ∈ _ ∧ ∀ y ∈ _, min x (minI (z :: l)) ≤ y
    refine ⟨?_, fun y hy => ?_⟩
    · rcases Int.le_total x (minI (z :: l)) with h | h
      · rw [Int.min_eq_left h]; exact List.mem_cons_self ..
      · rw [Int.min_eq_right h]; exact List.mem_cons_of_mem _ h1
    · rcases List.mem_cons.mp hy with rfl | hy
      · exact Int.min_le_left ..
      · exact Int.le_trans (Int.min_le_right ..) (h2 y hy)
def maxF : List AV → List AV → M AV
  | [a], [] => fun σ => match viewL σ a with
    | some l => (match toInts l with
      | some ns => if ns ≠ [] then some (.int (maxI ns), σ) else none
      | none => none)
    | none => none
  | _, _ => M.fail
def minF : List AV → List AV → M AV
  | [a], [] => fun σ => match viewL σ a with
    | some l => (match toInts l with
      | some ns => if ns ≠ [] then some (.int (minI ns), σ) else none
      | none => none)
    | none => none
  | _, _ => M.fail
def setLA : AV → AV → AV → M Unit
  | .ref n, .int i, v => fun σ => match σ.st n with
    | some (.list l) => if 0 ≤ i ∧ i < l.length ∧ l.length ≤ 2 ^ 20 then some ((), { σ with st := fun m => if m = n then some (.list (l.set i.toNat v)) else σ.st m }) else none
    | _ => none
  | _, _, _ => M.fail
def getLA : AV → AV → M AV
  | .ref n, .int i => fun σ => match σ.st n with
    | some (.list l) => (atL l i).map (·, σ)
    | _ => none
  | _, _ => M.fail
section
variable {W : Wd} {X : Sc} {n : Nat}
theorem SimBM.count : SimBM W n "list.count" countF := by
  intro A σ σ' G s a args ma ms v hA r hne p p2 hf
  unfold countF at hf
  split at hf
  · rename_i a k
    split at hf
    · rename_i l hv
      split at hf
      · rename_i ns hns
        cases hf
        obtain ⟨y, vs, m, e, hg, hr⟩ := r.view p hv
        subst e
        obtain ⟨x, e, q⟩ := Reps.one p2
        subst e
        obtain ⟨t, rfl⟩ := q
        obtain ⟨hI, hE⟩ := ints_of hr hns
        have hL : s.heap.IsList y vs.toList.toArray := isList_of (by simpa using hg)
        exact count_list_ints hL hI (.now r.tok ⟨_, rfl⟩)
      · cases hf
    · cases hf
  · cases hf
theorem SimM.count : SimM W n "count" [] (preT "list") (noKw countF) := SimM.bi F.plainAttrs_list F.slot_list_count F.type_list_count SimBM.count
theorem best_max {ns : List Int} {xs : List (Int × Tok)} (h : xs.map (·.1) = ns) (hne : ns ≠ []) : numAt xs.toArray (argBest (fun i j => decide (numAt xs.toArray i > numAt xs.toArray j)) (xs.toArray.size - 1)) = maxI ns := by
  have hl : xs.length = ns.length := by rw [← h, List.length_map]
  have hpos : 0 < ns.length := List.length_pos_iff.mpr hne
  obtain ⟨h1, h2⟩ := argBest_gt (numAt xs.toArray) (xs.toArray.size - 1)
  have at' : ∀ i (hi : i < ns.length), numAt xs.toArray i = ns[i] := by
    subst h
    intro i hi
    have hi' : i < xs.length := by rw [List.length_map] at hi; exact hi
    unfold numAt
    rw [List.getElem?_toArray, List.getElem?_eq_getElem hi', List.getElem_map]; rfl
  have hs : xs.toArray.size = ns.length := by rw [List.size_toArray, hl]
  rw [hs] at h1 h2 ⊢
  obtain ⟨m1, m2⟩ := maxI_spec hne
  obtain ⟨i, hi⟩ := List.getElem?_of_mem m1
  obtain ⟨hil, hie⟩ := List.getElem?_eq_some_iff.mp hi
  have b1 := h2 i (by omega)
  rw [at' i hil, hie] at b1
  have b2 := m2 _ (List.getElem_mem (l := ns) (n := argBest (fun i j => decide (numAt xs.toArray i > numAt xs.toArray j)) (ns.length - 1)) (by omega))
  rw [← at' _ (by omega)] at b2
  exact Int.le_antisymm b2 b1
theorem best_min {ns : List Int} {xs : List (Int × Tok)} (h : xs.map (·.1) = ns) (hne : ns ≠ []) : numAt xs.toArray (argBest (fun i j => decide (numAt xs.toArray i < numAt xs.toArray j)) (xs.toArray.size - 1)) = minI ns := by
  have hl : xs.length = ns.length := by rw [← h, List.length_map]
  have hpos : 0 < ns.length := List.length_pos_iff.mpr hne
  obtain ⟨h1, h2⟩ := argBest_lt (numAt xs.toArray) (xs.toArray.size - 1)
  have at' : ∀ i (hi : i < ns.length), numAt xs.toArray i = ns[i] := by
    subst h
    intro i hi
    have hi' : i < xs.length := by rw [List.length_map] at hi; exact hi
    unfold numAt
    rw [List.getElem?_toArray, List.getElem?_eq_getElem hi', List.getElem_map]; rfl
  have hs : xs.toArray.size = ns.length := by rw [List.size_toArray, hl]
  rw [hs] at h1 h2 ⊢
  obtain ⟨m1, m2⟩ := minI_spec hne
  obtain ⟨i, hi⟩ := List.getElem?_of_mem m1
  obtain ⟨hil, hie⟩ := List.getElem?_eq_some_iff.mp hi
  have b1 := h2 i (by omega)
  rw [at' i hil, hie] at b1
  have b2 := m2 _ (List.getElem_mem (l := ns) (n := argBest (fun i j => decide (numAt xs.toArray i < numAt xs.toArray j)) (ns.length - 1)) (by omega))
  rw [← at' _ (by omega)] at b2
  exact Int.le_antisymm b1 b2
theorem SimV.max : SimV W n (.builtin "max") [] maxF := by
  intro A σ σ' G s args kws ms ks' v hA r hne p2 p3 hf
  refine ⟨.bi, ?_⟩
  unfold maxF at hf
  split at hf
  · obtain ⟨x, e, p⟩ := Reps.one p2
    rw [zipNil p3]
    subst e
    split at hf
    · rename_i l hv
      split at hf
      · rename_i ns hns
        split at hf
        · rename_i hns0
          cases hf
          obtain ⟨y, vs, k, e, hg, hr⟩ := r.view p hv
          subst e
          obtain ⟨hI, hE⟩ := ints_of hr hns
          obtain ⟨xs, e1, e2⟩ := intsAre_items hI
          have e1 : vs = intItems xs.toArray := by
            apply Array.toList_inj.mp
            rw [e1]; simp [intItems]
          subst e1
          have hl : xs.length = ns.length := by rw [← e2, List.length_map]
          have hpos : 0 < ns.length := List.length_pos_iff.mpr hns0
          refine max_intList hA.hd (isList_of hg) (by simp; omega) fun v h' tk hv hk => ?_
          have hb := best_max e2 hns0
          unfold intItems at hv
          rw [Array.getElem?_map] at hv
          obtain ⟨q, hq, rfl⟩ := Option.map_eq_some_iff.mp hv
          have hn : ∀ k, xs.toArray[k]? = some q → numAt xs.toArray k = q.1 := fun k e => by unfold numAt; rw [e]; rfl
          rw [hn _ hq] at hb
          exact ⟨G, .refl _, r.keep hk, q.2, by rw [← hb]⟩
        · cases hf
      · cases hf
    · cases hf
  · cases hf
theorem SimV.min : SimV W n (.builtin "min") [] minF := by
  intro A σ σ' G s args kws ms ks' v hA r hne p2 p3 hf
  refine ⟨.bi, ?_⟩
  unfold minF at hf
  split at hf
  · obtain ⟨x, e, p⟩ := Reps.one p2
    rw [zipNil p3]
    subst e
    split at hf
    · rename_i l hv
      split at hf
      · rename_i ns hns
        split at hf
        · rename_i hns0
          cases hf
          obtain ⟨y, vs, k, e, hg, hr⟩ := r.view p hv
          subst e
          obtain ⟨hI, hE⟩ := ints_of hr hns
          obtain ⟨xs, e1, e2⟩ := intsAre_items hI
          have e1 : vs = intItems xs.toArray := by
            apply Array.toList_inj.mp
            rw [e1]; simp [intItems]
          subst e1
          have hl : xs.length = ns.length := by rw [← e2, List.length_map]
          have hpos : 0 < ns.length := List.length_pos_iff.mpr hns0
          refine min_intList hA.hd (isList_of hg) (by simp; omega) fun v h' tk hv hk => ?_
          have hb := best_min e2 hns0
          unfold intItems at hv
          rw [Array.getElem?_map] at hv
          obtain ⟨q, hq, rfl⟩ := Option.map_eq_some_iff.mp hv
          have hn : ∀ k, xs.toArray[k]? = some q → numAt xs.toArray k = q.1 := fun k e => by unfold numAt; rw [e]; rfl
          rw [hn _ hq] at hb
          exact ⟨G, .refl _, r.keep hk, q.2, by rw [← hb]⟩
        · cases hf
      · cases hf
    · cases hf
  · cases hf
theorem Op2g.getL : Op2g W n getItem getLA := by
  intro A σ σ' G s a b c ma mb hA r hne pa pb hf
  unfold getLA at hf
  split at hf
  · rename_i h i
    split at hf
    · rename_i l hs
      obtain ⟨c', e1, e2⟩ := Option.map_eq_some_iff.mp hf
      cases e2
      obtain ⟨t, rfl⟩ := pb
      obtain ⟨y, vs, k, e, hg, hr⟩ := r.view (l := l) pa (by unfold viewL; simp only [hs])
      subst e
      exact atL_list r (isList_of hg) hr e1
    · cases hf
  · cases hf
theorem setItem_list_at {prog : Program} {w : World} {A : Around} {E : Value → Shared → Prop} {s : Shared} {l : Addr} {items : Array Value} {m : Nat} {k : Int} {t : Tok} {v : Value} {Q : Unit → Shared → Prop} (ho : s.heap.get? l = some (seqObj "list" items m))
    (h0 : 0 ≤ k) (hfit : k < 2 ^ 63) (hn : k < items.size)
    (hQ : Q () { s with heap := s.heap.update l (Obj.mapSeq (·.setIfInBounds k.toNat v)) }) : wpAny (model prog w) A (setItem (.ref l) (.int k t) v) Q E s := by
  have hl : s.heap.IsList l items := ⟨_, ho, rfl, m, rfl⟩
  unfold setItem
  try with_reducible refine wpAny_holding ?_
  first | refine wpAny_bind (wpAny_pure ?_) | skip
  refine wpAny_bind (wpAny_sequenceKey hl.typeIs (by decide) ?_)
  refine wpAny_bind (wpAny_callSpecial?_slot (name := Str.ofString "__setitem__") hl.typeIs F.slot_list_setitem
    (wpAny_call_entry F.slot_list_setitem hl.typeIs F.entry_list_setitem ?_ (by unfold argsOk; kernel_rfl)))
  show wpAny _ _ (Builtin.List.listSubscript? (.int k t) >>= _) _ _ s
  refine wpAny_bind (wpAny_listSubscript_int (fitsIndex_of h0 hfit) ?_)
  clear hfit
  obtain ⟨j, rfl⟩ := Int.eq_ofNat_of_zero_le h0
  have hj : j < items.size := by omega
  have hx' : items[j]? = some items[j] := Array.getElem?_eq_getElem hj
  show wpAny _ _ ((seqItemAt l j >>= fun r => pure (r.map (j, ·))) >>= _) _ _ s
  refine wpAny_bind (wpAny_bind (wpAny_seqItemAt ho rfl (wpAny_pure ?_)))
  rw [hx']
  show wpAny _ _ (setSeqItemAt l j v >>= _) _ _ s
  refine wpAny_bind (wpAny_setSeqItemAt ho rfl ?_)
  first
    | exact wpAny_bind (wpAny_pure (wpAny_pure ⟨.none, rfl, wpAny_pure hQ⟩))
    | exact wpAny_pure ⟨.none, rfl, wpAny_pure hQ⟩
theorem RepVs.set {V : Vw} {a : AV} {v : Value} (p : RepV V a v) : ∀ {l : List AV} {vs : List Value}, RepVs V l vs → ∀ i, RepVs V (l.set i a) (vs.set i v)
  | [], _, h, i => by cases h; exact rfl
  | b :: l, _, ⟨x, r, e, h1, h2⟩, 0 => by subst e; exact ⟨v, r, rfl, p, h2⟩
  | b :: l, _, ⟨x, r, e, h1, h2⟩, i + 1 => by subst e; exact ⟨x, r.set i v, rfl, h1, RepVs.set p h2 i⟩
theorem OpSet.list : OpSet W n setLA := by
  intro A σ σ' G s a b c ma mb mc hA r hne pa pb pc hf
  cases a with
  | ref h =>
    cases b with
    | int i =>
      unfold setLA at hf
      dsimp only at hf
      split at hf
      · rename_i l hs
        split at hf
        · rename_i hl
          cases hf
          obtain ⟨t, rfl⟩ := pb
          obtain ⟨y, e, hm⟩ := pa
          subst e
          obtain ⟨y', ob, h1, h2, vs, k, h3, h4⟩ := r.inv.objs _ _ hs
          rw [show (G.vw W).mu = G.mu from rfl, h1] at hm
          cases hm
          subst h3
          have hlen := h4.length
          rw [Array.length_toList] at hlen
          have ho := r.sub _ _ _ h2
          refine setItem_list_at (items := vs) (m := k) ho hl.1 (by omega) (by omega) ?_
          obtain ⟨e1, he⟩ : ∃ e1, (s.heap.update y (Obj.mapSeq (·.setIfInBounds i.toNat mc))).get? y = some (seqObj "list" (vs.setIfInBounds i.toNat mc) e1) := ⟨_, get?_update_seq ho (fun xs => xs.setIfInBounds i.toNat mc)⟩
          obtain ⟨G', l', r', _⟩ := r.setObj (o := .list (l.set i.toNat c)) (tk := s.toks) h1 h2 he (Heap.SameBut.update ..) ⟨_, _, rfl, by
            rw [Array.toList_setIfInBounds]; exact RepVs.set pc h4 _⟩
          exact ⟨G', l', r', trivial⟩
        · cases hf
      · cases hf
    | _ => cases hf
  | _ => cases hf
end
end Mine
end

section
open PySem PySem.W PySem.Calls PyProof.Rows
set_option Elab.async false
set_option maxRecDepth 20000
set_option linter.unusedVariables false
set_option linter.unusedSectionVars false
namespace Mine
/-! `while`, `int.bit_length` -/
noncomputable def whileA (c : M Bool) (b o : M AFl) : Nat → M AFl
  | 0 => M.fail
  | k + 1 => M.bind c fun t => bif t then M.bind b fun
      | .next => whileA c b o k
      | .cont => whileA c b o k
      | .brk => M.pure .next
      | .ret v => M.pure (.ret v) else o
def bitN (i : Int) : Nat := if i = 0 then 0 else i.natAbs.log2 + 1
def bitlenF : AV → List AV → M AV
  | .int i, [] => M.pure (.int ((bitN i : Nat) : Int))
  | _, _ => M.fail
section
variable {W : Wd} {X : Sc} {n : Nat}
theorem SimS.while (k : Nat) {test : Expr} {body orelse : List Stmt} {pos : Pos} {c : M Bool} {b o : M AFl} (h1 : SimB W X n test c) (h2 : SimX W X n body b) (h3 : SimX W X n orelse o) :
    SimS W X n (.While test body orelse pos) (whileA c b o k) := by
  intro env A σ fl σ' G s P hA r hf
  refine wpAny_While (codeAny_whileLoop (fun k s' => ∃ G1 σ1, G.Le G1 ∧ R W G1 σ1 s' ∧ whileA c b o k σ1 = some (fl, σ')) ?_ k ⟨G, σ, .refl _, r, hf⟩)
  rintro k s1 ⟨G1, σ1, le1, r1, f1⟩
  cases k with
  | zero => cases f1
  | succ k =>
    obtain ⟨t, σ2, e2, f2⟩ := M.bind_some f1
    refine wpAny_mono (h1 env A _ _ _ G1 s1 (P.mono le1) hA r1 e2) (fun b' s2 ⟨G2, l2, r2, q⟩ => ?_) fun _ _ e => e.elim
    subst q
    have le2 := le1.trans l2
    cases b' with
    | true =>
      dsimp only [cond_true] at f2
      obtain ⟨af, σ3, e3, f3⟩ := M.bind_some f2
      refine wpAny_mono (h2 env A _ _ _ G2 s2 (P.mono le2) hA r2 e3) (fun f s3 ⟨G3, l3, r3, p3⟩ => ?_) fun _ _ e => e.elim
      have le3 := le2.trans l3
      cases af <;> cases f <;> first | exact p3.elim | skip
      · exact ⟨k, Nat.lt_succ_self _, G3, σ3, le3, r3, f3⟩
      · cases f3
        exact ⟨G3, le3, r3, trivial⟩
      · exact ⟨k, Nat.lt_succ_self _, G3, σ3, le3, r3, f3⟩
      · cases f3
        exact ⟨G3, le3, r3, p3⟩
    | false =>
      dsimp only [cond_false] at f2
      exact wpAny_mono (h3 env A _ _ _ G2 s2 (P.mono le2) hA r2 f2) (fun f s3 q => q.le le2) fun _ _ e => e.elim
theorem SimBM.bitlen : SimBM W n "int.bit_length" bitlenF := by
  intro A σ σ' G s a args ma ms v hA r hne p p2 hf
  unfold bitlenF at hf
  split at hf
  · rename_i i
    cases hf
    obtain ⟨t, rfl⟩ := p
    cases p2
    refine call_gives F.slot_int_bit_length (typeIs_int _ _ _) F.entry_int_bit_length (F.args_int_bit_length_1 _) (AutoIntG2.int_bit_length_int_0 i t) ?_
    have hb : Builtin.Int.intBits i = bitN i := by unfold Builtin.Int.intBits bitN; by_cases e : i = 0 <;> simp [e]
    rw [hb]
    dsimp only [Made.post]
    exact Post.now r.tok ⟨_, rfl⟩
  · cases hf
theorem SimM.bitlen : SimM W n "bit_length" [] (preT "int") (noKw bitlenF) := SimM.bi F.plainAttrs_int F.slot_int_bit_length F.type_int_bit_length SimBM.bitlen
end
end Mine
end

section
open PySem PySem.W PySem.Calls PyProof.Rows
set_option Elab.async false
set_option maxRecDepth 100000
set_option linter.unusedVariables false
set_option linter.unusedSectionVars false
namespace Mine
/-! `<` of two rows of two ints; `min` of a list of such rows -/
def lt2 (p q : Int × Int) : Bool := decide (p.1 < q.1 ∨ (p.1 = q.1 ∧ p.2 < q.2))
/-- a row of two ints at `a` -/
def Row2 (h : Heap) (a : Addr) (p : Int × Int) : Prop := ∃ o n t u, h.get? a = some o ∧ o.cls = .type "tuple" ∧ o.data = .seq #[.int p.1 t, .int p.2 u] n
section
variable {prog : Program} {w : World} {A : Around} {E : Value → Shared → Prop} {s : Shared}
theorem tup_lt_tree {a b : Addr} {p q : Int × Int} {P : Fin → Shared → Prop} (hx : Row2 s.heap a p) (hy : Row2 s.heap b q) (h : P (.done (.ret (.bool (lt2 p q)))) s) :
    wpAny (model prog w) A (Builtin.«tuple.__lt__» ⟨[.ref a, .ref b], []⟩) P E s := by
  obtain ⟨oa, na, t1, u1, hoa, hca, hda⟩ := hx
  obtain ⟨ob, nb, t2, u2, hob, hcb, hdb⟩ := hy
  have hTb : s.TypeIs (.ref b) "tuple" := ⟨_, hob, hcb⟩
  show wpAny _ _ (isInstance (.ref b) (.type "tuple") >>= _) _ _ s
  refine wpAny_bind (wpAny_isInstance hTb isSubtype_tuple_tuple ?_)
  simp only [Bool.not_true, Bool.false_eq_true, if_false]
  refine wpAny_bind (wpAny_tupleItemsOf hoa hda ?_)
  refine wpAny_bind (wpAny_tupleItemsOf hob hdb ?_)
  refine wpAny_bind ?_
  simp only [List.zip_cons_cons, List.zip_nil_right, List.forIn_cons, List.forIn_nil]
  refine wpAny_bind (wpAny_bind (wpAny_eqBool_int ?_))
  by_cases e1 : p.1 = q.1
  · simp only [e1, beq_self_eq_true, Bool.not_true, Bool.false_eq_true, if_false]
    refine wpAny_pure ?_
    dsimp only
    refine wpAny_bind (wpAny_bind (wpAny_eqBool_int ?_))
    by_cases e2 : p.2 = q.2
    · simp only [e2, beq_self_eq_true, Bool.not_true, Bool.false_eq_true, if_false]
      refine wpAny_pure ?_
      dsimp only
      refine wpAny_pure ?_
      refine wpAny_pure ?_
      have : lt2 p q = false := by simp [lt2, e1, e2]
      rw [this] at h
      exact h
    · have b2 : (p.2 == q.2) = false := by simp [e2]
      simp only [b2, Bool.not_false, if_true]
      refine wpAny_bind (wpAny_rule (wpAny_bind (wpAny_lt_int ?_)))
      have : lt2 p q = decide (p.2 < q.2) := by simp [lt2, e1]
      rw [this] at h
      exact wpAny_bind (wpAny_pure (wpAny_pure (wpAny_pure (wpAny_pure h))))
  · have b1 : (p.1 == q.1) = false := by simp [e1]
    simp only [b1, Bool.not_false, if_true]
    refine wpAny_bind (wpAny_rule (wpAny_bind (wpAny_lt_int ?_)))
    have : lt2 p q = decide (p.1 < q.1) := by simp [lt2, e1]
    rw [this] at h
    exact wpAny_bind (wpAny_pure (wpAny_pure (wpAny_pure (wpAny_pure h))))
theorem tup_lt {a b : Addr} {p q : Int × Int} {Q : Value → Shared → Prop} (hx : Row2 s.heap a p) (hy : Row2 s.heap b q) (hu : A.units < cLine) (h : Q (.bool (lt2 p q)) s) :
    wpAny (model prog w) A (richCompare .Lt (.ref a) (.ref b)) Q E s := by
  have hTa : s.TypeIs (.ref a) "tuple" := by obtain ⟨o, _, _, _, h1, h2, _⟩ := hx; exact ⟨_, h1, h2⟩
  have hTb : s.TypeIs (.ref b) "tuple" := by obtain ⟨o, _, _, _, h1, h2, _⟩ := hy; exact ⟨_, h1, h2⟩
  exact wpAny_richCompare_same_room (op := .Lt) hTa hTb F.slot_tuple_lt
    (wpAny_call_entry F.slot_tuple_lt hTa F.entry_tuple_lt (tup_lt_tree hx hy ⟨_, rfl, (fun e => nomatch e), h⟩) (F.args_tuple_lt_2 _ _)) hu
/-- the loop of `min`, where the comparing looks at the heap -/
theorem minLoop {I : Addr} {fp wr : List Addr} {n : Nat} {P : Nat → Value → Prop} {St : Nat → Heap → Prop} {R : Result → Shared → Prop} (W : Walks prog w A.in1 I fp wr n P St) (bt : Nat → Nat → Bool) (K : Heap → Prop)
    (hcmp : ∀ i j vi vj (s : Shared) (Q : Value → Shared → Prop) (E : Value → Shared → Prop), K s.heap → P i vi → P j vj → Q (.bool (bt i j)) s → wpAny (model prog w) A.in1 (richCompare .Lt vi vj) Q E s)
    (S : Addr) (hSf : S ∉ fp) (hK : ∀ h h', K h → (∀ b o, b ∉ wr → b ≠ S → h.get? b = some o → h'.get? b = some o) → K h') :
    ∀ (m k : Nat) (s : Shared) (old : Array Value) (c : Nat), n - k = m → k ≤ n → 0 < n → St k s.heap → K s.heap → (match k with | 0 => old = #[] | k + 1 => ∃ v, old = #[v, v] ∧ P (argBest bt k) v) →
    s.heap.get? S = some { cls := .type "list", dict := none, data := .seq old c, slots := #[] } →
    (∀ v h' tk, P (argBest bt (n - 1)) v → (∀ b o, b ∉ wr → b ≠ S → s.heap.get? b = some o → h'.get? b = some o) → R (.ok (.ret v)) { s with heap := h', toks := tk }) →
    codeAny (model prog w) A (.builtin "min.loop" ⟨[.ref I, .none, .ref S], []⟩) R s := by
  have hSw : S ∉ wr := fun h => hSf (W.sub _ h)
  have hname : (toString "min" ++ toString ".loop" : String) = "min.loop" := by decide
  intro m
  induction m with
  | zero =>
    intro k s old c hk hkn hn hst hks hold hS hR
    obtain ⟨k, rfl⟩ : ∃ j, k = j + 1 := ⟨k - 1, by omega⟩
    obtain ⟨v, rfl, hv⟩ := hold
    have hin : k + 1 = n := by omega
    refine codeAny_builtin F.entry_min_loop ?_
    rw [Around.under_plainId F.plain_min_loop _]
    show wpAny _ A.in1 (seqItems? (.ref S) >>= _) _ _ s
    refine wpAny_bind (wpAny_seqItems hS rfl ?_)
    show wpAny _ A.in1 (tryCatch (pyNext (.ref I)) _ >>= _) _ _ s
    refine wpAny_bind (wpAny_tryCatch (W.done s _ _ (hin ▸ hst) fun h' tk hk' => ?_))
    show wpAny _ A.in1 (updateSeq S (fun _ => #[]) >>= _) _ _ _
    refine wpAny_bind (wpAny_updateSeq (hk' S _ hSw hS) rfl (wpAny_bind (wpAny_letGo (wpAny_pure ?_))))
    exact hR v _ tk (by rw [← hin]; exact hv) fun b o hbw hbS e => (Heap.get?_update_other _ _ (Ne.symm hbS)).trans (hk' b o hbw e)
  | succ m ih =>
    intro k s old c hk hkn hn hst hks hold hS hR
    have hlt : k < n := by omega
    refine codeAny_builtin F.entry_min_loop ?_
    rw [Around.under_plainId F.plain_min_loop _]
    show wpAny _ A.in1 (seqItems? (.ref S) >>= _) _ _ s
    refine wpAny_bind (wpAny_seqItems hS rfl ?_)
    show wpAny _ A.in1 (tryCatch (pyNext (.ref I)) _ >>= _) _ _ s
    refine wpAny_bind (wpAny_tryCatch (W.item k s _ _ hlt hst fun v h' tk hP hst' hk' => ?_))
    have hS' := hk' S _ hSw hS
    have hks' : K h' := hK _ _ hks fun b o hb _ e => hk' b o hb e
    cases k with
    | zero =>
      subst hold
      show wpAny _ A.in1 (updateSeq S (fun _ => #[v, v]) >>= _) _ _ _
      refine wpAny_bind (wpAny_updateSeq hS' rfl ?_)
      rw [hname]
      refine wpAny_pure ⟨plainId_quiet F.plain_min_loop _, ih 1 _ _ _ (by omega) hlt hn (W.frame _ _ _ hst' fun b hbf o e => ?_) (hK _ _ hks' fun b o hbw hbS e => (Heap.get?_update_other _ _ (Ne.symm hbS)).trans e) ⟨v, rfl, hP⟩ (Heap.get?_update_self _ hS' rfl) fun v' h'' tk'' hP' hk'' => ?_⟩
      · exact (Heap.get?_update_other _ _ (fun h : S = b => hSf (by rw [h]; exact hbf))).trans e
      · exact hR v' h'' tk'' hP' fun b o hbw hbS e => hk'' b o hbw hbS ((Heap.get?_update_other _ _ (Ne.symm hbS)).trans (hk' b o hbw e))
    | succ k =>
      obtain ⟨vb, rfl, hvb⟩ := hold
      show wpAny _ A.in1 (tryCatch (holding [v, v] (richCompare .Lt v vb >>= _)) _ >>= _) _ _ _
      refine wpAny_bind (wpAny_tryCatch (wpAny_holding (wpAny_bind (hcmp (k + 1) (argBest bt k) v vb _ _ _ hks' hP hvb ?_))))
      refine wpAny_bind (wpAny_holding (wpAny_truthy_bool ?_))
      refine wpAny_bind (wpAny_letGo (wpAny_pure ?_))
      cases hb : bt (k + 1) (argBest bt k) with
      | true =>
        simp only [if_true]
        refine wpAny_bind (wpAny_updateSeq hS' rfl (wpAny_bind (wpAny_letGo ?_)))
        rw [hname]
        refine wpAny_pure ⟨plainId_quiet F.plain_min_loop _, ih (k + 2) _ _ _ (by omega) hlt hn (W.frame _ _ _ hst' fun b hbf o e => ?_) (hK _ _ hks' fun b o hbw hbS e => (Heap.get?_update_other _ _ (Ne.symm hbS)).trans e) ⟨v, rfl, by simp only [argBest, hb, if_true]; exact hP⟩ (Heap.get?_update_self _ hS' rfl) fun v' h'' tk'' hP' hk'' => ?_⟩
        · exact (Heap.get?_update_other _ _ (fun h : S = b => hSf (by rw [h]; exact hbf))).trans e
        · exact hR v' h'' tk'' hP' fun b o hbw hbS e => hk'' b o hbw hbS ((Heap.get?_update_other _ _ (Ne.symm hbS)).trans (hk' b o hbw e))
      | false =>
        simp only [Bool.false_eq_true, if_false]
        refine wpAny_bind (wpAny_letGo ?_)
        rw [hname]
        refine wpAny_pure ⟨plainId_quiet F.plain_min_loop _, ih (k + 2) _ _ c (by omega) hlt hn hst' hks' ⟨vb, rfl, by simp only [argBest, hb, Bool.false_eq_true, if_false]; exact hvb⟩ hS' fun v' h'' tk'' hP' hk'' => ?_⟩
        exact hR v' h'' tk'' hP' fun b o hbw hbS e => hk'' b o hbw hbS (hk' b o hbw e)
theorem min_rows {l : Addr} {items : Array Value} {f : Nat → Int × Int} {Q : Value → Shared → Prop} (hh : A.handled = none) (hu : A.in1.units < cLine) (hl : s.heap.IsList l items) (hne : 0 < items.size)
    (hrow : ∀ i v, items[i]? = some v → ∃ a, v = .ref a ∧ Row2 s.heap a (f i))
    (h : ∀ v h' tk, items[argBest (fun i j => lt2 (f i) (f j)) (items.size - 1)]? = some v → (∀ b o, s.heap.get? b = some o → h'.get? b = some o) → Q v { s with heap := h', toks := tk }) :
    wpAny (model prog w) A (call (.builtin "min") [.ref l]) Q E s := by
  have hname : (toString "min" ++ toString ".loop" : String) = "min.loop" := by decide
  refine call_function_tree F.kind_min F.plain_min F.entry_min (F.args_min1 _) ?_
  show wpAny _ A.in1 (Builtin.Builtins.bindParams "min" ["key", "default"] 0 ⟨[], []⟩ >>= _) _ _ s
  refine wpAny_bind (wpAny_of_eq (show Builtin.Builtins.bindParams "min" ["key", "default"] 0 ⟨[], []⟩ = pure [none, none] from rfl) ?_)
  refine wpAny_bind (wpAny_pure ?_)
  have hlt : l < s.heap.objs.size := by obtain ⟨_, e, _⟩ := hl; exact Heap.lt_size e
  refine wpAny_bind (wpAny_pyIter_list hl ?_)
  refine wpAny_bind (wpAny_newObj_type ?_)
  have hs1 : (s.heap.push { cls := .type "list_iterator", data := .fields #[.ref l, .int 0 0] }).objs.size = s.heap.objs.size + 1 := Heap.size_push ..
  rw [hname]
  refine wpAny_pure ⟨plainId_quiet F.plain_min_loop _, minLoop (Walks.list (A := A.in1) hh s.heap.objs.size l (Nat.ne_of_lt hlt) items) (fun i j => lt2 (f i) (f j)) (fun h => ∀ b o, s.heap.get? b = some o → h.get? b = some o) ?_ _ ?_ ?_ _ 0 _ #[] _ rfl (Nat.zero_le _) hne ?_ ?_ rfl (Heap.get?_push_size _ rfl) fun v h' tk hP hk => ?_⟩
  · intro i j vi vj s' Q' E' hK hi hj hq
    obtain ⟨a, rfl, o, n, t, u, h1, h2, h3⟩ := hrow i vi hi
    obtain ⟨b, rfl, o', n', t', u', h1', h2', h3'⟩ := hrow j vj hj
    exact tup_lt ⟨o, n, t, u, hK _ _ h1, h2, h3⟩ ⟨o', n', t', u', hK _ _ h1', h2', h3'⟩ hu hq
  · intro hm
    dsimp only at hm
    rw [hs1] at hm
    simp only [List.mem_cons, List.not_mem_nil, or_false] at hm
    rcases hm with hm | hm
    · exact absurd hm (Nat.ne_of_gt (Nat.lt_succ_self _))
    · exact absurd hm (Nat.ne_of_gt (Nat.lt_succ_of_lt hlt))
  · intro h h' hK hk b o e
    have hb := Heap.lt_size e
    refine hk b o (fun hm => ?_) (fun hb' => ?_) (hK b o e)
    · exact absurd (List.mem_singleton.mp hm) (Nat.ne_of_lt hb)
    · dsimp only at hb'
      rw [hs1] at hb'; exact absurd hb' (Nat.ne_of_lt (Nat.lt_succ_of_lt hb))
  · exact ⟨⟨_, Heap.get?_push_of_some _ (Heap.get?_push_size _ rfl), rfl, rfl⟩, (hl.push _).push _⟩
  · exact fun b o e => Heap.get?_push_of_some _ (Heap.get?_push_of_some _ e)
  · refine h v h' tk hP fun b o e => ?_
    have hb := Heap.lt_size e
    refine hk b o (fun hm => ?_) (fun hb' => ?_) (Heap.get?_push_of_some _ (Heap.get?_push_of_some _ e))
    · exact absurd (List.mem_singleton.mp hm) (Nat.ne_of_lt hb)
    · dsimp only at hb'
      rw [hs1] at hb'; exact absurd hb' (Nat.ne_of_lt (Nat.lt_succ_of_lt hb))
end
theorem lt2_irrefl (p : Int × Int) : lt2 p p = false := by unfold lt2; simp
theorem lt2_trans {p q r : Int × Int} (h1 : lt2 p q = false) (h2 : lt2 q r = false) : lt2 p r = false := by
  unfold lt2 at *
  simp only [decide_eq_false_iff_not] at *
  omega
theorem lt2_of {p q : Int × Int} (h : lt2 p q = true) : lt2 q p = false := by
  unfold lt2 at *
  simp only [decide_eq_false_iff_not, decide_eq_true_eq] at *
  omega
theorem argBest_lt2 (f : Nat → Int × Int) : ∀ k, argBest (fun i j => lt2 (f i) (f j)) k ≤ k ∧ ∀ j, j ≤ k → lt2 (f j) (f (argBest (fun i j => lt2 (f i) (f j)) k)) = false
  | 0 => ⟨Nat.le_refl _, fun j hj => by
    obtain rfl : j = 0 := by omega
    exact lt2_irrefl _⟩
  | k + 1 => by
    obtain ⟨h1, h2⟩ := argBest_lt2 f k
    unfold argBest
    split
    · rename_i hb
      refine ⟨Nat.le_refl _, fun j hj => ?_⟩
      rcases Nat.lt_or_ge j (k + 1) with h | h
      · exact lt2_trans (h2 j (by omega)) (lt2_of hb)
      · obtain rfl : j = k + 1 := by omega
        exact lt2_irrefl _
    · rename_i hb
      refine ⟨by omega, fun j hj => ?_⟩
      rcases Nat.lt_or_ge j (k + 1) with h | h
      · exact h2 j (by omega)
      · obtain rfl : j = k + 1 := by omega
        exact Bool.not_eq_true _ ▸ hb
def rowsOf : List AV → Option (List (Int × Int))
  | [] => some []
  | .tup [.int x, .int y] :: l => (rowsOf l).map ((x, y) :: ·)
  | _ => none
theorem rowsOf_at : ∀ {l : List AV} {rows : List (Int × Int)}, rowsOf l = some rows → l.length = rows.length ∧ ∀ i, i < rows.length → l[i]? = some (.tup [.int (rows.getD i (0, 0)).1, .int (rows.getD i (0, 0)).2])
  | [], rows, e => by cases e; exact ⟨rfl, fun i hi => absurd hi (Nat.not_lt_zero _)⟩
  | a :: l, rows, e => by
    unfold rowsOf at e
    split at e
    · rename_i h; cases h
    · rename_i x y l' h
      cases h
      obtain ⟨r, e1, rfl⟩ := Option.map_eq_some_iff.mp e
      obtain ⟨h1, h2⟩ := rowsOf_at e1
      refine ⟨by simp [h1], fun i hi => ?_⟩
      cases i with
      | zero => rfl
      | succ i => simpa using h2 i (by simpa using hi)
    · cases e
def minRow (rows : List (Int × Int)) : Int × Int := rows.getD (argBest (fun i j => lt2 (rows.getD i (0, 0)) (rows.getD j (0, 0))) (rows.length - 1)) (0, 0)
theorem minRow_spec {rows : List (Int × Int)} (h : rows ≠ []) : minRow rows ∈ rows ∧ ∀ q ∈ rows, lt2 q (minRow rows) = false := by
  have hp := List.length_pos_iff.mpr h
  obtain ⟨h1, h2⟩ := argBest_lt2 (fun i => rows.getD i (0, 0)) (rows.length - 1)
  unfold minRow
  generalize argBest (fun i j => lt2 (rows.getD i (0, 0)) (rows.getD j (0, 0))) (rows.length - 1) = k at *
  have hk : k < rows.length := by omega
  refine ⟨?_, fun q hq => ?_⟩
  · rw [List.getD_eq_getElem?_getD, List.getElem?_eq_getElem hk]; exact List.getElem_mem hk
  · obtain ⟨j, hj, rfl⟩ := List.getElem_of_mem hq
    have := h2 j (by omega)
    rwa [List.getD_eq_getElem?_getD, List.getElem?_eq_getElem hj] at this
def minTF : List AV → List AV → M AV
  | [a], [] => fun σ => match viewL σ a with
    | some l => (match rowsOf l with
      | some rows => if rows ≠ [] then some (.tup [.int (minRow rows).1, .int (minRow rows).2], σ) else none
      | none => none)
    | none => none
  | _, _ => M.fail
section
variable {W : Wd} {X : Sc} {n : Nat}
theorem SimV.minT : SimV W (n + 1) (.builtin "min") [] minTF := by
  intro A σ σ' G s args kws ms ks' v hA r hne p2 p3 hf
  refine ⟨.bi, ?_⟩
  unfold minTF at hf
  split at hf
  · obtain ⟨x, e, p⟩ := Reps.one p2
    rw [zipNil p3]
    subst e
    split at hf
    · rename_i l hv
      split at hf
      · rename_i rows hrows
        split at hf
        · rename_i hne0
          cases hf
          obtain ⟨y, vs, k, e, hg, hr⟩ := r.view p hv
          subst e
          obtain ⟨hl, hat⟩ := rowsOf_at hrows
          have hsz : vs.size = rows.length := by have := hr.length; rw [Array.length_toList] at this; omega
          have hpos := List.length_pos_iff.mpr hne0
          have key : ∀ i v, vs[i]? = some v → i < rows.length ∧ Rep W G (.tup [.int (rows.getD i (0, 0)).1, .int (rows.getD i (0, 0)).2]) v := by
            intro i v hi
            have hil : i < rows.length := by
              have := (Array.getElem?_eq_some_iff.mp hi).1; omega
            obtain ⟨v', e1, e2⟩ := RepVs.get hr (hat i hil)
            rw [Array.getElem?_toList, hi] at e1
            cases e1
            exact ⟨hil, e2⟩
          refine min_rows (f := fun i => rows.getD i (0, 0)) hA.hd ?_ (isList_of hg) (by omega) (fun i v hi => ?_) fun v h' tk hv hk => ?_
          · have := hA.un
            show A.units + 1 < cLine
            unfold cLine; omega
          · obtain ⟨hil, a, ws, u, rfl, hz, hw⟩ := key i v hi
            obtain ⟨v1, r1, e1, ⟨t1, rfl⟩, v2, r2, e2, ⟨t2, rfl⟩, e3⟩ := hw
            have hws : ws = #[.int (rows.getD i (0, 0)).1 t1, .int (rows.getD i (0, 0)).2 t2] := by
              apply Array.toList_inj.mp
              rw [e1, e2]
              cases r2 with
              | nil => rfl
              | cons => exact absurd e3 (by intro h; cases h)
            exact ⟨a, rfl, _, 0, t1, t2, r.z hz, rfl, by rw [hws]⟩
          · rw [hsz] at hv
            exact ⟨G, .refl _, r.keep hk, (key _ v hv).2⟩
        · cases hf
      · cases hf
    · cases hf
  · cases hf
end
end Mine
end

section
open PySem PySem.W PyProof.Rows
set_option Elab.async false
set_option maxRecDepth 100000
set_option maxHeartbeats 8000000
open_top hd for PySem.Challenge.rw_bj0073_07
end

section
open PySem PySem.W PySem.Calls PyProof.Rows
set_option Elab.async false
set_option maxRecDepth 100000
set_option maxHeartbeats 4000000
set_option pp.deepTerms false
namespace Mine
theorem fill : PySem.Challenge.rw_bj0073_07 = PySem.Challenge.rw_bj0073_07 ∧ hd.heap_39 = hd.heap_39 := by k_fill; exact ⟨rfl, rfl⟩
theorem cls_ring {W : Wd} {p : Params} (hK : W.K = hd.heap_39 p) : ClsOK W 615 := ⟨by rw [hK]; k_is, by rw [hK]; k_is, by rw [hK]; k_is, by rw [hK]; k_is, by rw [hK]; k_is⟩
theorem cls_meta {W : Wd} {p : Params} (hK : W.K = hd.heap_39 p) : ClsOK W 387 := ⟨by rw [hK]; k_is, by rw [hK]; k_is, by rw [hK]; k_is, by rw [hK]; k_is, by rw [hK]; k_is⟩
theorem cls_ctr {W : Wd} {p : Params} (hK : W.K = hd.heap_39 p) : CtrCls W 293 98 := by
  constructor <;> first | (rw [hK]; k_is) | exact ⟨_, by rw [hK]; k_is, by decide +kernel⟩
theorem ctr_mk {W : Wd} {p : Params} (hK : W.K = hd.heap_39 p) : CtrMk W.K 293 91 := by
  rw [hK]
  exact ctrMk_of (by k_is) rfl rfl rfl (by k_is) (by k_is) (by k_is) (by k_is) (by decide +kernel) (by k_is) (by k_is)
theorem ctr_upd {W : Wd} {p : Params} (hK : W.K = hd.heap_39 p) : ∃ T fd a1 a2 kw, CtrUpd W 136 T fd a1 a2 kw := by
  refine ⟨_, _, _, _, _, ⟨⟨_, by rw [hK]; k_is, rfl⟩, ⟨_, rfl⟩, rfl, ⟨_, _, by rw [hK]; k_is, rfl⟩, ⟨_, _, _, _, _, _, _, _, _, rfl⟩, rfl, rfl, rfl, rfl, rfl, rfl, rfl, by decide +kernel, rfl, rfl, rfl, ⟨_, _, _, _, rfl, by rw [hK]; k_is, rfl, rfl⟩⟩⟩
theorem ctr_ini {W : Wd} {p : Params} (hK : W.K = hd.heap_39 p) (mg : W.mg "super" = none) (mb : W.mb "super" = some (.type "super")) (top : (W.prog.main.scope.names.lookup ("super" : Str)).isSome = false) (file : ((W.prog.main.file : Str) == ("/claim/cut.py" : Str)) = true) :
    ∃ cc cda T fd cd a1 a2 kw, CtrIni W 293 98 91 136 cc cda T fd cd a1 a2 kw := by
  refine ⟨_, _, _, _, _, _, _, _, ⟨cls_ctr hK, ⟨_, by rw [hK]; k_is, rfl⟩, ⟨_, rfl⟩, rfl, ⟨_, _, by rw [hK]; k_is, rfl⟩, ⟨_, _, _, _, _, _, _, _, _, _, _, _, rfl⟩, rfl, rfl, rfl, rfl, rfl, rfl, rfl, rfl, rfl, rfl, rfl, by decide +kernel, rfl, rfl, rfl, rfl, rfl, rfl, ⟨_, by rw [hK]; k_is, rfl⟩, ⟨_, _, _, _, _, rfl, by rw [hK]; k_is, rfl, rfl, rfl, file⟩, mg, mb, top, by rw [hK]; k_is, by rw [hK]; k_is, by rw [hK]; kernel_rfl, by rw [hK]; k_is, by rw [hK]; k_is, by rw [hK]; k_is, ⟨_, _, by rw [hK]; k_is, rfl⟩⟩⟩
end Mine
end

section
open PySem PySem.W PySem.Calls PyProof.Rows
set_option Elab.async false
set_option maxRecDepth 100000
set_option maxHeartbeats 4000000
set_option pp.deepTerms false
namespace Mine
theorem fill2 : PySem.Challenge.rw_bj0073_07 = PySem.Challenge.rw_bj0073_07 ∧ hd.heap_39 = hd.heap_39 := by k_fill; exact ⟨rfl, rfl⟩
def gt4 : List (Str × Value) := [("Counter", .ref 293), ("KetamaRing", .ref 344), ("MetaRing", .ref 387), ("HashRing", .ref 615), ("_law_at", .ref 626), ("_law_way", .ref 633), ("_law_route", .ref 638), ("bisect_right", .builtin "_bisect.bisect_right")]
def bt4 : List (Str × Value) := [("len", .builtin "len"), ("range", .type "range"), ("str", .type "str"), ("abs", .builtin "abs"), ("isinstance", .builtin "isinstance"), ("sorted", .builtin "sorted"), ("sum", .builtin "sum"), ("min", .builtin "min"), ("max", .builtin "max"), ("enumerate", .type "enumerate"), ("int", .type "int"), ("bytes", .type "bytes"), ("list", .type "list"), ("tuple", .type "tuple"), ("dict", .type "dict"), ("set", .type "set")]
/-- the defs in a block, by their number -/
def defsIn : List Stmt → Nat → Option Sk
  | .FunctionDef name params body _ _ _ scope _ _ _ :: _, 0 => some ⟨name, name, params, body, scope⟩
  | .FunctionDef _ _ _ _ _ _ _ _ _ _ :: l, k + 1 => defsIn l k
  | _ :: l, k => defsIn l k
  | [], _ => none
structure E4 (W : Wd) (p : Params) : Prop where
  c : Ctx W gt4 bt4
  hK : W.K = hd.heap_39 p
  clo : ∀ fd b, (∃ o, W.K.lookup 643 = some o ∧ o.data = .func fd) → fd.body = .stmts b → (∀ k, W.clos k = defsIn b k) ∧ W.bnames = ownN fd.scope
  mg : W.mg "super" = none
  mb : W.mb "super" = some (.type "super")
  top : (W.prog.main.scope.names.lookup ("super" : Str)).isSome = false
  file : ((W.prog.main.file : Str) == ("/claim/cut.py" : Str)) = true
  hp : W.w.params = p
theorem E4.ok {W : Wd} {p : Params} (e : E4 W p) : W.Ok := e.c.ok
section
variable {W : Wd} {X : Sc} {n : Nat} {p : Params}
theorem SimV.isiA : SimV W n (.builtin "isinstance") [] (fun l k => orA (isiTF l k) (orA (isiF "int" l k) (orA (isiF "str" l k) (isiF "dict" l k)))) := by
  intro A σ σ' G s args kws ms ks' v hA r hne p2 p3 hf
  rcases orA_some hf with h | h
  · exact SimV.isiT A σ σ' G s args kws ms ks' v hA r hne p2 p3 h
  rcases orA_some h with h | h
  · exact SimV.isi isiInt A σ σ' G s args kws ms ks' v hA r hne p2 p3 h
  rcases orA_some h with h | h
  · exact SimV.isi isiStr A σ σ' G s args kws ms ks' v hA r hne p2 p3 h
  · exact SimV.isi isiDict A σ σ' G s args kws ms ks' v hA r hne p2 p3 h
theorem at_ring_runtime (e : E4 W p) : Op1 W (Rep W) n (fun v => getAttr v "runtime" true) (getNs 615 "runtime") := Op1.ns e.ok (cls_ring e.hK) (attr := none) (by rw [e.hK]; k_is) (by rw [e.hK]; k_is)
theorem at_ring_hashi (e : E4 W p) : Op1 W (Rep W) n (fun v => getAttr v "hashi" true) (getNs 615 "hashi") := Op1.ns e.ok (cls_ring e.hK) (attr := none) (by rw [e.hK]; k_is) (by rw [e.hK]; k_is)
theorem at_ring__default_vnodes (e : E4 W p) : Op1 W (Rep W) n (fun v => getAttr v "_default_vnodes" true) (getNs 615 "_default_vnodes") := Op1.ns e.ok (cls_ring e.hK) (attr := none) (by rw [e.hK]; k_is) (by rw [e.hK]; k_is)
theorem at_ring__weight_fn (e : E4 W p) : Op1 W (Rep W) n (fun v => getAttr v "_weight_fn" true) (getNs 615 "_weight_fn") := Op1.ns e.ok (cls_ring e.hK) (attr := none) (by rw [e.hK]; k_is) (by rw [e.hK]; k_is)
theorem at_meta__distribution (e : E4 W p) : Op1 W (Rep W) n (fun v => getAttr v "_distribution" true) (getNs 387 "_distribution") := Op1.ns e.ok (cls_meta e.hK) (attr := none) (by rw [e.hK]; k_is) (by rw [e.hK]; k_is)
theorem at_meta__keys (e : E4 W p) : Op1 W (Rep W) n (fun v => getAttr v "_keys" true) (getNs 387 "_keys") := Op1.ns e.ok (cls_meta e.hK) (attr := none) (by rw [e.hK]; k_is) (by rw [e.hK]; k_is)
theorem at_meta__node_points (e : E4 W p) : Op1 W (Rep W) n (fun v => getAttr v "_node_points" true) (getNs 387 "_node_points") := Op1.ns e.ok (cls_meta e.hK) (attr := none) (by rw [e.hK]; k_is) (by rw [e.hK]; k_is)
theorem at_meta__nodes (e : E4 W p) : Op1 W (Rep W) n (fun v => getAttr v "_nodes" true) (getNs 387 "_nodes") := Op1.ns e.ok (cls_meta e.hK) (attr := none) (by rw [e.hK]; k_is) (by rw [e.hK]; k_is)
theorem at_meta__ring (e : E4 W p) : Op1 W (Rep W) n (fun v => getAttr v "_ring" true) (getNs 387 "_ring") := Op1.ns e.ok (cls_meta e.hK) (attr := none) (by rw [e.hK]; k_is) (by rw [e.hK]; k_is)
theorem at_meta_hashi (e : E4 W p) : Op1 W (Rep W) n (fun v => getAttr v "hashi" true) (getBm 387 370 "hashi") :=
  Op1.bm e.ok (cls_meta e.hK) (by rw [e.hK]; k_is) (by rw [e.hK]; k_is) fun od h => findObj_meth (by rw [e.hK]; k_is) (by rw [e.hK]; k_is) (by rw [e.hK]; k_is) (by rw [e.hK]; k_is) (by decide +kernel) h
theorem st_meta__distribution (e : E4 W p) : takerIn W.K 387 "_distribution" = some none := by rw [e.hK]; k_is
theorem st_meta__keys (e : E4 W p) : takerIn W.K 387 "_keys" = some none := by rw [e.hK]; k_is
theorem st_meta__node_points (e : E4 W p) : takerIn W.K 387 "_node_points" = some none := by rw [e.hK]; k_is
theorem st_meta__nodes (e : E4 W p) : takerIn W.K 387 "_nodes" = some none := by rw [e.hK]; k_is
theorem st_meta__ring (e : E4 W p) : takerIn W.K 387 "_ring" = some none := by rw [e.hK]; k_is
theorem st_meta__hash_fn (e : E4 W p) : takerIn W.K 387 "_hash_fn" = some none := by rw [e.hK]; k_is
theorem st_ring_runtime (e : E4 W p) : takerIn W.K 615 "runtime" = some none := by rw [e.hK]; k_is
theorem st_ring_hashi (e : E4 W p) : takerIn W.K 615 "hashi" = some none := by rw [e.hK]; k_is
theorem st_ring__default_vnodes (e : E4 W p) : takerIn W.K 615 "_default_vnodes" = some none := by rw [e.hK]; k_is
theorem st_ring__weight_fn (e : E4 W p) : takerIn W.K 615 "_weight_fn" = some none := by rw [e.hK]; k_is
end
def missing : { g // ∀ {W p}, E4 W p → SimCall W 6 (.ref 98) [] g } := by
  refine' ⟨_, fun {W p} e => SimCall.fn e.ok (ps := [("self" : Str), ("key" : Str)]) ⟨⟨_, by rw [e.hK]; k_is, rfl⟩, rfl, rfl, rfl, rfl, rfl, rfl, rfl, ⟨_,_,_,_, rfl, by rw [e.hK]; k_is, rfl, rfl⟩, fnSc_of (by kernel_rfl)⟩ (SimBind.plain 2 rfl (fun ms h => _)) _⟩
  rotate_left
  · match ms, h with
    | [a, b], _ => rfl
  · exact SimX.cons (SimS.ret SimE.int) SimX.nil
def counterV : { g // ∀ {W p}, E4 W p → SimV W 8 (.ref 293) [] g } := ⟨_, fun {W p} e => by
  obtain ⟨T, fd, a1, a2, kw, hu⟩ := ctr_upd e.hK
  obtain ⟨cc, cda, T', fd', cd, b1, b2, kw', hi⟩ := ctr_ini e.hK e.mg e.mb e.top e.file
  exact SimV.ctr (n := 7) e.ok 3 (ctr_mk e.hK) (by rw [e.hK]; k_is) (SimCall.ini (n := 6) e.ok hi (by rw [e.hK]; k_is) (fun od h => findObj_meth (by rw [e.hK]; k_is) (by rw [e.hK]; k_is) (by rw [e.hK]; k_is) (by rw [e.hK]; k_is) (by decide +kernel) h) (SimCall.upd (n := 5) e.ok hu))⟩
noncomputable def placeF : { g // ∀ {W p}, E4 W p → SimF W 10 [] g } := by
  refine' ⟨_, fun {W p} e => SimF.clo (n := 9) e.ok (k := 0) (ps := [("key" : Str)]) ((e.clo _ _ ⟨_, by rw [e.hK]; k_is, rfl⟩ rfl).1 0 |>.trans rfl) (cloSc_of ((e.clo _ _ ⟨_, by rw [e.hK]; k_is, rfl⟩ rfl).2) (by kernel_rfl)) (fun fd q1 q2 q3 => SimBind.plain 1 rfl (fun ms h => _)) _⟩
  rotate_left
  · match ms, h with
    | [a], _ => cases fd; dsimp only at q1 q2 q3; subst q1; subst q2; subst q3; rfl
  · exact (SimX.cons (SimS.ret (SimE.ifexp (SimB.val e.ok (SimE.callV (ks := []) (Sim.name (Sim.bui e.c rfl rfl) (by decide +kernel)) (SimI.cons (Sim.name (Sim.ownL rfl rfl) (by decide +kernel)) (SimI.cons (Sim.name (Sim.bui e.c rfl rfl) (by decide +kernel)) SimI.nil (fun _ => rfl)) (fun _ => rfl)) SimK.nil (SimV.isiA) (fun _ => rfl) (fun _ => rfl)) (fun _ => rfl)) (SimE.binop (SimE.binop (Sim.name (Sim.botF rfl rfl (by decide +kernel)) (by decide +kernel)) (SimE.binop SimE.int (Sim.name (Sim.ownL rfl rfl) (by decide +kernel)) Op2.ar) Op2.ar) SimE.int Op2.ar) (SimE.sub (Sim.name (Sim.botF rfl rfl (by decide +kernel)) (by decide +kernel)) (Sim.name (Sim.ownL rfl rfl) (by decide +kernel)) (OpSub.get e.ok) (fun _ _ => rfl))))
 SimX.nil)
noncomputable def hashi : { g // ∀ {W p}, E4 W p → SimCall W 11 (.ref 370) [] g } := by
  refine' ⟨_, fun {W p} e => SimCall.fn e.ok (ps := [("self" : Str), ("key" : Str)]) ⟨⟨_, by rw [e.hK]; k_is, rfl⟩, rfl, rfl, rfl, rfl, rfl, rfl, rfl, ⟨_,_,_,_, rfl, by rw [e.hK]; k_is, rfl, rfl⟩, fnSc_of (by kernel_rfl)⟩ (SimBind.plain 2 rfl (fun ms h => _)) _⟩
  rotate_left
  · match ms, h with
    | [a, b], _ => rfl
  · exact (SimX.cons (SimS.ret (SimE.mcall (ks := []) (Sim.name (Sim.ownL rfl rfl) (by decide +kernel)) (SimI.cons (Sim.name (Sim.ownL rfl rfl) (by decide +kernel)) SimI.nil (fun _ => rfl)) SimK.nil (SimM.own e.ok (cls_meta e.hK) (by rw [e.hK]; k_is) (placeF.2 e)) (fun _ => rfl) (fun _ => rfl) (fun _ => ⟨_, rfl⟩)))
 SimX.nil)
noncomputable def createRing : { g // ∀ {W p}, E4 W p → SimCall W 21 (.ref 377) [] g } := by
  refine' ⟨_, fun {W p} e => SimCall.fn e.ok (ps := [("self" : Str), ("nodes" : Str)]) ⟨⟨_, by rw [e.hK]; k_is, rfl⟩, rfl, rfl, rfl, rfl, rfl, rfl, rfl, ⟨_,_,_,_, rfl, by rw [e.hK]; k_is, rfl, rfl⟩, fnSc_of (by kernel_rfl)⟩ (SimBind.plain 2 rfl (fun ms h => _)) _⟩
  rotate_left
  · match ms, h with
    | [a, b], _ => rfl
  · exact (SimX.cons (Sim.or (SimS.forItems (Sim.name (Sim.ownL rfl rfl) (by decide +kernel)) (SimT.tuple 2 (SimTs.cons (SimT.ownL rfl rfl) (SimTs.cons (SimT.ownL rfl rfl) SimTs.nil (fun _ => rfl)) (fun _ => rfl)) (fun _ => rfl) (fun _ => rfl)) (SimX.cons (SimS.assign (SimE.mcall (ks := []) (SimE.attr (Sim.name (Sim.ownL rfl rfl) (by decide +kernel)) (at_meta__node_points e) (fun _ => rfl)) (SimI.cons (Sim.name (Sim.ownL rfl rfl) (by decide +kernel)) (SimI.cons SimE.none SimI.nil (fun _ => rfl)) (fun _ => rfl)) SimK.nil (SimM.pop e.ok) (fun _ => rfl) (fun _ => rfl) (fun _ => ⟨_, rfl⟩)) (SimT.ownL rfl rfl) (fun _ _ => rfl) (fun _ _ => rfl) (fun _ => rfl))
 (SimX.cons (SimS.if (SimB.val e.ok (Sim.name (Sim.ownL rfl rfl) (by decide +kernel)) (fun _ => rfl)) (SimX.cons (SimS.for (SimIt.ofB (Sim.name (Sim.ownL rfl rfl) (by decide +kernel))) (SimT.ownL rfl rfl) (SimX.cons (SimS.if (SimB.cmp e.ok (SimE.mcall (ks := []) (SimE.attr (Sim.name (Sim.ownL rfl rfl) (by decide +kernel)) (at_meta__ring e) (fun _ => rfl)) (SimI.cons (Sim.name (Sim.ownL rfl rfl) (by decide +kernel)) SimI.nil (fun _ => rfl)) SimK.nil (SimM.dget e.ok) (fun _ => rfl) (fun _ => rfl) (fun _ => ⟨_, rfl⟩)) (Sim.name (Sim.ownL rfl rfl) (by decide +kernel)) (Op2.eq) rfl) (SimX.cons (SimS.del e.ok (SimE.attr (Sim.name (Sim.ownL rfl rfl) (by decide +kernel)) (at_meta__ring e) (fun _ => rfl)) (Sim.name (Sim.ownL rfl rfl) (by decide +kernel)))
 SimX.nil) SimX.nil)
 SimX.nil) SimX.nil (fun _ _ => rfl))
 (SimX.cons (SimS.expr (SimE.mcall (ks := []) (SimE.attr (Sim.name (Sim.ownL rfl rfl) (by decide +kernel)) (at_meta__distribution e) (fun _ => rfl)) (SimI.cons (Sim.name (Sim.ownL rfl rfl) (by decide +kernel)) (SimI.cons SimE.none SimI.nil (fun _ => rfl)) (fun _ => rfl)) SimK.nil (SimM.ctrPop e.ok (cls_ctr e.hK) (ctr_pop e.ok (cls_ctr e.hK))) (fun _ => rfl) (fun _ => rfl) (fun _ => ⟨_, rfl⟩)) (fun _ _ => rfl))
 SimX.nil)) SimX.nil)
 (SimX.cons (SimS.assign (SimE.list 9 SimI.nil) (SimT.ownL rfl rfl) (fun _ _ => rfl) (fun _ _ => rfl) (fun _ => rfl))
 (SimX.cons (SimS.for (SimIt.ofB (SimE.callV (ks := []) (Sim.name (Sim.bui e.c rfl rfl) (by decide +kernel)) (SimI.cons SimE.int (SimI.cons (SimE.binop (SimE.sub (Sim.name (Sim.ownL rfl rfl) (by decide +kernel)) SimE.str (OpSub.get e.ok) (fun _ _ => rfl)) (SimE.sub (Sim.name (Sim.ownL rfl rfl) (by decide +kernel)) SimE.str (OpSub.get e.ok) (fun _ _ => rfl)) Op2.ar) SimI.nil (fun _ => rfl)) (fun _ => rfl)) SimK.nil (SimV.range) (fun _ => rfl) (fun _ => rfl))) (SimT.ownL rfl rfl) (SimX.cons (SimS.augSub (SimE.attr (Sim.name (Sim.ownL rfl rfl) (by decide +kernel)) (at_meta__distribution e) (fun _ => rfl)) (Sim.name (Sim.ownL rfl rfl) (by decide +kernel)) (Op2g.ctrGet e.ok (cls_ctr e.hK) ((missing.2 e).up (by decide))) SimE.int Op2.iar (OpSet.ctr e.ok (cls_ctr e.hK)) (fun _ _ _ => rfl))
 (SimX.cons (SimS.assign (SimE.mcall (ks := []) (Sim.name (Sim.ownL rfl rfl) (by decide +kernel)) (SimI.cons (SimE.fstr (SimJ.cons (SimFP.val (Sim.name (Sim.ownL rfl rfl) (by decide +kernel))) (SimJ.cons SimFP.lit (SimJ.cons (SimFP.val (Sim.name (Sim.ownL rfl rfl) (by decide +kernel))) SimJ.nil (fun _ => rfl)) (fun _ => rfl)) (fun _ => rfl))) SimI.nil (fun _ => rfl)) SimK.nil (SimM.fn e.ok (cls_meta e.hK) (by rw [e.hK]; k_is) (by rw [e.hK]; k_is) (by rw [e.hK]; k_is) ((hashi.2 e).up (by decide))) (fun _ => rfl) (fun _ => rfl) (fun _ => ⟨_, rfl⟩)) (SimT.ownL rfl rfl) (fun _ _ => rfl) (fun _ _ => rfl) (fun _ => rfl))
 (SimX.cons (SimS.assign (Sim.name (Sim.ownL rfl rfl) (by decide +kernel)) (SimT.sub (SimE.attr (Sim.name (Sim.ownL rfl rfl) (by decide +kernel)) (at_meta__ring e) (fun _ => rfl)) (Sim.name (Sim.ownL rfl rfl) (by decide +kernel)) (OpSet.dict e.ok)) (fun _ _ => rfl) (fun _ _ => rfl) (fun _ => rfl))
 (SimX.cons (SimS.expr (SimE.mcall (ks := []) (Sim.name (Sim.ownL rfl rfl) (by decide +kernel)) (SimI.cons (Sim.name (Sim.ownL rfl rfl) (by decide +kernel)) SimI.nil (fun _ => rfl)) SimK.nil (SimM.append) (fun _ => rfl) (fun _ => rfl) (fun _ => ⟨_, rfl⟩)) (fun _ _ => rfl))
 SimX.nil)))) SimX.nil (fun _ _ => rfl))
 (SimX.cons (SimS.assign (Sim.name (Sim.ownL rfl rfl) (by decide +kernel)) (SimT.sub (SimE.attr (Sim.name (Sim.ownL rfl rfl) (by decide +kernel)) (at_meta__node_points e) (fun _ => rfl)) (Sim.name (Sim.ownL rfl rfl) (by decide +kernel)) (OpSet.dict e.ok)) (fun _ _ => rfl) (fun _ _ => rfl) (fun _ => rfl))
 SimX.nil))))) ⟨_, _, _, rfl⟩ (fun _ _ => rfl)) (SimS.for (SimIt.ofB (Sim.name (Sim.ownL rfl rfl) (by decide +kernel))) (SimT.tuple 2 (SimTs.cons (SimT.ownL rfl rfl) (SimTs.cons (SimT.ownL rfl rfl) SimTs.nil (fun _ => rfl)) (fun _ => rfl)) (fun _ => rfl) (fun _ => rfl)) (SimX.cons (SimS.assign (SimE.mcall (ks := []) (SimE.attr (Sim.name (Sim.ownL rfl rfl) (by decide +kernel)) (at_meta__node_points e) (fun _ => rfl)) (SimI.cons (Sim.name (Sim.ownL rfl rfl) (by decide +kernel)) (SimI.cons SimE.none SimI.nil (fun _ => rfl)) (fun _ => rfl)) SimK.nil (SimM.pop e.ok) (fun _ => rfl) (fun _ => rfl) (fun _ => ⟨_, rfl⟩)) (SimT.ownL rfl rfl) (fun _ _ => rfl) (fun _ _ => rfl) (fun _ => rfl))
 (SimX.cons (SimS.if (SimB.val e.ok (Sim.name (Sim.ownL rfl rfl) (by decide +kernel)) (fun _ => rfl)) (SimX.cons (SimS.for (SimIt.ofB (Sim.name (Sim.ownL rfl rfl) (by decide +kernel))) (SimT.ownL rfl rfl) (SimX.cons (SimS.if (SimB.cmp e.ok (SimE.mcall (ks := []) (SimE.attr (Sim.name (Sim.ownL rfl rfl) (by decide +kernel)) (at_meta__ring e) (fun _ => rfl)) (SimI.cons (Sim.name (Sim.ownL rfl rfl) (by decide +kernel)) SimI.nil (fun _ => rfl)) SimK.nil (SimM.dget e.ok) (fun _ => rfl) (fun _ => rfl) (fun _ => ⟨_, rfl⟩)) (Sim.name (Sim.ownL rfl rfl) (by decide +kernel)) (Op2.eq) rfl) (SimX.cons (SimS.del e.ok (SimE.attr (Sim.name (Sim.ownL rfl rfl) (by decide +kernel)) (at_meta__ring e) (fun _ => rfl)) (Sim.name (Sim.ownL rfl rfl) (by decide +kernel)))
 SimX.nil) SimX.nil)
 SimX.nil) SimX.nil (fun _ _ => rfl))
 (SimX.cons (SimS.expr (SimE.mcall (ks := []) (SimE.attr (Sim.name (Sim.ownL rfl rfl) (by decide +kernel)) (at_meta__distribution e) (fun _ => rfl)) (SimI.cons (Sim.name (Sim.ownL rfl rfl) (by decide +kernel)) (SimI.cons SimE.none SimI.nil (fun _ => rfl)) (fun _ => rfl)) SimK.nil (SimM.ctrPop e.ok (cls_ctr e.hK) (ctr_pop e.ok (cls_ctr e.hK))) (fun _ => rfl) (fun _ => rfl) (fun _ => ⟨_, rfl⟩)) (fun _ _ => rfl))
 SimX.nil)) SimX.nil)
 (SimX.cons (SimS.assign (SimE.list 9 SimI.nil) (SimT.ownL rfl rfl) (fun _ _ => rfl) (fun _ _ => rfl) (fun _ => rfl))
 (SimX.cons (SimS.for (SimIt.ofB (SimE.callV (ks := []) (Sim.name (Sim.bui e.c rfl rfl) (by decide +kernel)) (SimI.cons SimE.int (SimI.cons (SimE.binop (SimE.sub (Sim.name (Sim.ownL rfl rfl) (by decide +kernel)) SimE.str (OpSub.get e.ok) (fun _ _ => rfl)) (SimE.sub (Sim.name (Sim.ownL rfl rfl) (by decide +kernel)) SimE.str (OpSub.get e.ok) (fun _ _ => rfl)) Op2.ar) SimI.nil (fun _ => rfl)) (fun _ => rfl)) SimK.nil (SimV.range) (fun _ => rfl) (fun _ => rfl))) (SimT.ownL rfl rfl) (SimX.cons (SimS.augSub (SimE.attr (Sim.name (Sim.ownL rfl rfl) (by decide +kernel)) (at_meta__distribution e) (fun _ => rfl)) (Sim.name (Sim.ownL rfl rfl) (by decide +kernel)) (Op2g.ctrGet e.ok (cls_ctr e.hK) ((missing.2 e).up (by decide))) SimE.int Op2.iar (OpSet.ctr e.ok (cls_ctr e.hK)) (fun _ _ _ => rfl))
 (SimX.cons (SimS.assign (SimE.mcall (ks := []) (Sim.name (Sim.ownL rfl rfl) (by decide +kernel)) (SimI.cons (SimE.fstr (SimJ.cons (SimFP.val (Sim.name (Sim.ownL rfl rfl) (by decide +kernel))) (SimJ.cons SimFP.lit (SimJ.cons (SimFP.val (Sim.name (Sim.ownL rfl rfl) (by decide +kernel))) SimJ.nil (fun _ => rfl)) (fun _ => rfl)) (fun _ => rfl))) SimI.nil (fun _ => rfl)) SimK.nil (SimM.fn e.ok (cls_meta e.hK) (by rw [e.hK]; k_is) (by rw [e.hK]; k_is) (by rw [e.hK]; k_is) ((hashi.2 e).up (by decide))) (fun _ => rfl) (fun _ => rfl) (fun _ => ⟨_, rfl⟩)) (SimT.ownL rfl rfl) (fun _ _ => rfl) (fun _ _ => rfl) (fun _ => rfl))
 (SimX.cons (SimS.assign (Sim.name (Sim.ownL rfl rfl) (by decide +kernel)) (SimT.sub (SimE.attr (Sim.name (Sim.ownL rfl rfl) (by decide +kernel)) (at_meta__ring e) (fun _ => rfl)) (Sim.name (Sim.ownL rfl rfl) (by decide +kernel)) (OpSet.dict e.ok)) (fun _ _ => rfl) (fun _ _ => rfl) (fun _ => rfl))
 (SimX.cons (SimS.expr (SimE.mcall (ks := []) (Sim.name (Sim.ownL rfl rfl) (by decide +kernel)) (SimI.cons (Sim.name (Sim.ownL rfl rfl) (by decide +kernel)) SimI.nil (fun _ => rfl)) SimK.nil (SimM.append) (fun _ => rfl) (fun _ => rfl) (fun _ => ⟨_, rfl⟩)) (fun _ _ => rfl))
 SimX.nil)))) SimX.nil (fun _ _ => rfl))
 (SimX.cons (SimS.assign (Sim.name (Sim.ownL rfl rfl) (by decide +kernel)) (SimT.sub (SimE.attr (Sim.name (Sim.ownL rfl rfl) (by decide +kernel)) (at_meta__node_points e) (fun _ => rfl)) (Sim.name (Sim.ownL rfl rfl) (by decide +kernel)) (OpSet.dict e.ok)) (fun _ _ => rfl) (fun _ _ => rfl) (fun _ => rfl))
 SimX.nil))))) SimX.nil (fun _ _ => rfl)))
 (SimX.cons (SimS.assign (SimE.callV (ks := []) (Sim.name (Sim.bui e.c rfl rfl) (by decide +kernel)) (SimI.cons (SimE.mcall (ks := []) (SimE.attr (Sim.name (Sim.ownL rfl rfl) (by decide +kernel)) (at_meta__ring e) (fun _ => rfl)) SimI.nil SimK.nil (SimM.keys e.ok) (fun _ => rfl) (fun _ => rfl) (fun _ => ⟨_, rfl⟩)) SimI.nil (fun _ => rfl)) SimK.nil (SimV.sortedI e.ok) (fun _ => rfl) (fun _ => rfl)) (SimT.attr e.ok (cls_meta e.hK) (st_meta__keys e) (Sim.name (Sim.ownL rfl rfl) (by decide +kernel))) (fun _ _ => rfl) (fun _ _ => rfl) (fun _ => rfl))
 SimX.nil))
noncomputable def metaInit : { g // ∀ {W p}, E4 W p → SimCall W 21 (.ref 363) [] g } := by
  refine' ⟨_, fun {W p} e => SimCall.fn e.ok (ps := [("self" : Str), ("hash_fn" : Str), ("md5" : Str)]) ⟨⟨_, by rw [e.hK]; k_is, rfl⟩, rfl, rfl, rfl, rfl, rfl, rfl, rfl, ⟨_,_,_,_, rfl, by rw [e.hK]; k_is, rfl, rfl⟩, fnSc_of (by kernel_rfl)⟩ (SimBind.dflt e.ok 3 [] [] (T := 356) (by rw [e.hK]; k_is) rfl (fun _ _ _ _ => rfl) (fun ms s h q => _)) _⟩
  rotate_left
  · match ms, h with
    | [a, b, c], _ => exact BindsTo.of_defaults rfl q rfl rfl rfl
  · exact (SimX.cons (SimS.assign (SimE.callV (ks := []) (Sim.name (Sim.glob e.c rfl rfl) (by decide +kernel)) SimI.nil SimK.nil (SimV.up (by decide) (counterV.2 e)) (fun _ => rfl) (fun _ => rfl)) (SimT.attr e.ok (cls_meta e.hK) (st_meta__distribution e) (Sim.name (Sim.ownL rfl rfl) (by decide +kernel))) (fun _ _ => rfl) (fun _ _ => rfl) (fun _ => rfl))
 (SimX.cons (SimS.assign (SimE.listz SimI.nil) (SimT.attr e.ok (cls_meta e.hK) (st_meta__keys e) (Sim.name (Sim.ownL rfl rfl) (by decide +kernel))) (fun _ _ => rfl) (fun _ _ => rfl) (fun _ => rfl))
 (SimX.cons (SimS.assign (SimE.dict0 4) (SimT.attr e.ok (cls_meta e.hK) (st_meta__node_points e) (Sim.name (Sim.ownL rfl rfl) (by decide +kernel))) (fun _ _ => rfl) (fun _ _ => rfl) (fun _ => rfl))
 (SimX.cons (SimS.assign (SimE.dict0 5) (SimT.attr e.ok (cls_meta e.hK) (st_meta__nodes e) (Sim.name (Sim.ownL rfl rfl) (by decide +kernel))) (fun _ _ => rfl) (fun _ _ => rfl) (fun _ => rfl))
 (SimX.cons (SimS.assign (SimE.dict0I 6) (SimT.attr e.ok (cls_meta e.hK) (st_meta__ring e) (Sim.name (Sim.ownL rfl rfl) (by decide +kernel))) (fun _ _ => rfl) (fun _ _ => rfl) (fun _ => rfl))
 (SimX.cons (SimS.if (SimB.boolop (SimAll.and (SimB.val e.ok (Sim.name (Sim.ownL rfl rfl) (by decide +kernel)) (fun _ => rfl)) (SimAll.and (SimB.val e.ok (SimE.callV (ks := []) (Sim.name (Sim.bui e.c rfl rfl) (by decide +kernel)) (SimI.cons (Sim.name (Sim.ownL rfl rfl) (by decide +kernel)) (SimI.cons (SimE.tuple (SimI.cons (Sim.name (Sim.bui e.c rfl rfl) (by decide +kernel)) (SimI.cons (Sim.name (Sim.bui e.c rfl rfl) (by decide +kernel)) (SimI.cons (Sim.name (Sim.bui e.c rfl rfl) (by decide +kernel)) (SimI.cons (Sim.name (Sim.bui e.c rfl rfl) (by decide +kernel)) (SimI.cons (Sim.name (Sim.bui e.c rfl rfl) (by decide +kernel)) (SimI.cons (Sim.name (Sim.bui e.c rfl rfl) (by decide +kernel)) (SimI.cons (Sim.name (Sim.bui e.c rfl rfl) (by decide +kernel)) SimI.nil (fun _ => rfl)) (fun _ => rfl)) (fun _ => rfl)) (fun _ => rfl)) (fun _ => rfl)) (fun _ => rfl)) (fun _ => rfl))) SimI.nil (fun _ => rfl)) (fun _ => rfl)) SimK.nil (SimV.isiA) (fun _ => rfl) (fun _ => rfl)) (fun _ => rfl)) SimAll.andNil))) (SimX.cons Sim.no
 SimX.nil) SimX.nil)
 (SimX.cons (SimS.assign (SimE.or2 e.ok (Sim.name (Sim.ownL rfl rfl) (by decide +kernel)) Sim.no) (SimT.attr e.ok (cls_meta e.hK) (st_meta__hash_fn e) (Sim.name (Sim.ownL rfl rfl) (by decide +kernel))) (fun _ _ => rfl) (fun _ _ => rfl) (fun _ => rfl))
 SimX.nil)))))))
noncomputable def confNodes : { g // ∀ {W p}, E4 W p → SimCall W 21 (.ref 412) [] g } := by
  refine' ⟨_, fun {W p} e => SimCall.fn e.ok (ps := [("self" : Str), ("nodes" : Str)]) ⟨⟨_, by rw [e.hK]; k_is, rfl⟩, rfl, rfl, rfl, rfl, rfl, rfl, rfl, ⟨_,_,_,_, rfl, by rw [e.hK]; k_is, rfl, rfl⟩, fnSc_of (by kernel_rfl)⟩ (SimBind.plain 2 rfl (fun ms h => _)) _⟩
  rotate_left
  · match ms, h with
    | [a, b], _ => rfl
  · exact (SimX.cons (SimS.if (SimB.val e.ok (SimE.callV (ks := []) (Sim.name (Sim.bui e.c rfl rfl) (by decide +kernel)) (SimI.cons (Sim.name (Sim.ownL rfl rfl) (by decide +kernel)) (SimI.cons (Sim.name (Sim.bui e.c rfl rfl) (by decide +kernel)) SimI.nil (fun _ => rfl)) (fun _ => rfl)) SimK.nil (SimV.isiA) (fun _ => rfl) (fun _ => rfl)) (fun _ => rfl)) (SimX.cons Sim.no
 SimX.nil) (SimX.cons (SimS.if (SimB.not (SimB.val e.ok (SimE.callV (ks := []) (Sim.name (Sim.bui e.c rfl rfl) (by decide +kernel)) (SimI.cons (Sim.name (Sim.ownL rfl rfl) (by decide +kernel)) (SimI.cons (SimE.tuple (SimI.cons (Sim.name (Sim.bui e.c rfl rfl) (by decide +kernel)) (SimI.cons (Sim.name (Sim.bui e.c rfl rfl) (by decide +kernel)) SimI.nil (fun _ => rfl)) (fun _ => rfl))) SimI.nil (fun _ => rfl)) (fun _ => rfl)) SimK.nil (SimV.isiA) (fun _ => rfl) (fun _ => rfl)) (fun _ => rfl))) (SimX.cons Sim.no
 SimX.nil) SimX.nil)
 SimX.nil))
 (SimX.cons (SimS.assign SimE.bool (SimT.ownL rfl rfl) (fun _ _ => rfl) (fun _ _ => rfl) (fun _ => rfl))
 (SimX.cons (SimS.for (SimIt.ofB (Sim.name (Sim.ownL rfl rfl) (by decide +kernel))) (SimT.ownL rfl rfl) (SimX.cons (SimS.assign (SimE.dictK e.ok 7 (SimPs.cons SimE.str (Sim.name (Sim.ownL rfl rfl) (by decide +kernel)) (SimPs.cons SimE.str SimE.none (SimPs.cons SimE.str (Sim.name (Sim.ownL rfl rfl) (by decide +kernel)) (SimPs.cons SimE.str SimE.none (SimPs.cons SimE.str (SimE.attr (Sim.name (Sim.ownL rfl rfl) (by decide +kernel)) (at_ring__default_vnodes e) (fun _ => rfl)) (SimPs.cons SimE.str SimE.int SimPs.nil)))))) (fun _ => rfl) rfl (by decide)) (SimT.ownL rfl rfl) (fun _ _ => rfl) (fun _ _ => rfl) (fun _ => rfl))
 (SimX.cons (SimS.assign (SimE.mcall (ks := []) (SimE.attr (SimE.attr (Sim.name (Sim.ownL rfl rfl) (by decide +kernel)) (at_ring_runtime e) (fun _ => rfl)) (at_meta__nodes e) (fun _ => rfl)) (SimI.cons (Sim.name (Sim.ownL rfl rfl) (by decide +kernel)) (SimI.cons SimE.dictz0 SimI.nil (fun _ => rfl)) (fun _ => rfl)) SimK.nil (SimM.dget e.ok) (fun _ => rfl) (fun _ => rfl) (fun _ => ⟨_, rfl⟩)) (SimT.ownL rfl rfl) (fun _ _ => rfl) (fun _ _ => rfl) (fun _ => rfl))
 (SimX.cons (SimS.assign (Sim.name (Sim.ownL rfl rfl) (by decide +kernel)) (SimT.ownL rfl rfl) (fun _ _ => rfl) (fun _ _ => rfl) (fun _ => rfl))
 (SimX.cons (SimS.if (SimB.not (SimB.val e.ok (Sim.name (Sim.ownL rfl rfl) (by decide +kernel)) (fun _ => rfl))) (SimX.cons (SimS.assign SimE.bool (SimT.ownL rfl rfl) (fun _ _ => rfl) (fun _ _ => rfl) (fun _ => rfl))
 SimX.nil) SimX.nil)
 (SimX.cons (SimS.if (SimB.val e.ok (SimE.callV (ks := []) (Sim.name (Sim.bui e.c rfl rfl) (by decide +kernel)) (SimI.cons (Sim.name (Sim.ownL rfl rfl) (by decide +kernel)) (SimI.cons (Sim.name (Sim.bui e.c rfl rfl) (by decide +kernel)) SimI.nil (fun _ => rfl)) (fun _ => rfl)) SimK.nil (SimV.isiA) (fun _ => rfl) (fun _ => rfl)) (fun _ => rfl)) (SimX.cons (SimS.assign (SimE.sub (Sim.name (Sim.ownL rfl rfl) (by decide +kernel)) (Sim.name (Sim.ownL rfl rfl) (by decide +kernel)) (OpSub.get e.ok) (fun _ _ => rfl)) (SimT.ownL rfl rfl) (fun _ _ => rfl) (fun _ _ => rfl) (fun _ => rfl))
 (SimX.cons (SimS.if (SimB.val e.ok (SimE.callV (ks := []) (Sim.name (Sim.bui e.c rfl rfl) (by decide +kernel)) (SimI.cons (Sim.name (Sim.ownL rfl rfl) (by decide +kernel)) (SimI.cons (Sim.name (Sim.bui e.c rfl rfl) (by decide +kernel)) SimI.nil (fun _ => rfl)) (fun _ => rfl)) SimK.nil (SimV.isiA) (fun _ => rfl) (fun _ => rfl)) (fun _ => rfl)) (SimX.cons (SimS.assign (Sim.name (Sim.ownL rfl rfl) (by decide +kernel)) (SimT.sub (Sim.name (Sim.ownL rfl rfl) (by decide +kernel)) SimE.str (OpSet.dict e.ok)) (fun _ _ => rfl) (fun _ _ => rfl) (fun _ => rfl))
 SimX.nil) (SimX.cons (SimS.if (SimB.val e.ok (SimE.callV (ks := []) (Sim.name (Sim.bui e.c rfl rfl) (by decide +kernel)) (SimI.cons (Sim.name (Sim.ownL rfl rfl) (by decide +kernel)) (SimI.cons (Sim.name (Sim.bui e.c rfl rfl) (by decide +kernel)) SimI.nil (fun _ => rfl)) (fun _ => rfl)) SimK.nil (SimV.isiA) (fun _ => rfl) (fun _ => rfl)) (fun _ => rfl)) (SimX.frz "node_conf" rfl (SimX.cons (SimS.forItemsZ (SimE.mcall (ks := []) (Sim.name (Sim.ownL rfl rfl) (by decide +kernel)) SimI.nil SimK.nil (SimM.items e.ok) (fun _ => rfl) (fun _ => rfl) (fun _ => ⟨_, rfl⟩)) (SimT.tuple 2 (SimTs.cons (SimT.ownL rfl rfl) (SimTs.cons (SimT.ownL rfl rfl) SimTs.nil (fun _ => rfl)) (fun _ => rfl)) (fun _ => rfl) (fun _ => rfl)) (SimX.cons (SimS.if (SimB.cmp e.ok (Sim.name (Sim.ownL rfl rfl) (by decide +kernel)) (Sim.name (Sim.ownL rfl rfl) (by decide +kernel)) (Op2.in e.ok) rfl) (SimX.cons (SimS.assign (Sim.name (Sim.ownL rfl rfl) (by decide +kernel)) (SimT.sub (Sim.name (Sim.ownL rfl rfl) (by decide +kernel)) (Sim.name (Sim.ownL rfl rfl) (by decide +kernel)) (OpSet.dict e.ok)) (fun _ _ => rfl) (fun _ _ => rfl) (fun _ => rfl))
 (SimX.cons (SimS.if (SimB.cmp e.ok (Sim.name (Sim.ownL rfl rfl) (by decide +kernel)) (SimE.listz (SimI.cons SimE.str (SimI.cons SimE.str (SimI.cons SimE.str SimI.nil (fun _ => rfl)) (fun _ => rfl)) (fun _ => rfl))) (Op2.in e.ok) rfl) (SimX.cons (SimS.if (SimB.cmp e.ok (SimE.mcall (ks := []) (Sim.name (Sim.ownL rfl rfl) (by decide +kernel)) (SimI.cons (Sim.name (Sim.ownL rfl rfl) (by decide +kernel)) SimI.nil (fun _ => rfl)) SimK.nil (SimM.dget e.ok) (fun _ => rfl) (fun _ => rfl) (fun _ => ⟨_, rfl⟩)) (Sim.name (Sim.ownL rfl rfl) (by decide +kernel)) Op2.ne rfl) (SimX.cons (SimS.assign SimE.bool (SimT.ownL rfl rfl) (fun _ _ => rfl) (fun _ _ => rfl) (fun _ => rfl))
 SimX.nil) SimX.nil)
 SimX.nil) SimX.nil)
 SimX.nil)) SimX.nil)
 SimX.nil) ⟨_, _, _, rfl⟩ (fun _ _ => rfl))
 SimX.nil)) (SimX.cons Sim.no
 SimX.nil))
 SimX.nil))
 SimX.nil)) SimX.nil)
 (SimX.cons (SimS.if (SimB.val e.ok (SimE.attr (Sim.name (Sim.ownL rfl rfl) (by decide +kernel)) (at_ring__weight_fn e) (fun _ => rfl)) (fun _ => rfl)) (SimX.cons Sim.no
 SimX.nil) SimX.nil)
 (SimX.cons (SimS.if (SimB.cmp e.ok (SimE.mcall (ks := []) (Sim.name (Sim.ownL rfl rfl) (by decide +kernel)) (SimI.cons SimE.str SimI.nil (fun _ => rfl)) SimK.nil (SimM.dget e.ok) (fun _ => rfl) (fun _ => rfl) (fun _ => ⟨_, rfl⟩)) (SimE.sub (Sim.name (Sim.ownL rfl rfl) (by decide +kernel)) SimE.str (OpSub.get e.ok) (fun _ _ => rfl)) Op2.ne rfl) (SimX.cons (SimS.assign SimE.bool (SimT.ownL rfl rfl) (fun _ _ => rfl) (fun _ _ => rfl) (fun _ => rfl))
 SimX.nil) SimX.nil)
 (SimX.cons (SimS.assign (Sim.name (Sim.ownL rfl rfl) (by decide +kernel)) (SimT.sub (SimE.attr (SimE.attr (Sim.name (Sim.ownL rfl rfl) (by decide +kernel)) (at_ring_runtime e) (fun _ => rfl)) (at_meta__nodes e) (fun _ => rfl)) (Sim.name (Sim.ownL rfl rfl) (by decide +kernel)) (OpSet.dict e.ok)) (fun _ _ => rfl) (fun _ _ => rfl) (fun _ => rfl))
 SimX.nil)))))))) SimX.nil (fun _ _ => rfl))
 (SimX.cons (SimS.ret (Sim.name (Sim.ownL rfl rfl) (by decide +kernel)))
 SimX.nil))))
noncomputable def ringInit : { g // ∀ {W p}, E4 W p → SimCall W 31 (.ref 405) [("hash_fn" : Str), ("vnodes" : Str)] g } := by
  refine' ⟨_, fun {W p} e => SimCall.fn e.ok (ps := [("self" : Str), ("nodes" : Str), ("kwargs" : Str)]) ⟨⟨_, by rw [e.hK]; k_is, rfl⟩, rfl, rfl, rfl, rfl, rfl, rfl, rfl, ⟨_,_,_,_, rfl, by rw [e.hK]; k_is, rfl, rfl⟩, fnSc_of (by kernel_rfl)⟩ (SimBind.kw2e e.ok (k1 := "hash_fn") (k2 := "vnodes") (p1 := "self") (p2 := "nodes") (p3 := "kwargs") (T := 400) _ (by rw [e.hK]; k_is) rfl (by decide +kernel) (fun x y u v => _)) _⟩
  rotate_left
  · rfl
  · exact ⟨_, rfl, rfl⟩
  · exact (SimX.cons (SimS.assign (SimE.mcall (ks := []) (Sim.name (Sim.ownL rfl rfl) (by decide +kernel)) (SimI.cons SimE.str (SimI.cons SimE.none SimI.nil (fun _ => rfl)) (fun _ => rfl)) SimK.nil (SimM.dget e.ok) (fun _ => rfl) (fun _ => rfl) (fun _ => ⟨_, rfl⟩)) (SimT.ownL rfl rfl) (fun _ _ => rfl) (fun _ _ => rfl) (fun _ => rfl))
 (SimX.cons (SimS.assign (SimE.mcall (ks := []) (Sim.name (Sim.ownL rfl rfl) (by decide +kernel)) (SimI.cons SimE.str (SimI.cons SimE.none SimI.nil (fun _ => rfl)) (fun _ => rfl)) SimK.nil (SimM.dget e.ok) (fun _ => rfl) (fun _ => rfl) (fun _ => ⟨_, rfl⟩)) (SimT.ownL rfl rfl) (fun _ _ => rfl) (fun _ _ => rfl) (fun _ => rfl))
 (SimX.cons (SimS.assign (SimE.mcall (ks := []) (Sim.name (Sim.ownL rfl rfl) (by decide +kernel)) (SimI.cons SimE.str (SimI.cons SimE.none SimI.nil (fun _ => rfl)) (fun _ => rfl)) SimK.nil (SimM.dget e.ok) (fun _ => rfl) (fun _ => rfl) (fun _ => ⟨_, rfl⟩)) (SimT.ownL rfl rfl) (fun _ _ => rfl) (fun _ _ => rfl) (fun _ => rfl))
 (SimX.cons (SimS.if (SimB.cmp e.ok (Sim.name (Sim.ownL rfl rfl) (by decide +kernel)) SimE.str (Op2.eqFS) rfl) (SimX.cons Sim.no
 (SimX.cons Sim.no
 (SimX.cons Sim.no
 SimX.nil))) (SimX.cons (SimS.if (SimB.cmp e.ok (Sim.name (Sim.ownL rfl rfl) (by decide +kernel)) SimE.none Op2.ord rfl) (SimX.cons (SimS.assign SimE.int (SimT.ownL rfl rfl) (fun _ _ => rfl) (fun _ _ => rfl) (fun _ => rfl))
 SimX.nil) SimX.nil)
 (SimX.cons (SimS.assign (SimE.callV (ks := []) (Sim.name (Sim.glob e.c rfl rfl) (by decide +kernel)) (SimI.cons (Sim.name (Sim.ownL rfl rfl) (by decide +kernel)) (SimI.cons (SimE.mcall (ks := []) (Sim.name (Sim.ownL rfl rfl) (by decide +kernel)) (SimI.cons SimE.str (SimI.cons SimE.none SimI.nil (fun _ => rfl)) (fun _ => rfl)) SimK.nil (SimM.dget e.ok) (fun _ => rfl) (fun _ => rfl) (fun _ => ⟨_, rfl⟩)) SimI.nil (fun _ => rfl)) (fun _ => rfl)) SimK.nil (SimV.cls e.ok 2 (by rw [e.hK]; k_is) (by rw [e.hK]; k_is) (by rw [e.hK]; k_is) (by rw [e.hK]; k_is) ((metaInit.2 e).up (by decide))) (fun _ => rfl) (fun _ => rfl)) (SimT.attr e.ok (cls_ring e.hK) (st_ring_runtime e) (Sim.name (Sim.ownL rfl rfl) (by decide +kernel))) (fun _ _ => rfl) (fun _ _ => rfl) (fun _ => rfl))
 SimX.nil)))
 (SimX.cons (SimS.assign (Sim.name (Sim.ownL rfl rfl) (by decide +kernel)) (SimT.attr e.ok (cls_ring e.hK) (st_ring__default_vnodes e) (Sim.name (Sim.ownL rfl rfl) (by decide +kernel))) (fun _ _ => rfl) (fun _ _ => rfl) (fun _ => rfl))
 (SimX.cons (SimS.assign (SimE.attr (SimE.attr (Sim.name (Sim.ownL rfl rfl) (by decide +kernel)) (at_ring_runtime e) (fun _ => rfl)) (at_meta_hashi e) (fun _ => rfl)) (SimT.attr e.ok (cls_ring e.hK) (st_ring_hashi e) (Sim.name (Sim.ownL rfl rfl) (by decide +kernel))) (fun _ _ => rfl) (fun _ _ => rfl) (fun _ => rfl))
 (SimX.cons (SimS.if (SimB.boolop (SimAll.and (SimB.val e.ok (Sim.name (Sim.ownL rfl rfl) (by decide +kernel)) (fun _ => rfl)) (SimAll.and (SimB.val e.ok (SimE.callV (ks := []) (Sim.name (Sim.bui e.c rfl rfl) (by decide +kernel)) (SimI.cons (Sim.name (Sim.ownL rfl rfl) (by decide +kernel)) (SimI.cons (SimE.tuple (SimI.cons (Sim.name (Sim.bui e.c rfl rfl) (by decide +kernel)) (SimI.cons (Sim.name (Sim.bui e.c rfl rfl) (by decide +kernel)) (SimI.cons (Sim.name (Sim.bui e.c rfl rfl) (by decide +kernel)) (SimI.cons (Sim.name (Sim.bui e.c rfl rfl) (by decide +kernel)) (SimI.cons (Sim.name (Sim.bui e.c rfl rfl) (by decide +kernel)) (SimI.cons (Sim.name (Sim.bui e.c rfl rfl) (by decide +kernel)) (SimI.cons (Sim.name (Sim.bui e.c rfl rfl) (by decide +kernel)) SimI.nil (fun _ => rfl)) (fun _ => rfl)) (fun _ => rfl)) (fun _ => rfl)) (fun _ => rfl)) (fun _ => rfl)) (fun _ => rfl))) SimI.nil (fun _ => rfl)) (fun _ => rfl)) SimK.nil (SimV.isiA) (fun _ => rfl) (fun _ => rfl)) (fun _ => rfl)) SimAll.andNil))) (SimX.cons Sim.no
 SimX.nil) SimX.nil)
 (SimX.cons (SimS.assign (Sim.name (Sim.ownL rfl rfl) (by decide +kernel)) (SimT.attr e.ok (cls_ring e.hK) (st_ring__weight_fn e) (Sim.name (Sim.ownL rfl rfl) (by decide +kernel))) (fun _ _ => rfl) (fun _ _ => rfl) (fun _ => rfl))
 (SimX.cons (SimS.if (SimB.val e.ok (SimE.mcall (ks := []) (Sim.name (Sim.ownL rfl rfl) (by decide +kernel)) (SimI.cons (Sim.name (Sim.ownL rfl rfl) (by decide +kernel)) SimI.nil (fun _ => rfl)) SimK.nil (SimM.fn e.ok (cls_ring e.hK) (by rw [e.hK]; k_is) (by rw [e.hK]; k_is) (by rw [e.hK]; k_is) ((confNodes.2 e).up (by decide))) (fun _ => rfl) (fun _ => rfl) (fun _ => ⟨_, rfl⟩)) (fun _ => rfl)) (SimX.cons (SimS.expr (SimE.mcall (ks := []) (SimE.attr (Sim.name (Sim.ownL rfl rfl) (by decide +kernel)) (at_ring_runtime e) (fun _ => rfl)) (SimI.cons (SimE.mcall (ks := []) (SimE.attr (SimE.attr (Sim.name (Sim.ownL rfl rfl) (by decide +kernel)) (at_ring_runtime e) (fun _ => rfl)) (at_meta__nodes e) (fun _ => rfl)) SimI.nil SimK.nil (SimM.items e.ok) (fun _ => rfl) (fun _ => rfl) (fun _ => ⟨_, rfl⟩)) SimI.nil (fun _ => rfl)) SimK.nil (SimM.fn e.ok (cls_meta e.hK) (by rw [e.hK]; k_is) (by rw [e.hK]; k_is) (by rw [e.hK]; k_is) ((createRing.2 e).up (by decide))) (fun _ => rfl) (fun _ => rfl) (fun _ => ⟨_, rfl⟩)) (fun _ _ => rfl))
 SimX.nil) SimX.nil)
 SimX.nil)))))))))
noncomputable def removeM : { g // ∀ {W p}, E4 W p → SimCall W 21 (.ref 384) [] g } := by
  refine' ⟨_, fun {W p} e => SimCall.fn e.ok (ps := [("self" : Str), ("node_name" : Str)]) ⟨⟨_, by rw [e.hK]; k_is, rfl⟩, rfl, rfl, rfl, rfl, rfl, rfl, rfl, ⟨_,_,_,_, rfl, by rw [e.hK]; k_is, rfl, rfl⟩, fnSc_of (by kernel_rfl)⟩ (SimBind.plain 2 rfl (fun ms h => _)) _⟩
  rotate_left
  · match ms, h with
    | [a, b], _ => rfl
  · exact (SimX.cons (SimS.if (SimB.cmp e.ok (Sim.name (Sim.ownL rfl rfl) (by decide +kernel)) (SimE.attr (Sim.name (Sim.ownL rfl rfl) (by decide +kernel)) (at_meta__nodes e) (fun _ => rfl)) (Op2.notIn e.ok) rfl) (SimX.cons Sim.no
 SimX.nil) SimX.nil)
 (SimX.cons (SimS.assign (SimE.sub (SimE.attr (Sim.name (Sim.ownL rfl rfl) (by decide +kernel)) (at_meta__node_points e) (fun _ => rfl)) (Sim.name (Sim.ownL rfl rfl) (by decide +kernel)) (OpSub.get e.ok) (fun _ _ => rfl)) (SimT.ownL rfl rfl) (fun _ _ => rfl) (fun _ _ => rfl) (fun _ => rfl))
 (SimX.cons (SimS.expr (SimE.mcall (ks := []) (SimE.attr (Sim.name (Sim.ownL rfl rfl) (by decide +kernel)) (at_meta__nodes e) (fun _ => rfl)) (SimI.cons (Sim.name (Sim.ownL rfl rfl) (by decide +kernel)) SimI.nil (fun _ => rfl)) SimK.nil (SimM.pop e.ok) (fun _ => rfl) (fun _ => rfl) (fun _ => ⟨_, rfl⟩)) (fun _ _ => rfl))
 (SimX.cons (SimS.expr (SimE.mcall (ks := []) (SimE.attr (Sim.name (Sim.ownL rfl rfl) (by decide +kernel)) (at_meta__node_points e) (fun _ => rfl)) (SimI.cons (Sim.name (Sim.ownL rfl rfl) (by decide +kernel)) SimI.nil (fun _ => rfl)) SimK.nil (SimM.pop e.ok) (fun _ => rfl) (fun _ => rfl) (fun _ => ⟨_, rfl⟩)) (fun _ _ => rfl))
 (SimX.cons (SimS.expr (SimE.mcall (ks := []) (SimE.attr (Sim.name (Sim.ownL rfl rfl) (by decide +kernel)) (at_meta__distribution e) (fun _ => rfl)) (SimI.cons (Sim.name (Sim.ownL rfl rfl) (by decide +kernel)) SimI.nil (fun _ => rfl)) SimK.nil (SimM.ctrPop e.ok (cls_ctr e.hK) (ctr_pop e.ok (cls_ctr e.hK))) (fun _ => rfl) (fun _ => rfl) (fun _ => ⟨_, rfl⟩)) (fun _ _ => rfl))
 (SimX.cons (SimS.for (SimIt.ofB (Sim.name (Sim.ownL rfl rfl) (by decide +kernel))) (SimT.ownL rfl rfl) (SimX.cons (SimS.if (SimB.cmp e.ok (SimE.mcall (ks := []) (SimE.attr (Sim.name (Sim.ownL rfl rfl) (by decide +kernel)) (at_meta__ring e) (fun _ => rfl)) (SimI.cons (Sim.name (Sim.ownL rfl rfl) (by decide +kernel)) SimI.nil (fun _ => rfl)) SimK.nil (SimM.dget e.ok) (fun _ => rfl) (fun _ => rfl) (fun _ => ⟨_, rfl⟩)) (Sim.name (Sim.ownL rfl rfl) (by decide +kernel)) (Op2.eq) rfl) (SimX.cons (SimS.del e.ok (SimE.attr (Sim.name (Sim.ownL rfl rfl) (by decide +kernel)) (at_meta__ring e) (fun _ => rfl)) (Sim.name (Sim.ownL rfl rfl) (by decide +kernel)))
 SimX.nil) SimX.nil)
 SimX.nil) SimX.nil (fun _ _ => rfl))
 (SimX.cons (SimS.assign (SimE.callV (ks := []) (Sim.name (Sim.bui e.c rfl rfl) (by decide +kernel)) (SimI.cons (SimE.mcall (ks := []) (SimE.attr (Sim.name (Sim.ownL rfl rfl) (by decide +kernel)) (at_meta__ring e) (fun _ => rfl)) SimI.nil SimK.nil (SimM.keys e.ok) (fun _ => rfl) (fun _ => rfl) (fun _ => ⟨_, rfl⟩)) SimI.nil (fun _ => rfl)) SimK.nil (SimV.sortedI e.ok) (fun _ => rfl) (fun _ => rfl)) (SimT.attr e.ok (cls_meta e.hK) (st_meta__keys e) (Sim.name (Sim.ownL rfl rfl) (by decide +kernel))) (fun _ _ => rfl) (fun _ _ => rfl) (fun _ => rfl))
 SimX.nil)))))))
noncomputable def delItem : { g // ∀ {W p}, E4 W p → SimCall W 31 (.ref 419) [] g } := by
  refine' ⟨_, fun {W p} e => SimCall.fn e.ok (ps := [("self" : Str), ("nodename" : Str)]) ⟨⟨_, by rw [e.hK]; k_is, rfl⟩, rfl, rfl, rfl, rfl, rfl, rfl, rfl, ⟨_,_,_,_, rfl, by rw [e.hK]; k_is, rfl, rfl⟩, fnSc_of (by kernel_rfl)⟩ (SimBind.plain 2 rfl (fun ms h => _)) _⟩
  rotate_left
  · match ms, h with
    | [a, b], _ => rfl
  · exact (SimX.cons (SimS.expr (SimE.mcall (ks := []) (SimE.attr (Sim.name (Sim.ownL rfl rfl) (by decide +kernel)) (at_ring_runtime e) (fun _ => rfl)) (SimI.cons (Sim.name (Sim.ownL rfl rfl) (by decide +kernel)) SimI.nil (fun _ => rfl)) SimK.nil (SimM.fn e.ok (cls_meta e.hK) (by rw [e.hK]; k_is) (by rw [e.hK]; k_is) (by rw [e.hK]; k_is) ((removeM.2 e).up (by decide))) (fun _ => rfl) (fun _ => rfl) (fun _ => ⟨_, rfl⟩)) (fun _ _ => rfl))
 SimX.nil)
noncomputable def pNodes : { g // ∀ {W p}, E4 W p → SimCall W 6 (.ref 603) [] g } := by
  refine' ⟨_, fun {W p} e => SimCall.fn e.ok (ps := [("self" : Str)]) ⟨⟨_, by rw [e.hK]; k_is, rfl⟩, rfl, rfl, rfl, rfl, rfl, rfl, rfl, ⟨_,_,_,_, rfl, by rw [e.hK]; k_is, rfl, rfl⟩, fnSc_of (by kernel_rfl)⟩ (SimBind.plain 1 rfl (fun ms h => _)) _⟩
  rotate_left
  · match ms, h with
    | [a], _ => rfl
  · exact (SimX.cons (SimS.ret (SimE.attr (SimE.attr (Sim.name (Sim.ownL rfl rfl) (by decide +kernel)) (at_ring_runtime e) (fun _ => rfl)) (at_meta__nodes e) (fun _ => rfl)))
 SimX.nil)
theorem pr_pNodes {W : Wd} {p : Params} (e : E4 W p) {n : Nat} (hn : 6 ≤ n := by decide) : Op1g W (n + 1) (fun v => getAttr v "_nodes" true) (getPr 615 pNodes.1) := Op1g.prop e.ok (cls_ring e.hK) (by rw [e.hK]; k_is) (by rw [e.hK]; k_is) (by rw [e.hK]; k_is) (by rw [e.hK]; k_is) ((pNodes.2 e).up hn)
theorem dfl_weight {W : Wd} {p : Params} (e : E4 W p) : ∀ G σ s, R W G σ s → Reps W G [.dct [("weight", .int 1)]] [.ref 427] := by
  obtain ⟨o, t, u, ho, hd⟩ : ∃ o t u, W.K.lookup 427 = some o ∧ o = ⟨.type "dict", none, .dict #[⟨PyData.keyHash p ("weight" : Str), .str "weight" t, .int 1 u⟩] 1, #[]⟩ := ⟨_, _, _, by rw [e.hK]; k_is, rfl⟩
  intro G σ s r
  obtain ⟨h1, h2⟩ := e.ok.kin _ _ ho
  subst hd
  refine ⟨.ref 427, [], rfl, ⟨427, _, [("weight", .int 1 u)], rfl, by decide, Gh.z_iff.mpr (r.inv.base _ _ h1 h2), ⟨_, _, ⟨rfl, rfl, rfl⟩, rfl, ?_, ?_, ?_⟩, ⟨_, _, rfl, ⟨_, rfl⟩, rfl⟩⟩, rfl⟩
  · intro x hx
    simp only [List.mem_toArray, List.mem_cons, List.not_mem_nil, or_false] at hx
    subst hx
    exact ⟨"weight", (show (("weight" : Str) == ("weight" : Str)) = true from by decide +kernel), by rw [← e.hp]; rfl⟩
  · exact .cons ((show (("weight" : Str) == ("weight" : Str)) = true from by decide +kernel)) rfl .nil
  · simp
noncomputable def addNode : { g // ∀ {W p}, E4 W p → SimCall W 31 (.ref 435) [] g } := by
  refine' ⟨_, fun {W p} e => SimCall.fn e.ok (ps := [("self" : Str), ("nodename" : Str), ("conf" : Str)]) ⟨⟨_, by rw [e.hK]; k_is, rfl⟩, rfl, rfl, rfl, rfl, rfl, rfl, rfl, ⟨_,_,_,_, rfl, by rw [e.hK]; k_is, rfl, rfl⟩, fnSc_of (by kernel_rfl)⟩ (SimBind.dflt e.ok 2 [.ref 427] [.dct [("weight", .int 1)]] (T := 428) (by rw [e.hK]; k_is) rfl (dfl_weight e) (fun ms s h q => _)) _⟩
  rotate_left
  · match ms, h with
    | [a, b], _ => exact BindsTo.of_defaults rfl q rfl rfl rfl
  · exact (SimX.cons (SimS.if (SimB.val e.ok (SimE.mcall (ks := []) (Sim.name (Sim.ownL rfl rfl) (by decide +kernel)) (SimI.cons (SimE.dictzK e.ok (SimPs.cons (Sim.name (Sim.ownL rfl rfl) (by decide +kernel)) (Sim.name (Sim.ownL rfl rfl) (by decide +kernel)) SimPs.nil) (fun _ => rfl) rfl (by decide)) SimI.nil (fun _ => rfl)) SimK.nil (SimM.fn e.ok (cls_ring e.hK) (by rw [e.hK]; k_is) (by rw [e.hK]; k_is) (by rw [e.hK]; k_is) ((confNodes.2 e).up (by decide))) (fun _ => rfl) (fun _ => rfl) (fun _ => ⟨_, rfl⟩)) (fun _ => rfl)) (SimX.cons (SimS.expr (SimE.mcall (ks := []) (SimE.attr (Sim.name (Sim.ownL rfl rfl) (by decide +kernel)) (at_ring_runtime e) (fun _ => rfl)) (SimI.cons (SimE.listz (SimI.cons (SimE.tuple (SimI.cons (Sim.name (Sim.ownL rfl rfl) (by decide +kernel)) (SimI.cons (SimE.sub (SimE.attrG (Sim.name (Sim.ownL rfl rfl) (by decide +kernel)) (pr_pNodes e) (fun _ => rfl)) (Sim.name (Sim.ownL rfl rfl) (by decide +kernel)) (OpSub.get e.ok) (fun _ _ => rfl)) SimI.nil (fun _ => rfl)) (fun _ => rfl))) SimI.nil (fun _ => rfl))) SimI.nil (fun _ => rfl)) SimK.nil (SimM.fn e.ok (cls_meta e.hK) (by rw [e.hK]; k_is) (by rw [e.hK]; k_is) (by rw [e.hK]; k_is) ((createRing.2 e).up (by decide))) (fun _ => rfl) (fun _ => rfl) (fun _ => ⟨_, rfl⟩)) (fun _ _ => rfl))
 SimX.nil) SimX.nil)
 SimX.nil)
noncomputable def getPos : { g // ∀ {W p}, E4 W p → SimCall W 21 (.ref 442) [] g } := by
  refine' ⟨_, fun {W p} e => SimCall.fn e.ok (ps := [("self" : Str), ("key" : Str)]) ⟨⟨_, by rw [e.hK]; k_is, rfl⟩, rfl, rfl, rfl, rfl, rfl, rfl, rfl, ⟨_,_,_,_, rfl, by rw [e.hK]; k_is, rfl, rfl⟩, fnSc_of (by kernel_rfl)⟩ (SimBind.plain 2 rfl (fun ms h => _)) _⟩
  rotate_left
  · match ms, h with
    | [a, b], _ => rfl
  · exact (SimX.cons (SimS.assign (SimE.callV (ks := []) (Sim.name (Sim.glob e.c rfl rfl) (by decide +kernel)) (SimI.cons (SimE.attr (SimE.attr (Sim.name (Sim.ownL rfl rfl) (by decide +kernel)) (at_ring_runtime e) (fun _ => rfl)) (at_meta__keys e) (fun _ => rfl)) (SimI.cons (SimE.mcall (ks := []) (Sim.name (Sim.ownL rfl rfl) (by decide +kernel)) (SimI.cons (Sim.name (Sim.ownL rfl rfl) (by decide +kernel)) SimI.nil (fun _ => rfl)) SimK.nil (SimM.own e.ok (cls_ring e.hK) (by rw [e.hK]; k_is) (SimF.bm e.ok (by rw [e.hK]; k_is) ((hashi.2 e).up (by decide)))) (fun _ => rfl) (fun _ => rfl) (fun _ => ⟨_, rfl⟩)) SimI.nil (fun _ => rfl)) (fun _ => rfl)) SimK.nil (SimV.bis) (fun _ => rfl) (fun _ => rfl)) (SimT.ownL rfl rfl) (fun _ _ => rfl) (fun _ _ => rfl) (fun _ => rfl))
 (SimX.cons (SimS.if (SimB.cmp e.ok (Sim.name (Sim.ownL rfl rfl) (by decide +kernel)) (SimE.callV (ks := []) (Sim.name (Sim.bui e.c rfl rfl) (by decide +kernel)) (SimI.cons (SimE.attr (SimE.attr (Sim.name (Sim.ownL rfl rfl) (by decide +kernel)) (at_ring_runtime e) (fun _ => rfl)) (at_meta__keys e) (fun _ => rfl)) SimI.nil (fun _ => rfl)) SimK.nil (SimV.len e.ok) (fun _ => rfl) (fun _ => rfl)) (Op2.eq) rfl) (SimX.cons (SimS.ret SimE.int)
 SimX.nil) (SimX.cons (SimS.ret (Sim.name (Sim.ownL rfl rfl) (by decide +kernel)))
 SimX.nil))
 SimX.nil))
noncomputable def get_ : { g // ∀ {W p}, E4 W p → SimCall W 31 (.ref 449) [] g } := by
  refine' ⟨_, fun {W p} e => SimCall.fn e.ok (ps := [("self" : Str), ("key" : Str), ("what" : Str)]) ⟨⟨_, by rw [e.hK]; k_is, rfl⟩, rfl, rfl, rfl, rfl, rfl, rfl, rfl, ⟨_,_,_,_, rfl, by rw [e.hK]; k_is, rfl, rfl⟩, fnSc_of (by kernel_rfl)⟩ (SimBind.plain 3 rfl (fun ms h => _)) _⟩
  rotate_left
  · match ms, h with
    | [a, b, c], _ => rfl
  · exact (SimX.cons (SimS.if (SimB.not (SimB.val e.ok (SimE.attr (SimE.attr (Sim.name (Sim.ownL rfl rfl) (by decide +kernel)) (at_ring_runtime e) (fun _ => rfl)) (at_meta__ring e) (fun _ => rfl)) (fun _ => rfl))) (SimX.cons (SimS.ret SimE.none)
 SimX.nil) SimX.nil)
 (SimX.cons (SimS.assign (SimE.mcall (ks := []) (Sim.name (Sim.ownL rfl rfl) (by decide +kernel)) (SimI.cons (Sim.name (Sim.ownL rfl rfl) (by decide +kernel)) SimI.nil (fun _ => rfl)) SimK.nil (SimM.fn e.ok (cls_ring e.hK) (by rw [e.hK]; k_is) (by rw [e.hK]; k_is) (by rw [e.hK]; k_is) ((getPos.2 e).up (by decide))) (fun _ => rfl) (fun _ => rfl) (fun _ => ⟨_, rfl⟩)) (SimT.ownL rfl rfl) (fun _ _ => rfl) (fun _ _ => rfl) (fun _ => rfl))
 (SimX.cons (SimS.if (SimB.cmp e.ok (Sim.name (Sim.ownL rfl rfl) (by decide +kernel)) SimE.str (Op2.eq) rfl) (SimX.cons (SimS.ret (Sim.name (Sim.ownL rfl rfl) (by decide +kernel)))
 SimX.nil) SimX.nil)
 (SimX.cons (SimS.assign (SimE.sub (SimE.attr (SimE.attr (Sim.name (Sim.ownL rfl rfl) (by decide +kernel)) (at_ring_runtime e) (fun _ => rfl)) (at_meta__ring e) (fun _ => rfl)) (SimE.sub (SimE.attr (SimE.attr (Sim.name (Sim.ownL rfl rfl) (by decide +kernel)) (at_ring_runtime e) (fun _ => rfl)) (at_meta__keys e) (fun _ => rfl)) (Sim.name (Sim.ownL rfl rfl) (by decide +kernel)) (OpSub.get e.ok) (fun _ _ => rfl)) (OpSub.get e.ok) (fun _ _ => rfl)) (SimT.ownL rfl rfl) (fun _ _ => rfl) (fun _ _ => rfl) (fun _ => rfl))
 (SimX.cons (SimS.if (SimB.cmp e.ok (Sim.name (Sim.ownL rfl rfl) (by decide +kernel)) (SimE.listz (SimI.cons SimE.str (SimI.cons SimE.str (SimI.cons SimE.str (SimI.cons SimE.str SimI.nil (fun _ => rfl)) (fun _ => rfl)) (fun _ => rfl)) (fun _ => rfl))) (Op2.in e.ok) rfl) (SimX.cons (SimS.ret (SimE.sub (SimE.sub (SimE.attr (SimE.attr (Sim.name (Sim.ownL rfl rfl) (by decide +kernel)) (at_ring_runtime e) (fun _ => rfl)) (at_meta__nodes e) (fun _ => rfl)) (Sim.name (Sim.ownL rfl rfl) (by decide +kernel)) (OpSub.get e.ok) (fun _ _ => rfl)) (Sim.name (Sim.ownL rfl rfl) (by decide +kernel)) (OpSub.get e.ok) (fun _ _ => rfl)))
 SimX.nil) (SimX.cons (SimS.if (SimB.cmp e.ok (Sim.name (Sim.ownL rfl rfl) (by decide +kernel)) SimE.str (Op2.eq) rfl) (SimX.cons (SimS.ret (SimE.sub (SimE.attr (SimE.attr (Sim.name (Sim.ownL rfl rfl) (by decide +kernel)) (at_ring_runtime e) (fun _ => rfl)) (at_meta__nodes e) (fun _ => rfl)) (Sim.name (Sim.ownL rfl rfl) (by decide +kernel)) (OpSub.get e.ok) (fun _ _ => rfl)))
 SimX.nil) (SimX.cons (SimS.if (SimB.cmp e.ok (Sim.name (Sim.ownL rfl rfl) (by decide +kernel)) SimE.str (Op2.eq) rfl) (SimX.cons (SimS.ret (Sim.name (Sim.ownL rfl rfl) (by decide +kernel)))
 SimX.nil) (SimX.cons (SimS.if (SimB.cmp e.ok (Sim.name (Sim.ownL rfl rfl) (by decide +kernel)) SimE.str (Op2.eq) rfl) (SimX.cons (SimS.ret (SimE.tuple (SimI.cons (SimE.sub (SimE.attr (SimE.attr (Sim.name (Sim.ownL rfl rfl) (by decide +kernel)) (at_ring_runtime e) (fun _ => rfl)) (at_meta__keys e) (fun _ => rfl)) (Sim.name (Sim.ownL rfl rfl) (by decide +kernel)) (OpSub.get e.ok) (fun _ _ => rfl)) (SimI.cons (Sim.name (Sim.ownL rfl rfl) (by decide +kernel)) SimI.nil (fun _ => rfl)) (fun _ => rfl))))
 SimX.nil) SimX.nil)
 SimX.nil))
 SimX.nil))
 SimX.nil))
 SimX.nil)))))
noncomputable def getNode : { g // ∀ {W p}, E4 W p → SimCall W 41 (.ref 477) [] g } := by
  refine' ⟨_, fun {W p} e => SimCall.fn e.ok (ps := [("self" : Str), ("key" : Str)]) ⟨⟨_, by rw [e.hK]; k_is, rfl⟩, rfl, rfl, rfl, rfl, rfl, rfl, rfl, ⟨_,_,_,_, rfl, by rw [e.hK]; k_is, rfl, rfl⟩, fnSc_of (by kernel_rfl)⟩ (SimBind.plain 2 rfl (fun ms h => _)) _⟩
  rotate_left
  · match ms, h with
    | [a, b], _ => rfl
  · exact (SimX.cons (SimS.ret (SimE.mcall (ks := []) (Sim.name (Sim.ownL rfl rfl) (by decide +kernel)) (SimI.cons (Sim.name (Sim.ownL rfl rfl) (by decide +kernel)) (SimI.cons SimE.str SimI.nil (fun _ => rfl)) (fun _ => rfl)) SimK.nil (SimM.fn e.ok (cls_ring e.hK) (by rw [e.hK]; k_is) (by rw [e.hK]; k_is) (by rw [e.hK]; k_is) ((get_.2 e).up (by decide))) (fun _ => rfl) (fun _ => rfl) (fun _ => ⟨_, rfl⟩)))
 SimX.nil)
noncomputable def lawAt : { g // ∀ {W p}, E4 W p → SimCall W 6 (.ref 626) [] g } := by
  refine' ⟨_, fun {W p} e => SimCall.fn e.ok (ps := [("script" : Str), ("k" : Str), ("other" : Str)]) ⟨⟨_, by rw [e.hK]; k_is, rfl⟩, rfl, rfl, rfl, rfl, rfl, rfl, rfl, ⟨_,_,_,_, rfl, by rw [e.hK]; k_is, rfl, rfl⟩, fnSc_of (by kernel_rfl)⟩ (SimBind.plain 3 rfl (fun ms h => _)) _⟩
  rotate_left
  · match ms, h with
    | [a, b, c], _ => rfl
  · exact (SimX.cons (SimS.ret (SimE.ifexp (SimB.cmp e.ok (Sim.name (Sim.ownL rfl rfl) (by decide +kernel)) (SimE.callV (ks := []) (Sim.name (Sim.bui e.c rfl rfl) (by decide +kernel)) (SimI.cons (Sim.name (Sim.ownL rfl rfl) (by decide +kernel)) SimI.nil (fun _ => rfl)) SimK.nil (SimV.len e.ok) (fun _ => rfl) (fun _ => rfl)) Op2.ord rfl) (SimE.sub (Sim.name (Sim.ownL rfl rfl) (by decide +kernel)) (Sim.name (Sim.ownL rfl rfl) (by decide +kernel)) (OpSub.get e.ok) (fun _ _ => rfl)) (Sim.name (Sim.ownL rfl rfl) (by decide +kernel))))
 SimX.nil)
noncomputable def lawWay : { g // ∀ {W p}, E4 W p → SimCall W 6 (.ref 633) [] g } := by
  refine' ⟨_, fun {W p} e => SimCall.fn e.ok (ps := [("one" : Str), ("other" : Str), ("size" : Str)]) ⟨⟨_, by rw [e.hK]; k_is, rfl⟩, rfl, rfl, rfl, rfl, rfl, rfl, rfl, ⟨_,_,_,_, rfl, by rw [e.hK]; k_is, rfl, rfl⟩, fnSc_of (by kernel_rfl)⟩ (SimBind.plain 3 rfl (fun ms h => _)) _⟩
  rotate_left
  · match ms, h with
    | [a, b, c], _ => rfl
  · exact (SimX.cons (SimS.ret (SimE.binop (SimE.binop (SimE.binop (SimE.binop (Sim.name (Sim.ownL rfl rfl) (by decide +kernel)) (Sim.name (Sim.ownL rfl rfl) (by decide +kernel)) Op2.ar) SimE.int Op2.ar) (Sim.name (Sim.ownL rfl rfl) (by decide +kernel)) Op2.ar) SimE.int Op2.ar))
 SimX.nil)
noncomputable def lawRoute : { g // ∀ {W p}, E4 W p → SimCall W 51 (.ref 638) [] g } := by
  refine' ⟨_, fun {W p} e => SimCall.fn e.ok (ps := [("ring" : Str), ("here" : Str), ("key" : Str), ("bits" : Str)]) ⟨⟨_, by rw [e.hK]; k_is, rfl⟩, rfl, rfl, rfl, rfl, rfl, rfl, rfl, ⟨_,_,_,_, rfl, by rw [e.hK]; k_is, rfl, rfl⟩, fnSc_of (by kernel_rfl)⟩ (SimBind.plain 4 rfl (fun ms h => _)) _⟩
  rotate_left
  · match ms, h with
    | [a, b, c, d], _ => rfl
  · exact (SimX.cons (SimS.assign (SimE.binop SimE.int (Sim.name (Sim.ownL rfl rfl) (by decide +kernel)) Op2.ar) (SimT.ownC rfl rfl) (fun _ _ => rfl) (fun _ _ => rfl) (fun _ => rfl))
 (SimX.cons (SimS.assign (SimE.dict0 602) (SimT.ownC rfl rfl) (fun _ _ => rfl) (fun _ _ => rfl) (fun _ => rfl))
 (SimX.cons (SimS.for (SimIt.ofB (SimE.callV (ks := []) (Sim.name (Sim.bui e.c rfl rfl) (by decide +kernel)) (SimI.cons (Sim.name (Sim.ownC rfl rfl) (by decide +kernel)) SimI.nil (fun _ => rfl)) SimK.nil (SimV.range) (fun _ => rfl) (fun _ => rfl))) (SimT.ownL rfl rfl) (SimX.cons (SimS.assign (Sim.name (Sim.ownL rfl rfl) (by decide +kernel)) (SimT.sub (Sim.name (Sim.ownC rfl rfl) (by decide +kernel)) (SimE.callV (ks := []) (Sim.name (Sim.bui e.c rfl rfl) (by decide +kernel)) (SimI.cons (Sim.name (Sim.ownL rfl rfl) (by decide +kernel)) SimI.nil (fun _ => rfl)) SimK.nil (SimV.str) (fun _ => rfl) (fun _ => rfl)) (OpSet.dict e.ok)) (fun _ _ => rfl) (fun _ _ => rfl) (fun _ => rfl))
 SimX.nil) SimX.nil (fun _ _ => rfl))
 (SimX.cons (SimS.assign SimE.int (SimT.ownL rfl rfl) (fun _ _ => rfl) (fun _ _ => rfl) (fun _ => rfl))
 (SimX.cons (SimS.while 100 (SimB.cmp e.ok (Sim.name (Sim.ownL rfl rfl) (by decide +kernel)) (Sim.name (Sim.ownL rfl rfl) (by decide +kernel)) Op2.ord rfl) (SimX.cons (SimS.assign (SimE.sub (Sim.name (Sim.ownC rfl rfl) (by decide +kernel)) (SimE.mcall (ks := []) (Sim.name (Sim.ownC rfl rfl) (by decide +kernel)) (SimI.cons (SimE.binop (SimE.binop (Sim.name (Sim.ownC rfl rfl) (by decide +kernel)) SimE.int Op2.ar) (Sim.name (Sim.ownC rfl rfl) (by decide +kernel)) Op2.ar) SimI.nil (fun _ => rfl)) SimK.nil (SimM.fn e.ok (cls_ring e.hK) (by rw [e.hK]; k_is) (by rw [e.hK]; k_is) (by rw [e.hK]; k_is) ((getNode.2 e).up (by decide))) (fun _ => rfl) (fun _ => rfl) (fun _ => ⟨_, rfl⟩)) (OpSub.get e.ok) (fun _ _ => rfl)) (SimT.ownL rfl rfl) (fun _ _ => rfl) (fun _ _ => rfl) (fun _ => rfl))
 (SimX.cons (SimS.if (SimB.cmp e.ok (SimE.callV (ks := []) (Sim.name (Sim.glob e.c rfl rfl) (by decide +kernel)) (SimI.cons (Sim.name (Sim.ownC rfl rfl) (by decide +kernel)) (SimI.cons (Sim.name (Sim.ownC rfl rfl) (by decide +kernel)) (SimI.cons (Sim.name (Sim.ownC rfl rfl) (by decide +kernel)) SimI.nil (fun _ => rfl)) (fun _ => rfl)) (fun _ => rfl)) SimK.nil (SimV.fn e.ok (by rw [e.hK]; k_is) ((lawWay.2 e).up (by decide))) (fun _ => rfl) (fun _ => rfl)) (SimE.callV (ks := []) (Sim.name (Sim.glob e.c rfl rfl) (by decide +kernel)) (SimI.cons (Sim.name (Sim.ownC rfl rfl) (by decide +kernel)) (SimI.cons (Sim.name (Sim.ownL rfl rfl) (by decide +kernel)) (SimI.cons (Sim.name (Sim.ownC rfl rfl) (by decide +kernel)) SimI.nil (fun _ => rfl)) (fun _ => rfl)) (fun _ => rfl)) SimK.nil (SimV.fn e.ok (by rw [e.hK]; k_is) ((lawWay.2 e).up (by decide))) (fun _ => rfl) (fun _ => rfl)) Op2.ord rfl) (SimX.cons (SimS.ret (SimE.tuple (SimI.cons (Sim.name (Sim.ownL rfl rfl) (by decide +kernel)) (SimI.cons (Sim.name (Sim.ownL rfl rfl) (by decide +kernel)) SimI.nil (fun _ => rfl)) (fun _ => rfl))))
 SimX.nil) SimX.nil)
 (SimX.cons (SimS.compUseN 2 (by kernel_rfl) (subSc_of (by kernel_rfl)) (SimIt.ofB (SimE.callV (ks := []) (Sim.name (Sim.bui e.c rfl rfl) (by decide +kernel)) (SimI.cons (Sim.name (Sim.ownL rfl rfl) (by decide +kernel)) SimI.nil (fun _ => rfl)) SimK.nil (SimV.range) (fun _ => rfl) (fun _ => rfl))) (SimT.ownL rfl rfl) SimC.nil (SimE.sub (Sim.name (by first | exact Sim.upF rfl rfl (by decide +kernel) | exact Sim.upC rfl rfl (by decide +kernel)) (by decide +kernel)) (SimE.mcall (ks := []) (Sim.name (by first | exact Sim.upF rfl rfl (by decide +kernel) | exact Sim.upC rfl rfl (by decide +kernel)) (by decide +kernel)) (SimI.cons (SimE.binop (SimE.binop (Sim.name (by first | exact Sim.upF rfl rfl (by decide +kernel) | exact Sim.upC rfl rfl (by decide +kernel)) (by decide +kernel)) (SimE.binop SimE.int (Sim.name (Sim.ownL rfl rfl) (by decide +kernel)) Op2.ar) Op2.ar) (Sim.name (by first | exact Sim.upF rfl rfl (by decide +kernel) | exact Sim.upC rfl rfl (by decide +kernel)) (by decide +kernel)) Op2.ar) SimI.nil (fun _ => rfl)) SimK.nil (SimM.fn e.ok (cls_ring e.hK) (by rw [e.hK]; k_is) (by rw [e.hK]; k_is) (by rw [e.hK]; k_is) ((getNode.2 e).up (by decide))) (fun _ => rfl) (fun _ => rfl) (fun _ => ⟨_, rfl⟩)) (OpSub.get e.ok) (fun _ _ => rfl)) (fun _ _ => rfl) (slotIn_get (n := 0) rfl).2 rfl (fun env h => by unfold swapsWith Env.kindOf Env.blockKind; rw [h]; rfl))
 (SimX.cons (SimS.assign (SimE.sub (SimE.compN 2 (by kernel_rfl) (subSc_of (by kernel_rfl)) (SimIt.ofB (Sim.name (Sim.ownL rfl rfl) (by decide +kernel))) (SimT.ownL rfl rfl) (SimC.cons (SimB.cmp e.ok (SimE.callV (ks := []) (Sim.name (Sim.glob e.c rfl rfl) (by decide +kernel)) (SimI.cons (Sim.name (by first | exact Sim.upF rfl rfl (by decide +kernel) | exact Sim.upC rfl rfl (by decide +kernel)) (by decide +kernel)) (SimI.cons (Sim.name (Sim.ownL rfl rfl) (by decide +kernel)) (SimI.cons (Sim.name (by first | exact Sim.upF rfl rfl (by decide +kernel) | exact Sim.upC rfl rfl (by decide +kernel)) (by decide +kernel)) SimI.nil (fun _ => rfl)) (fun _ => rfl)) (fun _ => rfl)) SimK.nil (SimV.fn e.ok (by rw [e.hK]; k_is) ((lawWay.2 e).up (by decide))) (fun _ => rfl) (fun _ => rfl)) (SimE.callV (ks := []) (Sim.name (Sim.glob e.c rfl rfl) (by decide +kernel)) (SimI.cons (Sim.name (by first | exact Sim.upF rfl rfl (by decide +kernel) | exact Sim.upC rfl rfl (by decide +kernel)) (by decide +kernel)) (SimI.cons (Sim.name (by first | exact Sim.upF rfl rfl (by decide +kernel) | exact Sim.upC rfl rfl (by decide +kernel)) (by decide +kernel)) (SimI.cons (Sim.name (by first | exact Sim.upF rfl rfl (by decide +kernel) | exact Sim.upC rfl rfl (by decide +kernel)) (by decide +kernel)) SimI.nil (fun _ => rfl)) (fun _ => rfl)) (fun _ => rfl)) SimK.nil (SimV.fn e.ok (by rw [e.hK]; k_is) ((lawWay.2 e).up (by decide))) (fun _ => rfl) (fun _ => rfl)) Op2.ord rfl) SimC.nil) (Sim.name (Sim.ownL rfl rfl) (by decide +kernel)) (fun _ _ => rfl)) (SimE.unop SimE.int Op1.un) (OpSub.get e.ok) (fun _ _ => rfl)) (SimT.ownC rfl rfl) (fun _ _ => rfl) (fun _ _ => rfl) (fun _ => rfl))
 (SimX.cons (SimS.augName (Sim.ownL rfl rfl) SimE.int Op2.iar (SimN.ownL rfl rfl))
 SimX.nil))))) SimX.nil)
 (SimX.cons (SimS.ret (SimE.tuple (SimI.cons (Sim.name (Sim.ownC rfl rfl) (by decide +kernel)) (SimI.cons (Sim.name (Sim.ownL rfl rfl) (by decide +kernel)) SimI.nil (fun _ => rfl)) (fun _ => rfl))))
 SimX.nil))))))
end Mine
end

section
open PySem PySem.W PySem.Calls PyProof.Rows
set_option Elab.async false
set_option maxRecDepth 100000
set_option maxHeartbeats 4000000
set_option pp.deepTerms false
namespace Mine
def lawB : { q : List Stmt × Scope // ∀ p, ∃ o fd, (hd.heap_39 p).lookup 643 = some o ∧ o.data = .func fd ∧ fd.body = .stmts q.1 ∧ fd.scope = q.2 } := by
  refine' ⟨(_, _), fun p => ⟨_, _, by k_is, rfl, rfl, rfl⟩⟩
noncomputable def lawW : { g // ∀ {W p} (e : E4 W p) (c P : Addr) (T : TopOK W c P), SimLaw W (fnSc lawB.1.2) c P 60 #[] lawB.1.1 g } := by
  refine' ⟨?g, fun {W p} e c P T => ?h⟩
  case' h => unfold lawB
  case' h => dsimp only
  case' h => refine' SimLaw.cons (SimS.assign (SimE.binop SimE.int (SimE.binop (SimE.callV (ks := []) (Sim.name (Sim.glob e.c rfl rfl) (by decide +kernel)) (SimI.cons (Sim.name (Sim.ownL rfl rfl) (by decide +kernel)) (SimI.cons SimE.int (SimI.cons SimE.int SimI.nil (fun _ => rfl)) (fun _ => rfl)) (fun _ => rfl)) SimK.nil (SimV.fn e.ok (by rw [e.hK]; k_is) ((lawAt.2 e).up (by decide))) (fun _ => rfl) (fun _ => rfl)) SimE.int Op2.ar) Op2.ar) (SimT.ownL rfl rfl) (fun _ _ => rfl) (fun _ _ => rfl) (fun _ => rfl)) ?h1
  case' h1 => refine' SimLaw.cons (SimS.assign (SimE.binop SimE.int (Sim.name (Sim.ownL rfl rfl) (by decide +kernel)) Op2.ar) (SimT.ownC rfl rfl) (fun _ _ => rfl) (fun _ _ => rfl) (fun _ => rfl)) ?h2
  case' h2 => refine' SimLaw.cons (SimS.assign (SimE.callV (ks := []) (Sim.name (Sim.glob e.c rfl rfl) (by decide +kernel)) (SimI.cons (Sim.name (Sim.ownL rfl rfl) (by decide +kernel)) (SimI.cons SimE.int (SimI.cons SimE.int SimI.nil (fun _ => rfl)) (fun _ => rfl)) (fun _ => rfl)) SimK.nil (SimV.fn e.ok (by rw [e.hK]; k_is) ((lawAt.2 e).up (by decide))) (fun _ => rfl) (fun _ => rfl)) (SimT.ownC rfl rfl) (fun _ _ => rfl) (fun _ _ => rfl) (fun _ => rfl)) ?h3
  case' h3 => refine' SimLaw.cons (SimS.assign (SimE.dict0 618) (SimT.ownC rfl rfl) (fun _ _ => rfl) (fun _ _ => rfl) (fun _ => rfl)) ?h4
  case' h4 => refine' SimLaw.cons (SimS.for (SimIt.ofB (SimE.callV (ks := []) (Sim.name (Sim.bui e.c rfl rfl) (by decide +kernel)) (SimI.cons SimE.int SimI.nil (fun _ => rfl)) SimK.nil (SimV.range) (fun _ => rfl) (fun _ => rfl))) (SimT.ownL rfl rfl) (SimX.cons (SimS.assign (SimE.binop (Sim.name (Sim.ownC rfl rfl) (by decide +kernel)) (SimE.binop SimE.int (Sim.name (Sim.ownL rfl rfl) (by decide +kernel)) Op2.ar) Op2.ar) (SimT.sub (Sim.name (Sim.ownC rfl rfl) (by decide +kernel)) (SimE.binop (SimE.callV (ks := []) (Sim.name (Sim.bui e.c rfl rfl) (by decide +kernel)) (SimI.cons (Sim.name (Sim.ownL rfl rfl) (by decide +kernel)) SimI.nil (fun _ => rfl)) SimK.nil (SimV.str) (fun _ => rfl) (fun _ => rfl)) SimE.str Op2.ar) (OpSet.dict e.ok)) (fun _ _ => rfl) (fun _ _ => rfl) (fun _ => rfl))
 SimX.nil) SimX.nil (fun _ _ => rfl)) ?h5
  case' h5 => refine' SimLaw.def (fname := "place") e.ok T (k := 0) ((e.clo _ _ ⟨_, by rw [e.hK]; k_is, rfl⟩ rfl).1 0 |>.trans rfl) rfl rfl rfl (by intro env; rfl) trivial rfl (fun x hx => by simp at hx; first | (subst hx; decide +kernel) | (rcases hx with rfl | rfl | rfl | rfl <;> decide +kernel) | (rcases hx with rfl | rfl | rfl <;> decide +kernel) | (rcases hx with rfl | rfl <;> decide +kernel)) (SimN.ownL rfl rfl) (fun c' => ?h6)
  case' h6 => refine' SimLaw.of ?h7
  case' h7 => refine' SimX.cons (SimS.assign (SimE.list 624 SimI.nil) (SimT.ownL rfl rfl) (fun _ _ => rfl) (fun _ _ => rfl) (fun _ => rfl)) ?h8
  case' h8 => refine' SimX.cons (SimS.for (SimIt.ofB (SimE.ifexp (SimB.cmp e.ok (SimE.callV (ks := []) (Sim.name (Sim.bui e.c rfl rfl) (by decide +kernel)) (SimI.cons (Sim.name (Sim.ownL rfl rfl) (by decide +kernel)) SimI.nil (fun _ => rfl)) SimK.nil (SimV.len e.ok) (fun _ => rfl) (fun _ => rfl)) SimE.int Op2.ord rfl) (SimE.slice (Sim.name (Sim.ownL rfl rfl) (by decide +kernel)) (SimP.some SimE.int) (SimP.some SimE.int)) (SimE.listz (SimI.cons SimE.int (SimI.cons SimE.int (SimI.cons SimE.int (SimI.cons SimE.int SimI.nil (fun _ => rfl)) (fun _ => rfl)) (fun _ => rfl)) (fun _ => rfl))))) (SimT.ownL rfl rfl) (SimX.cons (SimS.if (SimB.cmp e.ok (SimE.binop (Sim.name (Sim.ownL rfl rfl) (by decide +kernel)) (Sim.name (Sim.ownC rfl rfl) (by decide +kernel)) Op2.ar) (Sim.name (Sim.ownL rfl rfl) (by decide +kernel)) (Op2.notIn e.ok) rfl) (SimX.cons (SimS.expr (SimE.mcall (ks := []) (Sim.name (Sim.ownL rfl rfl) (by decide +kernel)) (SimI.cons (SimE.binop (Sim.name (Sim.ownL rfl rfl) (by decide +kernel)) (Sim.name (Sim.ownC rfl rfl) (by decide +kernel)) Op2.ar) SimI.nil (fun _ => rfl)) SimK.nil (SimM.append) (fun _ => rfl) (fun _ => rfl) (fun _ => ⟨_, rfl⟩)) (fun _ _ => rfl))
 SimX.nil) SimX.nil)
 SimX.nil) SimX.nil (fun _ _ => rfl)) ?h9
  case' h9 => refine' SimX.cons (SimS.assign (SimE.callV (ks := [("hash_fn" : Str), ("vnodes" : Str)]) (Sim.name (Sim.glob e.c rfl rfl) (by decide +kernel)) (SimI.cons (SimE.compN 2 (by kernel_rfl) (subSc_of (by kernel_rfl)) (SimIt.ofB (Sim.name (Sim.ownL rfl rfl) (by decide +kernel))) (SimT.ownL rfl rfl) SimC.nil (SimE.callV (ks := []) (Sim.name (Sim.bui e.c rfl rfl) (by decide +kernel)) (SimI.cons (Sim.name (Sim.ownL rfl rfl) (by decide +kernel)) SimI.nil (fun _ => rfl)) SimK.nil (SimV.str) (fun _ => rfl) (fun _ => rfl)) (fun _ _ => rfl)) SimI.nil (fun _ => rfl)) (SimK.cons (Sim.name (Sim.ownL rfl rfl) (by decide +kernel)) (SimK.cons SimE.int SimK.nil)) (SimV.cls e.ok 1 (by rw [e.hK]; k_is) (by rw [e.hK]; k_is) (by rw [e.hK]; k_is) (by rw [e.hK]; k_is) ((ringInit.2 e).up (by decide))) (fun _ => rfl) (fun _ => rfl)) (SimT.ownL rfl rfl) (fun _ _ => rfl) (fun _ _ => rfl) (fun _ => rfl)) ?h10
  case' h10 => refine' SimX.cons (SimS.for (SimIt.ofB (SimE.callV (ks := []) (Sim.name (Sim.bui e.c rfl rfl) (by decide +kernel)) (SimI.cons SimE.int SimI.nil (fun _ => rfl)) SimK.nil (SimV.range) (fun _ => rfl) (fun _ => rfl))) (SimT.ownL rfl rfl) (SimX.cons (SimS.if (SimB.boolop (SimAll.and (SimB.cmp e.ok (Sim.name (Sim.ownL rfl rfl) (by decide +kernel)) SimE.int (Op2.eq) rfl) (SimAll.and (SimB.cmp e.ok (SimE.callV (ks := []) (Sim.name (Sim.bui e.c rfl rfl) (by decide +kernel)) (SimI.cons (Sim.name (Sim.ownL rfl rfl) (by decide +kernel)) SimI.nil (fun _ => rfl)) SimK.nil (SimV.len e.ok) (fun _ => rfl) (fun _ => rfl)) SimE.int Op2.ord rfl) SimAll.andNil))) (SimX.cons (SimS.expr (SimE.mcall (ks := []) (Sim.name (Sim.ownL rfl rfl) (by decide +kernel)) (SimI.cons (SimE.callV (ks := []) (Sim.name (Sim.bui e.c rfl rfl) (by decide +kernel)) (SimI.cons (SimE.sub (Sim.name (Sim.ownL rfl rfl) (by decide +kernel)) SimE.int (OpSub.get e.ok) (fun _ _ => rfl)) SimI.nil (fun _ => rfl)) SimK.nil (SimV.str) (fun _ => rfl) (fun _ => rfl)) SimI.nil (fun _ => rfl)) SimK.nil (SimM.fn e.ok (cls_ring e.hK) (by rw [e.hK]; k_is) (by rw [e.hK]; k_is) (by rw [e.hK]; k_is) ((delItem.2 e).up (by decide))) (fun _ => rfl) (fun _ => rfl) (fun _ => ⟨_, rfl⟩)) (fun _ _ => rfl))
 (SimX.cons (SimS.assign (SimE.sliceLive 632 (Sim.name (Sim.ownL rfl rfl) (by decide +kernel)) (SimP.some SimE.int) SimP.none) (SimT.ownL rfl rfl) (fun _ _ => rfl) (fun _ _ => rfl) (fun _ => rfl))
 SimX.nil)) SimX.nil)
 (SimX.cons (SimS.if (SimB.boolop (SimAll.and (SimB.cmp e.ok (Sim.name (Sim.ownL rfl rfl) (by decide +kernel)) SimE.int (Op2.eq) rfl) (SimAll.and (SimB.cmp e.ok (SimE.binop (SimE.callV (ks := []) (Sim.name (Sim.glob e.c rfl rfl) (by decide +kernel)) (SimI.cons (Sim.name (Sim.ownL rfl rfl) (by decide +kernel)) (SimI.cons SimE.int (SimI.cons SimE.int SimI.nil (fun _ => rfl)) (fun _ => rfl)) (fun _ => rfl)) SimK.nil (SimV.fn e.ok (by rw [e.hK]; k_is) ((lawAt.2 e).up (by decide))) (fun _ => rfl) (fun _ => rfl)) (Sim.name (Sim.ownC rfl rfl) (by decide +kernel)) Op2.ar) (Sim.name (Sim.ownL rfl rfl) (by decide +kernel)) (Op2.notIn e.ok) rfl) SimAll.andNil))) (SimX.cons (SimS.expr (SimE.mcall (ks := []) (Sim.name (Sim.ownL rfl rfl) (by decide +kernel)) (SimI.cons (SimE.binop (SimE.callV (ks := []) (Sim.name (Sim.glob e.c rfl rfl) (by decide +kernel)) (SimI.cons (Sim.name (Sim.ownL rfl rfl) (by decide +kernel)) (SimI.cons SimE.int (SimI.cons SimE.int SimI.nil (fun _ => rfl)) (fun _ => rfl)) (fun _ => rfl)) SimK.nil (SimV.fn e.ok (by rw [e.hK]; k_is) ((lawAt.2 e).up (by decide))) (fun _ => rfl) (fun _ => rfl)) (Sim.name (Sim.ownC rfl rfl) (by decide +kernel)) Op2.ar) SimI.nil (fun _ => rfl)) SimK.nil (SimM.append) (fun _ => rfl) (fun _ => rfl) (fun _ => ⟨_, rfl⟩)) (fun _ _ => rfl))
 (SimX.cons (SimS.expr (SimE.mcall (ks := []) (Sim.name (Sim.ownL rfl rfl) (by decide +kernel)) (SimI.cons (SimE.callV (ks := []) (Sim.name (Sim.bui e.c rfl rfl) (by decide +kernel)) (SimI.cons (SimE.sub (Sim.name (Sim.ownL rfl rfl) (by decide +kernel)) (SimE.unop SimE.int Op1.un) (OpSub.get e.ok) (fun _ _ => rfl)) SimI.nil (fun _ => rfl)) SimK.nil (SimV.str) (fun _ => rfl) (fun _ => rfl)) SimI.nil (fun _ => rfl)) SimK.nil (SimM.fn e.ok (cls_ring e.hK) (by rw [e.hK]; k_is) (by rw [e.hK]; k_is) (by rw [e.hK]; k_is) ((addNode.2 e).up (by decide))) (fun _ => rfl) (fun _ => rfl) (fun _ => ⟨_, rfl⟩)) (fun _ _ => rfl))
 SimX.nil)) SimX.nil)
 (SimX.cons (SimS.assign (SimE.sub (Sim.name (Sim.ownL rfl rfl) (by decide +kernel)) (SimE.binop (SimE.callV (ks := []) (Sim.name (Sim.glob e.c rfl rfl) (by decide +kernel)) (SimI.cons (Sim.name (Sim.ownL rfl rfl) (by decide +kernel)) (SimI.cons SimE.int (SimI.cons SimE.int SimI.nil (fun _ => rfl)) (fun _ => rfl)) (fun _ => rfl)) SimK.nil (SimV.fn e.ok (by rw [e.hK]; k_is) ((lawAt.2 e).up (by decide))) (fun _ => rfl) (fun _ => rfl)) (SimE.callV (ks := []) (Sim.name (Sim.bui e.c rfl rfl) (by decide +kernel)) (SimI.cons (Sim.name (Sim.ownL rfl rfl) (by decide +kernel)) SimI.nil (fun _ => rfl)) SimK.nil (SimV.len e.ok) (fun _ => rfl) (fun _ => rfl)) Op2.ar) (OpSub.get e.ok) (fun _ _ => rfl)) (SimT.ownL rfl rfl) (fun _ _ => rfl) (fun _ _ => rfl) (fun _ => rfl))
 (SimX.cons (SimS.for (SimIt.ofB (SimE.tuple (SimI.cons (Sim.name (Sim.ownL rfl rfl) (by decide +kernel)) (SimI.cons (SimE.binop (SimE.callV (ks := []) (Sim.name (Sim.glob e.c rfl rfl) (by decide +kernel)) (SimI.cons (Sim.name (Sim.ownL rfl rfl) (by decide +kernel)) (SimI.cons (SimE.binop SimE.int (Sim.name (Sim.ownL rfl rfl) (by decide +kernel)) Op2.ar) (SimI.cons (SimE.binop (SimE.binop SimE.int (Sim.name (Sim.ownL rfl rfl) (by decide +kernel)) Op2.ar) SimE.int Op2.ar) SimI.nil (fun _ => rfl)) (fun _ => rfl)) (fun _ => rfl)) SimK.nil (SimV.fn e.ok (by rw [e.hK]; k_is) ((lawAt.2 e).up (by decide))) (fun _ => rfl) (fun _ => rfl)) (Sim.name (Sim.ownC rfl rfl) (by decide +kernel)) Op2.ar) SimI.nil (fun _ => rfl)) (fun _ => rfl)))) (SimT.ownC rfl rfl) (SimX.cons (SimS.assign (SimE.sub (SimE.callV (ks := []) (Sim.name (Sim.bui e.c rfl rfl) (by decide +kernel)) (SimI.cons (SimE.compN 2 (by kernel_rfl) (subSc_of (by kernel_rfl)) (SimIt.ofB (Sim.name (Sim.ownL rfl rfl) (by decide +kernel))) (SimT.ownL rfl rfl) SimC.nil (SimE.tuple (SimI.cons (SimE.callV (ks := []) (Sim.name (Sim.glob e.c rfl rfl) (by decide +kernel)) (SimI.cons (SimE.binop (Sim.name (by first | exact Sim.upF rfl rfl (by decide +kernel) | exact Sim.upC rfl rfl (by decide +kernel)) (by decide +kernel)) SimE.int Op2.ar) (SimI.cons (Sim.name (Sim.ownL rfl rfl) (by decide +kernel)) (SimI.cons (Sim.name (by first | exact Sim.upF rfl rfl (by decide +kernel) | exact Sim.upC rfl rfl (by decide +kernel)) (by decide +kernel)) SimI.nil (fun _ => rfl)) (fun _ => rfl)) (fun _ => rfl)) SimK.nil (SimV.fn e.ok (by rw [e.hK]; k_is) ((lawWay.2 e).up (by decide))) (fun _ => rfl) (fun _ => rfl)) (SimI.cons (Sim.name (Sim.ownL rfl rfl) (by decide +kernel)) SimI.nil (fun _ => rfl)) (fun _ => rfl))) (fun _ _ => rfl)) SimI.nil (fun _ => rfl)) SimK.nil (SimV.minT) (fun _ => rfl) (fun _ => rfl)) SimE.int (OpSub.get e.ok) (fun _ _ => rfl)) (SimT.ownL rfl rfl) (fun _ _ => rfl) (fun _ _ => rfl) (fun _ => rfl))
 (SimX.cons (SimS.assign (SimE.callV (ks := []) (Sim.name (Sim.glob e.c rfl rfl) (by decide +kernel)) (SimI.cons (Sim.name (Sim.ownL rfl rfl) (by decide +kernel)) (SimI.cons (Sim.name (Sim.ownL rfl rfl) (by decide +kernel)) (SimI.cons (Sim.name (Sim.ownC rfl rfl) (by decide +kernel)) (SimI.cons (Sim.name (Sim.ownL rfl rfl) (by decide +kernel)) SimI.nil (fun _ => rfl)) (fun _ => rfl)) (fun _ => rfl)) (fun _ => rfl)) SimK.nil (SimV.fn e.ok (by rw [e.hK]; k_is) ((lawRoute.2 e).up (by decide))) (fun _ => rfl) (fun _ => rfl)) (SimT.tuple 2 (SimTs.cons (SimT.ownL rfl rfl) (SimTs.cons (SimT.ownL rfl rfl) SimTs.nil (fun _ => rfl)) (fun _ => rfl)) (fun _ => rfl) (fun _ => rfl)) (fun _ _ => rfl) (fun _ _ => rfl) (fun _ => rfl))
 (SimX.cons (SimS.if (SimB.boolop (SimAll.or (SimB.cmp e.ok (Sim.name (Sim.ownL rfl rfl) (by decide +kernel)) (Sim.name (Sim.ownL rfl rfl) (by decide +kernel)) Op2.ne rfl) (SimAll.or (SimB.cmp e.ok (SimE.mcall (ks := []) (Sim.name (Sim.ownL rfl rfl) (by decide +kernel)) (SimI.cons (Sim.name (Sim.ownC rfl rfl) (by decide +kernel)) SimI.nil (fun _ => rfl)) SimK.nil (SimM.fn e.ok (cls_ring e.hK) (by rw [e.hK]; k_is) (by rw [e.hK]; k_is) (by rw [e.hK]; k_is) ((getNode.2 e).up (by decide))) (fun _ => rfl) (fun _ => rfl) (fun _ => ⟨_, rfl⟩)) (SimE.callV (ks := []) (Sim.name (Sim.bui e.c rfl rfl) (by decide +kernel)) (SimI.cons (Sim.name (Sim.ownL rfl rfl) (by decide +kernel)) SimI.nil (fun _ => rfl)) SimK.nil (SimV.str) (fun _ => rfl) (fun _ => rfl)) Op2.ne rfl) (SimAll.or (SimB.cmp e.ok (Sim.name (Sim.ownL rfl rfl) (by decide +kernel)) (SimE.mcall (ks := []) (SimE.binop (SimE.callV (ks := []) (Sim.name (Sim.glob e.c rfl rfl) (by decide +kernel)) (SimI.cons (Sim.name (Sim.ownL rfl rfl) (by decide +kernel)) (SimI.cons (Sim.name (Sim.ownC rfl rfl) (by decide +kernel)) (SimI.cons (Sim.name (Sim.ownC rfl rfl) (by decide +kernel)) SimI.nil (fun _ => rfl)) (fun _ => rfl)) (fun _ => rfl)) SimK.nil (SimV.fn e.ok (by rw [e.hK]; k_is) ((lawWay.2 e).up (by decide))) (fun _ => rfl) (fun _ => rfl)) SimE.int Op2.ar) SimI.nil SimK.nil (SimM.bitlen) (fun _ => rfl) (fun _ => rfl) (fun _ => ⟨_, rfl⟩)) Op2.ord rfl) SimAll.orNil)))) (SimX.cons (SimS.ret SimE.bool)
 SimX.nil) SimX.nil)
 SimX.nil))) SimX.nil (fun _ _ => rfl))
 SimX.nil)))) SimX.nil (fun _ _ => rfl)) ?h11
  case' h11 => refine' SimX.cons (SimS.assign (SimE.binop SimE.int (SimE.binop (SimE.callV (ks := []) (Sim.name (Sim.glob e.c rfl rfl) (by decide +kernel)) (SimI.cons (Sim.name (Sim.ownL rfl rfl) (by decide +kernel)) (SimI.cons SimE.int (SimI.cons SimE.int SimI.nil (fun _ => rfl)) (fun _ => rfl)) (fun _ => rfl)) SimK.nil (SimV.fn e.ok (by rw [e.hK]; k_is) ((lawAt.2 e).up (by decide))) (fun _ => rfl) (fun _ => rfl)) SimE.int Op2.ar) Op2.ar) (SimT.ownL rfl rfl) (fun _ _ => rfl) (fun _ _ => rfl) (fun _ => rfl)) ?h12
  case' h12 => refine' SimX.cons (SimS.assign (SimE.binop SimE.int (Sim.name (Sim.ownL rfl rfl) (by decide +kernel)) Op2.ar) (SimT.ownC rfl rfl) (fun _ _ => rfl) (fun _ _ => rfl) (fun _ => rfl)) ?h13
  case' h13 => refine' SimX.cons (SimS.assign (SimE.callV (ks := [("hash_fn" : Str), ("vnodes" : Str)]) (Sim.name (Sim.glob e.c rfl rfl) (by decide +kernel)) (SimI.cons (SimE.compN 2 (by kernel_rfl) (subSc_of (by kernel_rfl)) (SimIt.ofB (SimE.callV (ks := []) (Sim.name (Sim.bui e.c rfl rfl) (by decide +kernel)) (SimI.cons (Sim.name (Sim.ownC rfl rfl) (by decide +kernel)) SimI.nil (fun _ => rfl)) SimK.nil (SimV.range) (fun _ => rfl) (fun _ => rfl))) (SimT.ownL rfl rfl) SimC.nil (SimE.callV (ks := []) (Sim.name (Sim.bui e.c rfl rfl) (by decide +kernel)) (SimI.cons (Sim.name (Sim.ownL rfl rfl) (by decide +kernel)) SimI.nil (fun _ => rfl)) SimK.nil (SimV.str) (fun _ => rfl) (fun _ => rfl)) (fun _ _ => rfl)) SimI.nil (fun _ => rfl)) (SimK.cons (Sim.name (Sim.ownL rfl rfl) (by decide +kernel)) (SimK.cons SimE.int SimK.nil)) (SimV.cls e.ok 1 (by rw [e.hK]; k_is) (by rw [e.hK]; k_is) (by rw [e.hK]; k_is) (by rw [e.hK]; k_is) ((ringInit.2 e).up (by decide))) (fun _ => rfl) (fun _ => rfl)) (SimT.ownL rfl rfl) (fun _ _ => rfl) (fun _ _ => rfl) (fun _ => rfl)) ?h14
  case' h14 => refine' SimX.cons (SimS.assign (SimE.tuple (SimI.cons (SimE.binop (SimE.callV (ks := []) (Sim.name (Sim.glob e.c rfl rfl) (by decide +kernel)) (SimI.cons (Sim.name (Sim.ownL rfl rfl) (by decide +kernel)) (SimI.cons SimE.int (SimI.cons SimE.int SimI.nil (fun _ => rfl)) (fun _ => rfl)) (fun _ => rfl)) SimK.nil (SimV.fn e.ok (by rw [e.hK]; k_is) ((lawAt.2 e).up (by decide))) (fun _ => rfl) (fun _ => rfl)) (Sim.name (Sim.ownC rfl rfl) (by decide +kernel)) Op2.ar) (SimI.cons (SimE.binop (SimE.callV (ks := []) (Sim.name (Sim.glob e.c rfl rfl) (by decide +kernel)) (SimI.cons (Sim.name (Sim.ownL rfl rfl) (by decide +kernel)) (SimI.cons SimE.int (SimI.cons SimE.int SimI.nil (fun _ => rfl)) (fun _ => rfl)) (fun _ => rfl)) SimK.nil (SimV.fn e.ok (by rw [e.hK]; k_is) ((lawAt.2 e).up (by decide))) (fun _ => rfl) (fun _ => rfl)) (Sim.name (Sim.ownC rfl rfl) (by decide +kernel)) Op2.ar) SimI.nil (fun _ => rfl)) (fun _ => rfl))) (SimT.tuple 2 (SimTs.cons (SimT.ownL rfl rfl) (SimTs.cons (SimT.ownC rfl rfl) SimTs.nil (fun _ => rfl)) (fun _ => rfl)) (fun _ => rfl) (fun _ => rfl)) (fun _ _ => rfl) (fun env h => by unfold swappedStores Env.kindOf Env.blockKind; rw [h]; rfl) (fun _ => rfl)) ?h15
  case' h15 => refine' SimX.cons (SimS.assign (SimE.binop (SimE.callV (ks := []) (Sim.name (Sim.glob e.c rfl rfl) (by decide +kernel)) (SimI.cons (Sim.name (Sim.ownL rfl rfl) (by decide +kernel)) (SimI.cons (Sim.name (Sim.ownC rfl rfl) (by decide +kernel)) (SimI.cons (Sim.name (Sim.ownC rfl rfl) (by decide +kernel)) SimI.nil (fun _ => rfl)) (fun _ => rfl)) (fun _ => rfl)) SimK.nil (SimV.fn e.ok (by rw [e.hK]; k_is) ((lawWay.2 e).up (by decide))) (fun _ => rfl) (fun _ => rfl)) SimE.int Op2.ar) (SimT.ownC rfl rfl) (fun _ _ => rfl) (fun _ _ => rfl) (fun _ => rfl)) ?h16
  case' h16 => refine' SimX.cons (SimS.ret (SimE.cmp (SimE.callV (ks := []) (Sim.name (Sim.glob e.c rfl rfl) (by decide +kernel)) (SimI.cons (Sim.name (Sim.ownL rfl rfl) (by decide +kernel)) (SimI.cons (Sim.name (Sim.ownL rfl rfl) (by decide +kernel)) (SimI.cons (Sim.name (Sim.ownC rfl rfl) (by decide +kernel)) (SimI.cons (Sim.name (Sim.ownL rfl rfl) (by decide +kernel)) SimI.nil (fun _ => rfl)) (fun _ => rfl)) (fun _ => rfl)) (fun _ => rfl)) SimK.nil (SimV.fn e.ok (by rw [e.hK]; k_is) ((lawRoute.2 e).up (by decide))) (fun _ => rfl) (fun _ => rfl)) (SimE.tuple (SimI.cons (Sim.name (Sim.ownC rfl rfl) (by decide +kernel)) (SimI.cons (SimE.callV (ks := []) (Sim.name (Sim.bui e.c rfl rfl) (by decide +kernel)) (SimI.cons (SimE.compN 2 (by kernel_rfl) (subSc_of (by kernel_rfl)) (SimIt.ofB (SimE.callV (ks := []) (Sim.name (Sim.bui e.c rfl rfl) (by decide +kernel)) (SimI.cons (Sim.name (Sim.ownL rfl rfl) (by decide +kernel)) SimI.nil (fun _ => rfl)) SimK.nil (SimV.range) (fun _ => rfl) (fun _ => rfl))) (SimT.ownL rfl rfl) SimC.nil (SimE.binop (SimE.binop (Sim.name (by first | exact Sim.upF rfl rfl (by decide +kernel) | exact Sim.upC rfl rfl (by decide +kernel)) (by decide +kernel)) (SimE.binop SimE.int (Sim.name (Sim.ownL rfl rfl) (by decide +kernel)) Op2.ar) Op2.ar) SimE.int Op2.ar) (fun _ _ => rfl)) SimI.nil (fun _ => rfl)) SimK.nil (SimV.sum) (fun _ => rfl) (fun _ => rfl)) SimI.nil (fun _ => rfl)) (fun _ => rfl))) (Op2.eq) rfl)) ?h17
  case' h17 => exact SimX.nil
end Mine
end

section
open PySem PySem.W PySem.Calls PyProof.Rows
set_option Elab.async false
set_option maxRecDepth 20000
set_option linter.unusedVariables false
set_option linter.unusedSectionVars false
set_option linter.unusedSimpArgs false
namespace Mine
/-! what a shallow program brings about -/
def Wp0 {α : Type} (f : M α) (Q : α → St → Prop) (σ : St) : Prop := match f σ with
  | none => False
  | some (a, σ') => Q a σ'
/-- boxed, lest `whnf` of a goal runs the program -/
structure Wp {α : Type} (f : M α) (Q : α → St → Prop) (σ : St) : Prop where of ::
  to : Wp0 f Q σ
theorem Wp_eq {α : Type} {f : M α} {Q : α → St → Prop} {σ : St} : Wp f Q σ = Wp0 f Q σ := propext ⟨Wp.to, Wp.of⟩
theorem Wp.elim {α : Type} {f : M α} {Q : α → St → Prop} {σ : St} (h : Wp f Q σ) : ∃ a σ', f σ = some (a, σ') ∧ Q a σ' := by
  rw [Wp_eq] at h; unfold Wp0 at h
  split at h
  · exact h.elim
  · rename_i a σ' e; exact ⟨a, σ', e, h⟩
theorem Wp.intro {α : Type} {f : M α} {Q : α → St → Prop} {σ : St} {a : α} {σ' : St} (e : f σ = some (a, σ')) (q : Q a σ') : Wp f Q σ := by
  simp only [Wp_eq]; unfold Wp0; rw [e]; exact q
def upd (st : Hd → Option AO) (h : Hd) (o : AO) : Hd → Option AO := fun m => if m = h then some o else st m
theorem upd_same {st : Hd → Option AO} {h o} : upd st h o h = some o := if_pos rfl
theorem upd_ne {st : Hd → Option AO} {h h' : Hd} {o} (n : h' ≠ h) : upd st h o h' = st h' := if_neg n
theorem upd_site {st : Hd → Option AO} {s s' a b : Nat} {o} : upd st (s, a) o (s', b) = if s' = s ∧ b = a then some o else st (s', b) := by
  unfold upd; simp [Prod.mk.injEq]

section
variable {α β : Type} {Q Q' : α → St → Prop} {σ : St} {fs : List Frm} {f : Frm} {st : Hd → Option AO} {cnt : Nat}
theorem Wp.mono {p : M α} (h : Wp p Q σ) (hq : ∀ a σ', Q a σ' → Q' a σ') : Wp p Q' σ := let ⟨a, σ', e, q⟩ := h.elim; .intro e (hq a σ' q)
theorem wp_of {p : M α} {a : α} {σ' : St} (e : p σ = some (a, σ')) : Wp p Q σ ↔ Q a σ' := by
  simp only [Wp_eq]; unfold Wp0; rw [e]
theorem wp_pure {a : α} : Wp (M.pure a) Q σ = Q a σ := by
  apply propext; exact wp_of rfl
theorem wp_fail : Wp (M.fail : M α) Q σ = False := by simp only [Wp_eq]; unfold Wp0 M.fail; simp
theorem wp_bind {p : M β} {g : β → M α} : Wp (M.bind p g) Q σ = Wp p (fun b σ' => Wp (g b) Q σ') σ := by
  simp only [Wp_eq]; unfold Wp0 M.bind
  cases h : p σ with
  | none => rfl
  | some r => rfl
theorem wp_seqA {p q : M AFl} {Q : AFl → St → Prop} : Wp (seqA p q) Q σ = Wp p (fun r σ' => match r with
    | .next => Wp q Q σ'
    | .brk => Q .brk σ'
    | .cont => Q .cont σ'
    | .ret v => Q (.ret v) σ') σ := by
  unfold seqA
  rw [wp_bind]
  congr
  funext r σ'
  cases r <;> simp [wp_pure]
theorem wp_cond {b : Bool} {p q : M α} : Wp (bif b then p else q) Q σ = (bif b then Wp p Q σ else Wp q Q σ) := by cases b <;> rfl
theorem wp_ite {c : Prop} [Decidable c] {p q : M α} : Wp (if c then p else q) Q σ = (if c then Wp p Q σ else Wp q Q σ) := by split <;> rfl
theorem wp_ldv0 {i : Nat} {Q : AV → St → Prop} : Wp (ldv 0 i) Q ⟨f :: fs, st, cnt⟩ = ∃ v, f[i]? = some (some v) ∧ Q v ⟨f :: fs, st, cnt⟩ := by
  apply propext
  simp only [Wp_eq]; unfold Wp0 ldv
  simp only [List.getElem?_cons_zero]
  cases h : f[i]? with
  | none => simp
  | some o => cases o <;> simp
theorem wp_ldv1 {i : Nat} {g : Frm} {Q : AV → St → Prop} : Wp (ldv 1 i) Q ⟨f :: g :: fs, st, cnt⟩ = ∃ v, g[i]? = some (some v) ∧ Q v ⟨f :: g :: fs, st, cnt⟩ := by
  apply propext
  simp only [Wp_eq]; unfold Wp0 ldv
  simp only [List.getElem?_cons_zero, List.getElem?_cons_succ]
  cases h : g[i]? with
  | none => simp
  | some o => cases o <;> simp
theorem wp_ldb {i : Nat} {Q : AV → St → Prop} : Wp (ldb i) Q ⟨fs, st, cnt⟩ = ∃ b, fs.getLast? = some b ∧ ∃ v, b[i]? = some (some v) ∧ Q v ⟨fs, st, cnt⟩ := by
  apply propext
  simp only [Wp_eq]; unfold Wp0 ldb
  dsimp only
  cases hb : fs.getLast? with
  | none => simp
  | some b =>
    simp only [Option.some.injEq, exists_eq_left']
    cases h : b[i]? with
    | none => simp
    | some o => cases o <;> simp
theorem wp_stv {i : Nat} {v : AV} {Q : Unit → St → Prop} : Wp (stv i v) Q ⟨f :: fs, st, cnt⟩ = Q () ⟨f.set i (some v) :: fs, st, cnt⟩ := by
  apply propext; exact wp_of rfl
theorem wp_alloc {s : Nat} {o : AO} {Q : Hd → St → Prop} : Wp (allocA s o) Q ⟨fs, st, cnt⟩ = Q (s, cnt) ⟨fs, upd st (s, cnt) o, cnt + 1⟩ := by
  apply propext; exact wp_of rfl
-- attributes
theorem wp_getNs {C : Addr} {x : Str} {h : Hd} {Q : AV → St → Prop} : Wp (getNs C x (.inst C h)) Q ⟨fs, st, cnt⟩ = ∃ l, st h = some (.ns l) ∧ ∃ v, l.lookup x = some v ∧ noMc v = true ∧ Q v ⟨fs, st, cnt⟩ := by
  apply propext
  simp only [Wp_eq]; unfold Wp0 getNs
  simp only [if_true]
  cases hl : st h with
  | none => simp
  | some o =>
    cases o <;> simp
    rename_i l
    cases hv : l.lookup x with
    | none => simp
    | some v => cases hm : noMc v <;> simp [hm]
theorem wp_getBm {C g : Addr} {x : Str} {h : Hd} {Q : AV → St → Prop} : Wp (getBm C g x (.inst C h)) Q ⟨fs, st, cnt⟩ = ∃ l, st h = some (.ns l) ∧ l.lookup x = none ∧ Q (.bm g (.inst C h)) ⟨fs, st, cnt⟩ := by
  apply propext
  simp only [Wp_eq]; unfold Wp0 getBm
  simp only [if_true]
  cases hl : st h with
  | none => simp
  | some o =>
    cases o <;> simp only [Option.some.injEq, AO.ns.injEq, reduceCtorEq, false_and, exists_false, exists_eq_left']
    rename_i l
    by_cases hv : l.lookup x = none
    · simp only [hv, if_true, true_and]
    · simp only [hv, if_false, false_and]
theorem wp_selfIn {C : Addr} {x : Str} {h : Hd} {Q : AV → St → Prop} : Wp (selfIn C x (.inst C h)) Q ⟨fs, st, cnt⟩ = ∃ l, st h = some (.ns l) ∧ l.lookup x = none ∧ Q (.inst C h) ⟨fs, st, cnt⟩ := by
  apply propext
  simp only [Wp_eq]; unfold Wp0 selfIn
  simp only [if_true]
  cases hl : st h with
  | none => simp
  | some o =>
    cases o <;> simp only [Option.some.injEq, AO.ns.injEq, reduceCtorEq, false_and, exists_false, exists_eq_left']
    rename_i l
    by_cases hv : l.lookup x = none
    · simp only [hv, if_true, true_and]
    · simp only [hv, if_false, false_and]
theorem wp_setNs {C : Addr} {x : Str} {h : Hd} {v : AV} {Q : Unit → St → Prop} : Wp (setNs C x (.inst C h) v) Q ⟨fs, st, cnt⟩ = ∃ l, st h = some (.ns l) ∧ l.length ≤ 100 ∧ Q () ⟨fs, upd st h (.ns (nsPut l x v)), cnt⟩ := by
  apply propext
  simp only [Wp_eq]; unfold Wp0 setNs
  simp only [if_true]
  cases hl : st h with
  | none => simp
  | some o =>
    cases o <;> simp
    rename_i l
    by_cases h : l.length ≤ 100
    · simp [h]; exact Iff.rfl
    · simp [h]
theorem wp_getPr {C : Addr} {h : Hd} {g : List AV → List AV → M AV} {Q : AV → St → Prop} : Wp (getPr C g (.inst C h)) Q ⟨fs, st, cnt⟩ = ∃ l, st h = some (.ns l) ∧ Wp (g [.inst C h] []) (fun v σ' => noMc v = true ∧ Q v σ') ⟨fs, st, cnt⟩ := by
  apply propext
  simp only [Wp_eq]; unfold Wp0 getPr
  simp only [if_true]
  cases hl : st h with
  | none => simp
  | some o =>
    cases o <;> simp
    unfold M.bind
    cases hg : g [.inst C h] [] ⟨fs, st, cnt⟩ with
    | none => simp
    | some r =>
      simp
      cases hm : noMc r.1 <;> simp [M.pure, M.fail]
      
theorem wp_bmF {a : Addr} {g : List AV → List AV → M AV} {self : AV} {args kws : List AV} : bmF a g (.bm a self) args kws = g (self :: args) kws := if_pos rfl
theorem noKw_nil {g : AV → List AV → M AV} {a : AV} {l : List AV} : noKw g a l [] = g a l := rfl
theorem wp_preT {T : String} {a : AV} {Q : AV → St → Prop} : Wp (preT T a) Q σ = (tyA σ a = some T ∧ Q a σ) := by
  apply propext
  simp only [Wp_eq]; unfold Wp0 preT
  by_cases h : tyA σ a = some T <;> simp [h]
theorem tyA_int {i : Int} : tyA σ (.int i) = some "int" := rfl
theorem tyA_str {i : Str} : tyA σ (.str i) = some "str" := rfl
theorem tyA_lst {i : List AV} : tyA σ (.lst i) = some "list" := rfl
theorem tyA_dct {i : List (Str × AV)} : tyA σ (.dct i) = some "dict" := rfl
theorem tyA_list {h : Hd} {l : List AV} (e : st h = some (.list l)) : tyA ⟨fs, st, cnt⟩ (.ref h) = some "list" := by simp [tyA, e]
theorem tyA_dictI {h : Hd} {l : List (Int × AV)} (e : st h = some (.dictI l)) : tyA ⟨fs, st, cnt⟩ (.ref h) = some "dict" := by simp [tyA, e]
theorem tyA_dictS {h : Hd} {l : List (Str × AV)} (e : st h = some (.dictS l)) : tyA ⟨fs, st, cnt⟩ (.ref h) = some "dict" := by simp [tyA, e]
-- operators
theorem ar_add {a b : Int} : arA .Add (.int a) (.int b) = M.pure (.int (a + b)) := rfl
theorem ar_sub {a b : Int} : arA .Sub (.int a) (.int b) = M.pure (.int (a - b)) := rfl
theorem iar_add {a b : Int} : iarA .Add (.int a) (.int b) = M.pure (.int (a + b)) := rfl
theorem iar_sub {a b : Int} : iarA .Sub (.int a) (.int b) = M.pure (.int (a - b)) := rfl
theorem small_of {a : Int} (h1 : -1000000000000 < a) (h2 : a < 1000000000000) : smallI a = true := by
  unfold smallI
  simp only [Bool.and_eq_true, decide_eq_true_eq]
  omega
theorem ar_mulL {a b : Int} (h : smallI a = true) : arA .Mult (.int a) (.int b) = M.pure (.int (a * b)) := by simp [arA, h]
theorem ar_mulR {a b : Int} (h : smallI b = true) : arA .Mult (.int a) (.int b) = M.pure (.int (a * b)) := by simp [arA, h]
theorem ar_div {a b : Int} (h : b ≠ 0 ∧ b.natAbs < 1073741824) : arA .FloorDiv (.int a) (.int b) = M.pure (.int (a.fdiv b)) := by simp [arA, h]
theorem iar_div {a b : Int} (h : b ≠ 0 ∧ b.natAbs < 1073741824) : iarA .FloorDiv (.int a) (.int b) = M.pure (.int (a.fdiv b)) := by simp [iarA, h]
theorem ar_mod {a b : Int} (h : b ≠ 0) : arA .Mod (.int a) (.int b) = M.pure (.int (a.fmod b)) := by simp [arA, h]
theorem ar_pow {a b : Int} (h : smallI a = true ∧ 0 ≤ b ∧ b < 1000) : arA .Pow (.int a) (.int b) = M.pure (.int (a ^ b.toNat)) := by simp only [arA, h, and_self, if_true]
theorem ar_cat {a b : Str} (h : a.length + b.length ≤ 2 ^ 20) : arA .Add (.str a) (.str b) = M.pure (.str (a ++ b)) := by simp only [arA, h, if_true]
theorem ord_lt {a b : Int} : ordA .Lt (.int a) (.int b) = M.pure (.bool (decide (a < b))) := rfl
theorem ord_le {a b : Int} : ordA .LtE (.int a) (.int b) = M.pure (.bool (decide (a ≤ b))) := rfl
theorem ord_gt {a b : Int} : ordA .Gt (.int a) (.int b) = M.pure (.bool (decide (b < a))) := rfl
theorem ord_ge {a b : Int} : ordA .GtE (.int a) (.int b) = M.pure (.bool (decide (b ≤ a))) := rfl
theorem is_none : ordA .Is .none .none = M.pure (.bool true) := rfl
theorem is_int {a : Int} : ordA .Is (.int a) .none = M.pure (.bool false) := rfl
theorem is_str {a : Str} : ordA .Is (.str a) .none = M.pure (.bool false) := rfl
theorem isN_none : isNotA .none .none = M.pure (.bool false) := rfl
theorem eqFS_clo {k : Nat} {x : Str} : eqFS (.clo k) (.str x) = M.pure (.bool false) := rfl
theorem un_neg {a : Int} : unA .USub (.int a) = M.pure (.int (-a)) := rfl
theorem tr_bool {b : Bool} : trA (.bool b) = M.pure b := rfl
theorem tr_none : trA .none = M.pure false := rfl
theorem tr_int {i : Int} : trA (.int i) = M.pure (i != 0) := rfl
theorem tr_clo {k : Nat} : trA (.clo k) = M.pure true := rfl
theorem tr_lst {l : List AV} (h : l.length ≤ 2 ^ 40) : trA (.lst l) = M.pure (l.length != 0) := by simp only [trA, h, if_true]
theorem tr_dct {l : List (Str × AV)} (h : l.length ≤ 2 ^ 40) : trA (.dct l) = M.pure (l.length != 0) := by simp only [trA, h, if_true]
theorem wp_tr_ref {h : Hd} {Q : Bool → St → Prop} : Wp (trA (.ref h)) Q ⟨fs, st, cnt⟩ = ((∃ l, st h = some (.list l) ∧ l.length ≤ 2 ^ 40 ∧ Q (l.length != 0) ⟨fs, st, cnt⟩) ∨ (∃ l, st h = some (.dictI l) ∧ l.length ≤ 2 ^ 40 ∧ Q (l.length != 0) ⟨fs, st, cnt⟩) ∨ (∃ l, st h = some (.dictS l) ∧ l.length ≤ 2 ^ 40 ∧ Q (l.length != 0) ⟨fs, st, cnt⟩)) := by
  apply propext
  simp only [Wp_eq]; unfold Wp0 trA
  dsimp only
  cases hl : st h with
  | none => simp
  | some o =>
    cases o <;> simp
    all_goals
      rename_i l
      by_cases h : l.length ≤ 1099511627776 <;> simp [h]
-- equality of data
def plainD : PyData → Bool
  | .int _ => true
  | .str x => PyData.strOk x
  | .list l => plainDs l
  | .tuple l => plainDs l
  | _ => false
where plainDs : List PyData → Bool
  | [] => true
  | a :: l => plainD a && plainDs l
theorem wp_eqA {a b : AV} {d e : PyData} {Q : AV → St → Prop} (h1 : viewD σ a = some d) (h2 : viewD σ b = some e) (h3 : dOk d = true) (h4 : dOk e = true) : Wp (eqA a b) Q σ = Q (.bool (PyData.eqv d e)) σ := by
  apply propext; refine wp_of ?_
  unfold eqA
  rw [h1, h2]; simp [h3, h4]
theorem wp_neA {a b : AV} {d e : PyData} {Q : AV → St → Prop} (h1 : viewD σ a = some d) (h2 : viewD σ b = some e) (h3 : dOk d = true) (h4 : dOk e = true) : Wp (neA a b) Q σ = Q (.bool (!PyData.eqv d e)) σ := by
  apply propext; refine wp_of ?_
  unfold neA
  rw [h1, h2]; simp [h3, h4]
theorem dOk_int {i : Int} : dOk (.int i) = true := by simp [dOk, PyData.canLay0, PyData.depth]
theorem dOk_none : dOk .none = true := by simp [dOk, PyData.canLay0, PyData.depth]
theorem dOk_str {x : Str} (h : PyData.strOk x = true) : dOk (.str x) = true := by simp [dOk, PyData.canLay0, PyData.depth, h]
theorem wp_eq_int {a b : Int} {Q : AV → St → Prop} : Wp (eqA (.int a) (.int b)) Q σ = Q (.bool (decide (a = b))) σ := by
  rw [wp_eqA (d := .int a) (e := .int b) rfl rfl dOk_int dOk_int]
  have : PyData.eqv (.int a) (.int b) = decide (a = b) := by rw [PyData.eqv]; exact Bool.beq_eq_decide_eq a b
  rw [this]
theorem wp_ne_int {a b : Int} {Q : AV → St → Prop} : Wp (neA (.int a) (.int b)) Q σ = Q (.bool (!decide (a = b))) σ := by
  rw [wp_neA (d := .int a) (e := .int b) rfl rfl dOk_int dOk_int]
  have : PyData.eqv (.int a) (.int b) = decide (a = b) := by rw [PyData.eqv]; exact Bool.beq_eq_decide_eq a b
  rw [this]
theorem wp_eq_str {a b : Str} {Q : AV → St → Prop} (h1 : PyData.strOk a = true) (h2 : PyData.strOk b = true) : Wp (eqA (.str a) (.str b)) Q σ = Q (.bool (decide (a = b))) σ := by
  rw [wp_eqA (d := .str a) (e := .str b) rfl rfl (dOk_str h1) (dOk_str h2)]
  have : PyData.eqv (.str a) (.str b) = decide (a = b) := by rw [PyData.eqv]; exact Bool.beq_eq_decide_eq a b
  rw [this]
theorem wp_ne_str {a b : Str} {Q : AV → St → Prop} (h1 : PyData.strOk a = true) (h2 : PyData.strOk b = true) : Wp (neA (.str a) (.str b)) Q σ = Q (.bool (!decide (a = b))) σ := by
  rw [wp_neA (d := .str a) (e := .str b) rfl rfl (dOk_str h1) (dOk_str h2)]
  have : PyData.eqv (.str a) (.str b) = decide (a = b) := by rw [PyData.eqv]; exact Bool.beq_eq_decide_eq a b
  rw [this]
theorem wp_eq_ns {b : Str} {Q : AV → St → Prop} (h2 : PyData.strOk b = true) : Wp (eqA .none (.str b)) Q σ = Q (.bool false) σ := by
  rw [wp_eqA (d := .none) (e := .str b) rfl rfl dOk_none (dOk_str h2), PyData.eqv]
theorem wp_eq_ni {b : Int} {Q : AV → St → Prop} : Wp (eqA .none (.int b)) Q σ = Q (.bool false) σ := by
  rw [wp_eqA (d := .none) (e := .int b) rfl rfl dOk_none dOk_int, PyData.eqv]
theorem wp_ne_ni {b : Int} {Q : AV → St → Prop} : Wp (neA .none (.int b)) Q σ = Q (.bool true) σ := by
  rw [wp_neA (d := .none) (e := .int b) rfl rfl dOk_none dOk_int, PyData.eqv]; rfl
-- displays
theorem mkT_eq {l : List AV} (h : l.length ≤ 1000) : mkT l = M.pure (.tup l) := if_pos h
theorem mkL_eq {l : List AV} (h : l.length ≤ 1000) : mkL l = M.pure (.lst l) := if_pos h
-- items
theorem wp_getA_tup {l : List AV} {i : Int} {Q : AV → St → Prop} : Wp (getA (.tup l) (.int i)) Q σ = ∃ v, atL l i = some v ∧ Q v σ := by
  apply propext
  simp only [Wp_eq]; unfold Wp0 getA
  dsimp only
  cases h : atL l i <;> simp
theorem wp_getA_lst {l : List AV} {i : Int} {Q : AV → St → Prop} : Wp (getA (.lst l) (.int i)) Q σ = ∃ v, atL l i = some v ∧ Q v σ := by
  apply propext
  simp only [Wp_eq]; unfold Wp0 getA
  dsimp only
  cases h : atL l i <;> simp
theorem wp_getA_dct {l : List (Str × AV)} {x : Str} {Q : AV → St → Prop} : Wp (getA (.dct l) (.str x)) Q σ = ∃ v, getK l x = some v ∧ Q v σ := by
  apply propext
  simp only [Wp_eq]; unfold Wp0 getA
  dsimp only
  cases h : getK l x <;> simp
theorem wp_getA_dictS {h : Hd} {x : Str} {Q : AV → St → Prop} : Wp (getA (.ref h) (.str x)) Q ⟨fs, st, cnt⟩ = ∃ l, st h = some (.dictS l) ∧ ∃ v, getK l x = some v ∧ Q v ⟨fs, st, cnt⟩ := by
  apply propext
  simp only [Wp_eq]; unfold Wp0 getA
  dsimp only
  cases hl : st h with
  | none => simp
  | some o =>
    cases o <;> simp
    rename_i l
    cases h : getK l x <;> simp
theorem wp_getA_int {h : Hd} {i : Int} {Q : AV → St → Prop} : Wp (getA (.ref h) (.int i)) Q ⟨fs, st, cnt⟩ = ((∃ l, st h = some (.dictI l) ∧ ∃ v, getK l i = some v ∧ Q v ⟨fs, st, cnt⟩) ∨ ∃ l, st h = some (.list l) ∧ ∃ v, atL l i = some v ∧ Q v ⟨fs, st, cnt⟩) := by
  apply propext
  simp only [Wp_eq]; unfold Wp0 getA
  dsimp only
  cases hl : st h with
  | none => simp
  | some o =>
    cases o <;> simp
    · rename_i l
      cases h : atL l i <;> simp
    · rename_i l
      cases h : getK l i <;> simp
theorem wp_setS {h : Hd} {x : Str} {v : AV} {Q : Unit → St → Prop} : Wp (setItA (.ref h) (.str x) v) Q ⟨fs, st, cnt⟩ = ∃ l, st h = some (.dictS l) ∧ l.length ≤ 2 ^ 20 ∧ Q () ⟨fs, upd st h (.dictS (setK l x v)), cnt⟩ := by
  apply propext
  simp only [Wp_eq]; unfold Wp0 setItA
  dsimp only
  cases hl : st h with
  | none => simp
  | some o =>
    cases o <;> simp
    rename_i l
    by_cases h : l.length ≤ 1048576 <;> simp [h]
    exact Iff.rfl
theorem wp_setI {h : Hd} {i : Int} {v : AV} {Q : Unit → St → Prop} : Wp (setItA (.ref h) (.int i) v) Q ⟨fs, st, cnt⟩ = ∃ l, st h = some (.dictI l) ∧ l.length ≤ 2 ^ 20 ∧ Q () ⟨fs, upd st h (.dictI (setK l i v)), cnt⟩ := by
  apply propext
  simp only [Wp_eq]; unfold Wp0 setItA
  dsimp only
  cases hl : st h with
  | none => simp
  | some o =>
    cases o <;> simp
    rename_i l
    by_cases h : l.length ≤ 1048576 <;> simp [h]
    exact Iff.rfl
theorem wp_delI {h : Hd} {i : Int} {Q : Unit → St → Prop} : Wp (delItA (.ref h) (.int i)) Q ⟨fs, st, cnt⟩ = ∃ l, st h = some (.dictI l) ∧ l.length ≤ 2 ^ 20 ∧ (getK l i).isSome = true ∧ Q () ⟨fs, upd st h (.dictI (delK l i)), cnt⟩ := by
  apply propext
  simp only [Wp_eq]; unfold Wp0 delItA
  dsimp only
  cases hl : st h with
  | none => simp
  | some o =>
    cases o <;> simp
    rename_i l
    by_cases h : l.length ≤ 1048576 ∧ (getK l i).isSome = true
    · simp [h]; exact Iff.rfl
    · simp [h]
      intro h1 h2; exact absurd ⟨h1, h2⟩ h
theorem wp_append {h : Hd} {v : AV} {Q : AV → St → Prop} : Wp (appendF (.ref h) [v]) Q ⟨fs, st, cnt⟩ = ∃ l, st h = some (.list l) ∧ l.length ≤ 2 ^ 20 ∧ Q .none ⟨fs, upd st h (.list (l ++ [v])), cnt⟩ := by
  apply propext
  simp only [Wp_eq]; unfold Wp0 appendF
  dsimp only
  cases hl : st h with
  | none => simp
  | some o =>
    cases o <;> simp
    rename_i l
    by_cases h : l.length ≤ 1048576 <;> simp [h]
    exact Iff.rfl
theorem wp_dgetI {h : Hd} {i : Int} {Q : AV → St → Prop} : Wp (dgetF (.ref h) [.int i]) Q ⟨fs, st, cnt⟩ = ∃ l, st h = some (.dictI l) ∧ Q ((getK l i).getD .none) ⟨fs, st, cnt⟩ := by
  apply propext
  simp only [Wp_eq]; unfold Wp0 dgetF dget
  dsimp only
  cases hl : st h with
  | none => simp
  | some o => cases o <;> simp
theorem wp_dgetS {h : Hd} {x : Str} {Q : AV → St → Prop} : Wp (dgetF (.ref h) [.str x]) Q ⟨fs, st, cnt⟩ = ∃ l, st h = some (.dictS l) ∧ Q ((getK l x).getD .none) ⟨fs, st, cnt⟩ := by
  apply propext
  simp only [Wp_eq]; unfold Wp0 dgetF dget
  dsimp only
  cases hl : st h with
  | none => simp
  | some o => cases o <;> simp
theorem wp_dgetSd {h : Hd} {x : Str} {d : AV} {Q : AV → St → Prop} : Wp (dgetF (.ref h) [.str x, d]) Q ⟨fs, st, cnt⟩ = ∃ l, st h = some (.dictS l) ∧ Q ((getK l x).getD d) ⟨fs, st, cnt⟩ := by
  apply propext
  simp only [Wp_eq]; unfold Wp0 dgetF dget
  dsimp only
  cases hl : st h with
  | none => simp
  | some o => cases o <;> simp
theorem wp_dgetD {l : List (Str × AV)} {x : Str} {Q : AV → St → Prop} : Wp (dgetF (.dct l) [.str x]) Q σ = Q ((getK l x).getD .none) σ := by
  apply propext; exact wp_of rfl
theorem wp_dgetDd {l : List (Str × AV)} {x : Str} {d : AV} {Q : AV → St → Prop} : Wp (dgetF (.dct l) [.str x, d]) Q σ = Q ((getK l x).getD d) σ := by
  apply propext; exact wp_of rfl
theorem wp_pop1 {h : Hd} {x : Str} {Q : AV → St → Prop} : Wp (popF (.ref h) [.str x]) Q ⟨fs, st, cnt⟩ = ∃ l, st h = some (.dictS l) ∧ l.length ≤ 2 ^ 20 ∧ ∃ v, getK l x = some v ∧ Q v ⟨fs, upd st h (.dictS (delK l x)), cnt⟩ := by
  apply propext
  simp only [Wp_eq]; unfold Wp0 popF
  dsimp only
  cases hl : st h with
  | none => simp
  | some o =>
    cases o <;> simp
    rename_i l
    by_cases h : l.length ≤ 1048576
    · simp only [h, if_true, true_and]
      cases getK l x <;> simp
      exact Iff.rfl
    · simp [h]
theorem wp_pop2 {h : Hd} {x : Str} {d : AV} {Q : AV → St → Prop} : Wp (popF (.ref h) [.str x, d]) Q ⟨fs, st, cnt⟩ = ∃ l, st h = some (.dictS l) ∧ l.length ≤ 2 ^ 20 ∧ ((getK l x = none ∧ Q d ⟨fs, st, cnt⟩) ∨ ∃ v, getK l x = some v ∧ Q v ⟨fs, upd st h (.dictS (delK l x)), cnt⟩) := by
  apply propext
  simp only [Wp_eq]; unfold Wp0 popF
  dsimp only
  cases hl : st h with
  | none => simp
  | some o =>
    cases o <;> simp
    rename_i l
    by_cases h : l.length ≤ 1048576
    · simp only [h, if_true, true_and]
      cases getK l x <;> simp
      exact Iff.rfl
    · simp [h]
theorem wp_view {k : Nat} {h : Hd} {Q : AV → St → Prop} : Wp (viewF k (.ref h) []) Q σ = (tyA σ (.ref h) = some "dict" ∧ Q (.view k (.ref h)) σ) := by
  apply propext
  simp only [Wp_eq]; unfold Wp0 viewF
  by_cases h' : tyA σ (.ref h) = some "dict" <;> simp [h']
theorem wp_viewD {k : Nat} {l : List (Str × AV)} {Q : AV → St → Prop} : Wp (viewF k (.dct l) []) Q σ = Q (.view k (.dct l)) σ := by
  apply propext; exact wp_of rfl
-- counters
theorem wp_preCtr {C : Addr} {h : Hd} {Q : AV → St → Prop} : Wp (preCtr C (.ref h)) Q ⟨fs, st, cnt⟩ = ∃ l, st h = some (.ctr C l) ∧ Q (.ref h) ⟨fs, st, cnt⟩ := by
  apply propext
  simp only [Wp_eq]; unfold Wp0 preCtr
  dsimp only
  cases hl : st h with
  | none => simp
  | some o =>
    cases o <;> simp
    rename_i C' l
    by_cases h : C' = C <;> simp [h]
theorem wp_ctrPop1 {C : Addr} {h : Hd} {x : Str} {Q : AV → St → Prop} : Wp (ctrPop C (.ref h) [.str x]) Q ⟨fs, st, cnt⟩ = ∃ l, st h = some (.ctr C l) ∧ l.length ≤ 1000 ∧ ∃ v, getK l x = some v ∧ Q v ⟨fs, upd st h (.ctr C (delK l x)), cnt⟩ := by
  apply propext
  simp only [Wp_eq]; unfold Wp0 ctrPop
  dsimp only
  cases hl : st h with
  | none => simp
  | some o =>
    cases o <;> simp
    rename_i C' l
    by_cases h : C' = C
    · subst h
      by_cases h : l.length ≤ 1000
      · cases hx : getK l x <;> simp [h, hx]
        all_goals exact Iff.rfl
      · simp [h]
    · simp [h]
theorem wp_ctrPop2 {C : Addr} {h : Hd} {x : Str} {d : AV} {Q : AV → St → Prop} : Wp (ctrPop C (.ref h) [.str x, d]) Q ⟨fs, st, cnt⟩ = ∃ l, st h = some (.ctr C l) ∧ l.length ≤ 1000 ∧ ((getK l x = none ∧ Q d ⟨fs, st, cnt⟩) ∨ ∃ v, getK l x = some v ∧ Q v ⟨fs, upd st h (.ctr C (delK l x)), cnt⟩) := by
  apply propext
  simp only [Wp_eq]; unfold Wp0 ctrPop
  dsimp only
  cases hl : st h with
  | none => simp
  | some o =>
    cases o <;> simp
    rename_i C' l
    by_cases h : C' = C
    · subst h
      by_cases h : l.length ≤ 1000
      · cases hx : getK l x <;> simp [h, hx]
        all_goals exact Iff.rfl
      · simp [h]
    · simp [h]
theorem wp_ctrGet {C : Addr} {h : Hd} {x : Str} {g : List AV → List AV → M AV} {Q : AV → St → Prop} : Wp (ctrGet C g (.ref h) (.str x)) Q ⟨fs, st, cnt⟩ = ∃ l, st h = some (.ctr C l) ∧ ((getK l x = none ∧ Wp (g [.ref h, .str x] []) Q ⟨fs, st, cnt⟩) ∨ ∃ v, getK l x = some v ∧ Q v ⟨fs, st, cnt⟩) := by
  apply propext
  simp only [Wp_eq]; unfold Wp0 ctrGet
  dsimp only
  cases hl : st h with
  | none => simp
  | some o =>
    cases o <;> simp
    rename_i C' l
    by_cases h : C' = C
    · subst h
      cases hx : getK l x <;> simp [hx]
    · simp [h]
theorem wp_ctrSet {C : Addr} {h : Hd} {x : Str} {v : AV} {Q : Unit → St → Prop} : Wp (ctrSet C (.ref h) (.str x) v) Q ⟨fs, st, cnt⟩ = ∃ l, st h = some (.ctr C l) ∧ l.length ≤ 1000 ∧ Q () ⟨fs, upd st h (.ctr C (setK l x v)), cnt⟩ := by
  apply propext
  simp only [Wp_eq]; unfold Wp0 ctrSet
  dsimp only
  cases hl : st h with
  | none => simp
  | some o =>
    cases o <;> simp
    rename_i C' l
    by_cases h : C' = C
    · subst h
      by_cases h : l.length ≤ 1000 <;> simp [h]
      exact Iff.rfl
    · simp [h]
-- builtins
theorem wp_len {l : List AV} {Q : AV → St → Prop} : Wp (lenF [.lst l] []) Q σ = (l.length < 2 ^ 40 ∧ Q (.int l.length) σ) := by
  apply propext
  simp only [Wp_eq]; unfold Wp0 lenF
  dsimp only
  by_cases h : l.length < 2 ^ 40
  · simp only [h, if_true, true_and]
  · simp [h]
theorem wp_lenR {h : Hd} {Q : AV → St → Prop} : Wp (lenF [.ref h] []) Q ⟨fs, st, cnt⟩ = ((∃ l, st h = some (.list l) ∧ l.length < 2 ^ 40 ∧ Q (.int l.length) ⟨fs, st, cnt⟩) ∨ (∃ l, st h = some (.dictI l) ∧ l.length < 2 ^ 40 ∧ Q (.int l.length) ⟨fs, st, cnt⟩) ∨ (∃ l, st h = some (.dictS l) ∧ l.length < 2 ^ 40 ∧ Q (.int l.length) ⟨fs, st, cnt⟩)) := by
  apply propext
  simp only [Wp_eq]; unfold Wp0 lenF
  dsimp only
  cases hl : st h with
  | none => simp
  | some o =>
    cases o <;> simp
    all_goals
      rename_i l
      by_cases h : l.length < 1099511627776 <;> simp [h]
theorem range1 {b : Int} : rangeF [.int b] [] = M.pure (.rng 0 b 1) := rfl
theorem range2 {a b : Int} : rangeF [.int a, .int b] [] = M.pure (.rng a b 1) := rfl
theorem range3 {a b c : Int} (h : c ≠ 0 ∧ c.natAbs < 1073741824) : rangeF [.int a, .int b, .int c] [] = M.pure (.rng a b c) := by simp [rangeF, h]
theorem str_int {a : Int} (h : smallI a = true) : strF [.int a] [] = M.pure (.str ((toString a : String) : Str)) := by simp only [strF, h, if_true]
theorem abs_int {a : Int} : absF [.int a] [] = M.pure (.int (if a < 0 then -a else a)) := rfl
theorem part_str {x : Str} (h : x.length ≤ 1000) : partA (.str x) = M.pure x := if_pos h
theorem part_int {a : Int} (h : smallI a = true) : partA (.int a) = M.pure ((toString a : String) : Str) := by simp only [partA, h, if_true]
theorem itB_lst {l : List AV} : itB (.lst l) = M.pure (l, fun _ => True) := rfl
theorem itB_tup {l : List AV} : itB (.tup l) = M.pure (l, fun _ => True) := rfl
theorem itB_dct {l : List (Str × AV)} : itB (.dct l) = M.pure (l.map fun p => .str p.1, fun _ => True) := rfl
theorem wp_itB_ref {h : Hd} {Q : (List AV × (St → Prop)) → St → Prop} : Wp (itB (.ref h)) Q ⟨fs, st, cnt⟩ = ∃ l, st h = some (.list l) ∧ Q (l, fun σ' => σ'.st h = some (.list l)) ⟨fs, st, cnt⟩ := by
  apply propext
  simp only [Wp_eq]; unfold Wp0 itB itA
  dsimp only
  cases hl : st h with
  | none => simp
  | some o => cases o <;> simp
theorem wp_itEn_lst {l : List AV} : itEn (.lst l) = M.pure (enumL 0 l, fun _ => True) := rfl
theorem wp_itEn_ref {h : Hd} {Q : (List AV × (St → Prop)) → St → Prop} : Wp (itEn (.ref h)) Q ⟨fs, st, cnt⟩ = ∃ l, st h = some (.list l) ∧ Q (enumL 0 l, fun σ' => σ'.st h = some (.list l)) ⟨fs, st, cnt⟩ := by
  apply propext
  simp only [Wp_eq]; unfold Wp0 itEn
  dsimp only
  cases hl : st h with
  | none => simp
  | some o => cases o <;> simp
-- assignment to several names
theorem tgtTup_eq {k : Nat} {g : List AV → M Unit} {l : List AV} (h : l.length = k) : tgtTup k g (.tup l) = g l := if_pos h
theorem tgtCons_eq {p : AV → M Unit} {g : List AV → M Unit} {a : AV} {l : List AV} : tgtCons p g (a :: l) = M.bind (p a) fun _ => g l := rfl
theorem tgtNil_eq : tgtNil [] = M.pure () := rfl
-- functions
theorem wp_fnA {names : List (Str × NameKind)} {ps : List Str} {fb : M AFl} {vals : List AV} {Q : AV → St → Prop} {F : Frm} (hF : initF names (ps.zip vals) = F) : Wp (fnA names ps fb vals) Q ⟨fs, st, cnt⟩ = Wp fb (fun r σ' => Q (match r with
    | .ret v => v
    | _ => .none) ⟨σ'.fs.tail, σ'.st, σ'.cnt⟩) ⟨F :: fs, st, cnt⟩ := by
  apply propext
  simp only [Wp_eq]; unfold Wp0 fnA
  rw [hF]
  cases h : fb ⟨F :: fs, st, cnt⟩ with
  | none => simp
  | some r =>
    obtain ⟨r, σ'⟩ := r
    cases r <;> exact Iff.rfl

theorem wp_orL {p q : M α} (h : Wp p Q σ) : Wp (orA p q) Q σ := by
  obtain ⟨a, σ', e, hq⟩ := h.elim
  exact .intro (a := a) (σ' := σ') (by unfold orA; rw [e]) hq
theorem wp_orR {p q : M α} (hp : p σ = none) : Wp (orA p q) Q σ = Wp q Q σ := by
  simp only [Wp_eq]; unfold Wp0 orA; rw [hp]
-- loops
theorem wp_forS {it : M (List AV × (St → Prop))} {tgt : AV → M Unit} {body orelse : M AFl} {Q : AFl → St → Prop} : Wp (forS it tgt body orelse) Q σ = Wp it (fun p σ' => Wp (forA p.2 tgt body p.1) (fun r σ'' => match r with
    | .done => Wp orelse Q σ''
    | .brk => Q .next σ''
    | .ret v => Q (.ret v) σ'') σ') σ := by
  unfold forS
  rw [wp_bind]
  congr
  funext p σ'
  rw [wp_bind]
  congr
  funext r σ''
  cases r <;> simp [wp_pure]
theorem wp_forA_nil {C : St → Prop} {tgt : AV → M Unit} {body : M AFl} {Q : LRes → St → Prop} : Wp (forA C tgt body []) Q σ = (C σ ∧ Q .done σ) := by
  apply propext
  simp only [Wp_eq]; unfold Wp0 forA
  by_cases h : C σ <;> simp [h]
theorem wp_forA_cons {C : St → Prop} {tgt : AV → M Unit} {body : M AFl} {x : AV} {l : List AV} {Q : LRes → St → Prop} : Wp (forA C tgt body (x :: l)) Q σ = (C σ ∧ Wp (tgt x) (fun _ σ0 => Wp body (fun r σ' => match r with
    | .next => Wp (forA C tgt body l) Q σ'
    | .cont => Wp (forA C tgt body l) Q σ'
    | .brk => Q .brk σ'
    | .ret v => Q (.ret v) σ') σ0) σ) := by
  rw [← wp_bind (p := tgt x) (g := fun _ => body)]
  apply propext
  simp only [Wp_eq]; unfold Wp0
  rw [forA]
  by_cases h : C σ
  · simp only [h, if_true, true_and]
    cases e : M.bind (tgt x) (fun _ => body) σ with
    | none => simp
    | some r =>
      obtain ⟨r, σ'⟩ := r
      cases r <;> simp
  · simp [h]
/-- a loop by an invariant over the turn's number -/
theorem wp_forA {C : St → Prop} {tgt : AV → M Unit} {body : M AFl} {l : List AV} {Q : LRes → St → Prop} (I : Nat → St → Prop) (h0 : I 0 σ) (hC : ∀ k σ, k ≤ l.length → I k σ → C σ)
    (hs : ∀ k (hk : k < l.length) σ, I k σ → Wp (tgt l[k]) (fun _ σ0 => Wp body (fun r σ' => match r with
      | .next => I (k + 1) σ'
      | .cont => I (k + 1) σ'
      | .brk => Q .brk σ'
      | .ret v => Q (.ret v) σ') σ0) σ)
    (he : ∀ σ, I l.length σ → Q .done σ) : Wp (forA C tgt body l) Q σ := by
  have main : ∀ (r : List AV) (k : Nat) (σ : St), l = l.take k ++ r → k + r.length = l.length → I k σ → Wp (forA C tgt body r) Q σ := by
    intro r
    induction r with
    | nil =>
      intro k σ e1 e2 hI
      simp at e2
      subst e2
      rw [wp_forA_nil]
      exact ⟨hC _ _ (Nat.le_refl _) hI, he _ hI⟩
    | cons x r ih =>
      intro k σ e1 e2 hI
      simp at e2
      have hk : k < l.length := by omega
      have hx : l[k] = x := by
        have h1 : l[k]? = some x := by
          rw [e1, List.getElem?_append_right (by simp; omega)]
          simp
          rw [Nat.min_eq_left (by omega)]
          simp
        rw [List.getElem?_eq_getElem hk] at h1
        exact Option.some.inj h1
      rw [wp_forA_cons]
      refine ⟨hC _ _ (by omega) hI, ?_⟩
      have := hs k hk σ hI
      rw [hx] at this
      have e3 : l = l.take (k + 1) ++ r := by
        have := List.take_append_drop (k + 1) l
        rw [← List.take_append_drop (k + 1) l]
        congr 1
        · simp
        · have h1 : l.drop k = x :: r := by
            have h2 := List.take_append_drop k l
            rw [e1] at h2
            have h3 : (l.take k).length = k := by rw [List.length_take]; omega
            have h4 := List.append_inj h2 (by simp; omega)
            rw [← e1] at h4
            exact h4.2
          rw [← List.drop_drop, h1]; rfl
      refine this.mono fun _ σ0 h0 => h0.mono fun a σ' h => ?_
      cases a with
      | next => exact ih (k + 1) σ' e3 (by omega) h
      | cont => exact ih (k + 1) σ' e3 (by omega) h
      | brk => exact h
      | ret v => exact h
  exact main l 0 σ (by simp) (by simp) h0
/-- a comprehension that changes its own names alone -/
theorem wp_compA {C : St → Prop} {tgt : AV → M Unit} {tests : M Bool} {elt : M AV} {l acc : List AV} {Q : List AV → St → Prop} {k : Nat} {fr : Frm} (g : AV → Option AV) (hC : ∀ fr, C ⟨fr :: fs, st, cnt⟩) (hl : acc.length + l.length ≤ 2 ^ 20) (hfr : fr.length = k)
    (hs : ∀ x ∈ l, ∀ fr : Frm, fr.length = k → Wp (tgt x) (fun _ σ0 => Wp tests (fun ok σ1 => match ok with
      | true => Wp elt (fun y σ2 => g x = some y ∧ ∃ fr2 : Frm, fr2.length = k ∧ σ2 = ⟨fr2 :: fs, st, cnt⟩) σ1
      | false => g x = none ∧ ∃ fr2 : Frm, fr2.length = k ∧ σ1 = ⟨fr2 :: fs, st, cnt⟩) σ0) ⟨fr :: fs, st, cnt⟩)
    (he : ∀ fr : Frm, fr.length = k → Q (acc ++ l.filterMap g) ⟨fr :: fs, st, cnt⟩) : Wp (compA C tgt tests elt l acc) Q ⟨fr :: fs, st, cnt⟩ := by
  induction l generalizing acc fr with
  | nil =>
    refine .intro (a := acc) (σ' := _) ?_ (by simpa using he fr hfr)
    rw [compA]
    exact if_pos (hC fr)
  | cons x l ih =>
    have hx := hs x (List.mem_cons_self ..) fr hfr
    rw [← wp_bind (p := tgt x) (g := fun _ => tests)] at hx
    obtain ⟨ok, σ1, e1, h1⟩ := hx.elim
    simp only [List.length_cons] at hl
    have ih' : ∀ (acc' : List AV) (fr2 : Frm), fr2.length = k → acc'.length + l.length ≤ 2 ^ 20 → (acc' ++ l.filterMap g = acc ++ (x :: l).filterMap g) → Wp (compA C tgt tests elt l acc') Q ⟨fr2 :: fs, st, cnt⟩ := fun acc' fr2 h2 h3 h4 =>
      ih (acc := acc') (fr := fr2) h3 h2 (fun y hy => hs y (List.mem_cons_of_mem _ hy)) (fun fr hf => by rw [h4]; exact he fr hf)
    have unf : ∀ r, (M.bind (tgt x) (fun _ => M.bind tests fun ok => match ok with
      | true => M.bind elt fun y => compA C tgt tests elt l (acc ++ [y])
      | false => compA C tgt tests elt l acc)) ⟨fr :: fs, st, cnt⟩ = r → compA C tgt tests elt (x :: l) acc ⟨fr :: fs, st, cnt⟩ = r := by
      intro r hr
      rw [compA]
      exact (if_pos ⟨hC fr, by omega⟩).trans hr
    have asc : (M.bind (tgt x) (fun _ => M.bind tests fun ok => match ok with
      | true => M.bind elt fun y => compA C tgt tests elt l (acc ++ [y])
      | false => compA C tgt tests elt l acc)) ⟨fr :: fs, st, cnt⟩ = (match ok with
      | true => M.bind elt fun y => compA C tgt tests elt l (acc ++ [y])
      | false => compA C tgt tests elt l acc) σ1 := by
      unfold M.bind at e1 ⊢
      cases ht : tgt x ⟨fr :: fs, st, cnt⟩ with
      | none => rw [ht] at e1; cases e1
      | some r =>
        rw [ht] at e1
        dsimp only at e1 ⊢
        rw [e1]
    cases ok with
    | true =>
      obtain ⟨y, σ2, e2, h2, fr2, h3, rfl⟩ := Wp.elim h1
      have := ih' (acc ++ [y]) fr2 h3 (by simp; omega) (by simp [h2])
      obtain ⟨a, σ', e4, h4⟩ := this.elim
      refine .intro (a := a) (σ' := σ') (unf _ (asc.trans ?_)) h4
      show M.bind elt _ σ1 = _
      unfold M.bind
      rw [e2]
      exact e4
    | false =>
      obtain ⟨h2, fr2, h3, rfl⟩ := h1
      have := ih' acc fr2 h3 (by omega) (by simp [h2])
      obtain ⟨a, σ', e4, h4⟩ := this.elim
      exact .intro (a := a) (σ' := σ') (unf _ (asc.trans e4)) h4
theorem wp_compM {k : Nat} {it : M (List AV × (St → Prop))} {tgt : AV → M Unit} {tests : M Bool} {elt : M AV} {Q : List AV → St → Prop} : Wp (compM k it tgt tests elt) Q σ = Wp it (fun p σ' => Wp (compA p.2 tgt tests elt p.1 []) (fun acc σ'' => Q acc ⟨σ''.fs.tail, σ''.st, σ''.cnt⟩) ⟨List.replicate k none :: σ'.fs, σ'.st, σ'.cnt⟩) σ := by
  unfold compM
  rw [wp_bind]
  congr
  funext p σ'
  rw [wp_bind]
  apply propext
  rw [wp_of (p := pushA k) (a := ()) (σ' := ⟨List.replicate k none :: σ'.fs, σ'.st, σ'.cnt⟩) rfl, wp_bind]
  have : ∀ acc σ'', Wp (M.bind popA fun _ => M.pure acc) Q σ'' = Q acc ⟨σ''.fs.tail, σ''.st, σ''.cnt⟩ := by
    intro acc σ''
    rw [wp_bind]
    apply propext
    rw [wp_of (p := popA) (a := ()) (σ' := ⟨σ''.fs.tail, σ''.st, σ''.cnt⟩) rfl, wp_pure]
  simp only [this]
/-- a comprehension whose list stays -/
theorem wp_comp {k : Nat} {it : M (List AV × (St → Prop))} {tgt : AV → M Unit} {tests : M Bool} {elt : M AV} {Q : List AV → St → Prop} (l : List AV) (C : St → Prop) (g : AV → Option AV)
    (hi : Wp it (fun p σ' => p = (l, C) ∧ σ' = ⟨fs, st, cnt⟩) ⟨fs, st, cnt⟩) (hC : ∀ fr, C ⟨fr :: fs, st, cnt⟩) (hl : l.length ≤ 2 ^ 20)
    (hs : ∀ x ∈ l, ∀ fr : Frm, fr.length = k → Wp (tgt x) (fun _ σ0 => Wp tests (fun ok σ1 => match ok with
      | true => Wp elt (fun y σ2 => g x = some y ∧ ∃ fr2 : Frm, fr2.length = k ∧ σ2 = ⟨fr2 :: fs, st, cnt⟩) σ1
      | false => g x = none ∧ ∃ fr2 : Frm, fr2.length = k ∧ σ1 = ⟨fr2 :: fs, st, cnt⟩) σ0) ⟨fr :: fs, st, cnt⟩)
    (he : Q (l.filterMap g) ⟨fs, st, cnt⟩) : Wp (compM k it tgt tests elt) Q ⟨fs, st, cnt⟩ := by
  rw [wp_compM]
  obtain ⟨p, σ', e, hp, hσ⟩ := hi.elim
  refine .intro e ?_
  subst hp; subst hσ
  exact wp_compA (k := k) g hC (by simpa using hl) (List.length_replicate) hs (fun fr _ => by simpa using he)
end
end Mine
end

section
open PySem PySem.W PySem.Calls PyProof.Rows
set_option Elab.async false
set_option maxRecDepth 20000
set_option linter.unusedVariables false
set_option linter.unusedSectionVars false
set_option linter.unusedSimpArgs false
namespace Mine
/-! rows of keys and values -/
section
variable {κ β γ : Type} [DecidableEq κ]
def look (l : List (κ × β)) (k : κ) : Option β := (l.find? fun kv => kv.1 = k).map (·.2)
def put (l : List (κ × β)) (k : κ) (v : β) : List (κ × β) := if l.any (fun kv => kv.1 = k) then l.map (fun kv => if kv.1 = k then (kv.1, v) else kv) else l ++ [(k, v)]
def rem (l : List (κ × β)) (k : κ) : List (κ × β) := l.filter fun kv => decide (kv.1 ≠ k)
def mapV (f : β → γ) (l : List (κ × β)) : List (κ × γ) := l.map fun p => (p.1, f p.2)
theorem look_mapV {f : β → γ} {l : List (κ × β)} {k : κ} : look (mapV f l) k = (look l k).map f := by
  unfold look mapV
  rw [List.find?_map, Option.map_map, Option.map_map]
  rfl
theorem put_mapV {f : β → γ} {l : List (κ × β)} {k : κ} {v : β} : put (mapV f l) k (f v) = mapV f (put l k v) := by
  unfold put mapV
  rw [List.any_map]
  have : ((fun kv : κ × γ => decide (kv.1 = k)) ∘ fun p : κ × β => (p.1, f p.2)) = fun kv => decide (kv.1 = k) := rfl
  rw [this]
  split
  · rw [List.map_map, List.map_map]
    apply List.map_congr_left
    intro p _
    dsimp only [Function.comp]
    split <;> rfl
  · rw [List.map_append]; rfl
theorem rem_mapV {f : β → γ} {l : List (κ × β)} {k : κ} : rem (mapV f l) k = mapV f (rem l k) := by
  unfold rem mapV
  rw [List.filter_map]
  rfl
theorem len_mapV {f : β → γ} {l : List (κ × β)} : (mapV f l).length = l.length := List.length_map ..
theorem keys_mapV {f : β → γ} {l : List (κ × β)} : (mapV f l).map (·.1) = l.map (·.1) := by
  unfold mapV; rw [List.map_map]; rfl
theorem mapV_append {f : β → γ} {l m : List (κ × β)} : mapV f (l ++ m) = mapV f l ++ mapV f m := List.map_append
theorem mapV_nil {f : β → γ} : mapV f ([] : List (κ × β)) = [] := rfl
theorem mapV_cons {f : β → γ} {p : κ × β} {l : List (κ × β)} : mapV f (p :: l) = (p.1, f p.2) :: mapV f l := rfl
theorem look_nil {k : κ} : look ([] : List (κ × β)) k = none := rfl
theorem look_cons {p : κ × β} {l : List (κ × β)} {k : κ} : look (p :: l) k = if p.1 = k then some p.2 else look l k := by
  unfold look
  rw [List.find?_cons]
  by_cases h : p.1 = k <;> simp [h]
theorem look_append {l m : List (κ × β)} {k : κ} : look (l ++ m) k = (look l k).or (look m k) := by
  induction l with
  | nil => simp [look_nil]
  | cons p l ih =>
    rw [List.cons_append, look_cons, look_cons, ih]
    split <;> simp
theorem look_none {l : List (κ × β)} {k : κ} : look l k = none ↔ ∀ p ∈ l, p.1 ≠ k := by
  unfold look
  rw [Option.map_eq_none_iff, List.find?_eq_none]
  simp
theorem look_some {l : List (κ × β)} {k : κ} {v : β} (h : look l k = some v) : (k, v) ∈ l := by
  unfold look at h
  obtain ⟨p, h1, h2⟩ := Option.map_eq_some_iff.mp h
  have h3 := List.mem_of_find?_eq_some h1
  have h4 := List.find?_some h1
  simp at h4
  subst h4; subst h2
  exact h3
theorem look_of_mem {l : List (κ × β)} (nd : (l.map (·.1)).Nodup) {k : κ} {v : β} (h : (k, v) ∈ l) : look l k = some v := by
  induction l with
  | nil => cases h
  | cons p l ih =>
    rw [List.map_cons, List.nodup_cons] at nd
    rw [look_cons]
    rcases List.mem_cons.mp h with h | h
    · subst h; simp
    · rw [if_neg, ih nd.2 h]
      intro e
      exact nd.1 (List.mem_map.mpr ⟨_, h, e.symm⟩)
theorem put_new {l : List (κ × β)} {k : κ} {v : β} (h : look l k = none) : put l k v = l ++ [(k, v)] := by
  unfold put
  rw [if_neg]
  rw [look_none] at h
  simp only [List.any_eq_true, decide_eq_true_eq, not_exists, not_and]
  exact h
theorem look_put {l : List (κ × β)} {k k' : κ} {v : β} : look (put l k v) k' = if k' = k then some v else look l k' := by
  unfold put
  split
  · rename_i h
    induction l with
    | nil => simp at h
    | cons p l ih =>
      rw [List.map_cons, look_cons, look_cons]
      by_cases hp : p.1 = k
      · simp only [hp, if_true]
        by_cases hk : k = k'
        · simp [hk]
        · rw [if_neg hk, if_neg hk, if_neg (Ne.symm hk)]
          by_cases ha : l.any (fun kv => decide (kv.1 = k)) = true
          · rw [ih ha, if_neg (Ne.symm hk)]
          · congr 1
            rw [List.map_congr_left (g := id)]
            · simp
            · intro q hq
              rw [if_neg]; rfl
              intro e
              exact ha (List.any_eq_true.mpr ⟨q, hq, by simp [e]⟩)
      · rw [if_neg hp]
        have ha : l.any (fun kv => decide (kv.1 = k)) = true := by simpa [hp] using h
        by_cases hk : p.1 = k'
        · rw [if_pos hk, if_pos hk, if_neg]
          rintro rfl; exact hp hk
        · rw [if_neg hk, if_neg hk, ih ha]
  · rename_i h
    rw [look_append, look_cons, look_nil]
    by_cases hk : k' = k
    · subst hk
      have : look l k' = none := look_none.mpr (fun p hp e => h (List.any_eq_true.mpr ⟨p, hp, by simp [e]⟩))
      simp [this]
    · rw [if_neg hk, if_neg (Ne.symm hk)]; simp
theorem look_rem {l : List (κ × β)} {k k' : κ} : look (rem l k) k' = if k' = k then none else look l k' := by
  induction l with
  | nil => simp [rem, look_nil]
  | cons p l ih =>
    unfold rem at ih ⊢
    rw [List.filter_cons]
    by_cases hp : p.1 = k
    · rw [if_neg (by simp [hp]), ih, look_cons]
      by_cases hk : k' = k
      · simp [hk]
      · rw [if_neg hk, if_neg hk, if_neg (by rw [hp]; exact Ne.symm hk)]
    · rw [if_pos (by simp [hp]), look_cons, look_cons, ih]
      by_cases hk : p.1 = k'
      · rw [if_pos hk, if_pos hk, if_neg]
        rintro rfl; exact hp hk
      · rw [if_neg hk, if_neg hk]
theorem rem_nodup {l : List (κ × β)} {k : κ} (nd : (l.map (·.1)).Nodup) : ((rem l k).map (·.1)).Nodup := nd.sublist ((List.filter_sublist).map _)
theorem put_keys {l : List (κ × β)} {k : κ} {v : β} : (put l k v).map (·.1) = if l.any (fun kv => kv.1 = k) then l.map (·.1) else l.map (·.1) ++ [k] := by
  unfold put
  split
  · rw [List.map_map]
    apply List.map_congr_left
    intro p _
    dsimp only [Function.comp]
    split <;> rfl
  · simp
theorem put_nodup {l : List (κ × β)} {k : κ} {v : β} (nd : (l.map (·.1)).Nodup) : ((put l k v).map (·.1)).Nodup := by
  rw [put_keys]
  split
  · exact nd
  · rename_i h
    rw [List.nodup_append]
    refine ⟨nd, by simp, ?_⟩
    intro a ha b hb e
    simp at hb
    subst hb; subst e
    obtain ⟨p, h1, h2⟩ := List.mem_map.mp ha
    exact h (List.any_eq_true.mpr ⟨p, h1, by simpa using h2⟩)
theorem put_len {l : List (κ × β)} {k : κ} {v : β} : (put l k v).length ≤ l.length + 1 := by
  unfold put; split <;> simp
theorem rem_len {l : List (κ × β)} {k : κ} : (rem l k).length ≤ l.length := List.length_filter_le ..
theorem mem_rem {l : List (κ × β)} {k : κ} {p : κ × β} : p ∈ rem l k ↔ p ∈ l ∧ p.1 ≠ k := by
  unfold rem; simp
theorem rem_none {l : List (κ × β)} {k : κ} (h : look l k = none) : rem l k = l := by
  unfold rem
  rw [List.filter_eq_self]
  intro p hp
  have := look_none.mp h p hp
  simpa using this
end
theorem getK_eq {κ : Type} [DecidableEq κ] {l : List (κ × AV)} {k : κ} : getK l k = look l k := rfl
theorem setK_eq {κ : Type} [DecidableEq κ] {l : List (κ × AV)} {k : κ} {v : AV} : setK l k v = put l k v := rfl
theorem delK_eq {κ : Type} [DecidableEq κ] {l : List (κ × AV)} {k : κ} : delK l k = rem l k := rfl
theorem toInts_intsL : ∀ l : List Int, toInts (intsL l) = some l
  | [] => rfl
  | x :: l => by
    show (match asInt (.int x), toInts (intsL l) with
      | some i, some r => some (i :: r)
      | _, _ => none) = _
    rw [toInts_intsL l]; rfl
theorem toStrs_strsL : ∀ l : List Str, toStrs (strsL l) = some l
  | [] => rfl
  | x :: l => by
    show (match asStr (.str x), toStrs (strsL l) with
      | some i, some r => some (i :: r)
      | _, _ => none) = _
    rw [toStrs_strsL l]; rfl
theorem intsL_len {l : List Int} : (intsL l).length = l.length := List.length_map ..
theorem strsL_len {l : List Str} : (strsL l).length = l.length := List.length_map ..
/-- how many of a sorted row are no greater than x -/
def below (l : List Int) (x : Int) : Nat := l.countP (· ≤ x)
theorem bisL_sorted {l : List Int} {x : Int} (hs : l.Pairwise (· ≤ ·)) : ∀ (f lo hi : Nat), lo ≤ hi → hi ≤ l.length → hi - lo ≤ f → (∀ (i : Nat) y, i < lo → l[i]? = some y → y ≤ x) → (∀ (i : Nat) y, hi ≤ i → l[i]? = some y → x < y) → bisL l x f lo hi = some (below l x) := by
  have fin : ∀ k : Nat, k ≤ l.length → (∀ (i : Nat) y, i < k → l[i]? = some y → y ≤ x) → (∀ (i : Nat) y, k ≤ i → l[i]? = some y → x < y) → below l x = k := by
    intro k hk h1 h2
    unfold below
    rw [← List.take_append_drop k l, List.countP_append]
    have e1 : (l.take k).countP (· ≤ x) = k := by
      rw [List.countP_eq_length.mpr]
      · rw [List.length_take]; omega
      · intro y hy
        obtain ⟨i, hi⟩ := List.getElem?_of_mem hy
        have hik : i < k := by
          have := (List.getElem?_eq_some_iff.mp hi).1
          rw [List.length_take] at this; omega
        rw [List.getElem?_take_of_lt hik] at hi
        simpa using h1 i y hik hi
    have e2 : (l.drop k).countP (· ≤ x) = 0 := by
      rw [List.countP_eq_zero]
      intro y hy
      obtain ⟨i, hi⟩ := List.getElem?_of_mem hy
      rw [List.getElem?_drop] at hi
      have := h2 (k + i) y (by omega) hi
      simp; omega
    rw [e1, e2]; rfl
  intro f
  induction f with
  | zero =>
    intro lo hi h1 h2 h3 h4 h5
    have : lo = hi := by omega
    subst this
    unfold bisL
    rw [if_neg (Nat.lt_irrefl _), fin lo h2 h4 h5]
  | succ f ih =>
    intro lo hi h1 h2 h3 h4 h5
    unfold bisL
    by_cases hlt : lo < hi
    · rw [if_pos hlt]
      have hm : (lo + hi) / 2 < l.length := by omega
      rw [List.getElem?_eq_getElem hm]
      dsimp only
      have mono : ∀ (i j : Nat) a b, i ≤ j → l[i]? = some a → l[j]? = some b → a ≤ b := by
        intro i j a b hij ha hb
        obtain ⟨li, ea⟩ := List.getElem?_eq_some_iff.mp ha
        obtain ⟨lj, eb⟩ := List.getElem?_eq_some_iff.mp hb
        rcases Nat.eq_or_lt_of_le hij with h | h
        · subst h; omega
        · rw [← ea, ← eb]; exact List.pairwise_iff_getElem.mp hs i j li lj h
      split
      · rename_i hx
        refine ih lo _ (by omega) (by omega) (by omega) h4 fun i y hi' hy => ?_
        have := mono _ i _ y hi' (List.getElem?_eq_getElem hm) hy
        omega
      · rename_i hx
        refine ih _ hi (by omega) h2 (by omega) (fun i y hi' hy => ?_) h5
        have := mono i _ y _ (by omega) hy (List.getElem?_eq_getElem hm)
        omega
    · rw [if_neg hlt]
      have : lo = hi := by omega
      subst this
      rw [fin lo h2 h4 h5]
theorem bis_eq {l : List Int} {x : Int} (hs : l.Pairwise (· ≤ ·)) : bisL l x l.length 0 l.length = some (below l x) :=
  bisL_sorted hs _ _ _ (Nat.zero_le _) (Nat.le_refl _) (by omega) (fun i y h => by omega) (fun i y h e => by
    have := (List.getElem?_eq_some_iff.mp e).1; omega)
theorem below_le {l : List Int} {x : Int} : below l x ≤ l.length := List.countP_le_length
section
variable {σ : St} {fs : List Frm} {st : Hd → Option AO} {cnt : Nat} {Q : AV → St → Prop}
theorem wp_bis {l : List Int} {x : Int} (hs : l.Pairwise (· ≤ ·)) (hl : l.length < 2 ^ 40) : Wp (bisF [.lst (intsL l), .int x] []) Q σ = Q (.int (below l x : Int)) σ := by
  apply propext; refine wp_of ?_
  show (match toInts (intsL l) with
    | some ns => if ns.length < 2 ^ 40 then (bisL ns x ns.length 0 ns.length).map fun (r : Nat) => (AV.int (r : Int), σ) else none
    | none => none) = _
  rw [toInts_intsL]
  dsimp only
  rw [if_pos hl, bis_eq hs]; rfl
theorem wp_sortedI_view {h : Hd} {l : List (Int × AV)} (e : st h = some (.dictI l)) (hl : l.length < 64) : Wp (sortedIF [.view 0 (.ref h)] []) Q ⟨fs, st, cnt⟩ = Q (.lst (intsL (isortI (l.map (·.1))))) ⟨fs, st, cnt⟩ := by
  apply propext; refine wp_of ?_
  show (match st h with
    | some (.dictI l) => if l.length < 64 then some (AV.lst (intsL (isortI (l.map (fun p : Int × AV => p.1)))), (⟨fs, st, cnt⟩ : St)) else none
    | _ => none) = _
  rw [e]
  exact if_pos hl
theorem wp_sortedI_lst {l : List Int} (hl : l.length < 64) : Wp (sortedIF [.lst (intsL l)] []) Q σ = Q (.lst (intsL (isortI l))) σ := by
  apply propext; refine wp_of ?_
  show (match toInts (intsL l) with
      | some ns => if ns.length < 64 then some (AV.lst (intsL (isortI ns)), σ) else none
      | none => none) = _
  rw [toInts_intsL]
  exact if_pos hl
theorem atL_intsL {l : List Int} {i : Nat} (h : i < l.length) (hl : l.length ≤ 2 ^ 40) : atL (intsL l) (i : Int) = some (.int l[i]) := by
  unfold atL idxN
  rw [intsL_len, if_pos (by omega), if_pos ⟨by omega, hl⟩]
  dsimp only
  unfold intsL
  rw [List.getElem?_map, Int.toNat_natCast, List.getElem?_eq_getElem h]; rfl
end
theorem rangeL_map (c : Int) : ∀ (n : Nat) (a : Int), rangeL a c n = (List.range n).map (fun i : Nat => a + c * (i : Int))
  | 0, a => rfl
  | n + 1, a => by
    rw [List.range_succ_eq_map, List.map_cons, List.map_map]
    show a :: rangeL (a + c) c n = _
    rw [rangeL_map c n (a + c)]
    congr 1
    · simp
    · apply List.map_congr_left
      intro i _
      dsimp only [Function.comp]
      rw [Nat.succ_eq_add_one, Int.natCast_add, Int.mul_add]; omega
theorem rangeSize_up {a b : Int} : Builtin.Range.rangeSize a b 1 = if a < b then b - a else 0 := by
  unfold Builtin.Range.rangeSize
  simp only [show ((1 : Int) > 0) by decide, if_true, Int.ediv_one]
  split <;> omega
theorem small_up {a b : Int} (ha : -1000000000000 < a) (ha' : a < 1000000000000) (hb : -1000000000000 < b) (hb' : b < 1000000000000) : Builtin.Range.small a b 1 = true := by
  unfold Builtin.Range.small
  rw [rangeSize_up]
  simp only [Builtin.Range.rangeFitsLong, Bool.and_eq_true, Bool.or_eq_true, decide_eq_true_eq, beq_iff_eq, show ((1 : Int) > 0) by decide, if_true]
  split <;> omega
theorem itB_up {a b : Int} (ha : -1000000000000 < a) (ha' : a < 1000000000000) (hb : -1000000000000 < b) (hb' : b < 1000000000000) : itB (.rng a b 1) = M.pure (((List.range (b - a).toNat).map fun i : Nat => AV.int (a + (i : Int))), fun _ => True) := by
  show (if Builtin.Range.small a b 1 = true ∧ 0 ≤ Builtin.Range.rangeSize a b 1 then M.pure (intsL (rangeL a 1 (Builtin.Range.rangeSize a b 1).toNat), fun _ => True) else M.fail) = _
  rw [if_pos ⟨small_up ha ha' hb hb', by rw [rangeSize_up]; split <;> omega⟩, rangeL_map]
  have : (Builtin.Range.rangeSize a b 1).toNat = (b - a).toNat := by rw [rangeSize_up]; split <;> omega
  rw [this]
  unfold intsL
  rw [List.map_map]
  congr 2
  apply List.map_congr_left
  intro i _
  dsimp only [Function.comp]
  rw [Int.one_mul]
theorem itB_nat {n : Nat} (hb' : n < 1000000000000) : itB (.rng 0 (n : Int) 1) = M.pure (((List.range n).map fun i : Nat => AV.int (i : Int)), fun _ => True) := by
  rw [itB_up (by omega) (by omega) (by omega) (by omega)]
  simp
theorem itB_down {a b : Int} (ha : -1000000000000 < a) (ha' : a < 1000000000000) (hb : -1000000000000 < b) (hb' : b < 1000000000000) : itB (.rng a b (-1)) = M.pure (((List.range (a - b).toNat).map fun i : Nat => AV.int (a - (i : Int))), fun _ => True) := by
  have hz : Builtin.Range.rangeSize a b (-1) = ((a - b).toNat : Int) := by
    unfold Builtin.Range.rangeSize
    simp only [show ¬ ((-1 : Int) > 0) by decide, if_false, show (-(-1) : Int) = 1 from rfl, Int.ediv_one]
    split <;> omega
  have hs : Builtin.Range.small a b (-1) = true := by
    unfold Builtin.Range.small
    rw [hz]
    simp only [Builtin.Range.rangeFitsLong, Bool.and_eq_true, Bool.or_eq_true, decide_eq_true_eq, beq_iff_eq, show ¬ ((-1 : Int) > 0) by decide, if_false]
    omega
  show (if Builtin.Range.small a b (-1) = true ∧ 0 ≤ Builtin.Range.rangeSize a b (-1) then M.pure (intsL (rangeL a (-1) (Builtin.Range.rangeSize a b (-1)).toNat), fun _ => True) else M.fail) = _
  rw [if_pos ⟨hs, by omega⟩, rangeL_map, hz, Int.toNat_natCast]
  unfold intsL
  rw [List.map_map]
  congr 2
  apply List.map_congr_left
  intro i _
  dsimp only [Function.comp]
  congr 1
  omega
/-! the ring as a value -/
structure RH where
  r : Nat
  m : Nat
  di : Nat
  np : Nat
  nd : Nat
  rg : Nat
structure RS where
  nodes : List (Str × (Nat × Nat))
  np : List (Str × (List Int × Nat))
  dist : List (Str × Int)
  rg : List (Int × Str)
  keys : List Int
def posOf (keys : List Int) (x : Int) : Nat := if below keys x = keys.length then 0 else below keys x
/-- the nodes' points gone, those that are still theirs -/
def delPts (nm : Str) : List Int → List (Int × Str) → List (Int × Str)
  | [], rg => rg
  | p :: l, rg => delPts nm l (if look rg p = some nm then rem rg p else rg)
def addPts (nm : Str) : List Int → List (Int × Str) → List (Int × Str)
  | [], rg => rg
  | p :: l, rg => addPts nm l (put rg p nm)
def addDist (nm : Str) : Nat → List (Str × Int) → List (Str × Int)
  | 0, d => d
  | w + 1, d => addDist nm w (put d nm ((look d nm).getD 0 + 1))
def newPts (pt : Str → Nat → Int) (nm : Str) (w : Nat) : List Int := (List.range w).map (pt nm)
/-- one node told, in the loop of `_create_ring` -/
def RS.tell (pt : Str → Nat → Int) (ρ : RS) (nm : Str) (w : Nat) (q : Nat) : RS :=
  let old : List Int := ((look ρ.np nm).map (·.1)).getD []
  { nodes := ρ.nodes
    np := rem ρ.np nm ++ [(nm, (newPts pt nm w, q))]
    dist := addDist nm w (if old = [] then ρ.dist else rem ρ.dist nm)
    rg := addPts nm (newPts pt nm w) (delPts nm old ρ.rg)
    keys := ρ.keys }
def RS.tellAll (pt : Str → Nat → Int) : RS → List (Str × (Nat × Nat)) → Nat → RS
  | ρ, [], _ => ρ
  | ρ, e :: l, c => RS.tellAll pt (ρ.tell pt e.1 e.2.1 c) l (c + 1)
theorem tellAll_append (pt : Str → Nat → Int) : ∀ (l m : List (Str × (Nat × Nat))) (ρ : RS) (c : Nat), ρ.tellAll pt (l ++ m) c = (ρ.tellAll pt l c).tellAll pt m (c + l.length)
  | [], m, ρ, c => rfl
  | e :: l, m, ρ, c => by
    show RS.tellAll pt (ρ.tell pt e.1 e.2.1 c) (l ++ m) (c + 1) = _
    rw [tellAll_append pt l m]
    show _ = RS.tellAll pt (RS.tellAll pt (ρ.tell pt e.1 e.2.1 c) l (c + 1)) m (c + (l.length + 1))
    rw [show c + 1 + l.length = c + (l.length + 1) by omega]
theorem tellAll_keys (pt : Str → Nat → Int) : ∀ (l : List (Str × (Nat × Nat))) (ρ : RS) (c : Nat), (ρ.tellAll pt l c).keys = ρ.keys
  | [], ρ, c => rfl
  | e :: l, ρ, c => tellAll_keys pt l _ _
theorem tellAll_nodes (pt : Str → Nat → Int) : ∀ (l : List (Str × (Nat × Nat))) (ρ : RS) (c : Nat), (ρ.tellAll pt l c).nodes = ρ.nodes
  | [], ρ, c => rfl
  | e :: l, ρ, c => tellAll_nodes pt l _ _
theorem addPts_append (nm : Str) : ∀ (l m : List Int) (rg : List (Int × Str)), addPts nm (l ++ m) rg = addPts nm m (addPts nm l rg)
  | [], m, rg => rfl
  | p :: l, m, rg => addPts_append nm l m _
theorem delPts_append (nm : Str) : ∀ (l m : List Int) (rg : List (Int × Str)), delPts nm (l ++ m) rg = delPts nm m (delPts nm l rg)
  | [], m, rg => rfl
  | p :: l, m, rg => delPts_append nm l m _
theorem addDist_succ (nm : Str) : ∀ (w : Nat) (d : List (Str × Int)), addDist nm (w + 1) d = put (addDist nm w d) nm ((look (addDist nm w d) nm).getD 0 + 1)
  | 0, d => rfl
  | w + 1, d => by
    show addDist nm (w + 1) (put d nm ((look d nm).getD 0 + 1)) = _
    rw [addDist_succ nm w]; rfl
theorem addPts_len (nm : Str) : ∀ (l : List Int) (rg : List (Int × Str)), (addPts nm l rg).length ≤ rg.length + l.length
  | [], rg => Nat.le_refl _
  | p :: l, rg => by
    have h1 := addPts_len nm l (put rg p nm)
    have h2 := put_len (l := rg) (k := p) (v := nm)
    show (addPts nm l (put rg p nm)).length ≤ _
    rw [List.length_cons]; omega
theorem delPts_len (nm : Str) : ∀ (l : List Int) (rg : List (Int × Str)), (delPts nm l rg).length ≤ rg.length
  | [], rg => Nat.le_refl _
  | p :: l, rg => by
    show (delPts nm l (if look rg p = some nm then rem rg p else rg)).length ≤ _
    refine Nat.le_trans (delPts_len nm l _) ?_
    split
    · exact rem_len
    · exact Nat.le_refl _
theorem addDist_len (nm : Str) : ∀ (w : Nat) (d : List (Str × Int)), (addDist nm w d).length ≤ d.length + 1
  | 0, d => Nat.le_succ _
  | w + 1, d => by
    show (addDist nm w (put d nm _)).length ≤ _
    have : ∀ (w : Nat) (d : List (Str × Int)), (look d nm).isSome = true → (addDist nm w d).length ≤ d.length := by
      intro w
      induction w with
      | zero => intro d _; exact Nat.le_refl _
      | succ w ih =>
        intro d h
        show (addDist nm w (put d nm _)).length ≤ _
        have e : (put d nm ((look d nm).getD 0 + 1)).length = d.length := by
          unfold put
          rw [if_pos, List.length_map]
          obtain ⟨v, hv⟩ := Option.isSome_iff_exists.mp h
          exact List.any_eq_true.mpr ⟨_, look_some hv, by simp⟩
        rw [← e]
        exact ih _ (by rw [look_put]; simp)
    exact Nat.le_trans (this _ _ (by rw [look_put]; simp)) put_len
theorem newPts_len {pt : Str → Nat → Int} {nm : Str} {w : Nat} : (newPts pt nm w).length = w := by unfold newPts; simp
theorem tell_bounds (pt : Str → Nat → Int) (ρ : RS) (nm : Str) (w c : Nat) : (ρ.tell pt nm w c).np.length ≤ ρ.np.length + 1 ∧ (ρ.tell pt nm w c).dist.length ≤ ρ.dist.length + 1 ∧ (ρ.tell pt nm w c).rg.length ≤ ρ.rg.length + w := by
  refine ⟨?_, ?_, ?_⟩
  · show (rem ρ.np nm ++ [_]).length ≤ _
    rw [List.length_append]
    have := rem_len (l := ρ.np) (k := nm)
    simp; omega
  · show (addDist nm w _).length ≤ _
    refine Nat.le_trans (addDist_len _ _ _) ?_
    apply Nat.succ_le_succ
    split
    · exact Nat.le_refl _
    · exact rem_len
  · show (addPts nm (newPts pt nm w) _).length ≤ _
    have h1 := addPts_len nm (newPts pt nm w) (delPts nm (((look ρ.np nm).map (·.1)).getD []) ρ.rg)
    have h2 := delPts_len nm (((look ρ.np nm).map (·.1)).getD []) ρ.rg
    rw [newPts_len] at h1
    exact Nat.le_trans h1 (Nat.add_le_add_right h2 _)
theorem tellAll_bounds (pt : Str → Nat → Int) : ∀ (l : List (Str × (Nat × Nat))) (ρ : RS) (c : Nat), (ρ.tellAll pt l c).np.length ≤ ρ.np.length + l.length ∧ (ρ.tellAll pt l c).dist.length ≤ ρ.dist.length + l.length ∧ (ρ.tellAll pt l c).rg.length ≤ ρ.rg.length + (l.map (·.2.1)).sum
  | [], ρ, c => ⟨Nat.le_refl _, Nat.le_refl _, by simp [RS.tellAll]⟩
  | e :: l, ρ, c => by
    have h1 := tell_bounds pt ρ e.1 e.2.1 c
    have h2 := tellAll_bounds pt l (ρ.tell pt e.1 e.2.1 c) (c + 1)
    show (RS.tellAll pt (ρ.tell pt e.1 e.2.1 c) l (c + 1)).np.length ≤ _ ∧ (RS.tellAll pt (ρ.tell pt e.1 e.2.1 c) l (c + 1)).dist.length ≤ _ ∧ (RS.tellAll pt (ρ.tell pt e.1 e.2.1 c) l (c + 1)).rg.length ≤ _
    simp only [List.length_cons, List.map_cons, List.sum_cons]
    omega
/-! the loop of `_create_ring`, over a list of rows or over a dict's items -/
def hid (a : AV) (st : Hd → Option AO) : Hd → Option AO := match a with
  | .view 1 (.ref h) => fun k => if k = h then none else st k
  | _ => st
def unhid (a : AV) (st st' : Hd → Option AO) : Hd → Option AO := match a with
  | .view 1 (.ref h) => fun k => if k = h then st h else st' k
  | _ => st'
theorem wp_orItems {fs : List Frm} {f : Frm} {st : Hd → Option AO} {cnt i : Nat} {tgt : AV → M Unit} {B : M AFl} {Q : AFl → St → Prop} {a : AV} {l : List AV} (hf : f[i]? = some (some a))
    (ha : a = .lst l ∨ ∃ h r, a = .view 1 (.ref h) ∧ st h = some (.dictS r) ∧ itemsL r = l) (I : Nat → St → Prop) (h0 : I 0 ⟨f :: fs, hid a st, cnt⟩)
    (hs : ∀ k (hk : k < l.length) σ, I k σ → Wp (tgt l[k]) (fun _ σ0 => Wp B (fun r σ' => r = .next ∧ I (k + 1) σ') σ0) σ)
    (he : ∀ σ, I l.length σ → Q .next ⟨σ.fs, unhid a st σ.st, σ.cnt⟩) : Wp (orA (forItems (ldv 0 i) tgt B) (forS (M.bind (ldv 0 i) itB) tgt B (M.pure .next))) Q ⟨f :: fs, st, cnt⟩ := by
  have hl : ldv 0 i ⟨f :: fs, st, cnt⟩ = some (a, ⟨f :: fs, st, cnt⟩) := by
    unfold ldv
    simp only [List.getElem?_cons_zero, hf]
  have loop : ∀ σ0, I 0 σ0 → ∃ σ', forA (fun _ => True) tgt B l σ0 = some (.done, σ') ∧ I l.length σ' := by
    intro σ0 h0
    have : Wp (forA (fun _ => True) tgt B l) (fun r σ' => r = .done ∧ I l.length σ') σ0 := by
      refine wp_forA I h0 (fun _ _ _ _ => trivial) (fun k hk σ hI => ?_) fun σ h => ⟨rfl, h⟩
      refine (hs k hk σ hI).mono fun _ σ0 h => h.mono fun r σ' ⟨e, h⟩ => ?_
      subst e; exact h
    obtain ⟨r, σ', e, hr, h⟩ := this.elim
    subst hr
    exact ⟨σ', e, h⟩
  rcases ha with ha | ⟨h, r, ha, hr, hi⟩
  · subst ha
    obtain ⟨σ', e, hI⟩ := loop _ h0
    have e1 : forItems (ldv 0 i) tgt B ⟨f :: fs, st, cnt⟩ = none := by
      unfold forItems M.bind
      rw [hl]; rfl
    rw [wp_orR e1, wp_forS, wp_bind]
    refine .intro hl ?_
    rw [itB_lst, wp_pure]
    refine .intro e ?_
    rw [wp_pure]
    exact he _ hI
  · subst ha
    obtain ⟨σ', e, hI⟩ := loop _ h0
    refine wp_orL ?_
    unfold forItems
    rw [wp_bind]
    refine .intro hl ?_
    simp only [Wp_eq]; unfold Wp0
    simp only [hr]
    have e' : forA (fun _ => True) tgt B (itemsL r) { fs := f :: fs, st := fun k => if k = h then none else st k, cnt := cnt } = some (.done, σ') := by rw [hi]; exact e
    simp only [M.bind, e', M.pure]
    have := he _ hI
    show Q .next _
    unfold unhid at this
    simp only [hr] at this
    exact this
theorem wp_seq_assoc {p q r : M AFl} {Q : AFl → St → Prop} {σ : St} : Wp (seqA p (seqA q r)) Q σ = Wp (seqA (seqA p q) r) Q σ := by
  rw [wp_seqA, wp_seqA, wp_seqA]
  congr
  funext a σ'
  cases a <;> simp only [wp_seqA]
/-- up to a semicolon, then on -/
theorem Wp.cut {p q : M AFl} {Q : AFl → St → Prop} {σ : St} (Mid : St → Prop) (h1 : Wp p (fun r σ' => r = .next ∧ Mid σ') σ) (h2 : ∀ σ', Mid σ' → Wp q Q σ') : Wp (seqA p q) Q σ := by
  rw [wp_seqA]
  refine h1.mono fun r σ' h => ?_
  obtain ⟨rfl, h⟩ := h
  exact h2 _ h
theorem upd_self {st : Hd → Option AO} {h : Hd} {o : AO} (e : st h = some o) : upd st h o = st := by
  funext k
  unfold upd
  split
  · rename_i hk; rw [hk, e]
  · rfl
theorem delPts_sub (nm : Str) : ∀ (l : List Int) (rg : List (Int × Str)) (p : Int × Str), p ∈ delPts nm l rg → p ∈ rg
  | [], rg, p, h => h
  | x :: l, rg, p, h => by
    have := delPts_sub nm l _ p h
    split at this
    · exact (mem_rem.mp this).1
    · exact this
theorem delPts_step {nm : Str} {l : List Int} {j : Nat} (hj : j < l.length) {rg : List (Int × Str)} : delPts nm (l.take (j + 1)) rg = if look (delPts nm (l.take j) rg) l[j] = some nm then rem (delPts nm (l.take j) rg) l[j] else delPts nm (l.take j) rg := by
  rw [List.take_succ_eq_append_getElem hj, delPts_append]; rfl
theorem mem_put {κ β : Type} [DecidableEq κ] {l : List (κ × β)} {k : κ} {v : β} {p : κ × β} (h : p ∈ put l k v) : p ∈ l ∨ p = (k, v) := by
  unfold put at h
  split at h
  · obtain ⟨q, hq, e⟩ := List.mem_map.mp h
    split at e
    · rename_i hk; subst e; subst hk; exact .inr rfl
    · subst e; exact .inl hq
  · rcases List.mem_append.mp h with h | h
    · exact .inl h
    · exact .inr (List.mem_singleton.mp h)
theorem addPts_sub (nm : Str) : ∀ (l : List Int) (rg : List (Int × Str)) (p : Int × Str), p ∈ addPts nm l rg → p ∈ rg ∨ p.2 = nm
  | [], rg, p, h => .inl h
  | x :: l, rg, p, h => by
    rcases addPts_sub nm l _ p h with h | h
    · rcases mem_put h with h | h
      · exact .inl h
      · subst h; exact .inr rfl
    · exact .inr h
theorem ar_mul1 {b : Int} : arA .Mult (.int 1) (.int b) = M.pure (.int (1 * b)) := ar_mulL (by decide)
theorem tellAll_step {pt : Str → Nat → Int} {L : List (Str × (Nat × Nat))} {k : Nat} (hk : k < L.length) {ρ : RS} {c : Nat} : ρ.tellAll pt (L.take (k + 1)) c = (ρ.tellAll pt (L.take k) c).tell pt L[k].1 L[k].2.1 (c + k) := by
  rw [List.take_succ_eq_append_getElem hk, tellAll_append, List.length_take, Nat.min_eq_left (Nat.le_of_lt hk)]; rfl
theorem newPts_succ {pt : Str → Nat → Int} {nm : Str} {j : Nat} : newPts pt nm (j + 1) = newPts pt nm j ++ [pt nm j] := by
  unfold newPts; rw [List.range_succ, List.map_append]; rfl
theorem intsL_append {l m : List Int} : intsL (l ++ m) = intsL l ++ intsL m := List.map_append
theorem digits_len : ∀ j : Nat, j < 64 → (Str.ofString (toString (j : Int))).length ≤ 10 := by decide +kernel
theorem digits_ok : ∀ j : Nat, j < 64 → PyData.strOk (Str.ofString (toString (j : Int))) = true := by decide +kernel
/-! `isinstance` -/
section
variable {σ : St} {Q : AV → St → Prop}
abbrev isiAll (l k : List AV) : M AV := orA (isiTF l k) (orA (isiF "int" l k) (orA (isiF "str" l k) (isiF "dict" l k)))
theorem isi_one {a : AV} {T Tx : String} (hx : tyA σ a = some Tx) (hT : T = "int" ∨ T = "str" ∨ T = "dict") : isiAll [a, .mc (.type T)] [] σ = some (.bool (decide (Tx = T)), σ) := by
  have hF : ∀ T' : String, isiF T' [a, .mc (.type T)] [] σ = if T = T' then some (.bool (decide (Tx = T')), σ) else none := by
    intro T'
    unfold isiF
    simp only [hx]
  unfold isiAll orA
  rw [hF, hF, hF]
  have h0 : isiTF [a, .mc (.type T)] [] σ = none := rfl
  rw [h0]
  rcases hT with rfl | rfl | rfl <;> simp
theorem isi_tup {a : AV} {ts : List AV} {Ts : List String} {Tx : String} (hx : tyB σ a = some Tx) (ht : tyNm ts = some Ts) : isiAll [a, .tup ts] [] σ = some (.bool (Ts.any fun T => decide (Tx = T)), σ) := by
  unfold isiAll orA isiTF
  simp only [hx, ht]
theorem isi_lst_str {l : List AV} : Wp (isiAll [.lst l, .mc (.type "str")] []) Q σ = Q (.bool false) σ := propext (wp_of (isi_one (Tx := "list") rfl (by simp)))
theorem isi_dct_str {l : List (Str × AV)} : Wp (isiAll [.dct l, .mc (.type "str")] []) Q σ = Q (.bool false) σ := propext (wp_of (isi_one (Tx := "dict") rfl (by simp)))
theorem isi_lst_dict {l : List AV} : Wp (isiAll [.lst l, .mc (.type "dict")] []) Q σ = Q (.bool false) σ := propext (wp_of (isi_one (Tx := "list") rfl (by simp)))
theorem isi_dct_dict {l : List (Str × AV)} : Wp (isiAll [.dct l, .mc (.type "dict")] []) Q σ = Q (.bool true) σ := propext (wp_of (isi_one (Tx := "dict") rfl (by simp)))
theorem isi_int_int {i : Int} : Wp (isiAll [.int i, .mc (.type "int")] []) Q σ = Q (.bool true) σ := propext (wp_of (isi_one (Tx := "int") rfl (by simp)))
theorem isi_dct_int {l : List (Str × AV)} : Wp (isiAll [.dct l, .mc (.type "int")] []) Q σ = Q (.bool false) σ := propext (wp_of (isi_one (Tx := "dict") rfl (by simp)))
theorem isi_str_int {x : Str} : Wp (isiAll [.str x, .mc (.type "int")] []) Q σ = Q (.bool false) σ := propext (wp_of (isi_one (Tx := "str") rfl (by simp)))
theorem isi_lst_dl {l : List AV} : Wp (isiAll [.lst l, .tup [.mc (.type "dict"), .mc (.type "list")]] []) Q σ = Q (.bool true) σ := propext (wp_of (isi_tup (Tx := "list") (Ts := ["dict", "list"]) rfl (by decide)))
theorem isi_dct_dl {l : List (Str × AV)} : Wp (isiAll [.dct l, .tup [.mc (.type "dict"), .mc (.type "list")]] []) Q σ = Q (.bool true) σ := propext (wp_of (isi_tup (Tx := "dict") (Ts := ["dict", "list"]) rfl (by decide)))
theorem isi_clo_7 {k : Nat} : Wp (isiAll [.clo k, .tup [.mc (.type "str"), .mc (.type "bytes"), .mc (.type "int"), .mc (.type "list"), .mc (.type "tuple"), .mc (.type "dict"), .mc (.type "set")]] []) Q σ = Q (.bool false) σ :=
  propext (wp_of (isi_tup (Tx := "function") (Ts := ["str", "bytes", "int", "list", "tuple", "dict", "set"]) rfl (by decide)))
theorem tr_dct0 : trA (.dct []) = M.pure false := by simp [trA]
theorem Wp.eq {α : Type} {f : M α} {a : α} {σ σ' : St} (h : Wp f (fun b τ => b = a ∧ τ = σ') σ) : f σ = some (a, σ') := by
  obtain ⟨b, τ, e, rfl, rfl⟩ := h.elim
  exact e
theorem wp_forItemsZ {fi : M AV} {tgt : AV → M Unit} {fb : M AFl} {Q : AFl → St → Prop} {σ' : St} {l : List (Str × AV)} (h : Wp fi (fun b τ => b = .view 1 (.dct l) ∧ τ = σ') σ) :
    Wp (forItemsZ fi tgt fb) Q σ = Wp (forA (fun _ => True) tgt fb (itemsL l)) (fun r σ'' => match r with
      | .done => Q .next σ''
      | .brk => Q .next σ''
      | .ret v => Q (.ret v) σ'') σ' := by
  unfold forItemsZ
  rw [wp_bind]
  apply propext
  rw [wp_of h.eq]
  show Wp (M.bind _ _) Q σ' ↔ _
  rw [wp_bind]
  refine iff_of_eq (congrArg (fun f => Wp _ f σ') (funext fun r => funext fun σ'' => ?_))
  cases r <;> simp only [wp_pure]
theorem wp_frzA {f : Frm} {fs : List Frm} {st : Hd → Option AO} {cnt i : Nat} {l : List (Str × AV)} {Q : Unit → St → Prop} (h : f[i]? = some (some (.dct l))) : Wp (frzA i) Q ⟨f :: fs, st, cnt⟩ = Q () ⟨f :: fs, st, cnt⟩ := by
  apply propext; refine wp_of ?_
  unfold frzA ldv
  simp only [List.getElem?_cons_zero, h]
theorem wp_dictN {s : Nat} {l : List (AV × AV)} {m : List (Str × AV)} {fs : List Frm} {st : Hd → Option AO} {cnt : Nat} (h : strKs l = some m) : Wp (dictN s l) Q ⟨fs, st, cnt⟩ = Q (.ref (s, cnt)) ⟨fs, upd st (s, cnt) (.dictS (mergeK [] m)), cnt + 1⟩ := by
  simp only [Wp_eq]; unfold Wp0 dictN
  simp only [h]
  rfl
theorem wp_dictZ {l : List (AV × AV)} {m : List (Str × AV)} (h : strKs l = some m) : Wp (dictZ l) Q σ = Q (.dct (mergeK [] m)) σ := by
  simp only [Wp_eq]; unfold Wp0 dictZ
  simp only [h]
end
/-- `_configure_nodes`, told of one node -/
def confOne (s : Bool × List (Str × (Nat × Nat))) (nm : Str) (w c : Nat) : Bool × List (Str × (Nat × Nat)) :=
  (s.1 || (match look s.2 nm with
    | none => true
    | some p => decide (p.1 ≠ w)), put s.2 nm (w, c))
def confAll : Bool × List (Str × (Nat × Nat)) → List (Str × Nat) → Nat → Bool × List (Str × (Nat × Nat))
  | s, [], _ => s
  | s, e :: l, c => confAll (confOne s e.1 e.2 c) l (c + 1)
theorem confAll_append : ∀ (l m : List (Str × Nat)) (s : Bool × List (Str × (Nat × Nat))) (c : Nat), confAll s (l ++ m) c = confAll (confAll s l c) m (c + l.length)
  | [], m, s, c => rfl
  | e :: l, m, s, c => by
    show confAll (confOne s e.1 e.2 c) (l ++ m) (c + 1) = _
    rw [confAll_append l m]
    show _ = confAll (confAll (confOne s e.1 e.2 c) l (c + 1)) m (c + (l.length + 1))
    rw [show c + 1 + l.length = c + (l.length + 1) by omega]
theorem confAll_step {l : List (Str × Nat)} {k : Nat} (hk : k < l.length) {s : Bool × List (Str × (Nat × Nat))} {c : Nat} : confAll s (l.take (k + 1)) c = confOne (confAll s (l.take k) c) l[k].1 l[k].2 (c + k) := by
  rw [List.take_succ_eq_append_getElem hk, confAll_append, List.length_take, Nat.min_eq_left (Nat.le_of_lt hk)]; rfl
theorem confAll_len : ∀ (l : List (Str × Nat)) (s : Bool × List (Str × (Nat × Nat))) (c : Nat), (confAll s l c).2.length ≤ s.2.length + l.length
  | [], s, c => Nat.le_refl _
  | e :: l, s, c => by
    have h1 := confAll_len l (confOne s e.1 e.2 c) (c + 1)
    have h2 := put_len (l := s.2) (k := e.1) (v := (e.2, c))
    show (confAll (confOne s e.1 e.2 c) l (c + 1)).2.length ≤ _
    rw [List.length_cons]
    have : (confOne s e.1 e.2 c).2 = put s.2 e.1 (e.2, c) := rfl
    rw [this] at h1
    omega
/-- what a ring may be told of: names, names with weights, names with rows that name a weight -/
def NodesAV (a : AV) (items : List (Str × Nat)) : Prop :=
  (a = .lst (strsL (items.map (·.1))) ∧ ∀ e ∈ items, e.2 = 1) ∨ a = .dct (items.map fun e => (e.1, .int (e.2 : Int))) ∨ a = .dct (items.map fun e => (e.1, .dct [(Str.ofString "weight", .int (e.2 : Int))]))
theorem strsL_get {l : List Str} {k : Nat} (h : k < (strsL l).length) : (strsL l)[k] = .str (l[k]'(by rw [strsL_len] at h; exact h)) := List.getElem_map ..
theorem intsL_get {l : List Int} {k : Nat} (h : k < (intsL l).length) : (intsL l)[k] = .int (l[k]'(by rw [intsL_len] at h; exact h)) := List.getElem_map ..
def tyO : Option AO → Option String
  | some (.list _) => some "list"
  | some (.dictI _) => some "dict"
  | some (.dictS _) => some "dict"
  | _ => none
theorem tyA_ref {fs : List Frm} {st : Hd → Option AO} {cnt : Nat} {h : Hd} : tyA ⟨fs, st, cnt⟩ (.ref h) = tyO (st h) := by
  unfold tyA tyO
  dsimp only <;> (split <;> simp_all)
theorem tyO_list {l : List AV} : tyO (some (.list l)) = some "list" := rfl
theorem tyO_dictI {l : List (Int × AV)} : tyO (some (.dictI l)) = some "dict" := rfl
theorem tyO_dictS {l : List (Str × AV)} : tyO (some (.dictS l)) = some "dict" := rfl
theorem look_items {β γ : Type} {items : List (Str × β)} (f : Str → β → γ) (nd : (items.map (·.1)).Nodup) {nm : Str} {w : β} (h : (nm, w) ∈ items) : look (items.map fun e => (e.1, f e.1 e.2)) nm = some (f nm w) := by
  refine look_of_mem ?_ (List.mem_map.mpr ⟨_, h, rfl⟩)
  rw [List.map_map]; exact nd
theorem wp_in_dictS {fs : List Frm} {st : Hd → Option AO} {cnt : Nat} {h : Hd} {l : List (Str × AV)} {x : Str} {Q : AV → St → Prop} (e : st h = some (.dictS l)) : Wp (inA (.str x) (.ref h)) Q ⟨fs, st, cnt⟩ = Q (.bool (look l x).isSome) ⟨fs, st, cnt⟩ := by
  apply propext; refine wp_of ?_
  unfold inA viewL dget
  simp only [e]
  rfl
theorem wp_notIn_dictS {fs : List Frm} {st : Hd → Option AO} {cnt : Nat} {h : Hd} {l : List (Str × AV)} {x : Str} {Q : AV → St → Prop} (e : st h = some (.dictS l)) : Wp (notInA (.str x) (.ref h)) Q ⟨fs, st, cnt⟩ = Q (.bool (!(look l x).isSome)) ⟨fs, st, cnt⟩ := by
  apply propext; refine wp_of ?_
  unfold notInA viewL dget
  simp only [e]
  rfl
theorem in_lst {σ : St} {a : AV} {l : List AV} {d : PyData} {ds : List PyData} {Q : AV → St → Prop} (h1 : toD a = some d) (h2 : toDs l = some ds) (h3 : (dOk d && ds.all dOk) = true) : Wp (inA a (.lst l)) Q σ = Q (.bool (ds.any fun x => PyData.eqv x d)) σ := by
  apply propext; refine wp_of ?_
  unfold inA viewL
  simp only [h1, h2, h3, if_true]
theorem in_w3 {σ : St} {Q : AV → St → Prop} : Wp (inA (.str (Str.ofString "weight")) (.lst [.str (Str.ofString "nodename"), .str (Str.ofString "vnodes"), .str (Str.ofString "weight")])) Q σ = Q (.bool true) σ := (in_lst (d := .str (Str.ofString "weight")) (ds := [.str (Str.ofString "nodename"), .str (Str.ofString "vnodes"), .str (Str.ofString "weight")]) rfl rfl (by decide +kernel)).trans (congrArg (fun b => Q (.bool b) σ) (by decide +kernel))
theorem in_n4 {σ : St} {Q : AV → St → Prop} : Wp (inA (.str (Str.ofString "nodename")) (.lst [.str (Str.ofString "hostname"), .str (Str.ofString "instance"), .str (Str.ofString "port"), .str (Str.ofString "weight")])) Q σ = Q (.bool false) σ := (in_lst (d := .str (Str.ofString "nodename")) (ds := [.str (Str.ofString "hostname"), .str (Str.ofString "instance"), .str (Str.ofString "port"), .str (Str.ofString "weight")]) rfl rfl (by decide +kernel)).trans (congrArg (fun b => Q (.bool b) σ) (by decide +kernel))
theorem eq_n1 {σ : St} {Q : AV → St → Prop} : Wp (eqA (.str (Str.ofString "nodename")) (.str (Str.ofString "pos"))) Q σ = Q (.bool false) σ := by rw [wp_eq_str (by decide +kernel) (by decide +kernel), decide_eq_false (by decide +kernel)]
theorem eq_n2 {σ : St} {Q : AV → St → Prop} : Wp (eqA (.str (Str.ofString "nodename")) (.str (Str.ofString "dict"))) Q σ = Q (.bool false) σ := by rw [wp_eq_str (by decide +kernel) (by decide +kernel), decide_eq_false (by decide +kernel)]
theorem eq_n3 {σ : St} {Q : AV → St → Prop} : Wp (eqA (.str (Str.ofString "nodename")) (.str (Str.ofString "nodename"))) Q σ = Q (.bool true) σ := by rw [wp_eq_str (by decide +kernel) (by decide +kernel), decide_eq_true rfl]
theorem eq_p1 {σ : St} {Q : AV → St → Prop} : Wp (eqA (.str (Str.ofString "pos")) (.str (Str.ofString "pos"))) Q σ = Q (.bool true) σ := by rw [wp_eq_str (by decide +kernel) (by decide +kernel), decide_eq_true rfl]
theorem itemsL_1 {x : Str} {v : AV} : itemsL [(x, v)] = [.tup [.str x, v]] := rfl
theorem wp_makeF {C : Addr} {site : Nat} {gI : List AV → List AV → M AV} {args kws : List AV} {fs : List Frm} {st : Hd → Option AO} {cnt : Nat} {Q : AV → St → Prop}
    (h : Wp (gI (.inst C (site, cnt) :: args) kws) (fun v σ => v = .none ∧ Q (.inst C (site, cnt)) σ) ⟨fs, upd st (site, cnt) (.ns []), cnt + 1⟩) : Wp (makeF C site gI args kws) Q ⟨fs, st, cnt⟩ := by
  unfold makeF
  rw [wp_bind, wp_alloc, wp_bind]
  refine h.mono fun v σ ⟨e, q⟩ => ?_
  subst e
  exact (wp_pure (a := AV.inst C (site, cnt))).symm ▸ q
theorem len_le_sum {β : Type} (f : β → Nat) : ∀ (l : List β), (∀ e ∈ l, 1 ≤ f e) → l.length ≤ (l.map f).sum
  | [], _ => by simp
  | e :: l, h => by
    have h1 := h e (List.mem_cons_self ..)
    have h2 := len_le_sum f l fun x hx => h x (List.mem_cons_of_mem _ hx)
    simp only [List.length_cons, List.map_cons, List.sum_cons]; omega
/-- the ring that is made of a row of nodes -/
def newRS (pt : Str → Nat → Int) (items : List (Str × Nat)) (c : Nat) : RS :=
  let nodes := (confAll (false, []) items c).2
  let ρ : RS := RS.tellAll pt ⟨nodes, [], [], [], []⟩ nodes (c + items.length)
  { ρ with keys := isortI (ρ.rg.map (·.1)) }
/-- a node that goes -/
def RS.drop (ρ : RS) (nm : Str) : RS :=
  let rg := delPts nm (((look ρ.np nm).map (·.1)).getD []) ρ.rg
  { nodes := rem ρ.nodes nm, np := rem ρ.np nm, dist := rem ρ.dist nm, rg := rg, keys := isortI (rg.map (·.1)) }
theorem nodup_map_inj {α β : Type} {f : α → β} : ∀ {L : List α}, (L.map f).Nodup → ∀ {a b : α}, a ∈ L → b ∈ L → f a = f b → a = b
  | [], _, a, b, ha, _, _ => by cases ha
  | c :: L, nd, a, b, ha, hb, e => by
    rw [List.map_cons, List.nodup_cons] at nd
    rcases List.mem_cons.mp ha with h1 | h1
    · rcases List.mem_cons.mp hb with h2 | h2
      · rw [h1, h2]
      · subst h1
        have := List.mem_map_of_mem (f := f) h2
        rw [← e] at this
        exact absurd this nd.1
    · rcases List.mem_cons.mp hb with h2 | h2
      · subst h2
        have := List.mem_map_of_mem (f := f) h1
        rw [e] at this
        exact absurd this nd.1
      · exact nodup_map_inj nd.2 h1 h2 e
/-- the text under which a node's point is asked -/
def ptKey (nm : Str) (w : Nat) : Str := Str.empty ++ nm ++ Str.ofString "-" ++ Str.ofString (toString (w : Int))
end Mine
end

section
open PySem PySem.W PySem.Calls PyProof.Rows
set_option Elab.async false
set_option maxRecDepth 100000
set_option maxHeartbeats 1000000
set_option linter.unusedVariables false
set_option linter.unusedSectionVars false
set_option linter.unusedSimpArgs false
namespace Mine
local macro_rules | `(tactic| walk_at "PW") => `(tactic| simp only [wp_pure, wp_fail, wp_bind, wp_seqA, wp_cond, wp_ite, wp_ldv0, wp_ldv1, wp_stv, wp_alloc, wp_getNs, wp_getBm, wp_selfIn, wp_setNs, wp_getPr, wp_bmF, noKw_nil, wp_preT, tyA_int, tyA_str, tyA_lst, tyA_dct,
  ar_add, ar_sub, iar_add, iar_sub, ord_lt, ord_le, ord_gt, ord_ge, is_none, is_int, is_str, isN_none, eqFS_clo, un_neg, tr_bool, tr_none, tr_int, tr_clo, wp_tr_ref, wp_eq_int, wp_ne_int, wp_eq_ni, wp_ne_ni, wp_getA_tup, wp_getA_lst, wp_getA_dct, wp_getA_dictS, wp_getA_int, wp_setS, wp_setI, wp_delI, wp_append,
  wp_dgetI, wp_dgetS, wp_dgetSd, wp_dgetD, wp_dgetDd, wp_pop1, wp_pop2, wp_view, wp_viewD, wp_preCtr, wp_ctrPop1, wp_ctrPop2, wp_ctrGet, wp_ctrSet, wp_len, wp_lenR, range1, range2, abs_int, itB_lst, itB_tup, itB_dct, wp_itB_ref, wp_itEn_lst, wp_itEn_ref, tgtTup_eq, tgtCons_eq, tgtNil_eq, wp_forS,
  List.getElem?_cons_zero, List.getElem?_cons_succ, List.set_cons_zero, List.set_cons_succ, Option.some.injEq, exists_eq_left', List.length_cons, List.length_nil, Nat.zero_add, Nat.reduceAdd, Nat.sub_zero, Nat.reduceSub, Bool.cond_true, Bool.cond_false, cond_true, cond_false, Bool.cond_decide, true_and, and_true, if_true, if_false, List.tail_cons, reduceCtorEq, false_and, exists_false, false_or, or_false, decide_true, decide_false, Bool.not_true, Bool.not_false,
  AO.ns.injEq, AO.list.injEq, AO.dictI.injEq, AO.dictS.injEq, AO.ctr.injEq, upd_site, and_false, Nat.reduceEqDiff, getK_eq, setK_eq, delK_eq, Option.map_some, Option.map_none, Option.getD_some, Option.getD_none, Nat.zero_le, Nat.le_refl, Nat.reduceLeDiff, ar_mul1, Int.one_mul, isi_lst_str, isi_dct_str, isi_lst_dict, isi_dct_dict, isi_int_int, isi_dct_int, isi_str_int, isi_lst_dl, isi_dct_dl, isi_clo_7, tyA_ref, tyO_list, tyO_dictI, tyO_dictS, in_w3, in_n4, eq_n1, eq_n2, eq_n3, eq_p1, tr_dct0, mkT_eq, mkL_eq])
/-! what the ring's functions bring about -/
def ringNs (m : Nat) : List (Str × AV) := [("runtime", .inst 387 (2, m)), ("_default_vnodes", .int 1), ("hashi", .bm 370 (.inst 387 (2, m))), ("_weight_fn", .none)]
def metaNs (H : RH) (ks : List Int) : List (Str × AV) := [("_distribution", .ref (3, H.di)), ("_keys", .lst (intsL ks)), ("_node_points", .ref (4, H.np)), ("_nodes", .ref (5, H.nd)), ("_ring", .ref (6, H.rg)), ("_hash_fn", .clo 0)]
def confL (nm : Str) (w : Int) : List (Str × AV) := [("hostname", .str nm), ("instance", .none), ("nodename", .str nm), ("port", .none), ("vnodes", .int 1), ("weight", .int w)]
section
variable {m : Nat} {H : RH} {ks ks' : List Int} {nm : Str} {w w' : Int}
theorem l_r1 : List.lookup (Str.ofString "runtime") (ringNs m) = some (.inst 387 (2, m)) := by kernel_rfl
theorem l_r2 : List.lookup (Str.ofString "_default_vnodes") (ringNs m) = some (.int 1) := by kernel_rfl
theorem l_r3 : List.lookup (Str.ofString "hashi") (ringNs m) = some (.bm 370 (.inst 387 (2, m))) := by kernel_rfl
theorem l_r4 : List.lookup (Str.ofString "_weight_fn") (ringNs m) = some .none := by kernel_rfl
theorem l_m1 : List.lookup (Str.ofString "_distribution") (metaNs H ks) = some (.ref (3, H.di)) := by kernel_rfl
theorem l_m2 : List.lookup (Str.ofString "_keys") (metaNs H ks) = some (.lst (intsL ks)) := by kernel_rfl
theorem l_m3 : List.lookup (Str.ofString "_node_points") (metaNs H ks) = some (.ref (4, H.np)) := by kernel_rfl
theorem l_m4 : List.lookup (Str.ofString "_nodes") (metaNs H ks) = some (.ref (5, H.nd)) := by kernel_rfl
theorem l_m5 : List.lookup (Str.ofString "_ring") (metaNs H ks) = some (.ref (6, H.rg)) := by kernel_rfl
theorem l_m6 : List.lookup (Str.ofString "_hash_fn") (metaNs H ks) = some (.clo 0) := by kernel_rfl
theorem l_m7 : List.lookup (Str.ofString "hashi") (metaNs H ks) = none := by kernel_rfl
theorem l_m8 : List.lookup (Str.ofString "_create_ring") (metaNs H ks) = none := by kernel_rfl
theorem l_m9 : List.lookup (Str.ofString "_remove_node") (metaNs H ks) = none := by kernel_rfl
theorem l_r5 : List.lookup (Str.ofString "_configure_nodes") (ringNs m) = none := by kernel_rfl
theorem l_r6 : List.lookup (Str.ofString "_get_pos") (ringNs m) = none := by kernel_rfl
theorem l_r7 : List.lookup (Str.ofString "_get") (ringNs m) = none := by kernel_rfl
theorem l_r8 : List.lookup (Str.ofString "get_node") (ringNs m) = none := by kernel_rfl
theorem l_r9 : List.lookup (Str.ofString "remove_node") (ringNs m) = none := by kernel_rfl
theorem l_r10 : List.lookup (Str.ofString "add_node") (ringNs m) = none := by kernel_rfl
theorem l_r11 : List.lookup (Str.ofString "get_nodes") (ringNs m) = none := by kernel_rfl
theorem l_r12 : List.lookup (Str.ofString "get_points") (ringNs m) = none := by kernel_rfl
theorem l_r13 : List.lookup (Str.ofString "get_node_pos") (ringNs m) = none := by kernel_rfl
theorem l_r14 : List.lookup (Str.ofString "iterate_nodes") (ringNs m) = none := by kernel_rfl
theorem l_r15 : List.lookup (Str.ofString "regenerate") (ringNs m) = none := by kernel_rfl
theorem l_c1 : look (confL nm w) (Str.ofString "vnodes") = some (.int 1) := by kernel_rfl
theorem l_c2 : look (confL nm w) (Str.ofString "weight") = some (.int w) := by kernel_rfl
theorem l_c3 : look (confL nm w) (Str.ofString "nodename") = some (.str nm) := by kernel_rfl
theorem p_m2 : nsPut (metaNs H ks) (Str.ofString "_keys") (.lst (intsL ks')) = metaNs H ks' := by kernel_rfl
theorem p_c2 : put (confL nm w) (Str.ofString "weight") (.int w') = confL nm w' := by kernel_rfl
end
local macro_rules | `(tactic| walk_at "PN") => `(tactic| simp only [l_r1, l_r2, l_r3, l_r4, l_m1, l_m2, l_m3, l_m4, l_m5, l_m6, l_m7, l_m8, l_m9, l_r5, l_r6, l_r7, l_r8, l_r9, l_r10, l_r11, l_r12, l_r13, l_r14, l_r15, l_c1, l_c2, l_c3, p_m2, p_c2, noMc])
local macro_rules | `(tactic| wide_line with [$ts,*]) => `(tactic| simp only [wp_pure, wp_fail, wp_bind, wp_seqA, wp_cond, wp_ite, wp_ldv0, wp_ldv1, wp_stv, wp_alloc, wp_getNs, wp_getBm, wp_selfIn, wp_setNs, wp_getPr, wp_bmF, noKw_nil, wp_preT, tyA_int, tyA_str, tyA_lst, tyA_dct,
  ar_add, ar_sub, iar_add, iar_sub, ord_lt, ord_le, ord_gt, ord_ge, is_none, is_int, is_str, isN_none, eqFS_clo, un_neg, tr_bool, tr_none, tr_int, tr_clo, wp_tr_ref, wp_eq_int, wp_ne_int, wp_eq_ni, wp_ne_ni, wp_getA_tup, wp_getA_lst, wp_getA_dct, wp_getA_dictS, wp_getA_int, wp_setS, wp_setI, wp_delI, wp_append,
  wp_dgetI, wp_dgetS, wp_dgetSd, wp_dgetD, wp_dgetDd, wp_pop1, wp_pop2, wp_view, wp_viewD, wp_preCtr, wp_ctrPop1, wp_ctrPop2, wp_ctrGet, wp_ctrSet, wp_len, wp_lenR, range1, range2, abs_int, itB_lst, itB_tup, itB_dct, wp_itB_ref, wp_itEn_lst, wp_itEn_ref, tgtTup_eq, tgtCons_eq, tgtNil_eq, wp_forS,
  List.getElem?_cons_zero, List.getElem?_cons_succ, List.set_cons_zero, List.set_cons_succ, Option.some.injEq, exists_eq_left', List.length_cons, List.length_nil, Nat.zero_add, Nat.reduceAdd, Nat.sub_zero, Nat.reduceSub, Bool.cond_true, Bool.cond_false, cond_true, cond_false, Bool.cond_decide, true_and, and_true, if_true, if_false, List.tail_cons, reduceCtorEq, false_and, exists_false, false_or, or_false, decide_true, decide_false, Bool.not_true, Bool.not_false,
  AO.ns.injEq, AO.list.injEq, AO.dictI.injEq, AO.dictS.injEq, AO.ctr.injEq, upd_site, and_false, Nat.reduceEqDiff, getK_eq, setK_eq, delK_eq, Option.map_some, Option.map_none, Option.getD_some, Option.getD_none, Nat.zero_le, Nat.le_refl, Nat.reduceLeDiff, ar_mul1, Int.one_mul, isi_lst_str, isi_dct_str, isi_lst_dict, isi_dct_dict, isi_int_int, isi_dct_int, isi_str_int, isi_lst_dl, isi_dct_dl, isi_clo_7, tyA_ref, tyO_list, tyO_dictI, tyO_dictS, in_w3, in_n4, eq_n1, eq_n2, eq_n3, eq_p1, tr_dct0, mkT_eq, mkL_eq, l_r1, l_r2, l_r3, l_r4, l_m1, l_m2, l_m3, l_m4, l_m5, l_m6, l_m7, l_m8, l_m9, l_r5, l_r6, l_r7, l_r8, l_r9, l_r10, l_r11, l_r12, l_r13, l_r14, l_r15, l_c1, l_c2, l_c3, p_m2, p_c2, noMc, $[$ts:term],*])
/-- what is known of the law's own hash function -/
structure PlOK (E : List Frm → (Hd → Option AO) → Prop) (T : Str → Nat → Prop) (K : Int → Prop) (pt : Str → Nat → Int) (kp : Int → Int) : Prop where
  str : ∀ {nm w fs st cnt}, T nm w → E fs st → (placeF.1 (.clo 0) [.str (ptKey nm w)] []) ⟨fs, st, cnt⟩ = some (.int (pt nm w), ⟨fs, st, cnt⟩)
  int : ∀ {k fs st cnt}, K k → E fs st → (placeF.1 (.clo 0) [.int k] []) ⟨fs, st, cnt⟩ = some (.int (kp k), ⟨fs, st, cnt⟩)
  push : ∀ {f fs st}, E fs st → E (f :: fs) st
  keep : ∀ {fs st st'}, E fs st → (∀ n : Hd, 10 ≤ n.1 → st' n = st n) → E fs st'
  sm : ∀ {nm w}, T nm w → nm.length ≤ 100 ∧ w < 1000 ∧ PyData.strOk nm = true
structure Core (st : Hd → Option AO) (cnt : Nat) (H : RH) (ρ : RS) : Prop where
  m : st (2, H.m) = some (.ns (metaNs H ρ.keys))
  di : st (3, H.di) = some (.ctr 293 (mapV .int ρ.dist))
  np : st (4, H.np) = some (.dictS (mapV (fun p => .ref (9, p.2)) ρ.np))
  rg : st (6, H.rg) = some (.dictI (mapV .str ρ.rg))
  pts : ∀ e ∈ ρ.np, e.2.2 < cnt ∧ st (9, e.2.2) = some (.list (intsL e.2.1)) ∧ e.2.1.length ≤ 100
  ok : ∀ e ∈ ρ.rg, PyData.strOk e.2 = true
section
variable {E : List Frm → (Hd → Option AO) → Prop} {T : Str → Nat → Prop} {K : Int → Prop} {pt : Str → Nat → Int} {kp : Int → Int}
variable {fs : List Frm} {st : Hd → Option AO} {cnt : Nat} {H : RH} {ρ : RS} {nm : Str} {w : Nat} {Q : AV → St → Prop}
theorem wp_missing {a b : AV} : Wp (missing.1 [a, b] []) Q ⟨fs, st, cnt⟩ = Q (.int 0) ⟨fs, st, cnt⟩ := by
  unfold missing
  dsimp only [List.length_cons, List.length_nil]
  rw [if_pos rfl]
  dsimp only
  rw [wp_fnA (F := [some a, some b]) (by kernel_rfl)]
  walk_at "PW"
theorem hashi_str (P : PlOK E T K pt kp) {ks : List Int} (hm : st (2, H.m) = some (.ns (metaNs H ks))) (hE : E fs st) (hT : T nm w) : Wp (hashi.1 [.inst 387 (2, H.m), .str (ptKey nm w)] []) Q ⟨fs, st, cnt⟩ = Q (.int (pt nm w)) ⟨fs, st, cnt⟩ := by
  unfold hashi
  dsimp only [List.length_cons, List.length_nil]
  rw [if_pos rfl]
  dsimp only
  rw [wp_fnA (F := [some (.inst 387 (2, H.m)), some (.str (ptKey nm w))]) (by kernel_rfl)]
  walk_at "PW"
  simp only [hm]
  walk_at "PW"
  walk_at "PN"
  walk_at "PW"
  apply propext
  rw [wp_of (P.str hT (P.push hE))]
  walk_at "PW"
theorem hashi_int (P : PlOK E T K pt kp) {ks : List Int} {k : Int} (hm : st (2, H.m) = some (.ns (metaNs H ks))) (hE : E fs st) (hK : K k) : Wp (hashi.1 [.inst 387 (2, H.m), .int k] []) Q ⟨fs, st, cnt⟩ = Q (.int (kp k)) ⟨fs, st, cnt⟩ := by
  unfold hashi
  dsimp only [List.length_cons, List.length_nil]
  rw [if_pos rfl]
  dsimp only
  rw [wp_fnA (F := [some (.inst 387 (2, H.m)), some (.int k)]) (by kernel_rfl)]
  walk_at "PW"
  simp only [hm]
  walk_at "PW"
  walk_at "PN"
  walk_at "PW"
  apply propext
  rw [wp_of (P.int hK (P.push hE))]
  walk_at "PW"
def offR (n : Hd) : Prop := n.1 ≠ 2 ∧ n.1 ≠ 3 ∧ n.1 ≠ 4 ∧ n.1 ≠ 6 ∧ n.1 ≠ 9
def row (e : Str × (Nat × Nat)) : AV := .tup [.str e.1, .ref (7, e.2.2)]
theorem createRing_wp (P : PlOK E T K pt kp) {a : AV} {L : List (Str × (Nat × Nat))} (hC : Core st cnt H ρ) (hE : E fs st)
    (ha : a = .lst (L.map row) ∨ ∃ r, a = .view 1 (.ref (5, H.nd)) ∧ st (5, H.nd) = some (.dictS r) ∧ itemsL r = L.map row)
    (hcf : ∀ e ∈ L, st (7, e.2.2) = some (.dictS (confL e.1 e.2.1))) (hT : ∀ e ∈ L, ∀ k, k < e.2.1 → T e.1 k) (hw : ∀ e ∈ L, 1 ≤ e.2.1 ∧ e.2.1 < 60)
    (hb : ρ.np.length + L.length ≤ 200 ∧ ρ.dist.length + L.length ≤ 200 ∧ ρ.rg.length + (L.map (·.2.1)).sum < 64)
    (hQ : ∀ st', Core st' (cnt + L.length) H { ρ.tellAll pt L cnt with keys := isortI ((ρ.tellAll pt L cnt).rg.map (·.1)) } → (∀ n : Hd, offR n → st' n = st n) → Q .none ⟨fs, st', cnt + L.length⟩) :
    Wp (createRing.1 [.inst 387 (2, H.m), a] []) Q ⟨fs, st, cnt⟩ := by
  have hh : ∀ n : Hd, n.1 ≠ 5 → hid a st n = st n := by
    intro n hn
    rcases ha with rfl | ⟨r, rfl, _, _⟩
    · rfl
    · show (if n = (5, H.nd) then none else st n) = st n
      rw [if_neg]
      rintro rfl; exact hn rfl
  unfold createRing
  dsimp only [List.length_cons, List.length_nil]
  rw [if_pos rfl]
  dsimp only
  rw [wp_fnA (F := [some (.inst 387 (2, H.m)), some a, none, none, none, none, none, none]) (by kernel_rfl)]
  walk_at "PW"
  refine wp_orItems (a := a) (l := L.map row) rfl (by
    rcases ha with h | ⟨r, h1, h2, h3⟩
    · exact .inl h
    · exact .inr ⟨_, r, h1, h2, h3⟩) (fun k σ => ∃ o2 o3 o4 o5 o6 o7 st', σ = ⟨[some (.inst 387 (2, H.m)), some a, o2, o3, o4, o5, o6, o7] :: fs, st', cnt + k⟩ ∧ Core st' (cnt + k) H (ρ.tellAll pt (L.take k) cnt) ∧ ∀ n : Hd, offR n → st' n = hid a st n) ?_ ?_ ?_
  · refine ⟨_, _, _, _, _, _, _, rfl, ⟨?_, ?_, ?_, ?_, ?_, hC.ok⟩, fun n _ => rfl⟩
    · rw [hh _ (by simp)]; exact hC.m
    · rw [hh _ (by simp)]; exact hC.di
    · rw [hh _ (by simp)]; exact hC.np
    · rw [hh _ (by simp)]; exact hC.rg
    · intro e he
      rw [hh _ (by simp)]; exact hC.pts e he
  · rintro k hk σ ⟨o2, o3, o4, o5, o6, o7, st', rfl, hC', hoff⟩
    rw [List.length_map] at hk
    have hmem : L[k] ∈ L := List.getElem_mem hk
    rw [List.getElem_map]
    unfold row
    generalize hL : L[k] = e at *
    obtain ⟨nm, w, c⟩ := e
    dsimp only
    have hc : st' (7, c) = some (.dictS (confL nm w)) := by
      rw [hoff _ (by unfold offR; simp), hh _ (by simp)]; exact hcf _ hmem
    obtain ⟨ρk, hρ⟩ : ∃ ρk, ρk = ρ.tellAll pt (L.take k) cnt := ⟨_, rfl⟩
    have hb1 := tellAll_bounds pt (L.take k) ρ cnt
    have hb2 : ((L.take k).map (·.2.1)).sum + w ≤ (L.map (·.2.1)).sum := by
      have e1 : L.map (·.2.1) = (L.take k).map (·.2.1) ++ ((L.drop k).map (·.2.1)) := by rw [← List.map_append, List.take_append_drop]
      rw [e1, List.sum_append, List.drop_eq_getElem_cons hk, hL, List.map_cons, List.sum_cons]
      dsimp only; omega
    have hb3 : (L.take k).length ≤ L.length := by rw [List.length_take]; omega
    rw [← hρ] at hC' hb1
    have hw' := hw _ hmem
    have hT' := hT _ hmem
    dsimp only at hw' hT'
    obtain ⟨hnl, _, hok⟩ := P.sm (hT' 0 (by omega))
    obtain ⟨old, hold⟩ : ∃ old : List Int, old = ((look ρk.np nm).map (·.1)).getD [] := ⟨_, rfl⟩
    rw [tgtTup_eq (by rfl)]
    simp only [tgtCons_eq, tgtNil_eq, wp_bind, wp_stv, wp_pure, List.set_cons_succ, List.set_cons_zero]
    rw [wp_seq_assoc]
    refine Wp.cut (fun σ => ∃ o4 o5 st1, σ = ⟨[some (.inst 387 (2, H.m)), some a, some (.str nm), some (.ref (7, c)), o4, o5, o6, o7] :: fs, st1, cnt + k⟩ ∧ st1 (4, H.np) = some (.dictS (mapV (fun p => .ref (9, p.2)) (rem ρk.np nm))) ∧
      st1 (3, H.di) = some (.ctr 293 (mapV .int (if old = [] then ρk.dist else rem ρk.dist nm))) ∧ st1 (6, H.rg) = some (.dictI (mapV .str (delPts nm old ρk.rg))) ∧ ∀ n : Hd, n.1 ≠ 4 → n.1 ≠ 3 → n.1 ≠ 6 → st1 n = st' n) ?_ ?_
    · walk_at "PW"
      simp only [hC'.m]
      walk_at "PW"
      walk_at "PN"
      walk_at "PW"
      simp only [hC'.np, tyA_dictS hC'.np]
      walk_at "PW"
      simp only [look_mapV, rem_mapV, len_mapV]
      refine ⟨by omega, ?_⟩
      cases hlk : look ρk.np nm with
      | none =>
        refine .inl ⟨rfl, ?_⟩
        rw [hlk] at hold
        simp only [Option.map_none, Option.getD_none] at hold
        subst hold
        refine ⟨_, _, _, rfl, ?_, ?_, ?_, fun n _ _ _ => rfl⟩
        · rw [rem_none hlk]; exact hC'.np
        · exact hC'.di
        · exact hC'.rg
      | some pq =>
        obtain ⟨ps, q⟩ := pq
        refine .inr ?_
        rw [hlk] at hold
        simp only [Option.map_some, Option.getD_some] at hold
        subst hold
        obtain ⟨hq1, hq2, hq3⟩ := hC'.pts _ (look_some hlk)
        dsimp only at hq1 hq2 hq3
        walk_at "PW"
        simp only [hq2]
        walk_at "PW"
        simp only [intsL_len]
        refine ⟨by omega, ?_⟩
        by_cases hps : old = []
        · subst hps
          walk_at "PW"
          simp only [List.length_nil, bne_self_eq_false, Bool.cond_false, cond_false]
          refine ⟨_, _, _, rfl, ?_, ?_, ?_, fun n h1 h2 h3 => ?_⟩
          · walk_at "PW"
          · walk_at "PW"; exact hC'.di
          · walk_at "PW"; exact hC'.rg
          · exact upd_ne (by rintro rfl; exact h1 rfl)
        · have hne : (old.length != 0) = true := by
            simp only [bne_iff_ne, ne_eq, List.length_eq_zero_iff]; exact hps
          rw [hne]
          walk_at "PW"
          refine wp_forA (fun j σ => ∃ o5 stj, σ = ⟨[some (.inst 387 (2, H.m)), some a, some (.str nm), some (.ref (7, c)), some (.ref (9, q)), o5, o6, o7] :: fs, stj, cnt + k⟩ ∧ stj (6, H.rg) = some (.dictI (mapV .str (delPts nm (old.take j) ρk.rg))) ∧
            ∀ n : Hd, n.1 ≠ 6 → stj n = upd st' (4, H.np) (.dictS (mapV (fun p => .ref (9, p.2)) (rem ρk.np nm))) n) ?_ ?_ ?_ ?_
          · refine ⟨_, _, rfl, ?_, fun n _ => rfl⟩
            walk_at "PW"; exact hC'.rg
          · rintro j σ hj ⟨o5, stj, rfl, h1, h2⟩
            dsimp only
            rw [h2 _ (by simp)]
            walk_at "PW"; exact hq2
          · rintro j hj σ ⟨o5, stj, rfl, h1, h2⟩
            rw [intsL_len] at hj
            have hrg := delPts_len nm (old.take j) ρk.rg
            have hlen : (delPts nm (old.take j) ρk.rg).length ≤ 2 ^ 20 := by omega
            have hm2 : stj (2, H.m) = some (.ns (metaNs H ρk.keys)) := by rw [h2 _ (by simp)]; walk_at "PW"; exact hC'.m
            have hg : (intsL old)[j]'(by rw [intsL_len]; exact hj) = .int old[j] := by unfold intsL; rw [List.getElem_map]
            rw [hg, delPts_step hj]
            walk_at "PW"
            simp only [hm2]
            walk_at "PW"
            walk_at "PN"
            walk_at "PW"
            simp only [h1, tyA_dictI h1]
            walk_at "PW"
            simp only [look_mapV, rem_mapV, len_mapV]
            cases hlk2 : look (delPts nm (old.take j) ρk.rg) old[j] with
            | none =>
              walk_at "PW"
              rw [wp_eq_ns hok]
              walk_at "PW"
              exact ⟨_, _, rfl, h1, h2⟩
            | some x =>
              walk_at "PW"
              rw [wp_eq_str (hC'.ok _ (delPts_sub _ _ _ _ (look_some hlk2))) hok]
              walk_at "PW"
              by_cases hx : x = nm
              · subst hx
                wide_line with [hm2, h1, hlk2, rem_mapV, len_mapV, look_mapV]
                refine ⟨hlen, by simp, _, _, rfl, ?_, fun n hn => ?_⟩
                · walk_at "PW"
                · rw [upd_ne (by rintro rfl; exact hn rfl)]; exact h2 n hn
              · simp only [hx, if_false]
                exact ⟨_, _, rfl, h1, h2⟩
          · rintro σ ⟨o5, stj, rfl, h1, h2⟩
            rw [intsL_len, List.take_length] at h1
            have hm2 : stj (2, H.m) = some (.ns (metaNs H ρk.keys)) := by rw [h2 _ (by simp)]; walk_at "PW"; exact hC'.m
            have hd2 : stj (3, H.di) = some (.ctr 293 (mapV .int ρk.dist)) := by rw [h2 _ (by simp)]; walk_at "PW"; exact hC'.di
            walk_at "PW"
            simp only [hm2]
            walk_at "PW"
            walk_at "PN"
            walk_at "PW"
            simp only [hd2]
            walk_at "PW"
            simp only [look_mapV, rem_mapV, len_mapV]
            refine ⟨by omega, ?_⟩
            have fin : ∀ st1 : Hd → Option AO, st1 (3, H.di) = some (.ctr 293 (mapV .int (rem ρk.dist nm))) → (∀ n : Hd, n.1 ≠ 3 → st1 n = stj n) → ∃ o4' o5' st1', (⟨[some (.inst 387 (2, H.m)), some a, some (.str nm), some (.ref (7, c)), some (.ref (9, q)), o5, o6, o7] :: fs, st1, cnt + k⟩ : St) = ⟨[some (.inst 387 (2, H.m)), some a, some (.str nm), some (.ref (7, c)), o4', o5', o6, o7] :: fs, st1', cnt + k⟩ ∧ st1' (4, H.np) = some (.dictS (mapV (fun p => .ref (9, p.2)) (rem ρk.np nm))) ∧
              st1' (3, H.di) = some (.ctr 293 (mapV .int (if old = [] then ρk.dist else rem ρk.dist nm))) ∧ st1' (6, H.rg) = some (.dictI (mapV .str (delPts nm old ρk.rg))) ∧ ∀ n : Hd, n.1 ≠ 4 → n.1 ≠ 3 → n.1 ≠ 6 → st1' n = st' n := by
              intro st1 g1 g2
              refine ⟨_, _, st1, rfl, ?_, ?_, ?_, fun n n1 n2 n3 => ?_⟩
              · rw [g2 _ (by simp), h2 _ (by simp)]; walk_at "PW"
              · rw [g1, if_neg hps]
              · rw [g2 _ (by simp), h1]
              · rw [g2 _ n2, h2 _ n3]
                exact upd_ne (by rintro rfl; exact n1 rfl)
            cases hdd : look ρk.dist nm with
            | none =>
              refine .inl ⟨rfl, ?_⟩
              refine fin _ ?_ fun n _ => rfl
              rw [rem_none hdd]; exact hd2
            | some v =>
              refine .inr ⟨_, rfl, ?_⟩
              refine fin _ ?_ fun n hn => upd_ne (by rintro rfl; exact hn rfl)
              walk_at "PW"
    · rintro σ ⟨o4, o5, st1, rfl, h4, h3, h6, hoff1⟩
      have hm1 : st1 (2, H.m) = some (.ns (metaNs H ρk.keys)) := by rw [hoff1 _ (by simp) (by simp) (by simp)]; exact hC'.m
      have hc1 : st1 (7, c) = some (.dictS (confL nm w)) := by rw [hoff1 _ (by simp) (by simp) (by simp)]; exact hc
      obtain ⟨dist1, hdist1⟩ : ∃ d, d = (if old = [] then ρk.dist else rem ρk.dist nm) := ⟨_, rfl⟩
      obtain ⟨rg1, hrg1⟩ : ∃ d, d = delPts nm old ρk.rg := ⟨_, rfl⟩
      have hd1 : dist1.length ≤ ρk.dist.length := by
        rw [hdist1]; split
        · exact Nat.le_refl _
        · exact rem_len
      have hr1 : rg1.length ≤ ρk.rg.length := by rw [hrg1]; exact delPts_len ..
      rw [← hdist1] at h3
      rw [← hrg1] at h6
      have hpl := rem_len (l := ρk.np) (k := nm)
      wide_line with [hc1, itB_nat (show w < 1000000000000 by omega)]
      refine wp_forA (fun j σ => ∃ o5 o7 stj, σ = ⟨[some (.inst 387 (2, H.m)), some a, some (.str nm), some (.ref (7, c)), o4, o5, some (.ref (9, cnt + k)), o7] :: fs, stj, cnt + k + 1⟩ ∧ stj (3, H.di) = some (.ctr 293 (mapV .int (addDist nm j dist1))) ∧
        stj (6, H.rg) = some (.dictI (mapV .str (addPts nm (newPts pt nm j) rg1))) ∧ stj (9, cnt + k) = some (.list (intsL (newPts pt nm j))) ∧ ∀ n : Hd, n.1 ≠ 3 → n.1 ≠ 6 → n ≠ (9, cnt + k) → stj n = st1 n) ?_ (fun _ _ _ _ => trivial) ?_ ?_
      · refine ⟨_, _, _, rfl, ?_, ?_, ?_, fun n n1 n2 n3 => upd_ne n3⟩
        · walk_at "PW"; exact h3
        · walk_at "PW"; exact h6
        · walk_at "PW"; rfl
      · rintro j hj σ ⟨o5, o7, stj, rfl, j3, j6, j9, joff⟩
        rw [List.length_map, List.length_range] at hj
        have hm2 : stj (2, H.m) = some (.ns (metaNs H ρk.keys)) := by rw [joff _ (by simp) (by simp) (by simp)]; exact hm1
        have hdl := addDist_len nm j dist1
        have hpl2 := addPts_len nm (newPts pt nm j) rg1
        rw [newPts_len] at hpl2
        have hjs : smallI (j : Int) = true := small_of (by omega) (by omega)
        have hjl := digits_len j (by omega)
        rw [List.getElem_map, List.getElem_range]
        simp only [wp_stv, List.set_cons_succ, List.set_cons_zero]
        refine Wp.cut (fun σ => ∃ stk, σ = ⟨[some (.inst 387 (2, H.m)), some a, some (.str nm), some (.ref (7, c)), o4, o5, some (.ref (9, cnt + k)), some (.int (j : Int))] :: fs, stk, cnt + k + 1⟩ ∧ stk (3, H.di) = some (.ctr 293 (mapV .int (addDist nm (j + 1) dist1))) ∧ ∀ n : Hd, n.1 ≠ 3 → stk n = stj n) ?_ ?_
        · wide_line with [hm2, j3]
          simp only [look_mapV]
          rw [addDist_succ]
          have fin : ∀ v : Int, (look (addDist nm j dist1) nm).getD 0 = v → ∃ stk, (⟨[some (.inst 387 (2, H.m)), some a, some (.str nm), some (.ref (7, c)), o4, o5, some (.ref (9, cnt + k)), some (.int (j : Int))] :: fs, upd stj (3, H.di) (.ctr 293 (put (mapV .int (addDist nm j dist1)) nm (.int (v + 1)))), cnt + k + 1⟩ : St) = ⟨[some (.inst 387 (2, H.m)), some a, some (.str nm), some (.ref (7, c)), o4, o5, some (.ref (9, cnt + k)), some (.int (j : Int))] :: fs, stk, cnt + k + 1⟩ ∧
            stk (3, H.di) = some (.ctr 293 (mapV .int (put (addDist nm j dist1) nm ((look (addDist nm j dist1) nm).getD 0 + 1)))) ∧ ∀ n : Hd, n.1 ≠ 3 → stk n = stj n := by
            intro v hv
            refine ⟨_, rfl, ?_, fun n hn => upd_ne (by rintro rfl; exact hn rfl)⟩
            rw [upd_same, put_mapV, hv]
          cases hdd : look (addDist nm j dist1) nm with
          | none =>
            refine .inl ⟨rfl, ?_⟩
            rw [wp_missing]
            wide_line with [j3, len_mapV]
            refine ⟨by omega, ?_⟩
            rw [hdd] at fin
            exact fin 0 rfl
          | some v =>
            refine .inr ⟨_, rfl, ?_⟩
            wide_line with [j3, len_mapV]
            refine ⟨by omega, ?_⟩
            rw [hdd] at fin
            exact fin v rfl
        · rintro σ ⟨stk, rfl, k3, koff⟩
          have hm3 : stk (2, H.m) = some (.ns (metaNs H ρk.keys)) := by rw [koff _ (by simp)]; exact hm2
          have k6 := (koff (6, H.rg) (by simp)).trans j6
          have k9 := (koff (9, cnt + k) (by simp)).trans j9
          wide_line with [hm3, part_str (show nm.length ≤ 1000 by omega), part_int hjs]
          have e0 : (Str.empty ++ nm).length ≤ 4000 := by rw [Str.length_append]; show 0 + nm.length ≤ 4000; omega
          have e1 : (Str.empty ++ nm ++ Str.ofString "-").length ≤ 4000 := by rw [Str.length_append, Str.length_append]; show 0 + nm.length + 1 ≤ 4000; omega
          have e2 : (Str.empty ++ nm ++ Str.ofString "-" ++ Str.ofString (toString (j : Int))).length ≤ 4000 := by
            rw [Str.length_append, Str.length_append, Str.length_append]; show 0 + nm.length + 1 + _ ≤ 4000; omega
          simp only [e0, e1, e2, if_true]
          have hEk : E fs stk := P.keep hE fun n hn => by
            rw [koff _ (by omega), joff _ (by omega) (by omega) (by rintro rfl; simp at hn), hoff1 _ (by omega) (by omega) (by omega), hoff _ ⟨by omega, by omega, by omega, by omega, by omega⟩, hh _ (by omega)]
          have hs := fun {Q : AV → St → Prop} => hashi_str (fs := [some (.inst 387 (2, H.m)), some a, some (.str nm), some (.ref (7, c)), o4, o5, some (.ref (9, cnt + k)), some (.int (j : Int))] :: fs) (cnt := cnt + k + 1) (Q := Q) P hm3 (P.push hEk) (hT' j hj)
          unfold ptKey at hs
          have hlen2 : (addPts nm (newPts pt nm j) rg1).length ≤ 2 ^ 20 := by omega
          have hlen3 : (newPts pt nm j).length ≤ 2 ^ 20 := by rw [newPts_len]; omega
          have k9u : ∀ o, tyA ⟨[some (.inst 387 (2, H.m)), some a, some (.str nm), some (.ref (7, c)), o4, some (.int (pt nm j)), some (.ref (9, cnt + k)), some (.int (j : Int))] :: fs, upd stk (6, H.rg) o, cnt + k + 1⟩ (.ref (9, cnt + k)) = some "list" := fun o => tyA_list (l := intsL (newPts pt nm j)) (by walk_at "PW"; exact k9)
          wide_line with [hs, hm3, k6, k9, len_mapV, intsL_len, k9u]
          refine ⟨hlen2, hlen3, _, _, _, rfl, ?_, ?_, ?_, fun n n1 n2 n3 => ?_⟩
          · walk_at "PW"; exact k3
          · walk_at "PW"
            rw [newPts_succ, addPts_append, put_mapV]; rfl
          · walk_at "PW"
            rw [newPts_succ, intsL_append]; rfl
          · rw [upd_ne n3, upd_ne (by rintro rfl; exact n2 rfl), koff n n1, joff n n1 n2 n3]
      · rintro σ ⟨o5', o7', stj, rfl, j3, j6, j9, joff⟩
        have hm2 : stj (2, H.m) = some (.ns (metaNs H ρk.keys)) := by rw [joff _ (by simp) (by simp) (by simp)]; exact hm1
        have hn2 : stj (4, H.np) = some (.dictS (mapV (fun p => .ref (9, p.2)) (rem ρk.np nm))) := by rw [joff _ (by simp) (by simp) (by simp)]; exact h4
        rw [List.length_map, List.length_range] at j3 j6 j9
        wide_line with [hm2, hn2, len_mapV]
        refine ⟨by omega, _, _, _, _, _, _, _, rfl, ?_, fun n hn => ?_⟩
        · rw [tellAll_step hk, hL, ← hρ]
          dsimp only
          have hnew : look (rem ρk.np nm) nm = none := by rw [look_rem]; simp
          refine ⟨?_, ?_, ?_, ?_, ?_, ?_⟩
          · walk_at "PW"; exact hm2
          · walk_at "PW"
            rw [j3]
            show _ = some (AO.ctr 293 (mapV .int (addDist nm w (if ((look ρk.np nm).map (·.1)).getD [] = [] then ρk.dist else rem ρk.dist nm))))
            rw [← hold, ← hdist1]
          · walk_at "PW"
            show put (mapV (fun p => AV.ref (9, p.2)) (rem ρk.np nm)) nm (AV.ref (9, cnt + k)) = mapV (fun p => AV.ref (9, p.2)) (rem ρk.np nm ++ [(nm, (newPts pt nm w, cnt + k))])
            have hp := put_mapV (f := fun p : List Int × Nat => AV.ref (9, p.2)) (l := rem ρk.np nm) (k := nm) (v := (newPts pt nm w, cnt + k))
            rw [← put_new hnew, ← hp]
          · walk_at "PW"
            rw [j6]
            show _ = some (AO.dictI (mapV .str (addPts nm (newPts pt nm w) (delPts nm (((look ρk.np nm).map (·.1)).getD []) ρk.rg))))
            rw [← hold, ← hrg1]
          · intro e he
            rcases List.mem_append.mp he with he | he
            · obtain ⟨p1, p2, p3⟩ := hC'.pts e (mem_rem.mp he).1
              refine ⟨by omega, ?_, p3⟩
              walk_at "PW"
              rw [joff _ (by simp) (by simp) (by simp; omega), hoff1 _ (by simp) (by simp) (by simp)]
              exact p2
            · rw [List.mem_singleton] at he
              subst he
              refine ⟨by show cnt + k < cnt + (k + 1); omega, ?_, by show (newPts pt nm w).length ≤ 100; rw [newPts_len]; omega⟩
              walk_at "PW"
              exact j9
          · intro e he
            rcases addPts_sub _ _ _ _ he with he | he
            · exact hC'.ok e (delPts_sub _ _ _ _ he)
            · rw [he]; exact hok
        · rw [upd_ne (by rintro rfl; exact hn.2.2.1 rfl), joff n hn.2.1 hn.2.2.2.1 (by rintro rfl; exact hn.2.2.2.2 rfl), hoff1 n hn.2.2.1 hn.2.1 hn.2.2.2.1, hoff n hn]
  · rintro σ ⟨o2, o3, o4, o5, o6, o7, st', rfl, hC', hoff⟩
    rw [List.length_map, List.take_length] at hC'
    rw [List.length_map]
    obtain ⟨ρk, hρ⟩ : ∃ ρk, ρk = ρ.tellAll pt L cnt := ⟨_, rfl⟩
    have hb1 := tellAll_bounds pt L ρ cnt
    rw [← hρ] at hC' hb1 hQ
    have hun : ∀ n : Hd, n.1 ≠ 5 → unhid a st st' n = st' n := by
      intro n hn
      rcases ha with rfl | ⟨r, rfl, _, _⟩
      · rfl
      · show (if n = (5, H.nd) then _ else _) = _
        rw [if_neg]
        rintro rfl; exact hn rfl
    have hun5 : ∀ n : Hd, offR n → unhid a st st' n = st n := by
      intro n hn
      rcases ha with rfl | ⟨r, rfl, _, _⟩
      · exact hoff n hn
      · show (if n = (5, H.nd) then st (5, H.nd) else st' n) = st n
        split
        · rename_i h; rw [h]
        · rename_i h
          rw [hoff n hn]
          show (if n = (5, H.nd) then none else st n) = st n
          rw [if_neg h]
    have hm2 := (hun (2, H.m) (by simp)).trans hC'.m
    have hr2 := (hun (6, H.rg) (by simp)).trans hC'.rg
    wide_line with [hm2, hr2, tyA_dictI hr2]
    rw [wp_sortedI_view hr2 (by rw [len_mapV]; omega)]
    wide_line with [hm2, keys_mapV]
    refine ⟨by show 6 ≤ 100; decide, ?_⟩
    refine hQ _ ⟨?_, ?_, ?_, ?_, ?_, hC'.ok⟩ fun n hn => ?_
    · walk_at "PW"
    · walk_at "PW"; exact (hun _ (by simp)).trans hC'.di
    · walk_at "PW"; exact (hun _ (by simp)).trans hC'.np
    · walk_at "PW"; exact hr2
    · intro e he
      obtain ⟨p1, p2, p3⟩ := hC'.pts e he
      refine ⟨p1, ?_, p3⟩
      walk_at "PW"
      exact (hun _ (by simp)).trans p2
    · rw [upd_ne (by rintro rfl; exact hn.1 rfl)]
      exact hun5 n hn
theorem wp_counterV : Wp (counterV.1 [] []) Q ⟨fs, st, cnt⟩ = Q (.ref (3, cnt)) ⟨fs, upd st (3, cnt) (.ctr 293 []), cnt + 1⟩ := by
  unfold counterV ctrMakeF iniF updF
  simp only [wp_bind, wp_alloc, upd_same]
  simp only [Wp_eq]; unfold Wp0
  simp only [upd_same, if_true]
  rfl
def mN1 (H : RH) : List (Str × AV) := [("_distribution", .ref (3, H.di))]
def mN2 (H : RH) : List (Str × AV) := [("_distribution", .ref (3, H.di)), ("_keys", .lst [])]
def mN3 (H : RH) : List (Str × AV) := [("_distribution", .ref (3, H.di)), ("_keys", .lst []), ("_node_points", .ref (4, H.np))]
def mN4 (H : RH) : List (Str × AV) := [("_distribution", .ref (3, H.di)), ("_keys", .lst []), ("_node_points", .ref (4, H.np)), ("_nodes", .ref (5, H.nd))]
def mN5 (H : RH) : List (Str × AV) := [("_distribution", .ref (3, H.di)), ("_keys", .lst []), ("_node_points", .ref (4, H.np)), ("_nodes", .ref (5, H.nd)), ("_ring", .ref (6, H.rg))]
theorem metaInit_wp {mm : Nat} (hm : st (2, mm) = some (.ns []))
    (hQ : ∀ st' H, H = ⟨0, mm, cnt, cnt + 1, cnt + 2, cnt + 3⟩ → st' (2, mm) = some (.ns (metaNs H [])) → st' (3, cnt) = some (.ctr 293 []) → st' (4, cnt + 1) = some (.dictS []) → st' (5, cnt + 2) = some (.dictS []) → st' (6, cnt + 3) = some (.dictI []) →
      (∀ n : Hd, (n.1 = 1 ∨ 7 ≤ n.1) → st' n = st n) → Q .none ⟨fs, st', cnt + 4⟩) :
    Wp (metaInit.1 [.inst 387 (2, mm), .clo 0, .none] []) Q ⟨fs, st, cnt⟩ := by
  obtain ⟨H, hH⟩ : ∃ H : RH, H = ⟨0, mm, cnt, cnt + 1, cnt + 2, cnt + 3⟩ := ⟨_, rfl⟩
  have e1 : nsPut [] (Str.ofString "_distribution") (.ref (3, H.di)) = mN1 H := by kernel_rfl
  have e2 : nsPut (mN1 H) (Str.ofString "_keys") (.lst []) = mN2 H := by kernel_rfl
  have e3 : nsPut (mN2 H) (Str.ofString "_node_points") (.ref (4, H.np)) = mN3 H := by kernel_rfl
  have e4 : nsPut (mN3 H) (Str.ofString "_nodes") (.ref (5, H.nd)) = mN4 H := by kernel_rfl
  have e5 : nsPut (mN4 H) (Str.ofString "_ring") (.ref (6, H.rg)) = mN5 H := by kernel_rfl
  have e6 : nsPut (mN5 H) (Str.ofString "_hash_fn") (.clo 0) = metaNs H [] := by kernel_rfl
  have l1 : (mN1 H).length ≤ 100 := by show 1 ≤ 100; decide
  have l2 : (mN2 H).length ≤ 100 := by show 2 ≤ 100; decide
  have l3 : (mN3 H).length ≤ 100 := by show 3 ≤ 100; decide
  have l4 : (mN4 H).length ≤ 100 := by show 4 ≤ 100; decide
  have l5 : (mN5 H).length ≤ 100 := by show 5 ≤ 100; decide
  have d1 : H.di = cnt := by rw [hH]
  have d2 : H.np = cnt + 1 := by rw [hH]
  have d3 : H.nd = cnt + 2 := by rw [hH]
  have d4 : H.rg = cnt + 3 := by rw [hH]
  rw [d1] at e1; rw [d2] at e3; rw [d3] at e4; rw [d4] at e5
  unfold metaInit
  dsimp only [List.length_cons, List.length_nil]
  rw [if_pos rfl]
  dsimp only
  rw [wp_fnA (F := [some (.inst 387 (2, mm)), some (.clo 0), some .none]) (by kernel_rfl)]
  wide_line with [wp_counterV, hm, e1, e2, e3, e4, e5, e6, l1, l2, l3, l4, l5, Nat.add_assoc, and_self]
  refine hQ _ H hH ?_ ?_ ?_ ?_ ?_ fun n hn => ?_
  · walk_at "PW"
  · walk_at "PW"
  · walk_at "PW"
  · walk_at "PW"
  · walk_at "PW"
  · obtain ⟨s, c⟩ := n
    dsimp only at hn
    have h2 : s ≠ 2 := by omega
    have h3 : s ≠ 3 := by omega
    have h4 : s ≠ 4 := by omega
    have h5 : s ≠ 5 := by omega
    have h6 : s ≠ 6 := by omega
    simp only [upd_site, h2, h3, h4, h5, h6, false_and, if_false]
theorem confNodes_wp {a : AV} {items : List (Str × Nat)} {ks : List Int} {nodes : List (Str × (Nat × Nat))} (hr : st (1, H.r) = some (.ns (ringNs H.m))) (hm : st (2, H.m) = some (.ns (metaNs H ks)))
    (hn : st (5, H.nd) = some (.dictS (mapV (fun p => .ref (7, p.2)) nodes))) (hcf : ∀ e ∈ nodes, e.2.2 < cnt ∧ st (7, e.2.2) = some (.dictS (confL e.1 e.2.1)))
    (ha : NodesAV a items) (hnd : (items.map (·.1)).Nodup) (hlen : nodes.length + items.length ≤ 200) (hw : ∀ e ∈ items, e.2 < 1000)
    (hQ : ∀ st', st' (5, H.nd) = some (.dictS (mapV (fun p => .ref (7, p.2)) (confAll (false, nodes) items cnt).2)) → (∀ e ∈ (confAll (false, nodes) items cnt).2, e.2.2 < cnt + items.length ∧ st' (7, e.2.2) = some (.dictS (confL e.1 e.2.1))) →
      (∀ n : Hd, n.1 ≠ 5 → n.1 ≠ 7 → st' n = st n) → (∀ c, c < cnt → st' (7, c) = st (7, c)) → Q (.bool (confAll (false, nodes) items cnt).1) ⟨fs, st', cnt + items.length⟩) :
    Wp (confNodes.1 [.inst 615 (1, H.r), a] []) Q ⟨fs, st, cnt⟩ := by
  unfold confNodes
  dsimp only [List.length_cons, List.length_nil]
  rw [if_pos rfl]
  dsimp only
  rw [wp_fnA (F := [some (.inst 615 (1, H.r)), some a, none, none, none, none, none, none, none, none]) (by kernel_rfl)]
  refine Wp.cut (fun σ => σ = ⟨[some (.inst 615 (1, H.r)), some a, none, none, none, none, none, none, none, none] :: fs, st, cnt⟩) ?_ ?_
  · rcases ha with ⟨rfl, _⟩ | rfl | rfl
    · wide_line with [hr]
    · wide_line with [hr]
    · wide_line with [hr]
  rintro σ rfl
  have hit : itB a = M.pure (strsL (items.map (·.1)), fun _ => True) := by
    rcases ha with ⟨rfl, _⟩ | rfl | rfl
    · rfl
    · rw [itB_dct, List.map_map, strsL, List.map_map]; rfl
    · rw [itB_dct, List.map_map, strsL, List.map_map]; rfl
  wide_line with [hit]
  refine wp_forA (fun k σ => ∃ o3 o4 o5 o6 o7 o8 o9 st', σ = ⟨[some (.inst 615 (1, H.r)), some a, some (.bool (confAll (false, nodes) (items.take k) cnt).1), o3, o4, o5, o6, o7, o8, o9] :: fs, st', cnt + k⟩ ∧
    st' (5, H.nd) = some (.dictS (mapV (fun p => .ref (7, p.2)) (confAll (false, nodes) (items.take k) cnt).2)) ∧ (∀ e ∈ (confAll (false, nodes) (items.take k) cnt).2, e.2.2 < cnt + k ∧ st' (7, e.2.2) = some (.dictS (confL e.1 e.2.1))) ∧
    (∀ n : Hd, n.1 ≠ 5 → n.1 ≠ 7 → st' n = st n) ∧ ∀ c, c < cnt → st' (7, c) = st (7, c)) ?_ (fun _ _ _ _ => trivial) ?_ ?_
  · exact ⟨_, _, _, _, _, _, _, _, rfl, hn, hcf, fun n _ _ => rfl, fun c _ => rfl⟩
  · rintro k hk σ ⟨o3, o4, o5, o6, o7, o8, o9, st', rfl, h5, h7, hoff, hold⟩
    have hk' : k < items.length := by simpa [strsL_len] using hk
    have hmem : items[k] ∈ items := List.getElem_mem hk'
    have hg : (strsL (items.map (·.1)))[k] = .str items[k].1 := by rw [strsL_get, List.getElem_map]
    rw [hg, confAll_step hk']
    have hlk : look (confAll (false, nodes) (items.take k) cnt).2 items[k].1 = look (confAll (false, nodes) (items.take k) cnt).2 items[k].1 := rfl
    obtain ⟨s, hs⟩ : ∃ s, s = confAll (false, nodes) (items.take k) cnt := ⟨_, rfl⟩
    have hsl := confAll_len (items.take k) (false, nodes) cnt
    have hsl2 : (items.take k).length = k := by rw [List.length_take]; omega
    rw [← hs] at h5 h7 hsl ⊢
    have hw' := hw _ hmem
    generalize hE : items[k] = e at *
    obtain ⟨nm, w⟩ := e
    dsimp only at *
    have hr2 : st' (1, H.r) = some (.ns (ringNs H.m)) := by rw [hoff _ (by simp) (by simp)]; exact hr
    have hm2 : st' (2, H.m) = some (.ns (metaNs H ks)) := by rw [hoff _ (by simp) (by simp)]; exact hm
    have hconf : strKs [(AV.str (Str.ofString "hostname"), AV.str nm), (.str (Str.ofString "instance"), .none), (.str (Str.ofString "nodename"), .str nm), (.str (Str.ofString "port"), .none), (.str (Str.ofString "vnodes"), .int 1), (.str (Str.ofString "weight"), .int 1)] = some (confL nm 1) := rfl
    have hmerge : mergeK [] (confL nm 1) = confL nm 1 := by kernel_rfl
    simp only [wp_stv, List.set_cons_succ, List.set_cons_zero]
    rw [wp_seq_assoc, wp_seq_assoc, wp_seq_assoc, wp_seq_assoc]
    obtain ⟨cur, hcur⟩ : ∃ cur : AV, cur = ((look s.2 nm).map fun p => AV.ref (7, p.2)).getD (.dct []) := ⟨_, rfl⟩
    have ht : cur = .dct [] ∧ look s.2 nm = none ∨ ∃ p, cur = .ref (7, p.2) ∧ look s.2 nm = some p ∧ (p.2 = cnt + k) = False ∧ st' (7, p.2) = some (.dictS (confL nm p.1)) := by
      cases hl : look s.2 nm with
      | none => exact .inl ⟨by rw [hcur, hl]; rfl, rfl⟩
      | some p =>
        obtain ⟨q1, q2⟩ := h7 _ (look_some hl)
        refine .inr ⟨p, by rw [hcur, hl]; rfl, rfl, ?_, q2⟩
        dsimp only at q1
        exact eq_false (by omega)
    have hwN : ∀ p0 : Nat, (¬ (p0 : Int) = (w : Int)) = ¬ p0 = w := fun p0 => by rw [Int.ofNat_inj]
    refine Wp.cut (fun σ => ∃ (c2 : Bool) (o7 o8 o9 : Option AV) (st2 : Hd → Option AO), σ = ⟨[some (.inst 615 (1, H.r)), some a, some (.bool c2), some (.str nm), some (.ref (7, cnt + k)), some cur, some (.str nm), o7, o8, o9] :: fs, st2, cnt + k + 1⟩ ∧
      st2 (7, cnt + k) = some (.dictS (confL nm w)) ∧ (∀ n : Hd, n ≠ (7, cnt + k) → st2 n = st' n) ∧ (c2 || (match look s.2 nm with | none => true | some p => decide (p.1 ≠ w))) = (confOne s nm w (cnt + k)).1) ?_ ?_
    · wide_line with [hr2, hm2, h5, wp_dictN hconf, hmerge, look_mapV, hcur.symm]
      rcases ha with ⟨rfl, h1⟩ | rfl | rfl
      · have hw1 : w = 1 := h1 _ hmem
        subst hw1
        rcases ht with ⟨rfl, hl⟩ | ⟨p, rfl, hl, hne, hp⟩
        · wide_line with []
          refine ⟨_, _, _, _, _, rfl, ?_, fun n hn => upd_ne hn, ?_⟩
          · walk_at "PW"; rfl
          · rw [hl]; simp [confOne, hl]
        · wide_line with [hp, hne]
          refine ⟨by show 6 ≤ 2 ^ 40; decide, ?_⟩
          rw [show ((confL nm p.1).length != 0) = true from rfl]
          wide_line with []
          refine ⟨_, _, _, _, _, rfl, ?_, fun n hn => upd_ne hn, ?_⟩
          · walk_at "PW"; rfl
          · rw [hl]; simp [confOne, hl]
      · have hv := look_items (fun _ w => AV.int ((w : Nat) : Int)) hnd hmem
        have hpc : put (confL nm 1) (Str.ofString "weight") (.int (w : Int)) = confL nm w := by kernel_rfl
        have hc6 : (confL nm 1).length ≤ 2 ^ 20 := by show 6 ≤ 2 ^ 20; decide
        rcases ht with ⟨rfl, hl⟩ | ⟨p, rfl, hl, hne, hp⟩
        · wide_line with [hv, hpc, hc6]
          refine ⟨_, _, _, _, _, rfl, ?_, fun n hn => ?_, ?_⟩
          · walk_at "PW"
          · rw [upd_ne hn, upd_ne hn]
          · rw [hl]; simp [confOne, hl]
        · wide_line with [hp, hne]
          refine ⟨by show 6 ≤ 2 ^ 40; decide, ?_⟩
          rw [show ((confL nm p.1).length != 0) = true from rfl]
          wide_line with [hv, hpc, hc6]
          refine ⟨_, _, _, _, _, rfl, ?_, fun n hn => ?_, ?_⟩
          · walk_at "PW"
          · rw [upd_ne hn, upd_ne hn]
          · rw [hl]; simp [confOne, hl]
      · have hv := look_items (fun _ w => AV.dct [(Str.ofString "weight", AV.int ((w : Nat) : Int))]) hnd hmem
        have hpc : put (confL nm 1) (Str.ofString "weight") (.int (w : Int)) = confL nm w := by kernel_rfl
        have hc6 : (confL nm 1).length ≤ 2 ^ 20 := by show 6 ≤ 2 ^ 20; decide
        rcases ht with ⟨rfl, hl⟩ | ⟨p, rfl, hl, hne, hp⟩
        · wide_line with [hv]
          rw [wp_frzA (by rfl)]
          rw [wp_forItemsZ (l := [(Str.ofString "weight", .int (w : Int))]) (by wide_line with []; exact rfl), itemsL_1, wp_forA_cons]
          wide_line with [wp_in_dictS (st := upd st' (7, cnt + k) (.dictS (confL nm 1))) upd_same, Option.isSome_some, hpc, hc6, wp_forA_nil]
          rw [look_nil]
          wide_line with [wp_forA_nil]
          refine ⟨_, _, _, _, _, rfl, ?_, fun n hn => ?_, ?_⟩
          · walk_at "PW"
          · rw [upd_ne hn, upd_ne hn]
          · rw [hl]; simp [confOne, hl]
        · wide_line with [hp, hne]
          refine ⟨by show 6 ≤ 2 ^ 40; decide, ?_⟩
          rw [show ((confL nm p.1).length != 0) = true from rfl]
          wide_line with [hv]
          rw [wp_frzA (by rfl)]
          rw [wp_forItemsZ (l := [(Str.ofString "weight", .int (w : Int))]) (by wide_line with []; exact rfl), itemsL_1, wp_forA_cons]
          wide_line with [wp_in_dictS (st := upd st' (7, cnt + k) (.dictS (confL nm 1))) upd_same, Option.isSome_some, hpc, hc6, wp_forA_nil, hp, hne]
          by_cases hd : p.1 = w
          · wide_line with [hd]
            refine ⟨_, _, _, _, _, rfl, ?_, fun n hn => ?_, ?_⟩
            · walk_at "PW"
            · rw [upd_ne hn, upd_ne hn]
            · rw [hl]; simp [confOne, hl, hd]
          · have hd' : ¬ (p.1 : Int) = (w : Int) := by rw [Int.ofNat_inj]; exact hd
            wide_line with [hd']
            refine ⟨_, _, _, _, _, rfl, ?_, fun n hn => ?_, ?_⟩
            · walk_at "PW"
            · rw [upd_ne hn, upd_ne hn]
            · rw [hl]; simp [confOne, hl, hd]
    · rintro σ ⟨c2, o7, o8, o9, st2, rfl, g1, g2, g3⟩
      have hr3 : st2 (1, H.r) = some (.ns (ringNs H.m)) := by rw [g2 _ (by simp)]; exact hr2
      have hm3 : st2 (2, H.m) = some (.ns (metaNs H ks)) := by rw [g2 _ (by simp)]; exact hm2
      have h53 : st2 (5, H.nd) = some (.dictS (mapV (fun p => .ref (7, p.2)) s.2)) := by rw [g2 _ (by simp)]; exact h5
      have fin : ∀ c3 : Bool, c3 = (confOne s nm w (cnt + k)).1 → (mapV (fun p => AV.ref (7, p.2)) s.2).length ≤ 2 ^ 20 ∧ ∃ o3 o4 o5 o6 o7' o8' o9' st', (⟨[some (.inst 615 (1, H.r)), some a, some (.bool c3), some (.str nm), some (.ref (7, cnt + k)), some cur, some (.str nm), o7, o8, o9] :: fs, upd st2 (5, H.nd) (.dictS (put (mapV (fun p => .ref (7, p.2)) s.2) nm (.ref (7, cnt + k)))), cnt + k + 1⟩ : St) =
        ⟨[some (.inst 615 (1, H.r)), some a, some (.bool (confOne s nm w (cnt + k)).1), o3, o4, o5, o6, o7', o8', o9'] :: fs, st', cnt + (k + 1)⟩ ∧ st' (5, H.nd) = some (.dictS (mapV (fun p => .ref (7, p.2)) (confOne s nm w (cnt + k)).2)) ∧
        (∀ e ∈ (confOne s nm w (cnt + k)).2, e.2.2 < cnt + (k + 1) ∧ st' (7, e.2.2) = some (.dictS (confL e.1 e.2.1))) ∧ (∀ n : Hd, n.1 ≠ 5 → n.1 ≠ 7 → st' n = st n) ∧ ∀ c, c < cnt → st' (7, c) = st (7, c) := by
        intro c3 hc3
        subst hc3
        refine ⟨by rw [len_mapV]; omega, _, _, _, _, _, _, _, _, rfl, ?_, fun e he => ?_, fun n n1 n2 => ?_, fun c hc => ?_⟩
        · rw [upd_same]
          have := put_mapV (f := fun p : Nat × Nat => AV.ref (7, p.2)) (l := s.2) (k := nm) (v := (w, cnt + k))
          dsimp only at this
          rw [this]; rfl
        · rcases mem_put he with he | he
          · obtain ⟨q1, q2⟩ := h7 e he
            refine ⟨by omega, ?_⟩
            walk_at "PW"
            rw [g2 _ (by simp; omega)]; exact q2
          · subst he
            refine ⟨by show cnt + k < cnt + (k + 1); omega, ?_⟩
            walk_at "PW"; exact g1
        · rw [upd_ne (by rintro rfl; exact n1 rfl), g2 _ (by rintro rfl; exact n2 rfl)]; exact hoff n n1 n2
        · walk_at "PW"
          rw [g2 _ (by simp; omega)]; exact hold c hc
      rcases ht with ⟨rfl, hl⟩ | ⟨p, rfl, hl, hne, hp⟩
      · rw [hl] at g3
        wide_line with [hr3, hm3, h53, look_nil, g1]
        exact fin true (by rw [← g3]; simp)
      · rw [hl] at g3
        have hp2 : st2 (7, p.2) = some (.dictS (confL nm p.1)) := by rw [g2 _ (by simp; exact of_eq_false hne)]; exact hp
        wide_line with [hr3, hm3, h53, hp2, g1]
        by_cases hd : p.1 = w
        · wide_line with [hd, hr3, hm3, h53]
          exact fin c2 (by rw [← g3]; simp [hd])
        · have hd' : ¬ (p.1 : Int) = (w : Int) := by rw [Int.ofNat_inj]; exact hd
          wide_line with [hd', hr3, hm3, h53]
          exact fin true (by rw [← g3]; simp [hd])
  · rintro σ ⟨o3, o4, o5, o6, o7, o8, o9, st', rfl, h5, h7, hoff, hold⟩
    rw [strsL_len, List.length_map, List.take_length] at *
    wide_line with []
    exact hQ _ h5 h7 hoff hold
def RH.below (H : RH) (cnt : Nat) : Prop := H.r < cnt ∧ H.m < cnt ∧ H.di < cnt ∧ H.np < cnt ∧ H.nd < cnt ∧ H.rg < cnt
/-- a ring that stands -/
structure RingAt (st : Hd → Option AO) (cnt : Nat) (H : RH) (ρ : RS) : Prop where
  core : Core st cnt H ρ
  r : st (1, H.r) = some (.ns (ringNs H.m))
  nd : st (5, H.nd) = some (.dictS (mapV (fun p => .ref (7, p.2)) ρ.nodes))
  cf : ∀ e ∈ ρ.nodes, e.2.2 < cnt ∧ st (7, e.2.2) = some (.dictS (confL e.1 e.2.1))
  lt : H.below cnt
def rN1 (m : Nat) : List (Str × AV) := [("runtime", .inst 387 (2, m))]
def rN2 (m : Nat) : List (Str × AV) := [("runtime", .inst 387 (2, m)), ("_default_vnodes", .int 1)]
def rN3 (m : Nat) : List (Str × AV) := [("runtime", .inst 387 (2, m)), ("_default_vnodes", .int 1), ("hashi", .bm 370 (.inst 387 (2, m)))]
theorem ringInit_wp (P : PlOK E T K pt kp) {a : AV} {items : List (Str × Nat)} {rr : Nat} (hr : st (1, rr) = some (.ns [])) (hrr : rr < cnt) (hE : E fs st) (ha : NodesAV a items) (hnd : (items.map (·.1)).Nodup)
    (hT : ∀ e ∈ items, ∀ k, k < e.2 → T e.1 k) (hw : ∀ e ∈ items, 1 ≤ e.2 ∧ e.2 < 60) (hb : (items.map (·.2)).sum < 64)
    (hnds : (confAll (false, []) items (cnt + 5)).1 = decide (items ≠ []) ∧ (confAll (false, []) items (cnt + 5)).2.map (fun e => (e.1, e.2.1)) = items)
    (hQ : ∀ st' H, H = ⟨rr, cnt, cnt + 1, cnt + 2, cnt + 3, cnt + 4⟩ → RingAt st' (cnt + 5 + 2 * items.length) H (newRS pt items (cnt + 5)) → (∀ n : Hd, 10 ≤ n.1 → st' n = st n) → Q .none ⟨fs, st', cnt + 5 + 2 * items.length⟩) :
    Wp (ringInit.1 [.inst 615 (1, rr), a] [.clo 0, .int 1]) Q ⟨fs, st, cnt⟩ := by
  have k1 : look [(Str.ofString "hash_fn", AV.clo 0), (Str.ofString "vnodes", .int 1)] (Str.ofString "hash_fn") = some (.clo 0) := by kernel_rfl
  have k2 : look [(Str.ofString "hash_fn", AV.clo 0), (Str.ofString "vnodes", .int 1)] (Str.ofString "vnodes") = some (.int 1) := by kernel_rfl
  have k3 : look [(Str.ofString "hash_fn", AV.clo 0), (Str.ofString "vnodes", .int 1)] (Str.ofString "weight_fn") = none := by kernel_rfl
  have k4 : look [(Str.ofString "hash_fn", AV.clo 0), (Str.ofString "vnodes", .int 1)] (Str.ofString "md5") = none := by kernel_rfl
  unfold ringInit
  dsimp only [List.length_cons, List.length_nil]
  rw [wp_fnA (F := [some (.inst 615 (1, rr)), some a, some (.dct [(Str.ofString "hash_fn", .clo 0), (Str.ofString "vnodes", .int 1)]), none, none, none, none]) (by kernel_rfl)]
  wide_line with [k1, k2, k3, k4]
  refine wp_makeF ?_
  refine metaInit_wp upd_same fun st1 H0 hH m1 m2 m3 m4 m5 moff => ?_
  obtain ⟨H, hH2⟩ : ∃ H : RH, H = ⟨rr, cnt, cnt + 1, cnt + 2, cnt + 3, cnt + 4⟩ := ⟨_, rfl⟩
  have dm : H.m = cnt := by rw [hH2]
  have dr : H.r = rr := by rw [hH2]
  have d1 : H.di = cnt + 1 := by rw [hH2]
  have d2 : H.np = cnt + 2 := by rw [hH2]
  have d3 : H.nd = cnt + 3 := by rw [hH2]
  have d4 : H.rg = cnt + 4 := by rw [hH2]
  have e1 : nsPut [] (Str.ofString "runtime") (.inst 387 (2, cnt)) = rN1 cnt := by kernel_rfl
  have e2 : nsPut (rN1 cnt) (Str.ofString "_default_vnodes") (.int 1) = rN2 cnt := by kernel_rfl
  have e3 : nsPut (rN2 cnt) (Str.ofString "hashi") (.bm 370 (.inst 387 (2, cnt))) = rN3 cnt := by kernel_rfl
  have e4 : nsPut (rN3 cnt) (Str.ofString "_weight_fn") .none = ringNs cnt := by kernel_rfl
  have f1 : List.lookup (Str.ofString "runtime") (rN2 cnt) = some (.inst 387 (2, cnt)) := by kernel_rfl
  have l1 : (rN1 cnt).length ≤ 100 := by show 1 ≤ 100; decide
  have l2 : (rN2 cnt).length ≤ 100 := by show 2 ≤ 100; decide
  have l3 : (rN3 cnt).length ≤ 100 := by show 3 ≤ 100; decide
  have hr1 : st1 (1, rr) = some (.ns []) := by rw [moff _ (.inl rfl)]; walk_at "PW"; exact hr
  have mm : metaNs H0 [] = metaNs H [] := by rw [hH, hH2]; rfl
  rw [mm] at m1
  wide_line with [hr1, e1, e2, e3, e4, f1, l1, l2, l3, m1, isi_clo_7]
  obtain ⟨st2, hst2⟩ : ∃ st2, st2 = upd (upd (upd (upd st1 (1, rr) (AO.ns (rN1 cnt))) (1, rr) (AO.ns (rN2 cnt))) (1, rr) (AO.ns (rN3 cnt))) (1, rr) (AO.ns (ringNs cnt)) := ⟨_, rfl⟩
  rw [← hst2]
  have g2 : ∀ n : Hd, n.1 ≠ 1 → st2 n = st1 n := by
    intro n hn
    have : n ≠ (1, rr) := by rintro rfl; exact hn rfl
    rw [hst2, upd_ne this, upd_ne this, upd_ne this, upd_ne this]
  have r2 : st2 (1, H.r) = some (.ns (ringNs H.m)) := by rw [hst2, dr, dm]; exact upd_same
  rw [← dr, show cnt + 1 + 4 = cnt + 5 by omega]
  have s2 : st2 (2, H.m) = some (.ns (metaNs H [])) := by rw [g2 _ (by simp), dm]; exact m1
  have s3 : st2 (3, H.di) = some (.ctr 293 []) := by rw [g2 _ (by simp), d1]; exact m2
  have s4 : st2 (4, H.np) = some (.dictS []) := by rw [g2 _ (by simp), d2]; exact m3
  have s5 : st2 (5, H.nd) = some (.dictS []) := by rw [g2 _ (by simp), d3]; exact m4
  have s6 : st2 (6, H.rg) = some (.dictI []) := by rw [g2 _ (by simp), d4]; exact m5
  have hlen0 : items.length ≤ (items.map (·.2)).sum := len_le_sum _ _ fun e he => (hw e he).1
  obtain ⟨nodes, hnodes⟩ : ∃ nodes, nodes = (confAll (false, []) items (cnt + 5)).2 := ⟨_, rfl⟩
  refine confNodes_wp (nodes := []) r2 s2 s5 (fun e he => by cases he) ha hnd (by show 0 + items.length ≤ 200; omega) (fun e he => by have := hw e he; omega) fun st3 c5 c7 coff cold => ?_
  rw [hnds.1]
  rw [← hnodes] at c5 c7 hnds
  have hbelow : ∀ k, H.below (cnt + 5 + k) := fun k => by unfold RH.below; rw [dr, dm, d1, d2, d3, d4]; refine ⟨?_, ?_, ?_, ?_, ?_, ?_⟩ <;> omega
  have hoff10 : ∀ n : Hd, 10 ≤ n.1 → st3 n = st n := by
    rintro ⟨s, c⟩ hn
    dsimp only at hn
    have n2 : s ≠ 2 := by omega
    rw [coff _ (by show s ≠ 5; omega) (by show s ≠ 7; omega), g2 _ (by show s ≠ 1; omega), moff _ (.inr (by show 7 ≤ s; omega))]
    simp only [upd_site, n2, false_and, if_false]
  have hC0 : Core st3 (cnt + 5 + items.length) H ⟨nodes, [], [], [], []⟩ := by
    refine ⟨?_, ?_, ?_, ?_, fun e he => by (cases he), fun e he => by (cases he)⟩
    · rw [coff _ (by simp) (by simp)]; exact s2
    · rw [coff _ (by simp) (by simp)]; exact s3
    · rw [coff _ (by simp) (by simp)]; exact s4
    · rw [coff _ (by simp) (by simp)]; exact s6
  have r3 : st3 (1, H.r) = some (.ns (ringNs H.m)) := by rw [coff _ (by simp) (by simp)]; exact r2
  have hnl : nodes.length = items.length := by
    have := congrArg List.length hnds.2
    rwa [List.length_map] at this
  have hin : ∀ e ∈ nodes, (e.1, e.2.1) ∈ items := fun e he => by
    rw [← hnds.2]; exact List.mem_map.mpr ⟨e, he, rfl⟩
  have hsum : (nodes.map (·.2.1)).sum = (items.map (·.2)).sum := by
    rw [← hnds.2, List.map_map]; rfl
  by_cases hi : items = []
  · subst hi
    wide_line with [ne_eq, not_true_eq_false]
    refine hQ st3 H hH2 ⟨?_, r3, ?_, ?_, hbelow _⟩ hoff10
    · have : newRS pt [] (cnt + 5) = ⟨nodes, [], [], [], []⟩ := by rw [hnodes]; rfl
      rw [this]; exact hC0
    · have : (newRS pt [] (cnt + 5)).nodes = nodes := by rw [hnodes]; rfl
      rw [this]; exact c5
    · have : (newRS pt [] (cnt + 5)).nodes = nodes := by rw [hnodes]; rfl
      rw [this]; exact c7
  · have hm3 : st3 (2, H.m) = some (.ns (metaNs H [])) := hC0.m
    wide_line with [hi, ne_eq, not_false_eq_true, r3, hm3, c5]
    refine createRing_wp P (L := nodes) hC0 (P.push (P.keep hE hoff10)) (.inr ⟨_, rfl, c5, ?_⟩) (fun e he => (c7 e he).2) (fun e he k hk => hT _ (hin e he) k hk) (fun e he => hw _ (hin e he)) ?_ fun st4 hC4 hoff4 => ?_
    · unfold itemsL mapV row
      rw [List.map_map]; rfl
    · show 0 + nodes.length ≤ 200 ∧ 0 + nodes.length ≤ 200 ∧ 0 + (nodes.map (·.2.1)).sum < 64
      rw [hsum]; omega
    · have hN : newRS pt items (cnt + 5) = { RS.tellAll pt ⟨nodes, [], [], [], []⟩ nodes (cnt + 5 + items.length) with keys := isortI ((RS.tellAll pt ⟨nodes, [], [], [], []⟩ nodes (cnt + 5 + items.length)).rg.map (·.1)) } := by
        unfold newRS; rw [← hnodes]
      have hNn : (newRS pt items (cnt + 5)).nodes = nodes := by rw [hN]; exact tellAll_nodes ..
      have hcc : cnt + 5 + items.length + nodes.length = cnt + 5 + 2 * items.length := by omega
      rw [hcc] at hC4
      show Q .none ⟨fs, st4, cnt + 5 + items.length + nodes.length⟩
      rw [hcc]
      refine hQ st4 H hH2 ⟨by rw [hN]; exact hC4, ?_, ?_, ?_, hbelow _⟩ fun n hn => ?_
      · rw [hoff4 _ (by unfold offR; simp)]; exact r3
      · rw [hoff4 _ (by unfold offR; simp), hNn]; exact c5
      · rw [hNn]
        intro e he
        obtain ⟨q1, q2⟩ := c7 e he
        refine ⟨by omega, ?_⟩
        rw [hoff4 _ (by unfold offR; simp)]; exact q2
      · rw [hoff4 n (by unfold offR; omega)]; exact hoff10 n hn
end
end Mine
end

section
open PySem PySem.W PySem.Calls PyProof.Rows
set_option Elab.async false
set_option maxRecDepth 100000
set_option maxHeartbeats 1000000
set_option linter.unusedVariables false
set_option linter.unusedSectionVars false
set_option linter.unusedSimpArgs false
namespace Mine
local macro_rules | `(tactic| walk_at "PW") => `(tactic| simp only [wp_pure, wp_fail, wp_bind, wp_seqA, wp_cond, wp_ite, wp_ldv0, wp_ldv1, wp_stv, wp_alloc, wp_getNs, wp_getBm, wp_selfIn, wp_setNs, wp_getPr, wp_bmF, noKw_nil, wp_preT, tyA_int, tyA_str, tyA_lst, tyA_dct,
  ar_add, ar_sub, iar_add, iar_sub, ord_lt, ord_le, ord_gt, ord_ge, is_none, is_int, is_str, isN_none, eqFS_clo, un_neg, tr_bool, tr_none, tr_int, tr_clo, wp_tr_ref, wp_eq_int, wp_ne_int, wp_eq_ni, wp_ne_ni, wp_getA_tup, wp_getA_lst, wp_getA_dct, wp_getA_dictS, wp_getA_int, wp_setS, wp_setI, wp_delI, wp_append,
  wp_dgetI, wp_dgetS, wp_dgetSd, wp_dgetD, wp_dgetDd, wp_pop1, wp_pop2, wp_view, wp_viewD, wp_preCtr, wp_ctrPop1, wp_ctrPop2, wp_ctrGet, wp_ctrSet, wp_len, wp_lenR, range1, range2, abs_int, itB_lst, itB_tup, itB_dct, wp_itB_ref, wp_itEn_lst, wp_itEn_ref, tgtTup_eq, tgtCons_eq, tgtNil_eq, wp_forS,
  List.getElem?_cons_zero, List.getElem?_cons_succ, List.set_cons_zero, List.set_cons_succ, Option.some.injEq, exists_eq_left', List.length_cons, List.length_nil, Nat.zero_add, Nat.reduceAdd, Nat.sub_zero, Nat.reduceSub, Bool.cond_true, Bool.cond_false, cond_true, cond_false, Bool.cond_decide, true_and, and_true, if_true, if_false, List.tail_cons, reduceCtorEq, false_and, exists_false, false_or, or_false, decide_true, decide_false, Bool.not_true, Bool.not_false,
  AO.ns.injEq, AO.list.injEq, AO.dictI.injEq, AO.dictS.injEq, AO.ctr.injEq, upd_site, and_false, Nat.reduceEqDiff, getK_eq, setK_eq, delK_eq, Option.map_some, Option.map_none, Option.getD_some, Option.getD_none, Nat.zero_le, Nat.le_refl, Nat.reduceLeDiff, ar_mul1, Int.one_mul, isi_lst_str, isi_dct_str, isi_lst_dict, isi_dct_dict, isi_int_int, isi_dct_int, isi_str_int, isi_lst_dl, isi_dct_dl, isi_clo_7, tyA_ref, tyO_list, tyO_dictI, tyO_dictS, in_w3, in_n4, eq_n1, eq_n2, eq_n3, eq_p1, tr_dct0, mkT_eq, mkL_eq])
local macro_rules | `(tactic| walk_at "PN") => `(tactic| simp only [l_r1, l_r2, l_r3, l_r4, l_m1, l_m2, l_m3, l_m4, l_m5, l_m6, l_m7, l_m8, l_m9, l_r5, l_r6, l_r7, l_r8, l_r9, l_r10, l_r11, l_r12, l_r13, l_r14, l_r15, l_c1, l_c2, l_c3, p_m2, p_c2, noMc])
local macro_rules | `(tactic| wide_line with [$ts,*]) => `(tactic| simp only [wp_pure, wp_fail, wp_bind, wp_seqA, wp_cond, wp_ite, wp_ldv0, wp_ldv1, wp_stv, wp_alloc, wp_getNs, wp_getBm, wp_selfIn, wp_setNs, wp_getPr, wp_bmF, noKw_nil, wp_preT, tyA_int, tyA_str, tyA_lst, tyA_dct,
  ar_add, ar_sub, iar_add, iar_sub, ord_lt, ord_le, ord_gt, ord_ge, is_none, is_int, is_str, isN_none, eqFS_clo, un_neg, tr_bool, tr_none, tr_int, tr_clo, wp_tr_ref, wp_eq_int, wp_ne_int, wp_eq_ni, wp_ne_ni, wp_getA_tup, wp_getA_lst, wp_getA_dct, wp_getA_dictS, wp_getA_int, wp_setS, wp_setI, wp_delI, wp_append,
  wp_dgetI, wp_dgetS, wp_dgetSd, wp_dgetD, wp_dgetDd, wp_pop1, wp_pop2, wp_view, wp_viewD, wp_preCtr, wp_ctrPop1, wp_ctrPop2, wp_ctrGet, wp_ctrSet, wp_len, wp_lenR, range1, range2, abs_int, itB_lst, itB_tup, itB_dct, wp_itB_ref, wp_itEn_lst, wp_itEn_ref, tgtTup_eq, tgtCons_eq, tgtNil_eq, wp_forS,
  List.getElem?_cons_zero, List.getElem?_cons_succ, List.set_cons_zero, List.set_cons_succ, Option.some.injEq, exists_eq_left', List.length_cons, List.length_nil, Nat.zero_add, Nat.reduceAdd, Nat.sub_zero, Nat.reduceSub, Bool.cond_true, Bool.cond_false, cond_true, cond_false, Bool.cond_decide, true_and, and_true, if_true, if_false, List.tail_cons, reduceCtorEq, false_and, exists_false, false_or, or_false, decide_true, decide_false, Bool.not_true, Bool.not_false,
  AO.ns.injEq, AO.list.injEq, AO.dictI.injEq, AO.dictS.injEq, AO.ctr.injEq, upd_site, and_false, Nat.reduceEqDiff, getK_eq, setK_eq, delK_eq, Option.map_some, Option.map_none, Option.getD_some, Option.getD_none, Nat.zero_le, Nat.le_refl, Nat.reduceLeDiff, ar_mul1, Int.one_mul, isi_lst_str, isi_dct_str, isi_lst_dict, isi_dct_dict, isi_int_int, isi_dct_int, isi_str_int, isi_lst_dl, isi_dct_dl, isi_clo_7, tyA_ref, tyO_list, tyO_dictI, tyO_dictS, in_w3, in_n4, eq_n1, eq_n2, eq_n3, eq_p1, tr_dct0, mkT_eq, mkL_eq, l_r1, l_r2, l_r3, l_r4, l_m1, l_m2, l_m3, l_m4, l_m5, l_m6, l_m7, l_m8, l_m9, l_r5, l_r6, l_r7, l_r8, l_r9, l_r10, l_r11, l_r12, l_r13, l_r14, l_r15, l_c1, l_c2, l_c3, p_m2, p_c2, noMc, $[$ts:term],*])
section
variable {E : List Frm → (Hd → Option AO) → Prop} {T : Str → Nat → Prop} {K : Int → Prop} {pt : Str → Nat → Int} {kp : Int → Int}
variable {fs : List Frm} {st : Hd → Option AO} {cnt : Nat} {H : RH} {ρ : RS} {nm : Str} {w : Nat} {Q : AV → St → Prop}
theorem getPos_wp (P : PlOK E T K pt kp) (R : RingAt st cnt H ρ) (hE : E fs st) {k : Int} (hK : K k) (hs : ρ.keys.Pairwise (· ≤ ·)) (hl : ρ.keys.length < 64) :
    Wp (getPos.1 [.inst 615 (1, H.r), .int k] []) Q ⟨fs, st, cnt⟩ = Q (.int (posOf ρ.keys (kp k) : Int)) ⟨fs, st, cnt⟩ := by
  unfold getPos
  dsimp only [List.length_cons, List.length_nil]
  rw [if_pos rfl]
  dsimp only
  rw [wp_fnA (F := [some (.inst 615 (1, H.r)), some (.int k), none]) (by kernel_rfl)]
  wide_line with [R.r, R.core.m, hashi_int P R.core.m (P.push hE) hK, wp_bis hs (show ρ.keys.length < 2 ^ 40 by omega), intsL_len, show ρ.keys.length < 2 ^ 40 by omega]
  unfold posOf
  by_cases h : below ρ.keys (kp k) = ρ.keys.length
  · simp [h]
  · have h' : ¬ (below ρ.keys (kp k) : Int) = (ρ.keys.length : Int) := by rw [Int.ofNat_inj]; exact h
    simp [h, h']
theorem get_node_wp (P : PlOK E T K pt kp) (R : RingAt st cnt H ρ) (hE : E fs st) {k : Int} (hK : K k) (hs : ρ.keys.Pairwise (· ≤ ·)) (hl : ρ.keys.length < 64) (hrg : ρ.rg ≠ []) (hrl : ρ.rg.length < 64)
    {p : Int} (hp : ρ.keys[posOf ρ.keys (kp k)]? = some p) {x : Str} (hx : look ρ.rg p = some x) :
    Wp (get_.1 [.inst 615 (1, H.r), .int k, .str (Str.ofString "nodename")] []) Q ⟨fs, st, cnt⟩ = Q (.str x) ⟨fs, st, cnt⟩ := by
  unfold get_
  dsimp only [List.length_cons, List.length_nil]
  rw [if_pos rfl]
  dsimp only
  rw [wp_fnA (F := [some (.inst 615 (1, H.r)), some (.int k), some (.str (Str.ofString "nodename")), none, none]) (by kernel_rfl)]
  have hrt : (ρ.rg.length != 0) = true := by
    simp only [bne_iff_ne, ne_eq, List.length_eq_zero_iff]; exact hrg
  have hrl2 : ρ.rg.length ≤ 2 ^ 40 := by omega
  have hpl : posOf ρ.keys (kp k) < ρ.keys.length := (List.getElem?_eq_some_iff.mp hp).1
  have hpe : ρ.keys[posOf ρ.keys (kp k)] = p := (List.getElem?_eq_some_iff.mp hp).2
  wide_line with [R.r, R.core.m, R.core.rg, len_mapV, hrt, hrl2, getPos_wp P R (P.push hE) hK hs hl, atL_intsL hpl (show ρ.keys.length ≤ 2 ^ 40 by omega), hpe, look_mapV, hx]
theorem get_pos_wp (P : PlOK E T K pt kp) (R : RingAt st cnt H ρ) (hE : E fs st) {k : Int} (hK : K k) (hs : ρ.keys.Pairwise (· ≤ ·)) (hl : ρ.keys.length < 64) (hrg : ρ.rg ≠ []) (hrl : ρ.rg.length < 64) :
    Wp (get_.1 [.inst 615 (1, H.r), .int k, .str (Str.ofString "pos")] []) Q ⟨fs, st, cnt⟩ = Q (.int (posOf ρ.keys (kp k) : Int)) ⟨fs, st, cnt⟩ := by
  unfold get_
  dsimp only [List.length_cons, List.length_nil]
  rw [if_pos rfl]
  dsimp only
  rw [wp_fnA (F := [some (.inst 615 (1, H.r)), some (.int k), some (.str (Str.ofString "pos")), none, none]) (by kernel_rfl)]
  have hrt : (ρ.rg.length != 0) = true := by
    simp only [bne_iff_ne, ne_eq, List.length_eq_zero_iff]; exact hrg
  have hrl2 : ρ.rg.length ≤ 2 ^ 40 := by omega
  wide_line with [R.r, R.core.m, R.core.rg, len_mapV, hrt, hrl2, getPos_wp P R (P.push hE) hK hs hl]
theorem get_empty_wp (R : RingAt st cnt H ρ) {k x : AV} (hrg : ρ.rg = []) : Wp (get_.1 [.inst 615 (1, H.r), k, x] []) Q ⟨fs, st, cnt⟩ = Q .none ⟨fs, st, cnt⟩ := by
  unfold get_
  dsimp only [List.length_cons, List.length_nil]
  rw [if_pos rfl]
  dsimp only
  rw [wp_fnA (F := [some (.inst 615 (1, H.r)), some k, some x, none, none]) (by kernel_rfl)]
  wide_line with [R.r, R.core.m, R.core.rg, hrg, mapV_nil, List.length_nil, bne_self_eq_false]
theorem getNode_wp (P : PlOK E T K pt kp) (R : RingAt st cnt H ρ) (hE : E fs st) {k : Int} (hK : K k) (hs : ρ.keys.Pairwise (· ≤ ·)) (hl : ρ.keys.length < 64) (hrg : ρ.rg ≠ []) (hrl : ρ.rg.length < 64)
    {p : Int} (hp : ρ.keys[posOf ρ.keys (kp k)]? = some p) {x : Str} (hx : look ρ.rg p = some x) :
    Wp (getNode.1 [.inst 615 (1, H.r), .int k] []) Q ⟨fs, st, cnt⟩ = Q (.str x) ⟨fs, st, cnt⟩ := by
  unfold getNode
  dsimp only [List.length_cons, List.length_nil]
  rw [if_pos rfl]
  dsimp only
  rw [wp_fnA (F := [some (.inst 615 (1, H.r)), some (.int k)]) (by kernel_rfl)]
  wide_line with [R.r, get_node_wp P R (P.push hE) hK hs hl hrg hrl hp hx]
theorem getNode_none_wp (R : RingAt st cnt H ρ) {k : Int} (hrg : ρ.rg = []) :
    Wp (getNode.1 [.inst 615 (1, H.r), .int k] []) Q ⟨fs, st, cnt⟩ = Q .none ⟨fs, st, cnt⟩ := by
  unfold getNode
  dsimp only [List.length_cons, List.length_nil]
  rw [if_pos rfl]
  dsimp only
  rw [wp_fnA (F := [some (.inst 615 (1, H.r)), some (.int k)]) (by kernel_rfl)]
  wide_line with [R.r, get_empty_wp R hrg]
theorem removeM_wp (R : RingAt st cnt H ρ) (hn : (look ρ.nodes nm).isSome = true) (hp : (look ρ.np nm).isSome = true) (hd : (look ρ.dist nm).isSome = true) (hok : PyData.strOk nm = true)
    (hb : ρ.nodes.length ≤ 200 ∧ ρ.np.length ≤ 200 ∧ ρ.dist.length ≤ 200 ∧ ρ.rg.length < 64)
    (hQ : ∀ st', RingAt st' cnt H (ρ.drop nm) → (∀ n : Hd, n.1 = 1 ∨ n.1 = 7 ∨ 9 ≤ n.1 → st' n = st n) → Q .none ⟨fs, st', cnt⟩) :
    Wp (removeM.1 [.inst 387 (2, H.m), .str nm] []) Q ⟨fs, st, cnt⟩ := by
  obtain ⟨⟨ps, q⟩, hps⟩ := Option.isSome_iff_exists.mp hp
  obtain ⟨dv, hdv⟩ := Option.isSome_iff_exists.mp hd
  obtain ⟨nv, hnv⟩ := Option.isSome_iff_exists.mp hn
  obtain ⟨q1, q2, q3⟩ := R.core.pts _ (look_some hps)
  dsimp only at q1 q2 q3
  unfold removeM
  dsimp only [List.length_cons, List.length_nil]
  rw [if_pos rfl]
  dsimp only
  rw [wp_fnA (F := [some (.inst 387 (2, H.m)), some (.str nm), none, none]) (by kernel_rfl)]
  have b1 : ρ.nodes.length ≤ 2 ^ 20 := by omega
  have b2 : ρ.np.length ≤ 2 ^ 20 := by omega
  have b3 : ρ.dist.length ≤ 1000 := by omega
  wide_line with [R.core.m, wp_notIn_dictS R.nd, R.nd, R.core.np, R.core.di, look_mapV, hps, hdv, hnv, len_mapV, rem_mapV, Option.isSome_some, b1, b2, b3, q2]
  obtain ⟨st1, hst1⟩ : ∃ st1, st1 = upd (upd (upd st (5, H.nd) (AO.dictS (mapV (fun p => AV.ref (7, p.2)) (rem ρ.nodes nm)))) (4, H.np) (AO.dictS (mapV (fun p => AV.ref (9, p.2)) (rem ρ.np nm)))) (3, H.di) (AO.ctr 293 (mapV AV.int (rem ρ.dist nm))) := ⟨_, rfl⟩
  rw [← hst1]
  have g5 : st1 (5, H.nd) = some (AO.dictS (mapV (fun p => AV.ref (7, p.2)) (rem ρ.nodes nm))) := by rw [hst1]; walk_at "PW"
  have g4 : st1 (4, H.np) = some (AO.dictS (mapV (fun p => AV.ref (9, p.2)) (rem ρ.np nm))) := by rw [hst1]; walk_at "PW"
  have g3 : st1 (3, H.di) = some (AO.ctr 293 (mapV AV.int (rem ρ.dist nm))) := by rw [hst1]; walk_at "PW"
  have go : ∀ n : Hd, n.1 ≠ 5 → n.1 ≠ 4 → n.1 ≠ 3 → st1 n = st n := by
    intro n n5 n4 n3
    rw [hst1, upd_ne (by rintro rfl; exact n3 rfl), upd_ne (by rintro rfl; exact n4 rfl), upd_ne (by rintro rfl; exact n5 rfl)]
  refine wp_forA (fun j σ => ∃ o3 stj, σ = ⟨[some (.inst 387 (2, H.m)), some (.str nm), some (.ref (9, q)), o3] :: fs, stj, cnt⟩ ∧ stj (6, H.rg) = some (.dictI (mapV .str (delPts nm (ps.take j) ρ.rg))) ∧ ∀ n : Hd, n.1 ≠ 6 → stj n = st1 n) ?_ ?_ ?_ ?_
  · exact ⟨_, _, rfl, (go _ (by simp) (by simp) (by simp)).trans R.core.rg, fun n _ => rfl⟩
  · rintro j σ hj ⟨o3, stj, rfl, h1, h2⟩
    dsimp only
    rw [h2 _ (by simp), go _ (by simp) (by simp) (by simp)]; exact q2
  · rintro j hj σ ⟨o3, stj, rfl, h1, h2⟩
    have hj' : j < ps.length := by rw [intsL_len] at hj; exact hj
    have hrg := delPts_len nm (ps.take j) ρ.rg
    have hlen : (delPts nm (ps.take j) ρ.rg).length ≤ 2 ^ 20 := by omega
    have hm2 : stj (2, H.m) = some (.ns (metaNs H ρ.keys)) := by rw [h2 _ (by simp), go _ (by simp) (by simp) (by simp)]; exact R.core.m
    rw [intsL_get, delPts_step hj']
    wide_line with [hm2, h1, look_mapV]
    cases hlk2 : look (delPts nm (ps.take j) ρ.rg) ps[j] with
    | none =>
      walk_at "PW"
      rw [wp_eq_ns hok]
      walk_at "PW"
      exact ⟨_, _, rfl, h1, h2⟩
    | some x =>
      walk_at "PW"
      rw [wp_eq_str (R.core.ok _ (delPts_sub _ _ _ _ (look_some hlk2))) hok]
      walk_at "PW"
      by_cases hx : x = nm
      · subst hx
        wide_line with [hm2, h1, hlk2, rem_mapV, len_mapV, look_mapV]
        refine ⟨hlen, by simp, _, _, rfl, ?_, fun n hn => ?_⟩
        · walk_at "PW"
        · rw [upd_ne (by rintro rfl; exact hn rfl)]; exact h2 n hn
      · simp only [hx, if_false]
        exact ⟨_, _, rfl, h1, h2⟩
  · rintro σ ⟨o3, stj, rfl, h1, h2⟩
    rw [intsL_len, List.take_length] at h1
    have hrg := delPts_len nm ps ρ.rg
    have hm2 : stj (2, H.m) = some (.ns (metaNs H ρ.keys)) := by rw [h2 _ (by simp), go _ (by simp) (by simp) (by simp)]; exact R.core.m
    wide_line with [hm2, h1]
    rw [wp_sortedI_view h1 (by rw [len_mapV]; omega)]
    wide_line with [hm2, keys_mapV]
    refine ⟨by show 6 ≤ 100; decide, ?_⟩
    have hdrop : ρ.drop nm = { nodes := rem ρ.nodes nm, np := rem ρ.np nm, dist := rem ρ.dist nm, rg := delPts nm ps ρ.rg, keys := isortI ((delPts nm ps ρ.rg).map (·.1)) } := by
      unfold RS.drop; rw [hps]; rfl
    refine hQ _ ⟨?_, ?_, ?_, ?_, R.lt⟩ fun n hn => ?_
    · rw [hdrop]
      refine ⟨?_, ?_, ?_, ?_, ?_, ?_⟩
      · walk_at "PW"
      · walk_at "PW"; rw [h2 _ (by simp)]; exact g3
      · walk_at "PW"; rw [h2 _ (by simp)]; exact g4
      · walk_at "PW"; exact h1
      · intro e he
        obtain ⟨p1, p2, p3⟩ := R.core.pts e (mem_rem.mp he).1
        refine ⟨p1, ?_, p3⟩
        walk_at "PW"; rw [h2 _ (by simp), go _ (by simp) (by simp) (by simp)]; exact p2
      · intro e he
        exact R.core.ok e (delPts_sub _ _ _ _ he)
    · walk_at "PW"; rw [h2 _ (by simp), go _ (by simp) (by simp) (by simp)]; exact R.r
    · rw [hdrop]; walk_at "PW"; rw [h2 _ (by simp)]; exact g5
    · rw [hdrop]
      intro e he
      obtain ⟨p1, p2⟩ := R.cf e (mem_rem.mp he).1
      refine ⟨p1, ?_⟩
      walk_at "PW"; rw [h2 _ (by simp), go _ (by simp) (by simp) (by simp)]; exact p2
    · rw [upd_ne (by rintro rfl; simp at hn), h2 n (by omega), go n (by omega) (by omega) (by omega)]
theorem delItem_wp (R : RingAt st cnt H ρ) (hn : (look ρ.nodes nm).isSome = true) (hp : (look ρ.np nm).isSome = true) (hd : (look ρ.dist nm).isSome = true) (hok : PyData.strOk nm = true)
    (hb : ρ.nodes.length ≤ 200 ∧ ρ.np.length ≤ 200 ∧ ρ.dist.length ≤ 200 ∧ ρ.rg.length < 64)
    (hQ : ∀ st', RingAt st' cnt H (ρ.drop nm) → (∀ n : Hd, n.1 = 1 ∨ n.1 = 7 ∨ 9 ≤ n.1 → st' n = st n) → Q .none ⟨fs, st', cnt⟩) :
    Wp (delItem.1 [.inst 615 (1, H.r), .str nm] []) Q ⟨fs, st, cnt⟩ := by
  unfold delItem
  dsimp only [List.length_cons, List.length_nil]
  rw [if_pos rfl]
  dsimp only
  rw [wp_fnA (F := [some (.inst 615 (1, H.r)), some (.str nm)]) (by kernel_rfl)]
  wide_line with [R.r, R.core.m]
  refine removeM_wp R hn hp hd hok hb fun st' R' ho => ?_
  wide_line with []
  exact hQ st' R' ho
theorem pNodes_wp {ks : List Int} (hr : st (1, H.r) = some (.ns (ringNs H.m))) (hm : st (2, H.m) = some (.ns (metaNs H ks))) : Wp (pNodes.1 [.inst 615 (1, H.r)] []) Q ⟨fs, st, cnt⟩ = Q (.ref (5, H.nd)) ⟨fs, st, cnt⟩ := by
  unfold pNodes
  dsimp only [List.length_cons, List.length_nil]
  rw [if_pos rfl]
  dsimp only
  rw [wp_fnA (F := [some (.inst 615 (1, H.r))]) (by kernel_rfl)]
  wide_line with [hr, hm]
/-- `ring.add_node(nm)`, a node that is not there -/
theorem addNode_wp (P : PlOK E T K pt kp) (R : RingAt st cnt H ρ) (hE : E fs st) (hT : T nm 0) (hnew : look ρ.nodes nm = none)
    (hb : ρ.nodes.length < 150 ∧ ρ.np.length < 150 ∧ ρ.dist.length < 150 ∧ ρ.rg.length < 60)
    (hQ : ∀ st', RingAt st' (cnt + 2) H { ρ.tell pt nm 1 (cnt + 1) with nodes := ρ.nodes ++ [(nm, (1, cnt))], keys := isortI ((ρ.tell pt nm 1 (cnt + 1)).rg.map (·.1)) } → (∀ n : Hd, 10 ≤ n.1 → st' n = st n) → Q .none ⟨fs, st', cnt + 2⟩) :
    Wp (addNode.1 [.inst 615 (1, H.r), .str nm] []) Q ⟨fs, st, cnt⟩ := by
  unfold addNode
  dsimp only [List.length_cons, List.length_nil]
  rw [if_pos rfl]
  dsimp only [List.cons_append, List.nil_append]
  rw [wp_fnA (F := [some (.inst 615 (1, H.r)), some (.str nm), some (.dct [(Str.ofString "weight", .int 1)])]) (by kernel_rfl)]
  have hz : ∀ {Q : AV → St → Prop} {σ : St} {v : AV}, Wp (dictZ [(.str nm, v)]) Q σ = Q (.dct [(nm, v)]) σ := fun {Q σ v} => wp_dictZ (m := [(nm, v)]) rfl
  wide_line with [R.r, hz]
  refine confNodes_wp (items := [(nm, 1)]) R.r R.core.m R.nd R.cf (.inr (.inr rfl)) (by simp) (by show ρ.nodes.length + 1 ≤ 200; omega) (fun e he => by simp only [List.mem_cons, List.not_mem_nil, or_false] at he; subst he; show 1 < 1000; decide) fun st3 c5 c7 coff cold => ?_
  have hcf : confAll (false, ρ.nodes) [(nm, 1)] cnt = (true, ρ.nodes ++ [(nm, (1, cnt))]) := by
    show confOne (false, ρ.nodes) nm 1 cnt = _
    unfold confOne
    rw [hnew, put_new hnew]; rfl
  rw [hcf] at c5 c7 ⊢
  dsimp only [List.length_cons, List.length_nil] at c5 c7 ⊢
  have r3 : st3 (1, H.r) = some (.ns (ringNs H.m)) := by rw [coff _ (by simp) (by simp)]; exact R.r
  have m3 : st3 (2, H.m) = some (.ns (metaNs H ρ.keys)) := by rw [coff _ (by simp) (by simp)]; exact R.core.m
  have hlk : look (mapV (fun p : Nat × Nat => AV.ref (7, p.2)) (ρ.nodes ++ [(nm, (1, cnt))])) nm = some (.ref (7, cnt)) := by
    rw [look_mapV, look_append, hnew]; simp [look]
  wide_line with [r3, m3, pNodes_wp r3 m3, c5, hlk]
  have hC0 : Core st3 (cnt + 1) H { ρ with nodes := ρ.nodes ++ [(nm, (1, cnt))] } := by
    refine ⟨m3, ?_, ?_, ?_, fun e he => ?_, R.core.ok⟩
    · rw [coff _ (by simp) (by simp)]; exact R.core.di
    · rw [coff _ (by simp) (by simp)]; exact R.core.np
    · rw [coff _ (by simp) (by simp)]; exact R.core.rg
    · obtain ⟨q1, q2, q3⟩ := R.core.pts e he
      exact ⟨by omega, by rw [coff _ (by simp) (by simp)]; exact q2, q3⟩
  refine createRing_wp P (L := [(nm, (1, cnt))]) hC0 (P.push (P.keep hE fun n hn => coff n (by omega) (by omega))) (.inl rfl) (fun e he => ?_) (fun e he k hk => ?_) (fun e he => ?_) ?_ fun st4 hC4 hoff4 => ?_
  · exact (c7 e (List.mem_append.mpr (.inr he))).2
  · simp only [List.mem_cons, List.not_mem_nil, or_false] at he
    subst he
    dsimp only at hk ⊢
    obtain rfl : k = 0 := by omega
    exact hT
  · simp only [List.mem_cons, List.not_mem_nil, or_false] at he
    subst he
    show 1 ≤ 1 ∧ 1 < 60
    decide
  · show ρ.np.length + 1 ≤ 200 ∧ ρ.dist.length + 1 ≤ 200 ∧ ρ.rg.length + (1 + 0) < 64
    omega
  · obtain ⟨l1, l2, l3, l4, l5, l6⟩ := R.lt
    refine hQ st4 ⟨hC4, ?_, ?_, fun e he => ?_, ?_⟩ fun n hn => ?_
    · rw [hoff4 _ (by unfold offR; simp)]; exact r3
    · rw [hoff4 _ (by unfold offR; simp)]; exact c5
    · obtain ⟨q1, q2⟩ := c7 e he
      exact ⟨by omega, by rw [hoff4 _ (by unfold offR; simp)]; exact q2⟩
    · exact ⟨by omega, by omega, by omega, by omega, by omega, by omega⟩
    · rw [hoff4 n (by unfold offR; omega)]; exact coff n (by omega) (by omega)
theorem RingAt.keep (R : RingAt st cnt H ρ) {st' : Hd → Option AO} {cnt' : Nat} (h : ∀ n : Hd, n.1 < 10 → st' n = st n) (hc : cnt ≤ cnt') : RingAt st' cnt' H ρ := by
  obtain ⟨⟨m, di, np, rg, pts, ok⟩, r, nd, cf, l1, l2, l3, l4, l5, l6⟩ := R
  refine ⟨⟨?_, ?_, ?_, ?_, fun e he => ?_, ok⟩, ?_, ?_, fun e he => ?_, by omega, by omega, by omega, by omega, by omega, by omega⟩
  · rw [h _ (by simp)]; exact m
  · rw [h _ (by simp)]; exact di
  · rw [h _ (by simp)]; exact np
  · rw [h _ (by simp)]; exact rg
  · obtain ⟨p1, p2, p3⟩ := pts e he
    exact ⟨by omega, by rw [h _ (by simp)]; exact p2, p3⟩
  · rw [h _ (by simp)]; exact r
  · rw [h _ (by simp)]; exact nd
  · obtain ⟨p1, p2⟩ := cf e he
    exact ⟨by omega, by rw [h _ (by simp)]; exact p2⟩
/-- `HashRing(nodes, hash_fn=place, vnodes=1)` -/
theorem newRing_wp (P : PlOK E T K pt kp) {a : AV} {items : List (Str × Nat)} (hE : E fs st) (ha : NodesAV a items) (hnd : (items.map (·.1)).Nodup)
    (hT : ∀ e ∈ items, ∀ k, k < e.2 → T e.1 k) (hw : ∀ e ∈ items, 1 ≤ e.2 ∧ e.2 < 60) (hb : (items.map (·.2)).sum < 64)
    (hnds : (confAll (false, []) items (cnt + 6)).1 = decide (items ≠ []) ∧ (confAll (false, []) items (cnt + 6)).2.map (fun e => (e.1, e.2.1)) = items)
    (hQ : ∀ st' H, H = ⟨cnt, cnt + 1, cnt + 2, cnt + 3, cnt + 4, cnt + 5⟩ → RingAt st' (cnt + 6 + 2 * items.length) H (newRS pt items (cnt + 6)) → (∀ n : Hd, 10 ≤ n.1 → st' n = st n) → Q (.inst 615 (1, cnt)) ⟨fs, st', cnt + 6 + 2 * items.length⟩) :
    Wp (makeF 615 1 ringInit.1 [a] [.clo 0, .int 1]) Q ⟨fs, st, cnt⟩ := by
  refine wp_makeF ?_
  refine ringInit_wp P (rr := cnt) upd_same (Nat.lt_succ_self _) (P.keep hE fun n hn => upd_ne (by rintro rfl; simp at hn)) ha hnd hT hw hb (by
    rw [show cnt + 1 + 5 = cnt + 6 by omega]; exact hnds) fun st' H hH R ho => ⟨rfl, ?_⟩
  rw [show cnt + 1 + 5 = cnt + 6 by omega] at R ⊢
  exact hQ st' H hH R fun n hn => (ho n hn).trans (upd_ne (by rintro rfl; simp at hn))
theorem lawAt_wp {ns : List Int} {k d : Int} (h0 : 0 ≤ k) (hl : ns.length ≤ 63) : Wp (lawAt.1 [.lst (intsL ns), .int k, .int d] []) Q ⟨fs, st, cnt⟩ = Q (.int (ns.getD k.toNat d)) ⟨fs, st, cnt⟩ := by
  unfold lawAt
  dsimp only [List.length_cons, List.length_nil]
  rw [if_pos rfl]
  dsimp only
  rw [wp_fnA (F := [some (.lst (intsL ns)), some (.int k), some (.int d)]) (by kernel_rfl)]
  wide_line with [intsL_len, show ns.length < 2 ^ 40 by omega]
  by_cases h : k < (ns.length : Int)
  · have hk : k.toNat < ns.length := by omega
    have ha := atL_intsL hk (show ns.length ≤ 2 ^ 40 by omega)
    rw [Int.toNat_of_nonneg h0] at ha
    wide_line with [h, ha]
    rw [List.getD_eq_getElem?_getD, List.getElem?_eq_getElem hk]; rfl
  · have hk : ns.length ≤ k.toNat := by omega
    wide_line with [h]
    rw [List.getD_eq_getElem?_getD, List.getElem?_eq_none hk]; rfl
end
end Mine
end

section
open PySem PySem.W PySem.Calls PyProof.Rows
set_option Elab.async false
set_option maxRecDepth 20000
set_option linter.unusedVariables false
set_option linter.unusedSectionVars false
set_option linter.unusedSimpArgs false
namespace Mine
/-! a ring whose nodes have a point each -/
structure One (ρ : RS) (L : List (Str × Int)) : Prop where
  nodes : ρ.nodes.map (fun e => (e.1, e.2.1)) = L.map (fun e => (e.1, 1))
  np : ρ.np.map (fun e => (e.1, e.2.1)) = L.map (fun e => (e.1, [e.2]))
  dist : ρ.dist = L.map (fun e => (e.1, 1))
  rg : ρ.rg = L.map (fun e => (e.2, e.1))
  keys : ρ.keys = isortI (L.map (·.2))
  nd : (L.map (·.1)).Nodup
  pd : (L.map (·.2)).Nodup
/-- the node that is told for x -/
def Next (L : List (Str × Int)) (x : Int) (e : Str × Int) : Prop :=
  e ∈ L ∧ ((x < e.2 ∧ ∀ e' ∈ L, x < e'.2 → e.2 ≤ e'.2) ∨ ((∀ e' ∈ L, e'.2 ≤ x) ∧ ∀ e' ∈ L, e.2 ≤ e'.2))
theorem isortI_len (l : List Int) : (isortI l).length = l.length := (isortI_perm l).length_eq
theorem below_cut {l : List Int} {x : Int} (hs : l.Pairwise (· ≤ ·)) : (∀ (i : Nat) y, i < below l x → l[i]? = some y → y ≤ x) ∧ ∀ (i : Nat) y, below l x ≤ i → l[i]? = some y → x < y := by
  induction l with
  | nil => exact ⟨fun i y _ e => by simp at e, fun i y _ e => by simp at e⟩
  | cons a l ih =>
    rw [List.pairwise_cons] at hs
    obtain ⟨h1, h2⟩ := ih hs.2
    by_cases ha : a ≤ x
    · have hb : below (a :: l) x = below l x + 1 := by unfold below; rw [List.countP_cons]; simp [ha]
      rw [hb]
      refine ⟨fun i y hi e => ?_, fun i y hi e => ?_⟩
      · cases i with
        | zero => simp at e; omega
        | succ i => exact h1 i y (by omega) (by simpa using e)
      · cases i with
        | zero => omega
        | succ i => exact h2 i y (by omega) (by simpa using e)
    · have hb : below (a :: l) x = 0 := by
        unfold below
        rw [List.countP_eq_zero]
        intro y hy
        rcases List.mem_cons.mp hy with rfl | hy
        · simpa using ha
        · have := hs.1 y hy; simp; omega
      rw [hb]
      refine ⟨fun i y hi _ => by omega, fun i y _ e => ?_⟩
      cases i with
      | zero => simp at e; omega
      | succ i =>
        have : y ∈ l := List.mem_of_getElem? (by simpa using e : l[i]? = some y)
        have := hs.1 y this; omega
theorem posOf_next {l : List Int} {x : Int} (hs : l.Pairwise (· ≤ ·)) (hne : l ≠ []) : ∃ p, l[posOf l x]? = some p ∧ ((x < p ∧ ∀ y ∈ l, x < y → p ≤ y) ∨ ((∀ y ∈ l, y ≤ x) ∧ ∀ y ∈ l, p ≤ y)) := by
  obtain ⟨h1, h2⟩ := below_cut (x := x) hs
  have mono : ∀ (i j : Nat) a b, i ≤ j → l[i]? = some a → l[j]? = some b → a ≤ b := by
    intro i j a b hij ha hb
    obtain ⟨li, ea⟩ := List.getElem?_eq_some_iff.mp ha
    obtain ⟨lj, eb⟩ := List.getElem?_eq_some_iff.mp hb
    rcases Nat.eq_or_lt_of_le hij with h | h
    · subst h; omega
    · rw [← ea, ← eb]; exact List.pairwise_iff_getElem.mp hs i j li lj h
  unfold posOf
  by_cases hb : below l x = l.length
  · rw [if_pos hb]
    cases l with
    | nil => exact absurd rfl hne
    | cons a l =>
      refine ⟨a, rfl, .inr ⟨fun y hy => ?_, fun y hy => ?_⟩⟩
      · obtain ⟨i, hi⟩ := List.getElem?_of_mem hy
        exact h1 i y (by rw [hb]; exact (List.getElem?_eq_some_iff.mp hi).1) hi
      · obtain ⟨i, hi⟩ := List.getElem?_of_mem hy
        exact mono 0 i a y (Nat.zero_le _) rfl hi
  · rw [if_neg hb]
    have hlt : below l x < l.length := by have := below_le (l := l) (x := x); omega
    refine ⟨l[below l x], List.getElem?_eq_getElem hlt, .inl ⟨h2 _ _ (Nat.le_refl _) (List.getElem?_eq_getElem hlt), fun y hy hxy => ?_⟩⟩
    obtain ⟨i, hi⟩ := List.getElem?_of_mem hy
    refine mono _ i _ y ?_ (List.getElem?_eq_getElem hlt) hi
    rcases Nat.lt_or_ge i (below l x) with h | h
    · have := h1 i y h hi; omega
    · exact h
theorem One.sorted {ρ : RS} {L : List (Str × Int)} (h : One ρ L) : ρ.keys.Pairwise (· ≤ ·) := by rw [h.keys]; exact isortI_sorted _
theorem One.len {ρ : RS} {L : List (Str × Int)} (h : One ρ L) : ρ.keys.length = L.length ∧ ρ.rg.length = L.length ∧ ρ.nodes.length = L.length ∧ ρ.np.length = L.length ∧ ρ.dist.length = L.length := by
  refine ⟨?_, ?_, ?_, ?_, ?_⟩
  · rw [h.keys, isortI_len, List.length_map]
  · rw [h.rg, List.length_map]
  · have := congrArg List.length h.nodes; simpa using this
  · have := congrArg List.length h.np; simpa using this
  · rw [h.dist, List.length_map]
theorem One.next {ρ : RS} {L : List (Str × Int)} (h : One ρ L) (hne : L ≠ []) (x : Int) : ∃ e, Next L x e ∧ ρ.keys[posOf ρ.keys x]? = some e.2 ∧ look ρ.rg e.2 = some e.1 := by
  have hk : ρ.keys ≠ [] := by
    intro e
    have := h.len.1
    rw [e] at this
    exact hne (List.length_eq_zero_iff.mp this.symm)
  obtain ⟨p, hp, hx⟩ := posOf_next (x := x) h.sorted hk
  have hm : ∀ y, y ∈ ρ.keys ↔ ∃ e ∈ L, e.2 = y := by
    intro y
    rw [h.keys, (isortI_perm _).mem_iff, List.mem_map]
  obtain ⟨e, he, rfl⟩ := (hm p).mp (List.mem_of_getElem? hp)
  refine ⟨e, ⟨he, ?_⟩, hp, ?_⟩
  · rcases hx with ⟨a, b⟩ | ⟨a, b⟩
    · exact .inl ⟨a, fun e' he' hlt => b _ ((hm _).mpr ⟨e', he', rfl⟩) hlt⟩
    · exact .inr ⟨fun e' he' => a _ ((hm _).mpr ⟨e', he', rfl⟩), fun e' he' => b _ ((hm _).mpr ⟨e', he', rfl⟩)⟩
  · rw [h.rg]
    refine look_of_mem ?_ (List.mem_map.mpr ⟨e, he, rfl⟩)
    rw [List.map_map]; exact h.pd
theorem look_map_iff {β γ : Type} {l : List (Str × β)} {L : List (Str × Int)} {f : β → γ} {g : Str × Int → γ} (e : l.map (fun e => (e.1, f e.2)) = L.map (fun e => (e.1, g e))) (nd : (L.map (·.1)).Nodup) {x : Str × Int} (hx : x ∈ L) : ∃ v, look l x.1 = some v ∧ f v = g x := by
  have h1 : look (l.map (fun e => (e.1, f e.2))) x.1 = some (g x) := by
    rw [e]
    refine look_of_mem ?_ (List.mem_map.mpr ⟨x, hx, rfl⟩)
    rw [List.map_map]; exact nd
  have h2 : look (mapV f l) x.1 = some (g x) := h1
  rw [look_mapV] at h2
  obtain ⟨v, a, b⟩ := Option.map_eq_some_iff.mp h2
  exact ⟨v, a, b⟩
theorem rem_map_eq {β γ : Type} {l : List (Str × β)} {L : List (Str × Int)} {f : β → γ} {g : Str × Int → γ} (e : l.map (fun e => (e.1, f e.2)) = L.map (fun e => (e.1, g e))) (nm : Str) :
    (rem l nm).map (fun e => (e.1, f e.2)) = (L.filter fun e => decide (e.1 ≠ nm)).map (fun e => (e.1, g e)) := by
  have h1 : (rem l nm).map (fun e => (e.1, f e.2)) = rem (mapV f l) nm := rem_mapV.symm
  rw [h1]
  have h2 : mapV f l = L.map (fun e => (e.1, g e)) := e
  rw [h2]
  unfold rem
  rw [List.filter_map]; rfl
theorem One.known {ρ : RS} {L : List (Str × Int)} (h : One ρ L) {x : Str × Int} (hx : x ∈ L) : (look ρ.nodes x.1).isSome = true ∧ (∃ q, look ρ.np x.1 = some ([x.2], q)) ∧ (look ρ.dist x.1).isSome = true := by
  refine ⟨?_, ?_, ?_⟩
  · obtain ⟨v, hv, _⟩ := look_map_iff (f := fun p : Nat × Nat => p.1) (g := fun _ => 1) h.nodes h.nd hx
    rw [hv]; rfl
  · obtain ⟨v, hv, e⟩ := look_map_iff (f := fun p : List Int × Nat => p.1) (g := fun e => [e.2]) h.np h.nd hx
    obtain ⟨a, b⟩ := v
    dsimp only at e
    subst e
    exact ⟨b, hv⟩
  · rw [h.dist, look_of_mem (v := 1)]; rfl
    · rw [List.map_map]; exact h.nd
    · exact List.mem_map.mpr ⟨x, hx, rfl⟩
/-- a node that goes -/
theorem One.drop {ρ : RS} {L : List (Str × Int)} (h : One ρ L) {x : Str × Int} (hx : x ∈ L) :
    One (ρ.drop x.1) (L.filter fun e => decide (e.1 ≠ x.1)) := by
  obtain ⟨q, hq⟩ := (h.known hx).2.1
  have hl : look ρ.rg x.2 = some x.1 := by
    rw [h.rg]
    refine look_of_mem ?_ (List.mem_map.mpr ⟨x, hx, rfl⟩)
    rw [List.map_map]; exact h.pd
  have hd : delPts x.1 (((look ρ.np x.1).map (·.1)).getD []) ρ.rg = rem ρ.rg x.2 := by
    rw [hq]
    show (if look ρ.rg x.2 = some x.1 then rem ρ.rg x.2 else ρ.rg) = _
    rw [if_pos hl]
  have inj : ∀ e ∈ L, e.1 = x.1 ↔ e.2 = x.2 := by
    intro e he
    constructor
    · intro h1
      have := nodup_map_inj h.nd he hx h1
      rw [this]
    · intro h1
      have := nodup_map_inj h.pd he hx h1
      rw [this]
  have hrg : rem ρ.rg x.2 = (L.filter fun e => decide (e.1 ≠ x.1)).map (fun e => (e.2, e.1)) := by
    rw [h.rg]
    unfold rem
    rw [List.filter_map]
    congr 1
    apply List.filter_congr
    intro e he
    dsimp only [Function.comp]
    rw [decide_eq_decide, ne_eq, ne_eq, inj e he]
  have nds : (L.filter fun e => decide (e.1 ≠ x.1)).Sublist L := List.filter_sublist
  refine ⟨rem_map_eq (f := fun p : Nat × Nat => p.1) (g := fun _ => 1) h.nodes _, rem_map_eq (f := fun p : List Int × Nat => p.1) (g := fun e => [e.2]) h.np _, ?_, ?_, ?_, h.nd.sublist (nds.map _), h.pd.sublist (nds.map _)⟩
  · show rem ρ.dist x.1 = _
    rw [h.dist]
    unfold rem
    rw [List.filter_map]; rfl
  · show delPts x.1 _ ρ.rg = _
    rw [hd, hrg]
  · show isortI _ = _
    rw [hd, hrg, List.map_map]; rfl
/-- a node that comes -/
theorem One.tell {pt : Str → Nat → Int} {ρ : RS} {L : List (Str × Int)} (h : One ρ L) {nm : Str} {c q : Nat} (h1 : ∀ e ∈ L, e.1 ≠ nm) (h2 : ∀ e ∈ L, e.2 ≠ pt nm 0) :
    One { ρ.tell pt nm 1 q with nodes := ρ.nodes ++ [(nm, (1, c))], keys := isortI ((ρ.tell pt nm 1 q).rg.map (·.1)) } (L ++ [(nm, pt nm 0)]) := by
  have hl : look ρ.np nm = none := by
    cases e : look ρ.np nm with
    | none => rfl
    | some v =>
      have hm : (nm, v.1) ∈ ρ.np.map (fun e => (e.1, e.2.1)) := List.mem_map.mpr ⟨_, look_some e, rfl⟩
      rw [h.np] at hm
      obtain ⟨y, hy, e'⟩ := List.mem_map.mp hm
      exact absurd (congrArg Prod.fst e') (h1 y hy)
  have hdl : look ρ.dist nm = none := by
    rw [look_none, h.dist]
    intro p hp
    obtain ⟨y, hy, rfl⟩ := List.mem_map.mp hp
    exact h1 y hy
  have hrl : look ρ.rg (pt nm 0) = none := by
    rw [look_none, h.rg]
    intro p hp
    obtain ⟨y, hy, rfl⟩ := List.mem_map.mp hp
    exact h2 y hy
  have ht : ρ.tell pt nm 1 q = { nodes := ρ.nodes, np := ρ.np ++ [(nm, ([pt nm 0], q))], dist := ρ.dist ++ [(nm, 1)], rg := ρ.rg ++ [(pt nm 0, nm)], keys := ρ.keys } := by
    unfold RS.tell
    rw [hl, rem_none hl]
    have e1 : newPts pt nm 1 = [pt nm 0] := rfl
    have e2 : addDist nm 1 ρ.dist = ρ.dist ++ [(nm, 1)] := by
      show put ρ.dist nm ((look ρ.dist nm).getD 0 + 1) = _
      rw [put_new hdl, hdl]; rfl
    rw [e1]
    show ({ nodes := ρ.nodes, np := _, dist := addDist nm 1 ρ.dist, rg := put ρ.rg (pt nm 0) nm, keys := _ } : RS) = _
    rw [e2, put_new hrl]
  rw [ht]
  refine ⟨?_, ?_, ?_, ?_, ?_, ?_, ?_⟩
  · show (ρ.nodes ++ [(nm, (1, c))]).map _ = _
    rw [List.map_append, List.map_append, h.nodes]; rfl
  · show (ρ.np ++ [(nm, ([pt nm 0], q))]).map _ = _
    rw [List.map_append, List.map_append, h.np]; rfl
  · show ρ.dist ++ [(nm, 1)] = _
    rw [List.map_append, h.dist]; rfl
  · show ρ.rg ++ [(pt nm 0, nm)] = _
    rw [List.map_append, h.rg]; rfl
  · show isortI ((ρ.rg ++ [(pt nm 0, nm)]).map (·.1)) = _
    rw [h.rg, List.map_append, List.map_append, List.map_map]; rfl
  · rw [List.map_append, List.nodup_append]
    refine ⟨h.nd, by simp, fun a ha b hb => ?_⟩
    simp at hb; subst hb
    obtain ⟨y, hy, rfl⟩ := List.mem_map.mp ha
    exact h1 y hy
  · rw [List.map_append, List.nodup_append]
    refine ⟨h.pd, by simp, fun a ha b hb => ?_⟩
    simp at hb; subst hb
    obtain ⟨y, hy, rfl⟩ := List.mem_map.mp ha
    exact h2 y hy
/-- nodes that are not known yet -/
theorem confAll_new : ∀ (items : List (Str × Nat)) (s : Bool × List (Str × (Nat × Nat))) (c : Nat), (items.map (·.1)).Nodup → (∀ e ∈ items, look s.2 e.1 = none) →
    (confAll s items c).1 = (s.1 || decide (items ≠ [])) ∧ (confAll s items c).2.map (fun e => (e.1, e.2.1)) = s.2.map (fun e => (e.1, e.2.1)) ++ items
  | [], s, c, _, _ => by simp [confAll]
  | e :: l, s, c, nd, h => by
    rw [List.map_cons, List.nodup_cons] at nd
    have he := h e (List.mem_cons_self ..)
    have e1 : confOne s e.1 e.2 c = (true, s.2 ++ [(e.1, (e.2, c))]) := by
      unfold confOne
      rw [he, put_new he]; simp
    have := confAll_new l (true, s.2 ++ [(e.1, (e.2, c))]) (c + 1) nd.2 (fun x hx => by
      show look (s.2 ++ [(e.1, (e.2, c))]) x.1 = none
      rw [look_append, h x (List.mem_cons_of_mem _ hx), look_cons, look_nil, if_neg]
      · rfl
      · intro q
        exact nd.1 (List.mem_map.mpr ⟨x, hx, q.symm⟩))
    show (confAll (confOne s e.1 e.2 c) l (c + 1)).1 = _ ∧ (confAll (confOne s e.1 e.2 c) l (c + 1)).2.map _ = _
    rw [e1, this.1, this.2]
    simp
/-- the ring made of names, each with its point -/
theorem One.new {pt : Str → Nat → Int} {names : List Str} {c : Nat} (nd : names.Nodup) (pd : (names.map fun nm => pt nm 0).Nodup) :
    One (newRS pt (names.map fun nm => (nm, 1)) c) (names.map fun nm => (nm, pt nm 0)) := by
  have hk : ((names.map fun nm => (nm, 1)).map (fun e : Str × Nat => e.1)) = names := by rw [List.map_map]; exact List.map_id names
  obtain ⟨h1, h2⟩ := confAll_new (names.map fun nm => (nm, 1)) (false, []) c (by rw [hk]; exact nd) (fun _ _ => rfl)
  obtain ⟨nodes, hn⟩ : ∃ nodes, nodes = (confAll (false, []) (names.map fun nm => (nm, 1)) c).2 := ⟨_, rfl⟩
  rw [← hn] at h2
  simp only [List.map_nil, List.nil_append] at h2
  have key : ∀ (nodes : List (Str × (Nat × Nat))) (names : List Str) (ρ : RS) (M : List (Str × Int)) (c : Nat), nodes.map (fun e => (e.1, e.2.1)) = names.map (fun nm => (nm, 1)) → names.Nodup → (names.map fun nm => pt nm 0).Nodup →
      (∀ e ∈ M, e.1 ∉ names ∧ e.2 ∉ names.map fun nm => pt nm 0) → ∀ pre, One { ρ with nodes := pre, keys := isortI (ρ.rg.map (·.1)) } M → One { ρ.tellAll pt nodes c with nodes := pre ++ nodes, keys := isortI ((ρ.tellAll pt nodes c).rg.map (·.1)) } (M ++ names.map fun nm => (nm, pt nm 0)) := by
    intro nodes
    induction nodes with
    | nil =>
      intro names ρ M c e1 _ _ _ pre h
      have : names = [] := by cases names with | nil => rfl | cons a l => simp at e1
      subst this
      simpa [RS.tellAll] using h
    | cons e nodes ih =>
      intro names ρ M c e1 nd pd hM pre h
      cases names with
      | nil => simp at e1
      | cons nm names =>
        simp only [List.map_cons, List.cons.injEq, Prod.mk.injEq] at e1
        obtain ⟨⟨q1, q2⟩, q3⟩ := e1
        obtain ⟨x, w, cc⟩ := e
        dsimp only at q1 q2
        subst q1; subst q2
        rw [List.nodup_cons] at nd
        rw [List.map_cons, List.nodup_cons] at pd
        have step := One.tell (pt := pt) (q := c) (c := cc) h (nm := x) (fun e he => by
          have := (hM e he).1
          rintro rfl; exact this (List.mem_cons_self ..)) (fun e he => by
          have := (hM e he).2
          intro q; exact this (by rw [q, List.map_cons]; exact List.mem_cons_self ..))
        have := ih names (ρ.tell pt x 1 c) (M ++ [(x, pt x 0)]) (c + 1) q3 nd.2 pd.2 (fun e he => by
          rcases List.mem_append.mp he with he | he
          · exact ⟨fun q => (hM e he).1 (List.mem_cons_of_mem _ q), fun q => (hM e he).2 (by rw [List.map_cons]; exact List.mem_cons_of_mem _ q)⟩
          · rw [List.mem_singleton] at he
            subst he
            exact ⟨nd.1, pd.1⟩) (pre ++ [(x, (1, cc))]) step
        rw [List.append_assoc] at this
        rw [List.append_assoc] at this
        exact this
  have h0 : One { (⟨nodes, [], [], [], []⟩ : RS) with nodes := [], keys := isortI (([] : List (Int × Str)).map (·.1)) } [] := ⟨rfl, rfl, rfl, rfl, rfl, List.nodup_nil, List.nodup_nil⟩
  have := key nodes names ⟨nodes, [], [], [], []⟩ [] (c + (names.map fun nm => (nm, 1)).length) h2 nd pd (fun e he => by cases he) [] h0
  simp only [List.nil_append] at this
  unfold newRS
  rw [← hn]
  have e3 : (RS.tellAll pt ⟨nodes, [], [], [], []⟩ nodes (c + (names.map fun nm => (nm, 1)).length)).nodes = nodes := tellAll_nodes ..
  have e4 : ∀ ρ : RS, ρ.nodes = nodes → ({ ρ with keys := isortI (ρ.rg.map (·.1)) } : RS) = { ρ with nodes := nodes, keys := isortI (ρ.rg.map (·.1)) } := by
    rintro ⟨a, b, c, d, e⟩ rfl; rfl
  dsimp only
  rw [e4 _ e3]
  exact this
theorem new_conf {names : List Str} {c : Nat} (nd : names.Nodup) :
    (confAll (false, []) (names.map fun nm => (nm, 1)) c).1 = decide ((names.map fun nm => (nm, 1)) ≠ []) ∧ (confAll (false, []) (names.map fun nm => (nm, 1)) c).2.map (fun e => (e.1, e.2.1)) = names.map fun nm => (nm, 1) := by
  have hk : ((names.map fun nm => (nm, 1)).map (fun e : Str × Nat => e.1)) = names := by rw [List.map_map]; exact List.map_id names
  have := confAll_new (names.map fun nm => (nm, 1)) (false, []) c (by rw [hk]; exact nd) (fun _ _ => rfl)
  simpa using this
end Mine
end

section
open PySem PySem.W PySem.Calls PyProof.Rows
set_option Elab.async false
set_option maxRecDepth 20000
set_option linter.unusedVariables false
set_option linter.unusedSectionVars false
namespace Mine
theorem perm_of_range {l : List AV} {p : List Nat} (h : p.Perm (List.range l.length)) : (p.map fun i => l.getD i .none).Perm l := by
  have h1 := h.map fun i => l.getD i .none
  have h2 : (List.range l.length).map (fun i => l.getD i .none) = l := by
    apply List.ext_getElem
    · simp
    · intro i h1 h2
      rw [List.getElem_map, List.getElem_range, List.getD_eq_getElem?_getD, List.getElem?_eq_getElem h2]; rfl
  rwa [h2] at h1
theorem sortedT_spec {σ : St} {a : AV} {l : List AV} (hv : viewL σ a = some l) (h2 : 2 ≤ l.length) (h64 : l.length < 64) (hf : l.all firstInt = true) {le : AV → AV → Prop} (hr : ∀ x, le x x) (ht : ∀ x y z, le x y → le y z → le x z)
    (hc : ∀ i j (hi : i < l.length) (hj : j < l.length), ∃ b, cmpT l i j = some b ∧ (b = true → le l[i] l[j]) ∧ (b = false → le l[j] l[i])) : ∃ l', sortedTF [a] [] σ = some (.lst l', σ) ∧ l'.Perm l ∧ l'.Pairwise le := by
  obtain ⟨p, e, hp, hs⟩ := sort_spec (n := l.length) (cmp := cmpT l) (le := fun i j => le (l.getD i .none) (l.getD j .none)) ⟨fun i j hi hj => by
    obtain ⟨b, h1, h2, h3⟩ := hc i j hi hj
    rw [List.getD_eq_getElem?_getD, List.getD_eq_getElem?_getD, List.getElem?_eq_getElem hi, List.getElem?_eq_getElem hj]
    exact ⟨b, h1, h2, h3⟩, fun i => hr _, fun i j k => ht _ _ _⟩ (by omega)
  refine ⟨p.toList.map fun i => l.getD i .none, ?_, perm_of_range hp, ?_⟩
  · unfold sortedTF
    simp only [hv]
    rw [if_pos ⟨h2, h64, hf⟩, e]
  · have hl : p.toList.length = l.length := by rw [hp.length_eq, List.length_range]
    rw [List.pairwise_iff_getElem]
    intro i j hi hj hij
    rw [List.length_map] at hi hj
    rw [List.getElem_map, List.getElem_map]
    have := hs i j hij (by omega)
    have e1 : ∀ k (hk : k < p.toList.length), at_ p k = p.toList[k] := by
      intro k hk
      have hk' : k < p.size := by rw [Array.length_toList] at hk; exact hk
      unfold at_
      rw [Array.getD_eq_getD_getElem?, Array.getElem?_eq_getElem hk']; rfl
    rw [e1 i hi, e1 j hj] at this
    exact this
def tup2 (r : Int × Int) : AV := .tup [.int r.1, .int r.2]
def le2 (a b : Int × Int) : Prop := a.1 < b.1 ∨ (a.1 = b.1 ∧ a.2 ≤ b.2)
theorem le2_trans {a b c : Int × Int} (h1 : le2 a b) (h2 : le2 b c) : le2 a c := by unfold le2 at *; omega
theorem le2_total (a b : Int × Int) : le2 a b ∨ le2 b a := by unfold le2; omega
theorem le2_anti {a b : Int × Int} (h1 : le2 a b) (h2 : le2 b a) : a = b := by
  unfold le2 at *
  obtain ⟨x, y⟩ := a; obtain ⟨z, w⟩ := b
  simp only [Prod.mk.injEq] at *; omega
theorem toInts_tup {l : List AV} {x : List AV} : toInts (.tup x :: l) = none := by
  unfold toInts asInt
  rfl
theorem toStrs_tup {l : List AV} {x : List AV} : toStrs (.tup x :: l) = none := by
  unfold toStrs asStr
  rfl
theorem view_not {σ : St} {a : AV} {l : List AV} (hv : viewL σ a = some l) (k : Nat) (b : AV) : a ≠ .view k b := by
  rintro rfl
  unfold viewL at hv; cases hv
theorem sortedIF_view {σ : St} {a : AV} {l : List AV} (hv : viewL σ a = some l) : sortedIF [a] [] σ = (match toInts l with
      | some ns => if ns.length < 64 then some (.lst (intsL (isortI ns)), σ) else none
      | none => none) := by
  cases a <;> first | (unfold viewL at hv; cases hv; done) | (unfold sortedIF; simp only [hv] <;> cases toInts l <;> rfl)
theorem sortedSF_view {σ : St} {a : AV} {l : List AV} (hv : viewL σ a = some l) : sortedSF [a] [] σ = (match toStrs l with
      | some ns => if ns.length < 64 then some (.lst (strsL (isortS ns)), σ) else none
      | none => none) := by
  cases a <;> first | (unfold viewL at hv; cases hv; done) | (unfold sortedSF; simp only [hv] <;> cases toStrs l <;> rfl)
/-- `sorted` of rows of two ints -/
theorem sortedA_pairs {σ : St} {a : AV} {rows : List (Int × Int)} (hv : viewL σ a = some (rows.map tup2)) (h64 : rows.length < 64) : ∃ rows' : List (Int × Int), sortedAF [a] [] σ = some (.lst (rows'.map tup2), σ) ∧ rows'.Perm rows ∧ rows'.Pairwise le2 := by
  match rows, hv, h64 with
  | [], hv, _ =>
    refine ⟨[], ?_, .refl _, .nil⟩
    unfold sortedAF orA
    rw [sortedIF_view hv]; rfl
  | [r], hv, _ =>
    refine ⟨[r], ?_, .refl _, by simp⟩
    unfold sortedAF orA
    rw [sortedIF_view hv, sortedSF_view hv]
    simp only [List.map_cons, List.map_nil, tup2, toInts_tup, toStrs_tup]
    unfold sorted1F
    simp only [hv]
    rfl
  | r :: r2 :: rows, hv, h64 =>
    obtain ⟨R, hR⟩ : ∃ R, R = r :: r2 :: rows := ⟨_, rfl⟩
    have hlen : 2 ≤ R.length := by rw [hR]; simp
    rw [← hR] at hv h64 ⊢
    have hcmp : ∀ i j (hi : i < (R.map tup2).length) (hj : j < (R.map tup2).length), ∃ b, cmpT (R.map tup2) i j = some b ∧ (b = true → (∃ x y, (R.map tup2)[i] = tup2 x ∧ (R.map tup2)[j] = tup2 y ∧ le2 x y)) ∧ (b = false → (∃ x y, (R.map tup2)[j] = tup2 x ∧ (R.map tup2)[i] = tup2 y ∧ le2 x y)) := by
      intro i j hi hj
      rw [List.length_map] at hi hj
      have e1 : (R.map tup2)[i]? = some (tup2 R[i]) := by rw [List.getElem?_map, List.getElem?_eq_getElem hi]; rfl
      have e2 : (R.map tup2)[j]? = some (tup2 R[j]) := by rw [List.getElem?_map, List.getElem?_eq_getElem hj]; rfl
      have c : cmpT (R.map tup2) i j = lexA false [(.int R[i].1, .int R[j].1), (.int R[i].2, .int R[j].2)] := by
        unfold cmpT
        rw [e1, e2]; rfl
      rw [List.getElem_map, List.getElem_map]
      rw [c]
      unfold lexA
      by_cases q1 : R[i].1 = R[j].1
      · rw [if_pos q1]
        unfold lexA
        by_cases q2 : R[i].2 = R[j].2
        · rw [if_pos q2]
          refine ⟨false, rfl, fun h => Bool.noConfusion h, fun _ => ⟨_, _, rfl, rfl, ?_⟩⟩
          unfold le2; omega
        · rw [if_neg q2]
          refine ⟨_, rfl, fun h => ⟨_, _, rfl, rfl, ?_⟩, fun h => ⟨_, _, rfl, rfl, ?_⟩⟩
          · have := of_decide_eq_true h; unfold le2; omega
          · have := of_decide_eq_false h; unfold le2; omega
      · rw [if_neg q1]
        refine ⟨_, rfl, fun h => ⟨_, _, rfl, rfl, ?_⟩, fun h => ⟨_, _, rfl, rfl, ?_⟩⟩
        · have := of_decide_eq_true h; unfold le2; omega
        · have := of_decide_eq_false h; unfold le2; omega
    have inj : ∀ x y, tup2 x = tup2 y → x = y := by
      rintro ⟨a, b⟩ ⟨c, d⟩ h
      unfold tup2 at h
      simp only [AV.tup.injEq, List.cons.injEq, AV.int.injEq, and_true] at h
      rw [h.1, h.2]
    obtain ⟨l', e, hp, hs⟩ := sortedT_spec (le := fun a b => a = b ∨ ∃ x y, a = tup2 x ∧ b = tup2 y ∧ le2 x y) hv (by rw [List.length_map]; exact hlen) (by rw [List.length_map]; exact h64) (by rw [List.all_map]; simp [Function.comp, tup2, firstInt])
      (fun _ => .inl rfl) (fun x y z h1 h2 => by
        rcases h1 with rfl | ⟨a, b, rfl, rfl, h⟩
        · exact h2
        · rcases h2 with rfl | ⟨c, d, e1, rfl, h'⟩
          · exact .inr ⟨a, b, rfl, rfl, h⟩
          · rw [inj _ _ e1] at h
            exact .inr ⟨a, d, rfl, rfl, le2_trans h h'⟩) (fun i j hi hj => by
        obtain ⟨b, h1, h2, h3⟩ := hcmp i j hi hj
        exact ⟨b, h1, fun h => .inr (h2 h), fun h => .inr (h3 h)⟩)
    -- back to rows
    have back : ∀ (l' : List AV), (∀ x ∈ l', ∃ r, x = tup2 r) → ∃ rows' : List (Int × Int), l' = rows'.map tup2 := by
      intro l'
      induction l' with
      | nil => intro _; exact ⟨[], rfl⟩
      | cons x l ih =>
        intro h
        obtain ⟨r, rfl⟩ := h x (List.mem_cons_self ..)
        obtain ⟨rs, rfl⟩ := ih fun y hy => h y (List.mem_cons_of_mem _ hy)
        exact ⟨r :: rs, rfl⟩
    obtain ⟨rows', rfl⟩ := back l' (fun x hx => by
      have := hp.mem_iff.mp hx
      obtain ⟨r, _, rfl⟩ := List.mem_map.mp this
      exact ⟨r, rfl⟩)
    refine ⟨rows', ?_, ?_, ?_⟩
    · unfold sortedAF orA
      rw [sortedIF_view hv, sortedSF_view hv]
      have e1 : toInts (R.map tup2) = none := by rw [hR]; exact toInts_tup
      have e2 : toStrs (R.map tup2) = none := by rw [hR]; exact toStrs_tup
      rw [e1, e2]
      have e3 : sorted1F [a] [] σ = none := by
        unfold sorted1F
        simp only [hv]
        rw [if_neg]
        rw [List.length_map]; omega
      rw [e3, e]
    · have hp2 : (rows'.map tup2).Perm (R.map tup2) := hp
      have := hp2.map fun a : AV => match a with
        | .tup [.int x, .int y] => (x, y)
        | _ => (0, 0)
      rw [List.map_map, List.map_map] at this
      have id1 : ∀ l : List (Int × Int), l.map ((fun a : AV => match a with
        | .tup [.int x, .int y] => (x, y)
        | _ => (0, 0)) ∘ tup2) = l := fun l => by
        rw [List.map_congr_left (g := id)]
        · simp
        · rintro ⟨x, y⟩ _; rfl
      rwa [id1, id1] at this
    · rw [List.pairwise_map] at hs
      refine hs.imp fun {x y} h => ?_
      rcases h with h | ⟨a, b, h1, h2, h3⟩
      · rw [inj _ _ h]; unfold le2; omega
      · rw [inj _ _ h1, inj _ _ h2]; exact h3
theorem sortedA_strs_view {fs : List Frm} {st : Hd → Option AO} {cnt : Nat} {h : Hd} {l : List (Str × AV)} {Q : AV → St → Prop} (e : st h = some (.dictS l)) (hl : l.length < 64) : Wp (sortedAF [.view 0 (.ref h)] []) Q ⟨fs, st, cnt⟩ = Q (.lst (strsL (isortS (l.map (·.1))))) ⟨fs, st, cnt⟩ := by
  apply propext; refine wp_of ?_
  unfold sortedAF orA
  have e1 : sortedIF [.view 0 (.ref h)] [] ⟨fs, st, cnt⟩ = none := by
    show (match st h with
      | some (.dictI l) => if l.length < 64 then some (AV.lst (intsL (isortI (l.map (fun p : Int × AV => p.1)))), (⟨fs, st, cnt⟩ : St)) else none
      | _ => none) = _
    rw [e]
  have e2 : sortedSF [.view 0 (.ref h)] [] ⟨fs, st, cnt⟩ = some (.lst (strsL (isortS (l.map (·.1)))), ⟨fs, st, cnt⟩) := by
    show (match st h with
      | some (.dictS l) => if l.length < 64 then some (AV.lst (strsL (isortS (l.map (fun p : Str × AV => p.1)))), (⟨fs, st, cnt⟩ : St)) else none
      | _ => none) = _
    rw [e]
    exact if_pos hl
  rw [e1, e2]
end Mine
end

section
open PySem PySem.W PySem.Calls PyProof.Rows
set_option Elab.async false
set_option maxRecDepth 20000
set_option linter.unusedVariables false
set_option linter.unusedSectionVars false
set_option linter.unusedSimpArgs false
namespace Mine
/-! names of nodes -/
def nmS (k : Nat) : Str := Str.ofString (toString (k : Int))
def tKey (k : Nat) : Str := nmS k ++ Str.ofString "-0"
theorem nodup_get {α : Type} {f : Nat → α} {n : Nat} (h : ((List.range n).map f).Nodup) {i j : Nat} (hi : i < n) (hj : j < n) (e : f i = f j) : i = j :=
  nodup_map_inj h (List.mem_range.mpr hi) (List.mem_range.mpr hj) e
theorem nmS_nodup : ((List.range 40).map nmS).Nodup := by decide +kernel
theorem tKey_nodup : ((List.range 40).map tKey).Nodup := by decide +kernel
theorem nmS_inj {i j : Nat} (hi : i < 40) (hj : j < 40) (e : nmS i = nmS j) : i = j := nodup_get nmS_nodup hi hj e
theorem tKey_inj {i j : Nat} (hi : i < 40) (hj : j < 40) (e : tKey i = tKey j) : i = j := nodup_get tKey_nodup hi hj e
theorem nmS_len : ∀ k : Nat, k < 40 → (nmS k).length ≤ 2 := by decide +kernel
theorem nmS_ok : ∀ k : Nat, k < 40 → PyData.strOk (nmS k) = true := by decide +kernel
theorem strF_nat {k : Nat} (h : k < 1000) : strF [.int (k : Int)] [] = M.pure (.str (nmS k)) := str_int (small_of (by omega) (by omega))
/-- a table of points, one for each node -/
def tabL (f : Nat → Int) (n : Nat) : List (Str × AV) := (List.range n).map fun k => (tKey k, .int (f k))
theorem tabL_look {f : Nat → Int} {n k : Nat} (hn : n ≤ 40) (hk : k < n) : look (tabL f n) (tKey k) = some (.int (f k)) := by
  refine look_of_mem ?_ (List.mem_map.mpr ⟨k, List.mem_range.mpr hk, rfl⟩)
  unfold tabL
  rw [List.map_map]
  have h := tKey_nodup
  have e : List.range 40 = List.range n ++ (List.range (40 - n)).map (n + ·) := by
    rw [← List.range_add, Nat.add_sub_of_le hn]
  rw [e, List.map_append, List.nodup_append] at h
  exact h.1
theorem tabL_new {f : Nat → Int} {n : Nat} (hn : n < 40) : look (tabL f n) (tKey n) = none := by
  rw [look_none]
  intro p hp e
  obtain ⟨k, hk, rfl⟩ := List.mem_map.mp hp
  have hk := List.mem_range.mp hk
  have := tKey_inj (by omega) hn e
  omega
theorem tabL_succ {f : Nat → Int} {n : Nat} (hn : n < 40) : put (tabL f n) (tKey n) (.int (f n)) = tabL f (n + 1) := by
  rw [put_new (tabL_new hn)]
  unfold tabL
  rw [List.range_succ, List.map_append]; rfl
theorem tabL_len {f : Nat → Int} {n : Nat} : (tabL f n).length = n := by unfold tabL; simp
theorem cat_key {k : Nat} (hk : k < 40) : arA .Add (.str (nmS k)) (.str (Str.ofString "-0")) = M.pure (.str (tKey k)) := ar_cat (by
  have := nmS_len k hk
  have h2 : (Str.ofString "-0").length = 2 := by decide +kernel
  rw [h2]; omega)
theorem len1 {fr : Frm} (h : fr.length = 1) : ∃ a, fr = [a] := by
  match fr, h with
  | [a], _ => exact ⟨a, rfl⟩
theorem len2 {fr : Frm} (h : fr.length = 2) : ∃ a b, fr = [a, b] := by
  match fr, h with
  | [a, b], _ => exact ⟨a, b, rfl⟩
theorem len3 {fr : Frm} (h : fr.length = 3) : ∃ a b c, fr = [a, b, c] := by
  match fr, h with
  | [a, b, c], _ => exact ⟨a, b, c, rfl⟩
theorem len4 {fr : Frm} (h : fr.length = 4) : ∃ a b c d, fr = [a, b, c, d] := by
  match fr, h with
  | [a, b, c, d], _ => exact ⟨a, b, c, d, rfl⟩
theorem ptKey_eq : ∀ k : Nat, k < 40 → ptKey (nmS k) 0 = tKey k := by decide +kernel
end Mine
end

section
open PySem PySem.W PySem.Calls PyProof.Rows
set_option Elab.async false
set_option maxRecDepth 20000
set_option linter.unusedVariables false
set_option linter.unusedSectionVars false
set_option linter.unusedSimpArgs false
namespace Mine
section
variable {σ : St} {Q : AV → St → Prop}
theorem wp_slice {lo hi : Option Int} {l : List AV} (h : l.length ≤ 2 ^ 20) : Wp (sliceF lo hi (.lst l)) Q σ = Q (.lst (sliceA lo hi l)) σ := by
  apply propext; refine wp_of ?_
  unfold sliceF viewL
  simp only [h, if_true]
theorem sliceA_take (k : Nat) (l : List AV) : sliceA none (some (k : Int)) l = l.take k := by
  unfold sliceA clipN
  simp only [Option.elim, List.drop_zero, Nat.sub_zero]
  rw [if_neg (by omega)]
  rcases Nat.le_total k l.length with h | h
  · congr 1; omega
  · rw [List.take_of_length_le h, List.take_of_length_le]; omega
theorem sliceA_drop (k : Nat) (l : List AV) : sliceA (some (k : Int)) none l = l.drop k := by
  unfold sliceA clipN
  simp only [Option.elim]
  rw [if_neg (by omega)]
  rcases Nat.le_total k l.length with h | h
  · have : (max 0 (min (k : Int) l.length)).toNat = k := by omega
    rw [this, List.take_of_length_le]
    rw [List.length_drop]; omega
  · rw [List.drop_of_length_le h, List.drop_of_length_le (by omega)]; simp
theorem sliceA_mid (a b : Nat) (l : List AV) : sliceA (some (a : Int)) (some (b : Int)) l = (l.drop a).take (b - a) := by
  unfold sliceA clipN
  simp only [Option.elim]
  rw [if_neg (by omega), if_neg (by omega)]
  have e1 : (max 0 (min (a : Int) l.length)).toNat = min a l.length := by omega
  have e2 : (max 0 (min (b : Int) l.length)).toNat = min b l.length := by omega
  rw [e1, e2]
  rcases Nat.le_total a l.length with h | h
  · rw [Nat.min_eq_left h]
    rcases Nat.le_total b l.length with h' | h'
    · rw [Nat.min_eq_left h']
    · rw [Nat.min_eq_right h', List.take_of_length_le (l := l.drop a) (i := b - a) (by rw [List.length_drop]; omega), List.take_of_length_le]
      rw [List.length_drop]; omega
  · rw [Nat.min_eq_right h, List.drop_of_length_le (Nat.le_refl _), List.drop_of_length_le h]; simp
theorem wp_rev {l : List AV} (h : l.length ≤ 2 ^ 20) : Wp (revF (.lst l)) Q σ = Q (.lst l.reverse) σ := by
  apply propext; refine wp_of ?_
  unfold revF viewL
  simp only [h, if_true]
theorem viewL_list {fs : List Frm} {st : Hd → Option AO} {cnt : Nat} {h : Hd} {l : List AV} (e : st h = some (.list l)) : viewL ⟨fs, st, cnt⟩ (.ref h) = some l := by
  unfold viewL
  simp only [e]
theorem filterMap_if {α : Type} {f : α → AV} {g : AV → Option AV} {c : α → Bool} {l : List α} (h : ∀ x ∈ l, g (f x) = if c x = true then some (f x) else none) : (l.map f).filterMap g = (l.filter c).map f := by
  induction l with
  | nil => rfl
  | cons a l ih =>
    have ha := h a (List.mem_cons_self ..)
    have ih := ih fun x hx => h x (List.mem_cons_of_mem _ hx)
    rw [List.map_cons]
    by_cases hc : c a = true
    · rw [if_pos hc] at ha
      rw [List.filterMap_cons_some ha, ih, List.filter_cons, if_pos hc, List.map_cons]
    · rw [if_neg hc] at ha
      rw [List.filterMap_cons_none ha, ih, List.filter_cons, if_neg hc]
theorem filterMap_map {α : Type} {f : α → AV} {g : AV → Option AV} {f' : α → AV} {l : List α} (h : ∀ x ∈ l, g (f x) = some (f' x)) : (l.map f).filterMap g = l.map f' := by
  induction l with
  | nil => rfl
  | cons a l ih =>
    rw [List.map_cons, List.filterMap_cons_some (h a (List.mem_cons_self ..)), ih fun x hx => h x (List.mem_cons_of_mem _ hx), List.map_cons]
theorem filterMap_filter {α : Type} {f : α → AV} {g : AV → Option AV} {f' : α → AV} {c : α → Bool} {l : List α} (h : ∀ x ∈ l, g (f x) = if c x = true then some (f' x) else none) : (l.map f).filterMap g = (l.filter c).map f' := by
  induction l with
  | nil => rfl
  | cons a l ih =>
    have ha := h a (List.mem_cons_self ..)
    have ih := ih fun x hx => h x (List.mem_cons_of_mem _ hx)
    rw [List.map_cons]
    by_cases hc : c a = true
    · rw [if_pos hc] at ha
      rw [List.filterMap_cons_some ha, ih, List.filter_cons, if_pos hc, List.map_cons]
    · rw [if_neg hc] at ha
      rw [List.filterMap_cons_none ha, ih, List.filter_cons, if_neg hc]
theorem take_filter_map {α β : Type} {f : α → β} {l : List α} {k : Nat} : (l.map f).take k = (l.take k).map f := List.map_take.symm
/-- whole lists of names, alike or not -/
theorem toDs_strsL : ∀ l : List Str, toDs (strsL l) = some (l.map .str)
  | [] => rfl
  | x :: l => by
    show (match toD (.str x), toDs (strsL l) with
      | some d, some ds => some (d :: ds)
      | _, _ => none) = _
    rw [toDs_strsL l]; rfl
theorem eqvAll_strs : ∀ a b : List Str, PyData.eqvAll (a.map .str) (b.map .str) = decide (a = b)
  | [], [] => by simp [PyData.eqvAll]
  | [], _ :: _ => by simp [PyData.eqvAll]
  | _ :: _, [] => by simp [PyData.eqvAll]
  | x :: a, y :: b => by
    rw [List.map_cons, List.map_cons, PyData.eqvAll, eqvAll_strs a b, PyData.eqv]
    by_cases h1 : x = y <;> by_cases h2 : a = b <;> simp [h1, h2]
theorem canLay_strs : ∀ l : List Str, (∀ x ∈ l, PyData.strOk x = true) → PyData.canLayAll0 (l.map .str) = true
  | [], _ => by simp [PyData.canLayAll0]
  | x :: l, h => by
    rw [List.map_cons, PyData.canLayAll0, canLay_strs l fun y hy => h y (List.mem_cons_of_mem _ hy), PyData.canLay0, h x (List.mem_cons_self ..)]; rfl
theorem depth_strs : ∀ l : List Str, PyData.depthAll (l.map .str) = 0
  | [] => rfl
  | x :: l => by rw [List.map_cons, PyData.depthAll, depth_strs l]; rfl
theorem dOk_strs {l : List Str} (h : ∀ x ∈ l, PyData.strOk x = true) : dOk (.list (l.map .str)) = true := by
  unfold dOk
  rw [PyData.canLay0, canLay_strs l h, PyData.depth, depth_strs]; rfl
theorem viewD_strs {l : List Str} : viewD σ (.lst (strsL l)) = some (.list (l.map .str)) := by
  unfold viewD viewL
  simp only [toDs_strsL]; rfl
theorem wp_ne_strs {a b : List Str} (ha : ∀ x ∈ a, PyData.strOk x = true) (hb : ∀ x ∈ b, PyData.strOk x = true) : Wp (neA (.lst (strsL a)) (.lst (strsL b))) Q σ = Q (.bool (!decide (a = b))) σ := by
  rw [wp_neA viewD_strs viewD_strs (dOk_strs ha) (dOk_strs hb), PyData.eqv, eqvAll_strs]
theorem toDs_intsL : ∀ l : List Int, toDs (intsL l) = some (l.map .int)
  | [] => rfl
  | x :: l => by
    show (match toD (.int x), toDs (intsL l) with
      | some d, some ds => some (d :: ds)
      | _, _ => none) = _
    rw [toDs_intsL l]; rfl
theorem eqvAll_ints : ∀ a b : List Int, PyData.eqvAll (a.map .int) (b.map .int) = decide (a = b)
  | [], [] => by simp [PyData.eqvAll]
  | [], _ :: _ => by simp [PyData.eqvAll]
  | _ :: _, [] => by simp [PyData.eqvAll]
  | x :: a, y :: b => by
    rw [List.map_cons, List.map_cons, PyData.eqvAll, eqvAll_ints a b, PyData.eqv]
    by_cases h1 : x = y <;> by_cases h2 : a = b <;> simp [h1, h2]
theorem canLay_ints : ∀ l : List Int, PyData.canLayAll0 (l.map .int) = true
  | [] => by simp [PyData.canLayAll0]
  | x :: l => by rw [List.map_cons, PyData.canLayAll0, canLay_ints l, PyData.canLay0]; rfl
theorem depth_ints : ∀ l : List Int, PyData.depthAll (l.map .int) = 0
  | [] => rfl
  | x :: l => by rw [List.map_cons, PyData.depthAll, depth_ints l]; rfl
theorem dOk_ints {l : List Int} : dOk (.list (l.map .int)) = true := by
  unfold dOk
  rw [PyData.canLay0, canLay_ints l, PyData.depth, depth_ints]; rfl
theorem viewD_ints {l : List Int} : viewD σ (.lst (intsL l)) = some (.list (l.map .int)) := by
  unfold viewD viewL
  simp only [toDs_intsL]; rfl
theorem wp_ne_ints {a b : List Int} : Wp (neA (.lst (intsL a)) (.lst (intsL b))) Q σ = Q (.bool (!decide (a = b))) σ := by
  rw [wp_neA viewD_ints viewD_ints dOk_ints dOk_ints, PyData.eqv, eqvAll_ints]
end
theorem asc_len_from {n : Nat} : ∀ {l : List Nat} {m : Nat}, l.Pairwise (· < ·) → (∀ x ∈ l, m ≤ x ∧ x < n) → l.length ≤ n - m
  | [], m, _, _ => Nat.zero_le _
  | a :: l, m, hs, h => by
    rw [List.pairwise_cons] at hs
    have ha := h a (List.mem_cons_self ..)
    have := asc_len_from (n := n) (m := a + 1) hs.2 fun x hx => ⟨hs.1 x hx, (h x (List.mem_cons_of_mem _ hx)).2⟩
    rw [List.length_cons]; omega
theorem asc_len {n : Nat} {l : List Nat} (hs : l.Pairwise (· < ·)) (h : ∀ x ∈ l, x < n) : l.length ≤ n := asc_len_from (m := 0) hs fun x hx => ⟨Nat.zero_le _, h x hx⟩
theorem filter_single {α : Type} [DecidableEq α] {a : α} : ∀ {l : List α}, l.Nodup → a ∈ l → l.filter (fun x => decide (x = a)) = [a]
  | [], _, h => by cases h
  | b :: l, nd, h => by
    rw [List.nodup_cons] at nd
    rw [List.filter_cons]
    by_cases hb : b = a
    · subst hb
      rw [if_pos (by simp)]
      congr 1
      rw [List.filter_eq_nil_iff]
      intro x hx
      simp only [decide_eq_true_eq]
      intro e
      subst e; exact absurd hx nd.1
    · rw [if_neg (by simp [hb])]
      rcases List.mem_cons.mp h with e | e
      · exact absurd e.symm hb
      · exact filter_single nd.2 e
theorem ne_ints_nil {σ : St} {Q : AV → St → Prop} {l : List Int} : Wp (neA (.lst (intsL l)) (.lst [])) Q σ = Q (.bool (!decide (l = []))) σ := wp_ne_ints (b := [])
theorem ne_nil_nil {σ : St} {Q : AV → St → Prop} : Wp (neA (.lst []) (.lst [])) Q σ = Q (.bool false) σ := wp_ne_ints (a := []) (b := [])
theorem ne_one_nil {σ : St} {Q : AV → St → Prop} {i : Int} : Wp (neA (.lst [.int i]) (.lst [])) Q σ = Q (.bool true) σ := (wp_ne_ints (a := [i]) (b := [])).trans (by simp)
theorem atL_0 {a : AV} {l : List AV} (h : l.length < 2 ^ 40) : atL (a :: l) 0 = some a := by
  unfold atL idxN
  rw [if_pos (by decide), if_pos ⟨by rw [List.length_cons]; omega, by rw [List.length_cons]; omega⟩]
  rfl
theorem one0 {a : AV} : atL [a] 0 = some a := atL_0 (by simp)
theorem two0 {a b : AV} : atL [a, b] 0 = some a := atL_0 (by simp)
theorem two1 {a b : AV} : atL [a, b] 1 = some b := by
  unfold atL idxN
  rw [if_pos (by decide), if_pos ⟨by show (1 : Int) < 2; decide, by show 2 ≤ 2 ^ 40; decide⟩]
  rfl
theorem enumL_eq : ∀ (l : List AV) (i : Nat), enumL i l = (List.range l.length).map fun k => .tup [.int ((i + k : Nat) : Int), l.getD k .none]
  | [], i => rfl
  | a :: l, i => by
    show AV.tup [.int (i : Int), a] :: enumL (i + 1) l = _
    rw [enumL_eq l (i + 1), List.length_cons, List.range_succ_eq_map, List.map_cons, List.map_map]
    congr 1
    refine List.map_congr_left fun k _ => ?_
    dsimp only [Function.comp]
    rw [show i + 1 + k = i + (k + 1) by omega]; rfl
theorem enumL_rows {α : Type} (f : α → AV) (l : List α) (d : α) : enumL 0 (l.map f) = (List.range l.length).map fun k => .tup [.int (k : Int), f (l.getD k d)] := by
  rw [enumL_eq, List.length_map]
  refine List.map_congr_left fun k hk => ?_
  have hk := List.mem_range.mp hk
  rw [Nat.zero_add, List.getD_eq_getElem?_getD, List.getD_eq_getElem?_getD, List.getElem?_map, List.getElem?_eq_getElem hk]; rfl
/-- the items whose numbers pass a test -/
theorem sub_by {α : Type} (l : List α) (d : α) (c : Nat → Bool) : (((List.range l.length).filter c).map fun k => l.getD k d).Sublist l := by
  have h : ((List.range l.length).map fun k => l.getD k d) = l := by
    apply List.ext_getElem
    · simp
    · intro i h1 h2
      rw [List.getElem_map, List.getElem_range, List.getD_eq_getElem?_getD, List.getElem?_eq_getElem h2]; rfl
  have := (List.filter_sublist (p := c) (l := List.range l.length)).map fun k => l.getD k d
  rwa [h] at this
theorem sortedS_asc {l : List Str} (h : l.Pairwise (fun a b => leS a b = true)) : isortS l = l := (sortedS_unique (.refl _) h).symm
theorem len_mapF {α β : Type} {f : α → β} {l : List α} : (l.map f).length = l.length := List.length_map ..
end Mine
end

section
open PySem PySem.W PySem.Calls PyProof.Rows
set_option Elab.async false
set_option maxRecDepth 20000
set_option linter.unusedVariables false
set_option linter.unusedSectionVars false
set_option linter.unusedSimpArgs false
namespace Mine
section
variable {σ : St} {fs : List Frm} {f : Frm} {st : Hd → Option AO} {cnt : Nat} {Q : AV → St → Prop}
theorem wp_ldv2 {i : Nat} {g h : Frm} : Wp (ldv 2 i) Q ⟨f :: g :: h :: fs, st, cnt⟩ = ∃ v, h[i]? = some (some v) ∧ Q v ⟨f :: g :: h :: fs, st, cnt⟩ := by
  apply propext
  simp only [Wp_eq]; unfold Wp0 ldv
  simp only [List.getElem?_cons_zero, List.getElem?_cons_succ]
  cases h : h[i]? with
  | none => simp
  | some o => cases o <;> simp
theorem wp_count {ns : List Int} {k : Int} : Wp (countF (.lst (intsL ns)) [.int k]) Q σ = Q (.int ((ns.count k : Nat) : Int)) σ := by
  apply propext; refine wp_of ?_
  unfold countF viewL
  simp only [toInts_intsL]
theorem wp_max {ns : List Int} (h : ns ≠ []) : Wp (maxF [.lst (intsL ns)] []) Q σ = Q (.int (maxI ns)) σ := by
  apply propext; refine wp_of ?_
  unfold maxF viewL
  simp only [toInts_intsL]
  rw [if_pos h]
theorem wp_min {ns : List Int} (h : ns ≠ []) : Wp (minF [.lst (intsL ns)] []) Q σ = Q (.int (minI ns)) σ := by
  apply propext; refine wp_of ?_
  unfold minF viewL
  simp only [toInts_intsL]
  rw [if_pos h]
theorem wp_sum {ns : List Int} : Wp (sumF [.lst (intsL ns)] []) Q σ = Q (.int (sumI ns)) σ := by
  apply propext; refine wp_of ?_
  unfold sumF viewL
  simp only [toInts_intsL]
theorem wp_sumR {h : Hd} {ns : List Int} (e : st h = some (.list (intsL ns))) : Wp (sumF [.ref h] []) Q ⟨fs, st, cnt⟩ = Q (.int (sumI ns)) ⟨fs, st, cnt⟩ := by
  apply propext; refine wp_of ?_
  unfold sumF viewL
  simp only [e, toInts_intsL]
theorem wp_getLA {h : Hd} {i : Int} : Wp (getLA (.ref h) (.int i)) Q ⟨fs, st, cnt⟩ = ∃ l, st h = some (.list l) ∧ ∃ v, atL l i = some v ∧ Q v ⟨fs, st, cnt⟩ := by
  apply propext
  simp only [Wp_eq]; unfold Wp0 getLA
  dsimp only
  cases hl : st h with
  | none => simp
  | some o =>
    cases o <;> simp
    rename_i l
    cases h : atL l i <;> simp
theorem wp_setLA {h : Hd} {i : Int} {v : AV} {Q : Unit → St → Prop} : Wp (setLA (.ref h) (.int i) v) Q ⟨fs, st, cnt⟩ = ∃ l, st h = some (.list l) ∧ (0 ≤ i ∧ i < l.length ∧ l.length ≤ 2 ^ 20) ∧ Q () ⟨fs, upd st h (.list (l.set i.toNat v)), cnt⟩ := by
  apply propext
  simp only [Wp_eq]; unfold Wp0 setLA
  dsimp only
  cases hl : st h with
  | none => simp
  | some o =>
    cases o <;> simp
    rename_i l
    by_cases h : 0 ≤ i ∧ i < (l.length : Int) ∧ l.length ≤ 1048576
    · simp [h]
      exact Iff.rfl
    · simp only [h, if_false, false_and]
theorem atL_nat {l : List AV} {k : Nat} (h : k < l.length) (hl : l.length ≤ 2 ^ 40) : atL l (k : Int) = some l[k] := by
  unfold atL idxN
  rw [if_pos (by omega), if_pos ⟨by omega, hl⟩]
  dsimp only
  rw [Int.toNat_natCast, List.getElem?_eq_getElem h]
theorem atL_last {l : List AV} (h : 0 < l.length) (hl : l.length ≤ 2 ^ 40) : atL l (-1) = some (l[l.length - 1]'(by omega)) := by
  unfold atL idxN
  rw [if_neg (by omega), if_pos ⟨by omega, hl⟩]
  dsimp only
  have : (-1 + (l.length : Int)).toNat = l.length - 1 := by omega
  rw [this, List.getElem?_eq_getElem]
theorem sumI_append : ∀ a b : List Int, sumI (a ++ b) = sumI a + sumI b
  | [], b => by show sumI b = 0 + sumI b; omega
  | x :: a, b => by
    show x + sumI (a ++ b) = x + sumI a + sumI b
    rw [sumI_append a b]; omega
theorem map_range_set {α : Type} {f : Nat → α} {n k : Nat} {v : α} : ((List.range n).map f).set k v = (List.range n).map fun i => if i = k then v else f i := by
  apply List.ext_getElem
  · simp
  · intro i h1 h2
    rw [List.getElem_map, List.getElem_range, List.getElem_set]
    by_cases h : k = i
    · rw [if_pos h, if_pos h.symm]
    · rw [if_neg h, if_neg (Ne.symm h), List.getElem_map, List.getElem_range]
end
end Mine
end

section
open PySem PySem.W PySem.Calls PyProof.Rows
set_option Elab.async false
set_option maxRecDepth 20000
set_option linter.unusedVariables false
namespace Mine
/-! law 05 as plain mathematics: Knuth's parking round a ring, with rooms -/
def Sm (n : Nat) (f : Nat → Int) : Int := sumI ((List.range n).map f)
theorem Sm_succ (n : Nat) (f : Nat → Int) : Sm (n + 1) f = Sm n f + f n := by
  unfold Sm
  rw [List.range_succ, List.map_append, sumI_append]
  show _ = _
  simp [sumI]
theorem Sm_add (n : Nat) (f g : Nat → Int) : Sm n (fun i => f i + g i) = Sm n f + Sm n g := by
  induction n with
  | zero => rfl
  | succ n ih => rw [Sm_succ, Sm_succ, Sm_succ, ih]; omega
theorem Sm_le (n : Nat) {f g : Nat → Int} (h : ∀ i, i < n → f i ≤ g i) : Sm n f ≤ Sm n g := by
  induction n with
  | zero => exact Int.le_refl _
  | succ n ih =>
    rw [Sm_succ, Sm_succ]
    have := ih fun i hi => h i (by omega)
    have := h n (by omega)
    omega
theorem Sm_congr (n : Nat) {f g : Nat → Int} (h : ∀ i, i < n → f i = g i) : Sm n f = Sm n g := by
  unfold Sm
  congr 1
  exact List.map_congr_left fun i hi => h i (List.mem_range.mp hi)
def ind (b : Bool) : Int := if b then 1 else 0
theorem Sm_one (n y : Nat) (hy : y < n) : Sm n (fun i => ind (decide (i = y))) = 1 := by
  induction n with
  | zero => omega
  | succ n ih =>
    rw [Sm_succ]
    by_cases h : y = n
    · subst h
      have : Sm y (fun i => ind (decide (i = y))) = 0 := by
        have : ∀ m, m ≤ y → Sm m (fun i => ind (decide (i = y))) = 0 := by
          intro m
          induction m with
          | zero => intro _; rfl
          | succ m ih =>
            intro hm
            rw [Sm_succ, ih (by omega)]
            simp [ind]; omega
        exact this y (Nat.le_refl _)
      rw [this]; simp [ind]
    · rw [ih (by omega)]
      have : ¬ n = y := fun e => h e.symm
      simp [ind, this]
theorem Sm_dist : ∀ n, n < 7 → ∀ x, x < n → ∀ t, t < n → Sm n (fun i => ind (decide ((i + n - x) % n < t))) = t := by decide +kernel
structure PInv (n : Nat) (r c l p : Nat → Int) (way : Int) : Prop where
  flow : ∀ i, i < n → l i = c i + p ((i + n - 1) % n) - p i
  cap : ∀ i, i < n → l i ≤ r i
  pos : ∀ i, i < n → 0 ≤ p i
  full : ∀ i, i < n → 0 < p i → l i = r i
  way : way = Sm n p
theorem park_step {n : Nat} (hn : n < 7) {r c l p : Nat → Int} {way : Int} (h : PInv n r c l p way) {x t : Nat} (hx : x < n) (ht : t < n) (hf : ∀ b, b < t → l ((x + b) % n) = r ((x + b) % n)) (hy : l ((x + t) % n) < r ((x + t) % n)) :
    ∃ p', PInv n r (fun i => c i + ind (decide (i = x))) (fun i => l i + ind (decide (i = (x + t) % n))) p' (way + t) := by
  have hy' : (x + t) % n < n := Nat.mod_lt _ (by omega)
  -- the way from x to i
  have hd : ∀ i, i < n → (i + n - x) % n = if x ≤ i then i - x else i + n - x := by
    intro i hi
    split
    · rename_i h
      rw [show i + n - x = i - x + n by omega, Nat.add_mod_right, Nat.mod_eq_of_lt (by omega)]
    · exact Nat.mod_eq_of_lt (by omega)
  have hpr : ∀ i, i < n → (i + n - 1) % n = if i = 0 then n - 1 else i - 1 := by
    intro i hi
    split
    · rename_i h; subst h; rw [Nat.zero_add]; exact Nat.mod_eq_of_lt (by omega)
    · rw [show i + n - 1 = i - 1 + n by omega, Nat.add_mod_right, Nat.mod_eq_of_lt (by omega)]
  have hxt : (x + t) % n = if x + t < n then x + t else x + t - n := by
    split
    · exact Nat.mod_eq_of_lt (by assumption)
    · rw [Nat.mod_eq_sub_mod (by omega), Nat.mod_eq_of_lt (by omega)]
  have back : ∀ i, i < n → (i + n - x) % n < t → l i = r i ∧ i ≠ (x + t) % n := by
    intro i hi hlt
    have e : (x + (i + n - x) % n) % n = i := by
      rw [hd i hi]
      split
      · rw [show x + (i - x) = i by omega, Nat.mod_eq_of_lt hi]
      · rw [show x + (i + n - x) = i + n by omega, Nat.add_mod_right, Nat.mod_eq_of_lt hi]
    have := hf _ hlt
    rw [e] at this
    refine ⟨this, ?_⟩
    rintro rfl; omega
  refine ⟨fun i => p i + ind (decide ((i + n - x) % n < t)), ?_, ?_, ?_, ?_, ?_⟩
  · intro i hi
    have h1 := h.flow i hi
    try dsimp only
    have hpl : (i + n - 1) % n < n := Nat.mod_lt _ (by omega)
    rw [h1]
    have key : ind (decide (i = (x + t) % n)) = ind (decide (i = x)) + ind (decide (((i + n - 1) % n + n - x) % n < t)) - ind (decide ((i + n - x) % n < t)) := by
      rw [hd i hi, hd _ hpl, hpr i hi, hxt]
      unfold ind
      simp only [decide_eq_true_eq]
      repeat' split
      all_goals omega
    rw [key]; omega
  · intro i hi
    try dsimp only
    have := h.cap i hi
    by_cases e : i = (x + t) % n
    · subst e; simp [ind]; omega
    · simp [ind, e]; exact this
  · intro i hi
    have := h.pos i hi
    try dsimp only
    unfold ind; split <;> omega
  · intro i hi hp
    try dsimp only at hp ⊢
    by_cases hlt : (i + n - x) % n < t
    · obtain ⟨a, b⟩ := back i hi hlt
      simp [ind, b, a]
    · have hp' : 0 < p i := by simpa [ind, hlt] using hp
      have := h.full i hi hp'
      have hne : i ≠ (x + t) % n := by rintro rfl; omega
      simp [ind, hne, this]
  · rw [h.way, Sm_add, Sm_dist n hn x hx t ht]
/-- the greatest surplus of an arc that ends with i -/
def ix (n i b : Nat) : Nat := (i + n - b) % n
def arc (n : Nat) (s : Nat → Int) (i L : Nat) : Int := Sm L fun b => s (ix n i b)
def most (n : Nat) (s : Nat → Int) (i : Nat) : Int := maxI ((List.range (n + 1)).map fun L => arc n s i L)
theorem park_end {n : Nat} (hn : 0 < n) {r c l p : Nat → Int} {way : Int} (h : PInv n r c l p way) (hlt : Sm n l < Sm n r) : ∀ i, i < n → p i = most n (fun j => c j - r j) i := by
  intro i hi
  have hix : ∀ b, ix n i b < n := fun b => Nat.mod_lt _ hn
  have hpr : ∀ b, b < n → (ix n i b + n - 1) % n = ix n i (b + 1) := by
    intro b hb
    unfold ix
    have e1 : (i + n - b) % n = if b ≤ i then i - b else i + n - b := by
      split
      · rw [show i + n - b = i - b + n by omega, Nat.add_mod_right, Nat.mod_eq_of_lt (by omega)]
      · exact Nat.mod_eq_of_lt (by omega)
    have e2 : (i + n - (b + 1)) % n = if b + 1 ≤ i then i - (b + 1) else i + n - (b + 1) := by
      split
      · rw [show i + n - (b + 1) = i - (b + 1) + n by omega, Nat.add_mod_right, Nat.mod_eq_of_lt (by omega)]
      · exact Nat.mod_eq_of_lt (by omega)
    rw [e1, e2]
    repeat' split
    · rw [show i - b + n - 1 = i - (b + 1) + n by omega, Nat.add_mod_right, Nat.mod_eq_of_lt (by omega)]
    · have : i = b := by omega
      subst this
      rw [show i - i + n - 1 = n - 1 by omega, show i + n - (i + 1) = n - 1 by omega]; exact Nat.mod_eq_of_lt (by omega)
    · omega
    · rw [show i + n - b + n - 1 = i + n - (b + 1) + n by omega, Nat.add_mod_right, Nat.mod_eq_of_lt (by omega)]
  have ge : ∀ b, b < n → p (ix n i (b + 1)) + (c (ix n i b) - r (ix n i b)) ≤ p (ix n i b) := by
    intro b hb
    have h1 := h.flow _ (hix b)
    have h2 := h.cap _ (hix b)
    rw [hpr b hb] at h1
    omega
  have eq : ∀ b, b < n → 0 < p (ix n i b) → p (ix n i (b + 1)) + (c (ix n i b) - r (ix n i b)) = p (ix n i b) := by
    intro b hb hp
    have h1 := h.flow _ (hix b)
    have h2 := h.full _ (hix b) hp
    rw [hpr b hb] at h1
    omega
  have i0 : ix n i 0 = i := by
    unfold ix
    rw [Nat.sub_zero, Nat.add_mod_right, Nat.mod_eq_of_lt hi]
  have A : ∀ L, L ≤ n → arc n (fun j => c j - r j) i L + p (ix n i L) ≤ p i := by
    intro L
    induction L with
    | zero => intro _; rw [i0]; show 0 + p i ≤ p i; omega
    | succ L ih =>
      intro hL
      have h1 := ih (by omega)
      have h2 := ge L (by omega)
      unfold arc at h1 ⊢
      rw [Sm_succ]; dsimp only at h1 h2 ⊢; omega
  -- some node has room
  have hroom : ∃ L, L < n ∧ p (ix n i L) = 0 := by
    refine Classical.byContradiction fun hno => ?_
    have hall : ∀ j, j < n → l j = r j := by
      intro j hj
      have hb : ∃ b, b < n ∧ ix n i b = j := by
        refine ⟨(i + n - j) % n, Nat.mod_lt _ hn, ?_⟩
        unfold ix
        by_cases hji : j ≤ i
        · rw [show i + n - j = i - j + n by omega, Nat.add_mod_right, Nat.mod_eq_of_lt (a := i - j) (by omega), show i + n - (i - j) = j + n by omega, Nat.add_mod_right, Nat.mod_eq_of_lt hj]
        · rw [Nat.mod_eq_of_lt (a := i + n - j) (by omega), show i + n - (i + n - j) = j by omega, Nat.mod_eq_of_lt hj]
      obtain ⟨b, hb1, hb2⟩ := hb
      refine h.full j hj ?_
      have := h.pos j hj
      rcases Int.lt_or_eq_of_le this with q | q
      · exact q
      · exact absurd ⟨b, hb1, by rw [hb2]; exact q.symm⟩ hno
    have := Sm_congr n hall
    omega
  have B : ∃ L, L ≤ n ∧ p i = arc n (fun j => c j - r j) i L := by
    have main : ∀ d L, L + d = n → (∃ b, L ≤ b ∧ b < n ∧ p (ix n i b) = 0) → p i = arc n (fun j => c j - r j) i L + p (ix n i L) → ∃ L, L ≤ n ∧ p i = arc n (fun j => c j - r j) i L := by
      intro d
      induction d with
      | zero => rintro L h1 ⟨b, b1, b2, _⟩ _; omega
      | succ d ih =>
        rintro L h1 ⟨b, b1, b2, b3⟩ h3
        by_cases hz : p (ix n i L) = 0
        · exact ⟨L, by omega, by rw [h3, hz]; omega⟩
        · have hpos := h.pos _ (hix L)
          have h4 := eq L (by omega) (by omega)
          refine ih (L + 1) (by omega) ⟨b, ?_, b2, b3⟩ ?_
          · rcases Nat.eq_or_lt_of_le b1 with e | e
            · subst e; exact absurd b3 hz
            · exact e
          · rw [h3]
            unfold arc
            rw [Sm_succ]; dsimp only at h4 ⊢; omega
    obtain ⟨b, b1, b2⟩ := hroom
    exact main n 0 (by omega) ⟨b, Nat.zero_le _, b1, b2⟩ (by rw [i0]; show p i = 0 + p i; omega)
  have hne : ((List.range (n + 1)).map fun L => arc n (fun j => c j - r j) i L) ≠ [] := by simp
  obtain ⟨m1, m2⟩ := maxI_spec hne
  obtain ⟨L, hL, e⟩ := B
  refine Int.le_antisymm ?_ ?_
  · rw [e]
    exact m2 _ (List.mem_map.mpr ⟨L, List.mem_range.mpr (by omega), rfl⟩)
  · obtain ⟨L', hL', e'⟩ := List.mem_map.mp m1
    have hL' := List.mem_range.mp hL'
    have h1 := A L' (by omega)
    have h2 := h.pos _ (hix L')
    unfold most
    rw [← e']; omega
end Mine
end

section
open PySem PySem.W PySem.Calls PyProof.Rows
set_option Elab.async false
set_option maxRecDepth 20000
set_option linter.unusedVariables false
namespace Mine
/-! law 05: between the plain law and the walk -/
section
variable {fs : List Frm} {st : Hd → Option AO} {cnt : Nat} {Q : AV → St → Prop}
theorem wp_sortedI {ns : List Int} {σ : St} (h : ns.length < 64) : Wp (sortedAF [.lst (intsL ns)] []) Q σ = Q (.lst (intsL (isortI ns))) σ := by
  apply propext; refine wp_of ?_
  unfold sortedAF orA
  rw [sortedIF_view (l := intsL ns) rfl, toInts_intsL]
  dsimp only
  rw [if_pos h]
theorem wp_getAL {h : Hd} {i : Int} {l : List AV} (e : st h = some (.list l)) : Wp (getA (.ref h) (.int i)) Q ⟨fs, st, cnt⟩ = ∃ v, atL l i = some v ∧ Q v ⟨fs, st, cnt⟩ := by
  rw [wp_getA_int]
  apply propext
  constructor
  · rintro (⟨l', h1, _⟩ | ⟨l', h1, h2⟩)
    · rw [e] at h1; cases h1
    · rw [e] at h1; cases h1; exact h2
  · exact fun h2 => .inr ⟨l, e, h2⟩
theorem wp_ne_refI {h : Hd} {a b : List Int} (e : st h = some (.list (intsL a))) : Wp (neA (.ref h) (.lst (intsL b))) Q ⟨fs, st, cnt⟩ = Q (.bool (!decide (a = b))) ⟨fs, st, cnt⟩ := by
  have hv : viewD ⟨fs, st, cnt⟩ (.ref h) = some (.list (a.map .int)) := by
    unfold viewD
    rw [viewL_list e]
    simp only [toDs_intsL]; rfl
  rw [wp_neA hv viewD_ints dOk_ints dOk_ints, PyData.eqv, eqvAll_ints]
end
theorem mod_ix {n i b : Nat} (hi : i < n) (hb : b ≤ n) : ((i : Int) - (b : Int)).fmod (n : Int) = ((ix n i b : Nat) : Int) := by
  unfold ix
  rw [Int.fmod_eq_emod_of_nonneg _ (by omega), Int.natCast_emod, show ((i + n - b : Nat) : Int) = (i : Int) - b + n by omega, Int.add_emod_right]
theorem mod_ad {n i b : Nat} : ((i : Int) + (b : Int)).fmod (n : Int) = (((i + b) % n : Nat) : Int) := by
  rw [Int.fmod_eq_emod_of_nonneg _ (by omega), Int.natCast_emod, Int.natCast_add]
theorem ix_lt {n i b : Nat} (h : 0 < n) : ix n i b < n := Nat.mod_lt _ h
theorem ix_back {n x y : Nat} (hx : x < n) (hy : y < n) : (x + ix n y x) % n = y := by
  unfold ix
  by_cases h : x ≤ y
  · rw [show y + n - x = y - x + n by omega, Nat.add_mod_right, Nat.mod_eq_of_lt (a := y - x) (by omega), show x + (y - x) = y by omega, Nat.mod_eq_of_lt hy]
  · rw [Nat.mod_eq_of_lt (a := y + n - x) (by omega), show x + (y + n - x) = y + n by omega, Nat.add_mod_right, Nat.mod_eq_of_lt hy]
theorem ix_val {n x y : Nat} (hx : x < n) (hy : y < n) : ix n y x = if x ≤ y then y - x else y + n - x := by
  unfold ix
  split
  · rw [show y + n - x = y - x + n by omega, Nat.add_mod_right, Nat.mod_eq_of_lt (by omega)]
  · exact Nat.mod_eq_of_lt (by omega)
def ordN (n f : Nat) : List Nat := (List.range n).map fun j => (f + j) % n
theorem ordN_ok : ∀ n, n < 7 → ∀ f, f < n → (ordN n f).Nodup ∧ (∀ i, i < n → i ∈ ordN n f) := by decide +kernel
theorem ordN_lt {n f i : Nat} (hn : 0 < n) (h : i ∈ ordN n f) : i < n := by
  obtain ⟨j, _, rfl⟩ := List.mem_map.mp h
  exact Nat.mod_lt _ hn
/-- the nodes that have room -/
def openN (n f : Nat) (r l : Nat → Int) : List Nat := (ordN n f).filter fun i => decide (l i < r i)
theorem openN_mem {n f : Nat} (hn : n < 7) (hf : f < n) {r l : Nat → Int} {i : Nat} : i ∈ openN n f r l ↔ i < n ∧ l i < r i := by
  unfold openN
  rw [List.mem_filter, decide_eq_true_eq]
  exact ⟨fun h => ⟨ordN_lt (by omega) h.1, h.2⟩, fun h => ⟨(ordN_ok n hn f hf).2 i h.1, h.2⟩⟩
theorem openN_same {n f y : Nat} {r l : Nat → Int} (h1 : l y < r y) (h2 : l y + 1 < r y) : openN n f r (fun i => l i + ind (decide (i = y))) = openN n f r l := by
  unfold openN
  refine List.filter_congr fun i _ => ?_
  by_cases e : i = y
  · subst e; simp [ind, h1, h2]
  · simp [ind, e]
theorem openN_drop {n f y : Nat} {r l : Nat → Int} (h2 : l y + 1 = r y) : openN n f r (fun i => l i + ind (decide (i = y))) = (openN n f r l).filter fun i => decide (i ≠ y) := by
  unfold openN
  rw [List.filter_filter]
  refine List.filter_congr fun i _ => ?_
  by_cases e : i = y
  · subst e; simp [ind, h2]
  · simp [ind, e]
theorem Sm_pos {n : Nat} {r l : Nat → Int} (h : Sm n l < Sm n r) : ∃ i, i < n ∧ l i < r i := by
  refine Classical.byContradiction fun hno => ?_
  have : Sm n r ≤ Sm n l := Sm_le n fun i hi => Int.not_lt.mp fun hlt => hno ⟨i, hi, hlt⟩
  omega
theorem tabL_int_len {P : Nat → Int} {n : Nat} : ((List.range n).map P).length = n := by simp
theorem at_map {P : Nat → Int} {n i : Nat} (hi : i < n) (hn : n ≤ 1000) : atL (intsL ((List.range n).map P)) (i : Int) = some (.int (P i)) := by
  rw [atL_intsL (by simpa using hi) (by simp; omega)]
  simp
theorem at_prev {P : Nat → Int} {n i : Nat} (hi : i < n) (hn : n ≤ 1000) : atL (intsL ((List.range n).map P)) ((i : Int) - 1) = some (.int (P ((i + n - 1) % n))) := by
  by_cases h : i = 0
  · subst h
    rw [show ((0 : Nat) : Int) - 1 = -1 from rfl, atL_last (by simp [intsL]; omega) (by simp [intsL]; omega)]
    simp only [intsL, List.length_map, List.length_range, List.getElem_map, List.getElem_range]
    rw [Nat.zero_add, Nat.mod_eq_of_lt (by omega)]
  · rw [show ((i : Int) - 1) = ((i - 1 : Nat) : Int) by omega, at_map (by omega) hn, show i + n - 1 = i - 1 + n by omega, Nat.add_mod_right, Nat.mod_eq_of_lt (by omega)]
theorem set_map {P : Nat → Int} {n y : Nat} {v : Int} : (intsL ((List.range n).map P)).set y (.int v) = intsL ((List.range n).map fun i => if i = y then v else P i) := by
  unfold intsL
  rw [List.map_map, map_range_set, List.map_map]
  refine List.map_congr_left fun i _ => ?_
  dsimp only [Function.comp]
  split <;> rfl
theorem map_congrR {P Q : Nat → Int} {n : Nat} (h : ∀ i, i < n → P i = Q i) : (List.range n).map P = (List.range n).map Q := List.map_congr_left fun i hi => h i (List.mem_range.mp hi)
theorem count_take_succ {o : List Int} {k : Nat} (hk : k < o.length) (j : Int) : (((o.take (k + 1)).count j : Nat) : Int) = ((o.take k).count j : Nat) + ind (decide (j = o[k])) := by
  rw [List.take_succ_eq_append_getElem hk, List.count_append, List.count_singleton]
  unfold ind
  by_cases e : j = o[k]
  · subst e; simp
  · have : ¬ o[k] = j := fun h => e h.symm
    simp [e, this]
/-- the told node, and how far it lies -/
theorem next_open {n f : Nat} (hn : n < 7) (hf : f < n) {r l : Nat → Int} {s : Int} {x y : Nat} (hx : x < n) (hcap : ∀ i, i < n → l i ≤ r i)
    (h : Next ((openN n f r l).map fun i => (nmS i, s + 2 * (i : Int))) (s + 2 * (x : Int) - 1) (nmS y, s + 2 * (y : Int))) (hy : y < n) :
    l y < r y ∧ ∀ b, b < ix n y x → l ((x + b) % n) = r ((x + b) % n) := by
  obtain ⟨hm, hc⟩ := h
  have hin : ∀ z, z < n → l z < r z → (nmS z, s + 2 * (z : Int)) ∈ (openN n f r l).map fun i => (nmS i, s + 2 * (i : Int)) := fun z h1 h2 => List.mem_map.mpr ⟨z, (openN_mem hn hf).mpr ⟨h1, h2⟩, rfl⟩
  have hyo : l y < r y := by
    obtain ⟨z, hz, e⟩ := List.mem_map.mp hm
    have e2 : z = y := by have := congrArg Prod.snd e; dsimp only at this; omega
    subst e2
    exact ((openN_mem hn hf).mp hz).2
  refine ⟨hyo, fun b hb => ?_⟩
  have hzl : (x + b) % n < n := Nat.mod_lt _ (by omega)
  refine Int.le_antisymm (hcap _ hzl) (Int.not_lt.mp fun hlt => ?_)
  have hz := hin _ hzl hlt
  have hv := ix_val hx hy
  have hxb : (x + b) % n = if x + b < n then x + b else x + b - n := by
    split
    · exact Nat.mod_eq_of_lt (by assumption)
    · have hbn : ix n y x < n := ix_lt (by omega)
      rw [Nat.mod_eq_sub_mod (by omega), Nat.mod_eq_of_lt (by omega)]
  generalize (x + b) % n = z at *
  generalize ix n y x = t at *
  rcases hc with ⟨c1, c2⟩ | ⟨c1, c2⟩
  · dsimp only at c1
    have hxy : x ≤ y := by omega
    rw [if_pos hxy] at hv
    rw [if_pos (by omega)] at hxb
    have := c2 _ hz (by dsimp only; omega)
    dsimp only at this; omega
  · have q1 := c1 _ hm
    have q2 := c1 _ hz
    have q3 := c2 _ hz
    dsimp only at q1 q2 q3
    split at hv <;> split at hxb <;> omega
end Mine
end

section
open PySem PySem.W PySem.Calls PyProof.Rows
set_option Elab.async false
set_option maxRecDepth 20000
set_option linter.unusedVariables false
namespace Mine
/-! law 07 as plain mathematics: Chord's fingers -/
/-- the way from `h` on to `y`, one at least -/
def off (z h y : Nat) : Nat := (y + z - h - 1) % z + 1
theorem off_val {z h y : Nat} (hh : h < z) (hy : y < z) : off z h y = if h < y then y - h else y + z - h := by
  unfold off
  split
  · rw [show y + z - h - 1 = y - h - 1 + z by omega, Nat.add_mod_right, Nat.mod_eq_of_lt (by omega)]; omega
  · rw [Nat.mod_eq_of_lt (by omega)]; omega
theorem off_le {z h y : Nat} (hh : h < z) (hy : y < z) : 1 ≤ off z h y ∧ off z h y ≤ z := by
  rw [off_val hh hy]; split <;> omega
/-- the node told for each place -/
structure Told (z : Nat) (N : Nat → Prop) (T : Nat → Nat) : Prop where
  lt : ∀ y, N y → y < z
  mem : ∀ x, x < z → N (T x)
  min : ∀ x, x < z → ∀ y, N y → ix z (T x) x ≤ ix z y x
theorem fing {z : Nat} {N : Nat → Prop} {T : Nat → Nat} (h : Told z N T) {here t : Nat} (hh : N here) (h1 : 1 ≤ t) (h2 : t < z) :
    t ≤ off z here (T ((here + t) % z)) ∧ ∀ y, N y → t ≤ off z here y → off z here (T ((here + t) % z)) ≤ off z here y := by
  have hz := h.lt _ hh
  have hx : (here + t) % z < z := Nat.mod_lt _ (by omega)
  have hT := h.mem _ hx
  have hTz := h.lt _ hT
  have m1 := h.min _ hx here hh
  have m2 := h.min _ hx
  have hxv : (here + t) % z = if here + t < z then here + t else here + t - z := by
    split
    · exact Nat.mod_eq_of_lt (by assumption)
    · rw [Nat.mod_eq_sub_mod (by omega), Nat.mod_eq_of_lt (by omega)]
  generalize (here + t) % z = x at *
  rw [ix_val hx hTz, ix_val hx hz] at m1
  refine ⟨?_, fun y hy hty => ?_⟩
  · rw [off_val hz hTz]
    split at m1 <;> split at m1 <;> split at hxv <;> split <;> omega
  · have hyz := h.lt _ hy
    have m := m2 y hy
    rw [ix_val hx hTz, ix_val hx hyz] at m
    rw [off_val hz hyz] at hty ⊢
    rw [off_val hz hTz]
    split at m1 <;> split at m1 <;> split at m <;> split at m <;> split at hxv <;> split at hty <;> split <;> (try split) <;> omega
/-- q: how far the last node lies that the key lies beyond -/
structure IsQ (z : Nat) (N : Nat → Prop) (key here q : Nat) : Prop where
  lt : q < off z here key
  at_ : q = 0 ∨ ∃ y, N y ∧ off z here y = q
  max : ∀ y, N y → off z here y < off z here key → off z here y ≤ q
theorem isQ_ex {z : Nat} {N : Nat → Prop} [DecidablePred N] {key here : Nat} (hk : key < z) (hh : here < z) (hN : ∀ y, N y → y < z) : ∃ q, IsQ z N key here q := by
  have : ∀ m, ∃ q, (q < off z here key) ∧ (q = 0 ∨ ∃ y, N y ∧ off z here y = q) ∧ ∀ y, y < m → N y → off z here y < off z here key → off z here y ≤ q := by
    intro m
    induction m with
    | zero => exact ⟨0, by have := (off_le hh hk).1; omega, .inl rfl, fun y hy => absurd hy (Nat.not_lt_zero _)⟩
    | succ m ih =>
      obtain ⟨q, h1, h2, h3⟩ := ih
      by_cases hm : N m ∧ off z here m < off z here key ∧ q < off z here m
      · refine ⟨off z here m, hm.2.1, .inr ⟨m, hm.1, rfl⟩, fun y hy hyN hyo => ?_⟩
        rcases Nat.lt_or_ge y m with h | h
        · have := h3 y h hyN hyo; omega
        · obtain rfl : y = m := by omega
          exact Nat.le_refl _
      · refine ⟨q, h1, h2, fun y hy hyN hyo => ?_⟩
        rcases Nat.lt_or_ge y m with h | h
        · exact h3 y h hyN hyo
        · obtain rfl : y = m := by omega
          exact Nat.not_lt.mp fun hlt => hm ⟨hyN, hyo, hlt⟩
  obtain ⟨q, h1, h2, h3⟩ := this z
  exact ⟨q, h1, h2, fun y hy => h3 y (hN y hy) hy⟩
/-- the test at the loop's head -/
theorem head_test {z : Nat} (hz2 : 2 ≤ z) {N : Nat → Prop} {T : Nat → Nat} (h : Told z N T) {key here q : Nat} (hh : N here) (hk : key < z) (Q : IsQ z N key here q) :
    (off z here key ≤ off z here (T ((here + 1) % z)) ↔ q = 0) ∧ (q = 0 → T ((here + 1) % z) = T key) := by
  obtain ⟨f1, f2⟩ := fing h hh (Nat.le_refl 1) (by omega)
  have hx : (here + 1) % z < z := Nat.mod_lt _ (by omega)
  have hs := h.mem _ hx
  have hhz := h.lt _ hh
  have key1 : off z here key ≤ off z here (T ((here + 1) % z)) ↔ q = 0 := by
    constructor
    · intro hle
      rcases Q.at_ with e | ⟨y, hy, e⟩
      · exact e
      · have := f2 y hy (off_le hhz (h.lt _ hy)).1
        have := Q.lt; omega
    · intro e
      refine Nat.not_lt.mp fun hlt => ?_
      have := Q.max _ hs hlt
      omega
  refine ⟨key1, fun e => ?_⟩
  have hD := key1.mpr e
  have hTk := h.mem _ hk
  have a1 := h.min key hk _ hs
  have a2 := f2 _ hTk (off_le hhz (h.lt _ hTk)).1
  have b1 := h.lt _ hs
  have b2 := h.lt _ hTk
  generalize T ((here + 1) % z) = s at *
  generalize T key = u at *
  rw [ix_val hk b2, ix_val hk b1] at a1
  rw [off_val hhz b1, off_val hhz b2] at a2
  rw [off_val hhz b1, off_val hhz hk] at hD
  split at a1 <;> split at a1 <;> split at a2 <;> split at a2 <;> split at hD <;> (try split at hD) <;> omega
theorem hop_step {z : Nat} {N : Nat → Prop} {T : Nat → Nat} (h : Told z N T) {key here q M : Nat} (hh : N here) (hk : key < z) (Q : IsQ z N key here q) (hM1 : 2 ^ M ≤ q) (hM2 : q < 2 ^ (M + 1)) (hMz : 2 ^ M < z) :
    (off z here (T ((here + 2 ^ M) % z)) < off z here key) ∧ (∀ f, M < f → 2 ^ f < z → ¬ off z here (T ((here + 2 ^ f) % z)) < off z here key) ∧
    2 ^ M ≤ off z here (T ((here + 2 ^ M) % z)) ∧ off z here (T ((here + 2 ^ M) % z)) ≤ q ∧
    IsQ z N key (T ((here + 2 ^ M) % z)) (q - off z here (T ((here + 2 ^ M) % z))) := by
  have hp : 1 ≤ 2 ^ M := Nat.one_le_two_pow
  have hhz := h.lt _ hh
  obtain ⟨f1, f2⟩ := fing h hh hp hMz
  have hq1 : ∃ y, N y ∧ off z here y = q := by
    rcases Q.at_ with e | e
    · omega
    · exact e
  obtain ⟨y, hy, hyq⟩ := hq1
  have hwq := f2 y hy (by omega)
  rw [hyq] at hwq
  have hx : (here + 2 ^ M) % z < z := Nat.mod_lt _ (by omega)
  have hs := h.mem _ hx
  have hsz := h.lt _ hs
  have hQl := Q.lt
  refine ⟨by omega, fun f hf hfz hlt => ?_, f1, hwq, ?_⟩
  · have hpf : 2 ^ (M + 1) ≤ 2 ^ f := Nat.pow_le_pow_right (by decide) hf
    obtain ⟨g1, g2⟩ := fing h hh (t := 2 ^ f) (by omega) hfz
    have hx' : (here + 2 ^ f) % z < z := Nat.mod_lt _ (by omega)
    have := Q.max _ (h.mem _ hx') hlt
    omega
  · generalize T ((here + 2 ^ M) % z) = s at *
    have sub : ∀ y, y < z → off z here s < off z here y → off z s y = off z here y - off z here s := by
      intro y hy hlt
      rw [off_val hhz hy, off_val hhz hsz] at hlt ⊢
      rw [off_val hsz hy]
      split at hlt <;> split at hlt <;> split <;> (try split) <;> omega
    have sub2 : ∀ y, y < z → off z here y ≤ off z here s → off z s y = off z here y + z - off z here s := by
      intro y hy hle
      rw [off_val hhz hy, off_val hhz hsz] at hle ⊢
      rw [off_val hsz hy]
      split at hle <;> split at hle <;> split <;> (try split) <;> omega
    have hDk := sub key hk (by omega)
    refine ⟨by omega, ?_, fun u hu hlt => ?_⟩
    · by_cases e : q = off z here s
      · exact .inl (by omega)
      · refine .inr ⟨y, hy, ?_⟩
        rw [sub y (h.lt _ hy) (by omega), hyq]
    · have huz := h.lt _ hu
      rcases Nat.lt_or_ge (off z here s) (off z here u) with c | c
      · have e := sub u huz c
        have := Q.max u hu (by omega)
        omega
      · have e := sub2 u huz c
        have b1 := (off_le hhz huz).1
        have b2 := (off_le hhz hk).2
        omega
def bl (q : Nat) : Nat := if q = 0 then 0 else q.log2 + 1
theorem bl_lt {q k : Nat} : bl q ≤ k ↔ q < 2 ^ k := by
  unfold bl
  split
  · rename_i h; subst h
    exact ⟨fun _ => Nat.two_pow_pos k, fun _ => Nat.zero_le _⟩
  · rename_i h
    rw [← Nat.log2_lt h]; omega
theorem bl_mono {a b : Nat} (h : a ≤ b) : bl a ≤ bl b := bl_lt.mpr (Nat.lt_of_le_of_lt h (bl_lt.mp (Nat.le_refl _)))
theorem bl_pos {q : Nat} (h : q ≠ 0) : ∃ M, bl q = M + 1 ∧ 2 ^ M ≤ q ∧ q < 2 ^ (M + 1) := by
  refine ⟨q.log2, by unfold bl; rw [if_neg h], Nat.log2_self_le h, Nat.lt_log2_self⟩
def pc (bits q : Nat) : Nat := ((List.range bits).map fun i => q / 2 ^ i % 2).sum
theorem pc_step : ∀ bits, bits < 5 → ∀ q, q < 2 ^ bits → ∀ M, M < bits → 2 ^ M ≤ q → q < 2 ^ (M + 1) → pc bits (q - 2 ^ M) + 1 = pc bits q := by decide +kernel
end Mine
end

section
open PySem PySem.W PySem.Calls PyProof.Rows
set_option Elab.async false
set_option maxRecDepth 100000
set_option maxHeartbeats 2000000
set_option linter.unusedVariables false
set_option linter.unusedSectionVars false
set_option linter.unusedSimpArgs false
namespace Mine
local macro_rules | `(tactic| walk_at "PW") => `(tactic| simp only [wp_pure, wp_fail, wp_bind, wp_seqA, wp_cond, wp_ite, wp_ldv0, wp_ldv1, wp_stv, wp_alloc, wp_getNs, wp_getBm, wp_selfIn, wp_setNs, wp_getPr, wp_bmF, noKw_nil, wp_preT, tyA_int, tyA_str, tyA_lst, tyA_dct,
  ar_add, ar_sub, iar_add, iar_sub, ord_lt, ord_le, ord_gt, ord_ge, is_none, is_int, is_str, isN_none, eqFS_clo, un_neg, tr_bool, tr_none, tr_int, tr_clo, wp_tr_ref, wp_eq_int, wp_ne_int, wp_eq_ni, wp_ne_ni, wp_getA_tup, wp_getA_lst, wp_getA_dct, wp_getA_dictS, wp_getA_int, wp_setS, wp_setI, wp_delI, wp_append,
  wp_dgetI, wp_dgetS, wp_dgetSd, wp_dgetD, wp_dgetDd, wp_pop1, wp_pop2, wp_view, wp_viewD, wp_preCtr, wp_ctrPop1, wp_ctrPop2, wp_ctrGet, wp_ctrSet, wp_len, wp_lenR, range1, range2, abs_int, itB_lst, itB_tup, itB_dct, wp_itB_ref, wp_itEn_lst, wp_itEn_ref, tgtTup_eq, tgtCons_eq, tgtNil_eq, wp_forS,
  List.getElem?_cons_zero, List.getElem?_cons_succ, List.set_cons_zero, List.set_cons_succ, Option.some.injEq, exists_eq_left', List.length_cons, List.length_nil, Nat.zero_add, Nat.reduceAdd, Nat.sub_zero, Nat.reduceSub, Bool.cond_true, Bool.cond_false, cond_true, cond_false, Bool.cond_decide, true_and, and_true, if_true, if_false, List.tail_cons, reduceCtorEq, false_and, exists_false, false_or, or_false, decide_true, decide_false, Bool.not_true, Bool.not_false,
  AO.ns.injEq, AO.list.injEq, AO.dictI.injEq, AO.dictS.injEq, AO.ctr.injEq, upd_site, and_false, Nat.reduceEqDiff, getK_eq, setK_eq, delK_eq, Option.map_some, Option.map_none, Option.getD_some, Option.getD_none, Nat.zero_le, Nat.le_refl, Nat.reduceLeDiff, ar_mul1, Int.one_mul, isi_lst_str, isi_dct_str, isi_lst_dict, isi_dct_dict, isi_int_int, isi_dct_int, isi_str_int, isi_lst_dl, isi_dct_dl, isi_clo_7, tyA_ref, tyO_list, tyO_dictI, tyO_dictS, in_w3, in_n4, eq_n1, eq_n2, eq_n3, eq_p1, tr_dct0, mkT_eq, mkL_eq])
local macro_rules | `(tactic| walk_at "PN") => `(tactic| simp only [l_r1, l_r2, l_r3, l_r4, l_m1, l_m2, l_m3, l_m4, l_m5, l_m6, l_m7, l_m8, l_m9, l_r5, l_r6, l_r7, l_r8, l_r9, l_r10, l_r11, l_r12, l_r13, l_r14, l_r15, l_c1, l_c2, l_c3, p_m2, p_c2, noMc])
local macro_rules | `(tactic| wide_line with [$ts,*]) => `(tactic| simp only [wp_pure, wp_fail, wp_bind, wp_seqA, wp_cond, wp_ite, wp_ldv0, wp_ldv1, wp_stv, wp_alloc, wp_getNs, wp_getBm, wp_selfIn, wp_setNs, wp_getPr, wp_bmF, noKw_nil, wp_preT, tyA_int, tyA_str, tyA_lst, tyA_dct,
  ar_add, ar_sub, iar_add, iar_sub, ord_lt, ord_le, ord_gt, ord_ge, is_none, is_int, is_str, isN_none, eqFS_clo, un_neg, tr_bool, tr_none, tr_int, tr_clo, wp_tr_ref, wp_eq_int, wp_ne_int, wp_eq_ni, wp_ne_ni, wp_getA_tup, wp_getA_lst, wp_getA_dct, wp_getA_dictS, wp_getA_int, wp_setS, wp_setI, wp_delI, wp_append,
  wp_dgetI, wp_dgetS, wp_dgetSd, wp_dgetD, wp_dgetDd, wp_pop1, wp_pop2, wp_view, wp_viewD, wp_preCtr, wp_ctrPop1, wp_ctrPop2, wp_ctrGet, wp_ctrSet, wp_len, wp_lenR, range1, range2, abs_int, itB_lst, itB_tup, itB_dct, wp_itB_ref, wp_itEn_lst, wp_itEn_ref, tgtTup_eq, tgtCons_eq, tgtNil_eq, wp_forS,
  List.getElem?_cons_zero, List.getElem?_cons_succ, List.set_cons_zero, List.set_cons_succ, Option.some.injEq, exists_eq_left', List.length_cons, List.length_nil, Nat.zero_add, Nat.reduceAdd, Nat.sub_zero, Nat.reduceSub, Bool.cond_true, Bool.cond_false, cond_true, cond_false, Bool.cond_decide, true_and, and_true, if_true, if_false, List.tail_cons, reduceCtorEq, false_and, exists_false, false_or, or_false, decide_true, decide_false, Bool.not_true, Bool.not_false,
  AO.ns.injEq, AO.list.injEq, AO.dictI.injEq, AO.dictS.injEq, AO.ctr.injEq, upd_site, and_false, Nat.reduceEqDiff, getK_eq, setK_eq, delK_eq, Option.map_some, Option.map_none, Option.getD_some, Option.getD_none, Nat.zero_le, Nat.le_refl, Nat.reduceLeDiff, ar_mul1, Int.one_mul, isi_lst_str, isi_dct_str, isi_lst_dict, isi_dct_dict, isi_int_int, isi_dct_int, isi_str_int, isi_lst_dl, isi_dct_dl, isi_clo_7, tyA_ref, tyO_list, tyO_dictI, tyO_dictS, in_w3, in_n4, eq_n1, eq_n2, eq_n3, eq_p1, tr_dct0, mkT_eq, mkL_eq, l_r1, l_r2, l_r3, l_r4, l_m1, l_m2, l_m3, l_m4, l_m5, l_m6, l_m7, l_m8, l_m9, l_r5, l_r6, l_r7, l_r8, l_r9, l_r10, l_r11, l_r12, l_r13, l_r14, l_r15, l_c1, l_c2, l_c3, p_m2, p_c2, noMc, $[$ts:term],*])
def E07 (s : Int) (fs : List Frm) (st : Hd → Option AO) : Prop := ∃ b, fs.getLast? = some b ∧ b[16]? = some (some (.int s)) ∧ b[17]? = some (some (.ref (618, 0))) ∧ st (618, 0) = some (.dictS (tabL (fun k => s + 2 * (k : Int)) 32))
def T07 (nm : Str) (w : Nat) : Prop := w = 0 ∧ ∃ h, h < 32 ∧ nm = nmS h
def pt07 (s : Int) (nm : Str) (w : Nat) : Int := match look (tabL (fun k => s + 2 * (k : Int)) 32) (ptKey nm 0) with
  | some (.int p) => p
  | _ => 0
theorem pt07_eq {s : Int} {h : Nat} (hh : h < 32) : pt07 s (nmS h) 0 = s + 2 * (h : Int) := by
  unfold pt07
  rw [ptKey_eq h (by omega), tabL_look (by omega) hh]
theorem pl07 (s : Int) : PlOK (E07 s) T07 (fun _ => True) (pt07 s) (fun k => s + 2 * k - 1) where
  str := by
    rintro nm w fs st cnt ⟨rfl, h, hh, rfl⟩ ⟨b, b1, b2, b3, b4⟩
    refine Wp.eq ?_
    unfold placeF
    dsimp only [List.length_cons, List.length_nil]
    rw [if_pos rfl, if_pos rfl]
    dsimp only
    rw [wp_fnA (F := [some (.str (ptKey (nmS h) 0))]) (by kernel_rfl)]
    have hl : (([some (.str (ptKey (nmS h) 0))] : Frm) :: fs).getLast? = some b := by rw [List.getLast?_cons, b1]; rfl
    wide_line with [wp_ldb, hl, b3, b4]
    rw [pt07_eq hh, ptKey_eq h (by omega), tabL_look (by omega) hh]
    simp
  int := by
    rintro k fs st cnt _ ⟨b, b1, b2, b3, b4⟩
    refine Wp.eq ?_
    unfold placeF
    dsimp only [List.length_cons, List.length_nil]
    rw [if_pos rfl, if_pos rfl]
    dsimp only
    rw [wp_fnA (F := [some (.int k)]) (by kernel_rfl)]
    have hl : (([some (.int k)] : Frm) :: fs).getLast? = some b := by rw [List.getLast?_cons, b1]; rfl
    wide_line with [wp_ldb, hl, b2, ar_mulL (show smallI 2 = true by decide), and_self]
  push := by
    rintro f fs st ⟨b, b1, b2, b3, b4⟩
    exact ⟨b, by rw [List.getLast?_cons, b1]; rfl, b2, b3, b4⟩
  keep := by
    rintro fs st st' ⟨b, b1, b2, b3, b4⟩ h
    exact ⟨b, b1, b2, b3, by rw [h _ (by simp)]; exact b4⟩
  sm := by
    rintro nm w ⟨rfl, h, hh, rfl⟩
    exact ⟨Nat.le_trans (nmS_len h (by omega)) (by omega), by omega, nmS_ok h (by omega)⟩
theorem wp_whileA {c : M Bool} {b o : M AFl} {k : Nat} {Q : AFl → St → Prop} {σ : St} : Wp (whileA c b o (k + 1)) Q σ = Wp c (fun t σ' => bif t then Wp b (fun r σ'' => match r with
    | .next => Wp (whileA c b o k) Q σ''
    | .cont => Wp (whileA c b o k) Q σ''
    | .brk => Q .next σ''
    | .ret v => Q (.ret v) σ'') σ' else Wp o Q σ') σ := by
  show Wp (M.bind c _) Q σ = _
  rw [wp_bind]
  congr 1
  funext t σ'
  cases t with
  | false => rfl
  | true =>
    show Wp (M.bind b _) Q σ' = Wp b _ σ'
    rw [wp_bind]
    congr 1
    funext r σ''
    cases r <;> simp only [wp_pure]
theorem lawWay_wp {a b z : Int} {fs : List Frm} {st : Hd → Option AO} {cnt : Nat} {Q : AV → St → Prop} (hz : z ≠ 0) : Wp (lawWay.1 [.int a, .int b, .int z] []) Q ⟨fs, st, cnt⟩ = Q (.int ((b - a - 1).fmod z + 1)) ⟨fs, st, cnt⟩ := by
  unfold lawWay
  dsimp only [List.length_cons, List.length_nil]
  rw [if_pos rfl]
  dsimp only
  rw [wp_fnA (F := [some (.int a), some (.int b), some (.int z)]) (by kernel_rfl)]
  wide_line with [ar_mod hz]
theorem way_off {z h y : Nat} (hh : h < z) (hy : y < z) : ((y : Int) - (h : Int) - 1).fmod (z : Int) + 1 = ((off z h y : Nat) : Int) := by
  unfold off
  rw [Int.fmod_eq_emod_of_nonneg _ (by omega), Int.natCast_succ, Int.natCast_emod, show ((y + z - h - 1 : Nat) : Int) = (y : Int) - h - 1 + z by omega, Int.add_emod_right]
/-- which node each place is told -/
theorem ring_told {s : Int} {z : Nat} {ρ : RS} {L : List Nat} (O : One ρ (L.map fun i => (nmS i, s + 2 * (i : Int)))) (hL : L ≠ []) (hz : ∀ y ∈ L, y < z) : ∃ T, Told z (· ∈ L) T ∧
    ∀ x, x < z → ρ.keys[posOf ρ.keys (s + 2 * (x : Int) - 1)]? = some (s + 2 * ((T x : Nat) : Int)) ∧ look ρ.rg (s + 2 * ((T x : Nat) : Int)) = some (nmS (T x)) := by
  have key : ∀ x : Nat, ∃ y : Nat, y ∈ L ∧ (∀ u ∈ L, x < z → ix z y x ≤ ix z u x) ∧ ρ.keys[posOf ρ.keys (s + 2 * (x : Int) - 1)]? = some (s + 2 * (y : Int)) ∧ look ρ.rg (s + 2 * (y : Int)) = some (nmS y) := by
    intro x
    obtain ⟨e, he, hk1, hk2⟩ := O.next (by simpa using hL) (s + 2 * (x : Int) - 1)
    obtain ⟨hm, hc⟩ := he
    obtain ⟨y, hy, rfl⟩ := List.mem_map.mp hm
    refine ⟨y, hy, fun u hu hx => ?_, hk1, hk2⟩
    have hyz := hz y hy
    have huz := hz u hu
    have hin : (nmS u, s + 2 * (u : Int)) ∈ L.map fun i => (nmS i, s + 2 * (i : Int)) := List.mem_map.mpr ⟨u, hu, rfl⟩
    rw [ix_val hx hyz, ix_val hx huz]
    rcases hc with ⟨c1, c2⟩ | ⟨c1, c2⟩
    · have q := c2 _ hin
      dsimp only at c1 q
      split <;> split <;> omega
    · have q1 := c1 _ hin
      have q2 := c1 _ hm
      have q3 := c2 _ hin
      dsimp only at q1 q2 q3
      split <;> split <;> omega
  obtain ⟨T, hT⟩ := Classical.axiomOfChoice key
  exact ⟨T, ⟨hz, fun x _ => (hT x).1, fun x hx y hy => (hT x).2.1 y hy hx⟩, fun x _ => ⟨(hT x).2.2.1, (hT x).2.2.2⟩⟩
/-- names to numbers -/
def numL (n : Nat) : List (Str × AV) := (List.range n).map fun k => (nmS k, .int (k : Int))
theorem numL_look {n k : Nat} (hn : n ≤ 40) (hk : k < n) : look (numL n) (nmS k) = some (.int (k : Int)) := by
  unfold numL
  induction n with
  | zero => omega
  | succ n ih =>
    rw [List.range_succ, List.map_append, look_append]
    by_cases h : k < n
    · rw [ih (by omega) h]; rfl
    · obtain rfl : k = n := by omega
      have : look ((List.range k).map fun k => (nmS k, AV.int (k : Int))) (nmS k) = none := by
        rw [look_none]
        intro e he
        obtain ⟨j, hj, rfl⟩ := List.mem_map.mp he
        have hj := List.mem_range.mp hj
        exact fun e => absurd (nmS_inj (by omega) (by omega) e) (by omega)
      rw [this]; simp [look]
theorem numL_new {n : Nat} (hn : n < 40) : look (numL n) (nmS n) = none := by
  unfold numL
  rw [look_none]
  intro e he
  obtain ⟨j, hj, rfl⟩ := List.mem_map.mp he
  have hj := List.mem_range.mp hj
  exact fun e => absurd (nmS_inj (by omega) (by omega) e) (by omega)
theorem numL_succ {n : Nat} (hn : n < 40) : put (numL n) (nmS n) (.int (n : Int)) = numL (n + 1) := by
  rw [put_new (numL_new hn)]
  unfold numL
  rw [List.range_succ, List.map_append]; rfl
theorem numL_len {n : Nat} : (numL n).length = n := by unfold numL; simp
theorem wp_while_inv {c : M Bool} {b o : M AFl} {Q : AFl → St → Prop} (I : Nat → St → Prop)
    (step : ∀ m σ, I m σ → (Wp c (fun t σ' => t = true ∧ σ' = σ) σ ∧ Wp b (fun r σ'' => match r with
      | .next => ∃ m', m' < m ∧ I m' σ''
      | .cont => ∃ m', m' < m ∧ I m' σ''
      | .brk => Q .next σ''
      | .ret v => Q (.ret v) σ'') σ) ∨ (Wp c (fun t σ' => t = false ∧ σ' = σ) σ ∧ Wp o Q σ)) : ∀ k m σ, m < k → I m σ → Wp (whileA c b o k) Q σ := by
  intro k
  induction k with
  | zero => intro m σ h; exact absurd h (Nat.not_lt_zero _)
  | succ k ih =>
    intro m σ hm hI
    rw [wp_whileA]
    rcases step m σ hI with ⟨h1, h2⟩ | ⟨h1, h2⟩
    · refine h1.mono fun t σ' ⟨e1, e2⟩ => ?_
      subst e1; subst e2
      show Wp b _ _
      refine h2.mono fun r σ'' hr => ?_
      cases r with
      | next => obtain ⟨m', h, hi⟩ := hr; exact ih m' _ (by omega) hi
      | cont => obtain ⟨m', h, hi⟩ := hr; exact ih m' _ (by omega) hi
      | brk => exact hr
      | ret v => exact hr
    · refine h1.mono fun t σ' ⟨e1, e2⟩ => ?_
      subst e1; subst e2
      exact h2
theorem filter_last {n M : Nat} {c : Nat → Bool} (hM : M < n) (h1 : c M = true) (h2 : ∀ f, M < f → f < n → c f = false) : (List.range n).filter c = (List.range M).filter c ++ [M] := by
  induction n with
  | zero => omega
  | succ n ih =>
    rw [List.range_succ, List.filter_append]
    by_cases e : M = n
    · subst e; simp [h1]
    · rw [ih (by omega) fun f hf hfn => h2 f hf (by omega)]
      simp [h2 n (by omega) (by omega)]
theorem atL_app {l : List AV} {a : AV} (h : l.length < 1000) : atL (l ++ [a]) (-1) = some a := by
  rw [atL_last (by simp) (by simp; omega)]
  simp
abbrev frR (H : RH) (here key bits : Int) (size : Int) (c : Nat) (o6 o7 o8 o9 : Option AV) : Frm := [some (.inst 615 (1, H.r)), some (.int here), some (.int key), some (.int bits), some (.int size), some (.ref (602, c)), o6, o7, o8, o9]
theorem lawRoute_wp {s : Int} {z bits here key : Nat} {ρ : RS} {H : RH} {L : List Nat} {T : Nat → Nat} {fs : List Frm} {st : Hd → Option AO} {cnt q0 : Nat} {Q : AV → St → Prop}
    (hb : 3 ≤ bits ∧ bits ≤ 5) (hz : z = 2 ^ bits) (R : RingAt st cnt H ρ) (hE : E07 s fs st) (O : One ρ (L.map fun i => (nmS i, s + 2 * (i : Int)))) (hL : L ≠ []) (hLz : ∀ y ∈ L, y < z) (hl : L.length ≤ 40)
    (hT : Told z (· ∈ L) T) (hget : ∀ x, x < z → ρ.keys[posOf ρ.keys (s + 2 * (x : Int) - 1)]? = some (s + 2 * ((T x : Nat) : Int)) ∧ look ρ.rg (s + 2 * ((T x : Nat) : Int)) = some (nmS (T x)))
    (hh : here ∈ L) (hk : key < z) (hq : IsQ z (· ∈ L) key here q0)
    (hQ : ∀ st' hops, hops ≤ bl q0 → ((∀ y, y < z → y ∈ L) → bits < 5 → hops = pc bits q0) → (∀ n : Hd, n ≠ (602, cnt) → st' n = st n) → Q (.tup [.int ((T key : Nat) : Int), .int (hops : Int)]) ⟨fs, st', cnt + 1⟩) :
    Wp (lawRoute.1 [.inst 615 (1, H.r), .int (here : Int), .int (key : Int), .int (bits : Int)] []) Q ⟨fs, st, cnt⟩ := by
  have hz32 : 8 ≤ z ∧ z ≤ 32 := by
    obtain ⟨h1, h2⟩ := hb
    rw [hz]
    have a : 2 ^ 3 ≤ 2 ^ bits := Nat.pow_le_pow_right (by decide) h1
    have b : 2 ^ bits ≤ 2 ^ 5 := Nat.pow_le_pow_right (by decide) h2
    omega
  have hlen := O.len
  rw [List.length_map] at hlen
  unfold lawRoute
  dsimp only [List.length_cons, List.length_nil]
  rw [if_pos rfl]
  dsimp only
  rw [wp_fnA (F := [some (.inst 615 (1, H.r)), some (.int (here : Int)), some (.int (key : Int)), some (.int (bits : Int)), none, none, none, none, none, none]) (by kernel_rfl)]
  have hpow : ((2 : Int) ^ bits) = (z : Int) := by rw [hz, Int.natCast_pow]; rfl
  have hp1 : smallI 2 = true ∧ 0 ≤ (bits : Int) ∧ (bits : Int) < 1000 := ⟨by decide, by omega, by omega⟩
  refine Wp.cut (fun σ => σ = ⟨[some (.inst 615 (1, H.r)), some (.int (here : Int)), some (.int (key : Int)), some (.int (bits : Int)), some (.int (z : Int)), none, none, none, none, none] :: fs, st, cnt⟩) ?_ ?_
  · wide_line with [ar_pow hp1, Int.toNat_natCast, hpow]
  rintro σ rfl
  refine Wp.cut (fun σ => σ = ⟨frR H here key bits z cnt none none none none :: fs, upd st (602, cnt) (.dictS []), cnt + 1⟩) ?_ ?_
  · wide_line with []
  rintro σ rfl
  refine Wp.cut (fun σ => ∃ o6 st', σ = ⟨frR H here key bits z cnt o6 none none none :: fs, st', cnt + 1⟩ ∧ st' (602, cnt) = some (.dictS (numL z)) ∧ ∀ n : Hd, n ≠ (602, cnt) → st' n = st n) ?_ ?_
  · have hit : itB (.rng 0 (z : Int) 1) = M.pure (((List.range z).map fun i : Nat => AV.int (i : Int)), fun _ => True) := itB_nat (by omega)
    wide_line with [hit]
    refine wp_forA (fun k σ => ∃ o6 st', σ = ⟨frR H here key bits z cnt o6 none none none :: fs, st', cnt + 1⟩ ∧ st' (602, cnt) = some (.dictS (numL k)) ∧ ∀ n : Hd, n ≠ (602, cnt) → st' n = st n) ?_ (fun _ _ _ _ => trivial) ?_ ?_
    · exact ⟨_, _, rfl, upd_same, fun n hn => upd_ne hn⟩
    · rintro k hk σ ⟨o6, st', rfl, h6, ho⟩
      have hk' : k < z := by simpa using hk
      rw [List.getElem_map, List.getElem_range]
      wide_line with [h6, strF_nat (show k < 1000 by omega), numL_len]
      refine ⟨by omega, _, _, rfl, ?_, fun n hn => (upd_ne hn).trans (ho n hn)⟩
      rw [upd_same, numL_succ (by omega)]
    · rintro σ ⟨o6, st', rfl, h6, ho⟩
      rw [List.length_map, List.length_range] at h6
      wide_line with []
      exact ⟨_, _, rfl, h6, ho⟩
  rintro σ ⟨o6, st', rfl, h602, ho⟩
  have R' : RingAt st' (cnt + 1) H ρ := R.keep (fun n hn => ho n (by rintro rfl; simp at hn)) (Nat.le_succ _)
  have hE' : ∀ f, E07 s (f :: fs) st' := fun f => by
    obtain ⟨b, b1, b2, b3, b4⟩ := hE
    exact ⟨b, by rw [List.getLast?_cons, b1]; rfl, b2, b3, by rw [ho _ (by simp)]; exact b4⟩
  refine Wp.cut (fun σ => σ = ⟨frR H here key bits z cnt o6 (some (.int 0)) none none :: fs, st', cnt + 1⟩) ?_ ?_
  · wide_line with []
  rintro σ rfl
  have hz0 : (z : Int) ≠ 0 := by omega
  have hgn : ∀ (G : List Frm), E07 s G st' → ∀ x, x < z → ∀ {Q : AV → St → Prop}, Wp (getNode.1 [.inst 615 (1, H.r), .int (x : Int)] []) Q ⟨G, st', cnt + 1⟩ = Q (.str (nmS (T x))) ⟨G, st', cnt + 1⟩ := fun G hG x hx {Q} =>
    getNode_wp (pl07 s) R' hG trivial O.sorted (by omega) (by
      intro e
      rw [e, List.length_nil] at hlen
      exact hL (List.length_eq_zero_iff.mp hlen.2.1.symm)) (by omega) (hget x hx).1 (hget x hx).2
  have hTz : ∀ x, x < z → T x < z := fun x hx => hLz _ (hT.mem x hx)
  have hlk : ∀ x, x < z → look (numL z) (nmS (T x)) = some (.int ((T x : Nat) : Int)) := fun x hx => numL_look (by omega) (hTz x hx)
  have hq0b : bl q0 ≤ bits := by
    rw [bl_lt, ← hz]
    have := hq.lt
    have := (off_le (hLz _ hh) hk).2
    omega
  rw [wp_seqA]
  refine wp_while_inv (fun m σ => ∃ (here q h : Nat) (o8 o9 : Option AV), σ = ⟨frR H here key bits z cnt o6 (some (.int (h : Int))) o8 o9 :: fs, st', cnt + 1⟩ ∧ bl q ≤ m ∧ here ∈ L ∧ IsQ z (· ∈ L) key here q ∧ h + bl q ≤ bl q0 ∧ ((∀ y, y < z → y ∈ L) → bits < 5 → h + pc bits q = pc bits q0)) ?_ 100 (bl q0) _ (by omega) ⟨here, q0, 0, none, none, rfl, Nat.le_refl _, hh, hq, by omega, fun _ _ => by omega⟩
  rintro m σ ⟨here, q, h, o8, o9, rfl, hm, hh, hq, hhq, hfull⟩
  have hhz := hLz _ hh
  refine .inl ⟨?_, ?_⟩
  · wide_line with [show ((h : Int) ≤ (bits : Int)) by omega]
  -- ahead
  have hx1 : (here + 1) % z < z := Nat.mod_lt _ (by omega)
  refine Wp.cut (fun σ => σ = ⟨frR H here key bits z cnt o6 (some (.int (h : Int))) (some (.int ((T ((here + 1) % z) : Nat) : Int))) o9 :: fs, st', cnt + 1⟩) ?_ ?_
  · have hm1 : ((here : Int) + 1).fmod (z : Int) = (((here + 1) % z : Nat) : Int) := mod_ad (b := 1)
    wide_line with [R.r, ar_mod hz0, hm1, R'.r, hgn (frR H here key bits z cnt o6 (some (.int (h : Int))) o8 o9 :: fs) (hE' _) _ hx1, h602, hlk _ hx1]
  rintro σ rfl
  obtain ⟨ht1, ht2⟩ := head_test (by omega) hT hh hk hq
  -- there?
  by_cases hq0 : q = 0
  · have hc := ht1.mpr hq0
    rw [wp_seqA]
    have hc' : ((off z here key : Nat) : Int) ≤ ((off z here (T ((here + 1) % z)) : Nat) : Int) := by omega
    wide_line with [lawWay_wp hz0, way_off hhz hk, way_off hhz (hTz _ hx1), hc']
    rw [ht2 hq0]
    refine hQ st' h (by omega) (fun h1 h2 => ?_) ho
    have := hfull h1 h2
    rw [hq0] at this
    have e0 : ∀ bits, bits < 5 → pc bits 0 = 0 := by decide
    rw [e0 bits h2] at this; omega
  · have hc' : ¬ ((off z here key : Nat) : Int) ≤ ((off z here (T ((here + 1) % z)) : Nat) : Int) := by
      have := mt ht1.mp hq0; omega
    refine Wp.cut (fun σ => σ = ⟨frR H here key bits z cnt o6 (some (.int (h : Int))) (some (.int ((T ((here + 1) % z) : Nat) : Int))) o9 :: fs, st', cnt + 1⟩) ?_ ?_
    · wide_line with [lawWay_wp hz0, way_off hhz hk, way_off hhz (hTz _ hx1), hc']
    rintro σ rfl
    obtain ⟨M, hM0, hM1, hM2⟩ := bl_pos hq0
    have hMb : M < bits := by omega
    have hpz : ∀ f, f < bits → 2 ^ f < z := fun f hf => by rw [hz]; exact Nat.pow_lt_pow_right (by decide) hf
    obtain ⟨s1, s2, s3, s4, s5⟩ := hop_step hT hh hk hq hM1 hM2 (hpz M hMb)
    have hxf : ∀ f, (here + 2 ^ f) % z < z := fun f => Nat.mod_lt _ (by omega)
    -- fingers
    obtain ⟨o8', ho8⟩ : ∃ o8' : Option AV, o8' = some (.int ((T ((here + 1) % z) : Nat) : Int)) := ⟨_, rfl⟩
    rw [← ho8]
    have hitb : itB (.rng 0 (bits : Int) 1) = Mine.M.pure (((List.range bits).map fun i : Nat => AV.int (i : Int)), fun _ => True) := itB_nat (by omega)
    refine Wp.cut (fun σ => σ = ⟨frR H here key bits z cnt o6 (some (.int (h : Int))) o8' (some (.lst ((List.range bits).map fun f => AV.int ((T ((here + 2 ^ f) % z) : Nat) : Int)))) :: fs, st', cnt + 1⟩) ?_ ?_
    · wide_line with []
      refine wp_comp (l := (List.range bits).map fun i : Nat => AV.int (i : Int)) (C := fun _ => True) (fun a => match a with
        | .int f => some (.int ((T ((here + 2 ^ f.toNat) % z) : Nat) : Int))
        | _ => none) (by wide_line with [hitb]) (fun _ => trivial) (by rw [List.length_map, List.length_range]; omega) ?_ ?_
      · intro x hx fr hfr
        obtain ⟨a, b, rfl⟩ := len2 hfr
        obtain ⟨f, hf, rfl⟩ := List.mem_map.mp hx
        have hf := List.mem_range.mp hf
        have hpf : smallI 2 = true ∧ 0 ≤ (f : Int) ∧ (f : Int) < 1000 := ⟨by decide, by omega, by omega⟩
        have hm1 : ((here : Int) + (2 : Int) ^ f).fmod (z : Int) = (((here + 2 ^ f) % z : Nat) : Int) := by
          have := mod_ad (n := z) (i := here) (b := 2 ^ f)
          rwa [Int.natCast_pow] at this
        wide_line with [R'.r, ar_pow hpf, Int.toNat_natCast, ar_mod hz0, hm1, hgn ([a, some (.int (f : Int))] :: frR H here key bits z cnt o6 (some (.int (h : Int))) o8' o9 :: fs) ((pl07 s).push (hE' _)) _ (hxf f), h602, hlk _ (hxf f)]
        exact ⟨_, rfl, rfl⟩
      · rw [filterMap_map (f' := fun f : Nat => .int ((T ((here + 2 ^ f) % z) : Nat) : Int)) (fun f hf => by simp)]
        wide_line with []
    rintro σ rfl
    -- here
    obtain ⟨here', hh'⟩ : ∃ here', here' = T ((here + 2 ^ M) % z) := ⟨_, rfl⟩
    rw [← hh'] at s1 s3 s4 s5
    refine Wp.cut (fun σ => ∃ o9', σ = ⟨frR H here' key bits z cnt o6 (some (.int (h : Int))) o8' o9' :: fs, st', cnt + 1⟩) ?_ ?_
    · wide_line with []
      refine wp_comp (l := (List.range bits).map fun f => AV.int ((T ((here + 2 ^ f) % z) : Nat) : Int)) (C := fun _ => True) (fun a => match a with
        | .int y => if off z here y.toNat < off z here key then some a else none
        | _ => none) (by wide_line with []) (fun _ => trivial) (by rw [List.length_map, List.length_range]; omega) ?_ ?_
      · intro x hx fr hfr
        obtain ⟨a, b, rfl⟩ := len2 hfr
        obtain ⟨f, hf, rfl⟩ := List.mem_map.mp hx
        have hy := hTz _ (hxf f)
        generalize T ((here + 2 ^ f) % z) = y at *
        wide_line with [lawWay_wp hz0, way_off hhz hk, way_off hhz hy, Int.toNat_natCast, Int.ofNat_lt]
        by_cases c : off z here y < off z here key
        · wide_line with [c]
          exact ⟨_, rfl, rfl⟩
        · wide_line with [c]
          exact ⟨_, rfl, rfl⟩
      · rw [filterMap_if (c := fun f : Nat => decide (off z here (T ((here + 2 ^ f) % z)) < off z here key)) (fun f hf => by simp), filter_last hMb (by rw [decide_eq_true_eq, ← hh']; exact s1) (fun f h1 h2 => decide_eq_false (s2 f h1 (hpz f h2))), List.map_append, List.map_cons, List.map_nil, ← hh']
        have hll : (((List.range M).filter fun f : Nat => decide (off z here (T ((here + 2 ^ f) % z)) < off z here key)).map fun f => AV.int ((T ((here + 2 ^ f) % z) : Nat) : Int)).length < 1000 := by
          rw [List.length_map]
          have := List.length_filter_le (fun f : Nat => decide (off z here (T ((here + 2 ^ f) % z)) < off z here key)) (List.range M)
          rw [List.length_range] at this
          omega
        wide_line with [un_neg, atL_app hll]
        exact ⟨_, rfl⟩
    rintro σ ⟨o9', rfl⟩
    wide_line with []
    have hbq : bl (q - off z here here') ≤ M := bl_lt.mpr (by omega)
    refine ⟨M, by omega, here', q - off z here here', h + 1, _, _, rfl, hbq, ?_, s5, by omega, fun h1 h2 => ?_⟩
    · rw [hh']; exact hT.mem _ (hxf M)
    · have hw : off z here here' = 2 ^ M := by
        have hp : 1 ≤ 2 ^ M := Nat.one_le_two_pow
        obtain ⟨f1, f2⟩ := fing hT hh hp (hpz M hMb)
        have := f2 _ (h1 _ (hxf M)) (by
          rw [off_val hhz (hxf M)]
          have hpz' := hpz M hMb
          have hxv : (here + 2 ^ M) % z = if here + 2 ^ M < z then here + 2 ^ M else here + 2 ^ M - z := by
            split
            · exact Nat.mod_eq_of_lt (by assumption)
            · rw [Nat.mod_eq_sub_mod (by omega), Nat.mod_eq_of_lt (by omega)]
          rw [hxv]
          split <;> split <;> omega)
        rw [← hh'] at this f1
        have e : off z here ((here + 2 ^ M) % z) = 2 ^ M := by
          rw [off_val hhz (hxf M)]
          have hpz' := hpz M hMb
          have hxv : (here + 2 ^ M) % z = if here + 2 ^ M < z then here + 2 ^ M else here + 2 ^ M - z := by
            split
            · exact Nat.mod_eq_of_lt (by assumption)
            · rw [Nat.mod_eq_sub_mod (by omega), Nat.mod_eq_of_lt (by omega)]
          rw [hxv]
          split <;> split <;> omega
        omega
      have hqz : q < 2 ^ bits := by
        rw [← hz]
        have := hq.lt
        have := (off_le hhz hk).2
        omega
      have := pc_step bits h2 q hqz M hMb hM1 hM2
      have := hfull h1 h2
      rw [hw]; omega
end Mine
end

section
open PySem PySem.W PySem.Calls PyProof.Rows
set_option Elab.async false
set_option maxRecDepth 100000
set_option maxHeartbeats 2000000
set_option linter.unusedVariables false
set_option linter.unusedSectionVars false
set_option linter.unusedSimpArgs false
namespace Mine
local macro_rules | `(tactic| walk_at "PW") => `(tactic| simp only [wp_pure, wp_fail, wp_bind, wp_seqA, wp_cond, wp_ite, wp_ldv0, wp_ldv1, wp_stv, wp_alloc, wp_getNs, wp_getBm, wp_selfIn, wp_setNs, wp_getPr, wp_bmF, noKw_nil, wp_preT, tyA_int, tyA_str, tyA_lst, tyA_dct,
  ar_add, ar_sub, iar_add, iar_sub, ord_lt, ord_le, ord_gt, ord_ge, is_none, is_int, is_str, isN_none, eqFS_clo, un_neg, tr_bool, tr_none, tr_int, tr_clo, wp_tr_ref, wp_eq_int, wp_ne_int, wp_eq_ni, wp_ne_ni, wp_getA_tup, wp_getA_lst, wp_getA_dct, wp_getA_dictS, wp_getA_int, wp_setS, wp_setI, wp_delI, wp_append,
  wp_dgetI, wp_dgetS, wp_dgetSd, wp_dgetD, wp_dgetDd, wp_pop1, wp_pop2, wp_view, wp_viewD, wp_preCtr, wp_ctrPop1, wp_ctrPop2, wp_ctrGet, wp_ctrSet, wp_len, wp_lenR, range1, range2, abs_int, itB_lst, itB_tup, itB_dct, wp_itB_ref, wp_itEn_lst, wp_itEn_ref, tgtTup_eq, tgtCons_eq, tgtNil_eq, wp_forS,
  List.getElem?_cons_zero, List.getElem?_cons_succ, List.set_cons_zero, List.set_cons_succ, Option.some.injEq, exists_eq_left', List.length_cons, List.length_nil, Nat.zero_add, Nat.reduceAdd, Nat.sub_zero, Nat.reduceSub, Bool.cond_true, Bool.cond_false, cond_true, cond_false, Bool.cond_decide, true_and, and_true, if_true, if_false, List.tail_cons, reduceCtorEq, false_and, exists_false, false_or, or_false, decide_true, decide_false, Bool.not_true, Bool.not_false,
  AO.ns.injEq, AO.list.injEq, AO.dictI.injEq, AO.dictS.injEq, AO.ctr.injEq, upd_site, and_false, Nat.reduceEqDiff, getK_eq, setK_eq, delK_eq, Option.map_some, Option.map_none, Option.getD_some, Option.getD_none, Nat.zero_le, Nat.le_refl, Nat.reduceLeDiff, ar_mul1, Int.one_mul, isi_lst_str, isi_dct_str, isi_lst_dict, isi_dct_dict, isi_int_int, isi_dct_int, isi_str_int, isi_lst_dl, isi_dct_dl, isi_clo_7, tyA_ref, tyO_list, tyO_dictI, tyO_dictS, in_w3, in_n4, eq_n1, eq_n2, eq_n3, eq_p1, tr_dct0, mkT_eq, mkL_eq])
local macro_rules | `(tactic| walk_at "PN") => `(tactic| simp only [l_r1, l_r2, l_r3, l_r4, l_m1, l_m2, l_m3, l_m4, l_m5, l_m6, l_m7, l_m8, l_m9, l_r5, l_r6, l_r7, l_r8, l_r9, l_r10, l_r11, l_r12, l_r13, l_r14, l_r15, l_c1, l_c2, l_c3, p_m2, p_c2, noMc])
local macro_rules | `(tactic| wide_line with [$ts,*]) => `(tactic| simp only [wp_pure, wp_fail, wp_bind, wp_seqA, wp_cond, wp_ite, wp_ldv0, wp_ldv1, wp_stv, wp_alloc, wp_getNs, wp_getBm, wp_selfIn, wp_setNs, wp_getPr, wp_bmF, noKw_nil, wp_preT, tyA_int, tyA_str, tyA_lst, tyA_dct,
  ar_add, ar_sub, iar_add, iar_sub, ord_lt, ord_le, ord_gt, ord_ge, is_none, is_int, is_str, isN_none, eqFS_clo, un_neg, tr_bool, tr_none, tr_int, tr_clo, wp_tr_ref, wp_eq_int, wp_ne_int, wp_eq_ni, wp_ne_ni, wp_getA_tup, wp_getA_lst, wp_getA_dct, wp_getA_dictS, wp_getA_int, wp_setS, wp_setI, wp_delI, wp_append,
  wp_dgetI, wp_dgetS, wp_dgetSd, wp_dgetD, wp_dgetDd, wp_pop1, wp_pop2, wp_view, wp_viewD, wp_preCtr, wp_ctrPop1, wp_ctrPop2, wp_ctrGet, wp_ctrSet, wp_len, wp_lenR, range1, range2, abs_int, itB_lst, itB_tup, itB_dct, wp_itB_ref, wp_itEn_lst, wp_itEn_ref, tgtTup_eq, tgtCons_eq, tgtNil_eq, wp_forS,
  List.getElem?_cons_zero, List.getElem?_cons_succ, List.set_cons_zero, List.set_cons_succ, Option.some.injEq, exists_eq_left', List.length_cons, List.length_nil, Nat.zero_add, Nat.reduceAdd, Nat.sub_zero, Nat.reduceSub, Bool.cond_true, Bool.cond_false, cond_true, cond_false, Bool.cond_decide, true_and, and_true, if_true, if_false, List.tail_cons, reduceCtorEq, false_and, exists_false, false_or, or_false, decide_true, decide_false, Bool.not_true, Bool.not_false,
  AO.ns.injEq, AO.list.injEq, AO.dictI.injEq, AO.dictS.injEq, AO.ctr.injEq, upd_site, and_false, Nat.reduceEqDiff, getK_eq, setK_eq, delK_eq, Option.map_some, Option.map_none, Option.getD_some, Option.getD_none, Nat.zero_le, Nat.le_refl, Nat.reduceLeDiff, ar_mul1, Int.one_mul, isi_lst_str, isi_dct_str, isi_lst_dict, isi_dct_dict, isi_int_int, isi_dct_int, isi_str_int, isi_lst_dl, isi_dct_dl, isi_clo_7, tyA_ref, tyO_list, tyO_dictI, tyO_dictS, in_w3, in_n4, eq_n1, eq_n2, eq_n3, eq_p1, tr_dct0, mkT_eq, mkL_eq, l_r1, l_r2, l_r3, l_r4, l_m1, l_m2, l_m3, l_m4, l_m5, l_m6, l_m7, l_m8, l_m9, l_r5, l_r6, l_r7, l_r8, l_r9, l_r10, l_r11, l_r12, l_r13, l_r14, l_r15, l_c1, l_c2, l_c3, p_m2, p_c2, noMc, $[$ts:term],*])
section
variable {fs : List Frm} {st : Hd → Option AO} {cnt : Nat} {Q : AV → St → Prop}
theorem all_dOk_ints : ∀ ns : List Int, (ns.map PyData.int).all dOk = true
  | [] => rfl
  | x :: l => by
    rw [List.map_cons, List.all_cons, all_dOk_ints l, Bool.and_true]
    unfold dOk
    rw [PyData.canLay0, PyData.depth]; rfl
theorem any_eqv_ints (k : Int) : ∀ ns : List Int, ((ns.map PyData.int).any fun x => PyData.eqv x (.int k)) = decide (k ∈ ns)
  | [] => by simp
  | x :: l => by
    rw [List.map_cons, List.any_cons, any_eqv_ints k l, PyData.eqv]
    by_cases h1 : x = k
    · subst h1; simp
    · have h2 : ¬ k = x := fun e => h1 e.symm
      simp [h1, h2]
theorem wp_notIn_list {h : Hd} {ns : List Int} {k : Int} (e : st h = some (.list (intsL ns))) : Wp (notInA (.int k) (.ref h)) Q ⟨fs, st, cnt⟩ = Q (.bool (!decide (k ∈ ns))) ⟨fs, st, cnt⟩ := by
  apply propext; refine wp_of ?_
  unfold notInA
  rw [viewL_list e]
  have h1 : toD (.int k) = some (.int k) := rfl
  have h2 : dOk (.int k) = true := by have := all_dOk_ints [k]; simpa using this
  simp only [h1, toDs_intsL, h2, all_dOk_ints, Bool.and_self, if_true, any_eqv_ints]
theorem wp_sliceI {site : Nat} {lo hi : Option Int} {h : Hd} {l : List AV} (e : st h = some (.list l)) (hl : l.length ≤ 2 ^ 20) : Wp (sliceI site lo hi (.ref h)) Q ⟨fs, st, cnt⟩ = Q (.ref (site, cnt)) ⟨fs, upd st (site, cnt) (.list (sliceA lo hi l)), cnt + 1⟩ := by
  apply propext; refine wp_of ?_
  unfold sliceI
  rw [viewL_list e]
  dsimp only
  rw [if_pos hl]
  rfl
theorem rowsOf_map : ∀ rows : List (Int × Int), rowsOf (rows.map tup2) = some rows
  | [] => rfl
  | (x, y) :: l => by
    show (rowsOf (l.map tup2)).map ((x, y) :: ·) = _
    rw [rowsOf_map l]; rfl
theorem wp_minT {rows : List (Int × Int)} {σ : St} (h : rows ≠ []) : Wp (minTF [.lst (rows.map tup2)] []) Q σ = Q (.tup [.int (minRow rows).1, .int (minRow rows).2]) σ := by
  apply propext; refine wp_of ?_
  unfold minTF
  have : viewL σ (.lst (rows.map tup2)) = some (rows.map tup2) := rfl
  simp only [this, rowsOf_map, if_pos h]
theorem wp_eq_tup2 {a b c d : Int} {σ : St} : Wp (eqA (.tup [.int a, .int b]) (.tup [.int c, .int d])) Q σ = Q (.bool (decide (a = c ∧ b = d))) σ := by
  have hv : ∀ a b : Int, viewD σ (.tup [.int a, .int b]) = some (.tuple [.int a, .int b]) := fun a b => rfl
  have hd : ∀ a b : Int, dOk (.tuple [.int a, .int b]) = true := fun a b => by
    unfold dOk
    simp [PyData.canLay0, PyData.canLayAll0, PyData.depth, PyData.depthAll]
  rw [wp_eqA (hv a b) (hv c d) (hd a b) (hd c d)]
  congr 2
  rw [PyData.eqv, PyData.eqvAll, PyData.eqvAll, PyData.eqvAll, PyData.eqv, PyData.eqv]
  by_cases h1 : a = c <;> by_cases h2 : b = d <;> simp [h1, h2]
end
theorem bitN_nat {k : Nat} : bitN (k : Int) = bl k := by
  unfold bitN bl
  by_cases h : k = 0
  · subst h; rfl
  · rw [if_neg h, if_neg (by omega)]; rfl
theorem due_eq {z key : Nat} {L : List Nat} {T : Nat → Nat} (hL : L ≠ []) (h : Told z (· ∈ L) T) (hk : key < z) : (minRow (L.map fun y => (((ix z y key + 1 : Nat) : Int), (y : Int)))).2 = ((T key : Nat) : Int) := by
  obtain ⟨h1, h2⟩ := minRow_spec (rows := L.map fun y => (((ix z y key + 1 : Nat) : Int), (y : Int))) (by simpa using hL)
  obtain ⟨y, hy, e⟩ := List.mem_map.mp h1
  have h3 := h2 _ (List.mem_map.mpr ⟨T key, h.mem key hk, rfl⟩)
  rw [← e] at h3 ⊢
  have h4 := h.min key hk y hy
  have h5 := h.lt _ hy
  have h6 := h.lt _ (h.mem key hk)
  unfold lt2 at h3
  simp only [decide_eq_false_iff_not] at h3
  generalize T key = u at *
  have e1 := ix_val hk h6
  have e2 := ix_val hk h5
  dsimp only at h3 ⊢
  generalize ix z u key = a at *
  generalize ix z y key = b at *
  split at e1 <;> split at e2 <;> omega
theorem pc_sum (bits q : Nat) : sumI ((List.range bits).map fun i => ((q / 2 ^ i % 2 : Nat) : Int)) = ((pc bits q : Nat) : Int) := by
  unfold pc
  induction bits with
  | zero => rfl
  | succ n ih =>
    rw [List.range_succ, List.map_append, sumI_append, ih, List.map_append, List.sum_append]
    simp [sumI]
end Mine
end

section
open PySem PySem.W PySem.Calls PyProof.Rows
set_option Elab.async false
set_option maxRecDepth 100000
set_option maxHeartbeats 2000000
set_option linter.unusedVariables false
set_option linter.unusedSectionVars false
set_option linter.unusedSimpArgs false
namespace Mine
local macro_rules | `(tactic| walk_at "PW") => `(tactic| simp only [wp_pure, wp_fail, wp_bind, wp_seqA, wp_cond, wp_ite, wp_ldv0, wp_ldv1, wp_stv, wp_alloc, wp_getNs, wp_getBm, wp_selfIn, wp_setNs, wp_getPr, wp_bmF, noKw_nil, wp_preT, tyA_int, tyA_str, tyA_lst, tyA_dct,
  ar_add, ar_sub, iar_add, iar_sub, ord_lt, ord_le, ord_gt, ord_ge, is_none, is_int, is_str, isN_none, eqFS_clo, un_neg, tr_bool, tr_none, tr_int, tr_clo, wp_tr_ref, wp_eq_int, wp_ne_int, wp_eq_ni, wp_ne_ni, wp_getA_tup, wp_getA_lst, wp_getA_dct, wp_getA_dictS, wp_getA_int, wp_setS, wp_setI, wp_delI, wp_append,
  wp_dgetI, wp_dgetS, wp_dgetSd, wp_dgetD, wp_dgetDd, wp_pop1, wp_pop2, wp_view, wp_viewD, wp_preCtr, wp_ctrPop1, wp_ctrPop2, wp_ctrGet, wp_ctrSet, wp_len, wp_lenR, range1, range2, abs_int, itB_lst, itB_tup, itB_dct, wp_itB_ref, wp_itEn_lst, wp_itEn_ref, tgtTup_eq, tgtCons_eq, tgtNil_eq, wp_forS,
  List.getElem?_cons_zero, List.getElem?_cons_succ, List.set_cons_zero, List.set_cons_succ, Option.some.injEq, exists_eq_left', List.length_cons, List.length_nil, Nat.zero_add, Nat.reduceAdd, Nat.sub_zero, Nat.reduceSub, Bool.cond_true, Bool.cond_false, cond_true, cond_false, Bool.cond_decide, true_and, and_true, if_true, if_false, List.tail_cons, reduceCtorEq, false_and, exists_false, false_or, or_false, decide_true, decide_false, Bool.not_true, Bool.not_false,
  AO.ns.injEq, AO.list.injEq, AO.dictI.injEq, AO.dictS.injEq, AO.ctr.injEq, upd_site, and_false, Nat.reduceEqDiff, getK_eq, setK_eq, delK_eq, Option.map_some, Option.map_none, Option.getD_some, Option.getD_none, Nat.zero_le, Nat.le_refl, Nat.reduceLeDiff, ar_mul1, Int.one_mul, isi_lst_str, isi_dct_str, isi_lst_dict, isi_dct_dict, isi_int_int, isi_dct_int, isi_str_int, isi_lst_dl, isi_dct_dl, isi_clo_7, tyA_ref, tyO_list, tyO_dictI, tyO_dictS, in_w3, in_n4, eq_n1, eq_n2, eq_n3, eq_p1, tr_dct0, mkT_eq, mkL_eq])
local macro_rules | `(tactic| walk_at "PN") => `(tactic| simp only [l_r1, l_r2, l_r3, l_r4, l_m1, l_m2, l_m3, l_m4, l_m5, l_m6, l_m7, l_m8, l_m9, l_r5, l_r6, l_r7, l_r8, l_r9, l_r10, l_r11, l_r12, l_r13, l_r14, l_r15, l_c1, l_c2, l_c3, p_m2, p_c2, noMc])
local macro_rules | `(tactic| wide_line with [$ts,*]) => `(tactic| simp only [wp_pure, wp_fail, wp_bind, wp_seqA, wp_cond, wp_ite, wp_ldv0, wp_ldv1, wp_stv, wp_alloc, wp_getNs, wp_getBm, wp_selfIn, wp_setNs, wp_getPr, wp_bmF, noKw_nil, wp_preT, tyA_int, tyA_str, tyA_lst, tyA_dct,
  ar_add, ar_sub, iar_add, iar_sub, ord_lt, ord_le, ord_gt, ord_ge, is_none, is_int, is_str, isN_none, eqFS_clo, un_neg, tr_bool, tr_none, tr_int, tr_clo, wp_tr_ref, wp_eq_int, wp_ne_int, wp_eq_ni, wp_ne_ni, wp_getA_tup, wp_getA_lst, wp_getA_dct, wp_getA_dictS, wp_getA_int, wp_setS, wp_setI, wp_delI, wp_append,
  wp_dgetI, wp_dgetS, wp_dgetSd, wp_dgetD, wp_dgetDd, wp_pop1, wp_pop2, wp_view, wp_viewD, wp_preCtr, wp_ctrPop1, wp_ctrPop2, wp_ctrGet, wp_ctrSet, wp_len, wp_lenR, range1, range2, abs_int, itB_lst, itB_tup, itB_dct, wp_itB_ref, wp_itEn_lst, wp_itEn_ref, tgtTup_eq, tgtCons_eq, tgtNil_eq, wp_forS,
  List.getElem?_cons_zero, List.getElem?_cons_succ, List.set_cons_zero, List.set_cons_succ, Option.some.injEq, exists_eq_left', List.length_cons, List.length_nil, Nat.zero_add, Nat.reduceAdd, Nat.sub_zero, Nat.reduceSub, Bool.cond_true, Bool.cond_false, cond_true, cond_false, Bool.cond_decide, true_and, and_true, if_true, if_false, List.tail_cons, reduceCtorEq, false_and, exists_false, false_or, or_false, decide_true, decide_false, Bool.not_true, Bool.not_false,
  AO.ns.injEq, AO.list.injEq, AO.dictI.injEq, AO.dictS.injEq, AO.ctr.injEq, upd_site, and_false, Nat.reduceEqDiff, getK_eq, setK_eq, delK_eq, Option.map_some, Option.map_none, Option.getD_some, Option.getD_none, Nat.zero_le, Nat.le_refl, Nat.reduceLeDiff, ar_mul1, Int.one_mul, isi_lst_str, isi_dct_str, isi_lst_dict, isi_dct_dict, isi_int_int, isi_dct_int, isi_str_int, isi_lst_dl, isi_dct_dl, isi_clo_7, tyA_ref, tyO_list, tyO_dictI, tyO_dictS, in_w3, in_n4, eq_n1, eq_n2, eq_n3, eq_p1, tr_dct0, mkT_eq, mkL_eq, l_r1, l_r2, l_r3, l_r4, l_m1, l_m2, l_m3, l_m4, l_m5, l_m6, l_m7, l_m8, l_m9, l_r5, l_r6, l_r7, l_r8, l_r9, l_r10, l_r11, l_r12, l_r13, l_r14, l_r15, l_c1, l_c2, l_c3, p_m2, p_c2, noMc, $[$ts:term],*])
abbrev fr07 (ns : List Int) (o1 o2 o3 o4 o5 o6 o7 o8 o9 o10 o11 o12 o13 o14 o15 o16 o17 : Option AV) : Frm := [some (.lst (intsL ns)), o1, o2, o3, o4, o5, o6, o7, o8, o9, o10, o11, o12, o13, o14, o15, o16, o17]
abbrev gr07 (ns : List Int) (bits z : Nat) (s : Int) (o3 o5 o6 o7 o8 o9 o10 o11 o12 o13 o14 o15 : Option AV) : Frm :=
  fr07 ns (some (.int (bits : Int))) (some (.int (z : Int))) o3 (some (.clo 0)) o5 o6 o7 o8 o9 o10 o11 o12 o13 o14 o15 (some (.int s)) (some (.ref (618, 0)))
def nums07 (ns : List Int) : List Int := if 8 < ns.length then (ns.drop 8).take 5 else [1, 4, 5, 11]
def natsL (L : List Nat) : List Int := L.map fun y : Nat => (y : Int)
/-- the ring and the list of its nodes -/
structure Inv07 (z : Nat) (s : Int) (H : RH) (h5 : Hd) (L : List Nat) (ρ : RS) (st : Hd → Option AO) (c : Nat) : Prop where
  R : RingAt st c H ρ
  O : One ρ (L.map fun i => (nmS i, s + 2 * (i : Int)))
  nd : L.Nodup
  lt : ∀ y ∈ L, y < z
  ne : L ≠ []
  l : st h5 = some (.list (intsL (natsL L)))
  si : h5.1 = 624 ∨ h5.1 = 632
  c5 : h5.2 < c
  t : st (618, 0) = some (.dictS (tabL (fun k => s + 2 * (k : Int)) 32))
  tc : 0 < c
theorem Inv07.T {z : Nat} {s : Int} {H : RH} {h5 : Hd} {L : List Nat} {ρ : RS} {st : Hd → Option AO} {c : Nat} (I : Inv07 z s H h5 L ρ st c) : ∃ T, Told z (· ∈ L) T ∧
    ∀ x, x < z → ρ.keys[posOf ρ.keys (s + 2 * (x : Int) - 1)]? = some (s + 2 * ((T x : Nat) : Int)) ∧ look ρ.rg (s + 2 * ((T x : Nat) : Int)) = some (nmS (T x)) := ring_told I.O I.ne I.lt
theorem law07_t {ns : List Int} (hn : ns.length ≤ 63) : Wp lawW.1 (fun r _ => r = .ret (.bool true)) ⟨[some (.lst (intsL ns)) :: List.replicate 17 none], fun _ => none, 0⟩ := by
  show Wp lawW.1 _ ⟨[fr07 ns none none none none none none none none none none none none none none none none none], _, _⟩
  unfold lawW
  dsimp only
  have hit : ∀ m : Nat, m < 1000 → itB (.rng 0 (m : Int) 1) = Mine.M.pure (((List.range m).map fun i : Nat => AV.int (i : Int)), fun _ => True) := fun m hm => itB_nat (by omega)
  -- bits, size, shift
  obtain ⟨bits, hbits, hbe⟩ : ∃ bits : Nat, (3 ≤ bits ∧ bits ≤ 5) ∧ 3 + (ns.getD 0 1).fmod 3 = (bits : Int) := by
    have h1 := Int.fmod_nonneg_of_pos (ns.getD 0 1) (show (0 : Int) < 3 by decide)
    have h2 := Int.fmod_lt_of_pos (ns.getD 0 1) (show (0 : Int) < 3 by decide)
    exact ⟨(3 + (ns.getD 0 1).fmod 3).toNat, by omega, by omega⟩
  obtain ⟨z, hz⟩ : ∃ z : Nat, z = 2 ^ bits := ⟨_, rfl⟩
  have hz32 : 8 ≤ z ∧ z ≤ 32 := by
    obtain ⟨h1, h2⟩ := hbits
    rw [hz]
    have a : 2 ^ 3 ≤ 2 ^ bits := Nat.pow_le_pow_right (by decide) h1
    have b : 2 ^ bits ≤ 2 ^ 5 := Nat.pow_le_pow_right (by decide) h2
    omega
  have hz0 : (z : Int) ≠ 0 := by omega
  have hpow : ((2 : Int) ^ bits) = (z : Int) := by rw [hz, Int.natCast_pow]; rfl
  have hp1 : smallI 2 = true ∧ 0 ≤ (bits : Int) ∧ (bits : Int) < 1000 := ⟨by decide, by omega, by omega⟩
  obtain ⟨s, hs⟩ : ∃ s : Int, s = ns.getD 1 0 := ⟨_, rfl⟩
  refine Wp.cut (fun σ => σ = ⟨[fr07 ns (some (.int (bits : Int))) none none none none none none none none none none none none none none none none], fun _ => none, 0⟩) ?_ ?_
  · wide_line with [lawAt_wp (k := 0) (by decide) hn, Int.toNat_zero, ar_mod (show (3 : Int) ≠ 0 by decide), hbe]
  rintro σ rfl
  refine Wp.cut (fun σ => σ = ⟨[fr07 ns (some (.int (bits : Int))) (some (.int (z : Int))) none none none none none none none none none none none none none none none], fun _ => none, 0⟩) ?_ ?_
  · wide_line with [ar_pow hp1, Int.toNat_natCast, hpow]
  rintro σ rfl
  refine Wp.cut (fun σ => σ = ⟨[fr07 ns (some (.int (bits : Int))) (some (.int (z : Int))) none none none none none none none none none none none none none (some (.int s)) none], fun _ => none, 0⟩) ?_ ?_
  · wide_line with [lawAt_wp (k := 1) (by decide) hn, show Int.toNat 1 = 1 from rfl, hs.symm]
  rintro σ rfl
  -- the table
  refine Wp.cut (fun σ => σ = ⟨[fr07 ns (some (.int (bits : Int))) (some (.int (z : Int))) none none none none none none none none none none none none none (some (.int s)) (some (.ref (618, 0)))], upd (fun _ => none) (618, 0) (.dictS []), 1⟩) ?_ ?_
  · wide_line with []
  rintro σ rfl
  refine Wp.cut (fun σ => ∃ o3 st, σ = ⟨[fr07 ns (some (.int (bits : Int))) (some (.int (z : Int))) o3 none none none none none none none none none none none none (some (.int s)) (some (.ref (618, 0)))], st, 1⟩ ∧ st (618, 0) = some (.dictS (tabL (fun k => s + 2 * (k : Int)) 32))) ?_ ?_
  · have h32 : itB (.rng 0 32 1) = Mine.M.pure (((List.range 32).map fun i : Nat => AV.int (i : Int)), fun _ => True) := hit 32 (by decide)
    wide_line with [h32]
    refine wp_forA (fun k σ => ∃ o3 st, σ = ⟨[fr07 ns (some (.int (bits : Int))) (some (.int (z : Int))) o3 none none none none none none none none none none none none (some (.int s)) (some (.ref (618, 0)))], st, 1⟩ ∧ st (618, 0) = some (.dictS (tabL (fun k => s + 2 * (k : Int)) k))) ?_ (fun _ _ _ _ => trivial) ?_ ?_
    · exact ⟨_, _, rfl, upd_same⟩
    · rintro k hk σ ⟨o3, st, rfl, h6⟩
      have hk' : k < 32 := by rw [List.length_map, List.length_range] at hk; exact hk
      rw [List.getElem_map, List.getElem_range]
      wide_line with [h6, ar_mulL (show smallI 2 = true by decide), strF_nat (show k < 1000 by omega), cat_key (show k < 40 by omega), tabL_len]
      refine ⟨by omega, _, _, rfl, ?_⟩
      rw [upd_same, tabL_succ (f := fun k : Nat => s + 2 * (k : Int)) (by omega)]
    · rintro σ ⟨o3, st, rfl, h6⟩
      rw [List.length_map, List.length_range] at h6
      wide_line with []
      exact ⟨_, _, rfl, h6⟩
  rintro σ ⟨o3, st1, rfl, h618⟩
  simp only [wp_bind, wp_stv, List.set_cons_succ, List.set_cons_zero, Nat.zero_add, Nat.reduceAdd]
  -- nodes
  refine Wp.cut (fun σ => σ = ⟨[gr07 ns bits z s o3 (some (.ref (624, 1))) none none none none none none none none none none], upd st1 (624, 1) (.list []), 2⟩) ?_ ?_
  · wide_line with []
  rintro σ rfl
  have hnl : (nums07 ns).length ≤ 5 ∧ 1 ≤ (nums07 ns).length := by
    unfold nums07
    split
    · rw [List.length_take, List.length_drop]; omega
    · decide
  refine Wp.cut (fun σ => ∃ o6 st L, σ = ⟨[gr07 ns bits z s o3 (some (.ref (624, 1))) o6 none none none none none none none none none], st, 2⟩ ∧ st (624, 1) = some (.list (intsL (natsL L))) ∧ st (618, 0) = some (.dictS (tabL (fun k => s + 2 * (k : Int)) 32)) ∧ L.Nodup ∧ (∀ y ∈ L, y < z) ∧ L ≠ [] ∧ L.length ≤ 5) ?_ ?_
  · have hit8 : ∀ {Q : (List AV × (St → Prop)) → St → Prop} {σ}, Q (intsL (nums07 ns), fun _ => True) σ → (if 8 < (ns.length : Int) then Wp (sliceF (some 8) (some 13) (.lst (intsL ns))) (fun b σ' => Wp (itB b) Q σ') σ else Q ([.int 1, .int 4, .int 5, .int 11], fun _ => True) σ) := by
      intro Q σ hq
      split
      · rename_i h
        rw [wp_slice (by rw [intsL_len]; omega), show (some (8 : Int)) = some ((8 : Nat) : Int) from rfl, show (some (13 : Int)) = some ((13 : Nat) : Int) from rfl, sliceA_mid, itB_lst, wp_pure]
        have : nums07 ns = (ns.drop 8).take 5 := by unfold nums07; rw [if_pos (by omega)]
        rw [this] at hq
        unfold intsL at hq ⊢
        rw [← List.map_drop, ← List.map_take]; exact hq
      · rename_i h
        have : nums07 ns = [1, 4, 5, 11] := by unfold nums07; rw [if_neg (by omega)]
        rw [this] at hq; exact hq
    wide_line with [intsL_len, show ns.length < 2 ^ 40 by omega]
    refine hit8 ?_
    refine wp_forA (fun k σ => ∃ o6 st L, σ = ⟨[gr07 ns bits z s o3 (some (.ref (624, 1))) o6 none none none none none none none none none], st, 2⟩ ∧ st (624, 1) = some (.list (intsL (natsL L))) ∧ st (618, 0) = some (.dictS (tabL (fun k => s + 2 * (k : Int)) 32)) ∧ L.Nodup ∧ (∀ y ∈ L, y < z) ∧ (0 < k → L ≠ []) ∧ L.length ≤ k) ?_ (fun _ _ _ _ => trivial) ?_ ?_
    · exact ⟨_, _, [], rfl, upd_same, by rw [upd_ne (by simp)]; exact h618, List.nodup_nil, fun y hy => (by cases hy), fun h => absurd h (by decide), Nat.le_refl _⟩
    · rintro k hk σ ⟨o6, st, L, rfl, h6, h18, l1, l2, l3, l4⟩
      have hk' : k < (nums07 ns).length := by rw [intsL_len] at hk; exact hk
      rw [intsL_get]
      generalize (nums07 ns)[k] = x
      obtain ⟨y, hy, hyx⟩ : ∃ y : Nat, y < z ∧ x.fmod (z : Int) = (y : Int) := by
        have h1 := Int.fmod_nonneg_of_pos x (show (0 : Int) < z by omega)
        have h2 := Int.fmod_lt_of_pos x (show (0 : Int) < z by omega)
        exact ⟨(x.fmod z).toNat, by omega, by omega⟩
      have hmem : ((y : Int) ∈ natsL L) ↔ y ∈ L := by
        unfold natsL
        rw [List.mem_map]
        exact ⟨fun ⟨u, hu, e⟩ => by have := Int.ofNat_inj.mp e; subst this; exact hu, fun h => ⟨y, h, rfl⟩⟩
      wide_line with [ar_mod hz0, hyx, wp_notIn_list h6]
      by_cases c : y ∈ L
      · have c' : (y : Int) ∈ natsL L := hmem.mpr c
        simp only [c', decide_true, Bool.not_true, cond_false]
        exact ⟨_, _, L, rfl, h6, h18, l1, l2, fun _ e => (by rw [e] at c; cases c), by omega⟩
      · have c' : ¬ (y : Int) ∈ natsL L := mt hmem.mp c
        simp only [c', decide_false, Bool.not_false, cond_true]
        wide_line with [ar_mod hz0, hyx, h6]
        refine ⟨by unfold intsL natsL; rw [List.length_map, List.length_map]; omega, _, _, L ++ [y], rfl, ?_, by rw [upd_ne (by simp)]; exact h18, ?_, ?_, fun _ => by simp, by simp; omega⟩
        · rw [upd_same]
          unfold intsL natsL
          rw [List.map_append, List.map_append]; rfl
        · rw [List.nodup_append]
          exact ⟨l1, by simp, fun a ha b hb => by simp at hb; subst hb; rintro rfl; exact c ha⟩
        · intro u hu
          rcases List.mem_append.mp hu with h | h
          · exact l2 u h
          · simp at h; omega
    · rintro σ ⟨o6, st, L, rfl, h6, h18, l1, l2, l3, l4⟩
      rw [intsL_len] at l3 l4
      wide_line with []
      exact ⟨_, _, L, rfl, h6, h18, l1, l2, l3 (by omega), by omega⟩
  rintro σ ⟨o6, st2, L0, rfl, h624, h618, n1, n2, n3, n4⟩
  -- the ring
  have hE : ∀ st o3 o5 o6 o7 o8 o9 o10 o11 o12 o13 o14 o15 bits z, st (618, 0) = some (.dictS (tabL (fun k => s + 2 * (k : Int)) 32)) → E07 s [gr07 ns bits z s o3 o5 o6 o7 o8 o9 o10 o11 o12 o13 o14 o15] st := fun _ _ _ _ _ _ _ _ _ _ _ _ _ _ _ h => ⟨_, rfl, rfl, rfl, h⟩
  have hnames : ∀ L : List Nat, L.Nodup → (∀ y ∈ L, y < 32) → (L.map nmS).Nodup := by
    intro L h1 h2
    rw [List.Nodup, List.pairwise_map]
    refine h1.imp_of_mem fun {a b} ha hb hne e => hne (nmS_inj (by have := h2 a ha; omega) (by have := h2 b hb; omega) e)
  -- a ring made of a list of nodes
  have mk : ∀ (L : List Nat) (F : List Frm) (st : Hd → Option AO) (cnt : Nat) (Q : AV → St → Prop), E07 s F st → L.Nodup → (∀ y ∈ L, y < 32) → L.length ≤ 32 →
      (∀ st' H ρ, H.r = cnt → RingAt st' (cnt + 6 + 2 * L.length) H ρ → One ρ (L.map fun i => (nmS i, s + 2 * (i : Int))) → (∀ n : Hd, 10 ≤ n.1 → st' n = st n) → Q (.inst 615 (1, cnt)) ⟨F, st', cnt + 6 + 2 * L.length⟩) →
      Wp (makeF 615 1 ringInit.1 [.lst (L.map fun h => AV.str (nmS h))] [.clo 0, .int 1]) Q ⟨F, st, cnt⟩ := by
    intro L F st cnt Q hF hnd hlt hlen hQ
    have hnm := hnames L hnd hlt
    have e1 : (L.map fun h => AV.str (nmS h)) = strsL (((L.map nmS).map fun nm => (nm, 1)).map fun e : Str × Nat => e.1) := by
      unfold strsL; rw [List.map_map, List.map_map, List.map_map]; rfl
    rw [e1]
    have hl2 : ((L.map nmS).map fun nm => (nm, 1)).length = L.length := by rw [List.length_map, List.length_map]
    have hmem : ∀ e ∈ (L.map nmS).map fun nm => (nm, 1), ∃ h, h < 32 ∧ e = (nmS h, 1) := by
      intro e he
      rw [List.map_map] at he
      obtain ⟨h, hh, rfl⟩ := List.mem_map.mp he
      exact ⟨h, hlt h hh, rfl⟩
    refine newRing_wp (pl07 s) (items := (L.map nmS).map fun nm => (nm, 1)) hF (.inl ⟨rfl, fun e he => by obtain ⟨h, _, rfl⟩ := hmem e he; rfl⟩) (by
      rw [List.map_map]
      exact (List.map_id _).symm ▸ hnm) (fun e he k hk => by
      obtain ⟨h, h9, rfl⟩ := hmem e he
      exact ⟨by dsimp only at hk; omega, h, h9, rfl⟩) (fun e he => by obtain ⟨h, _, rfl⟩ := hmem e he; exact ⟨Nat.le_refl 1, by show 1 < 60; decide⟩) ?_ (new_conf hnm) fun st' H hH R ho => ?_
    · rw [List.map_map]
      have : ∀ l : List Str, (l.map fun _ => 1).sum = l.length := fun l => by induction l with
        | nil => rfl
        | cons a l ih => rw [List.map_cons, List.sum_cons, ih, List.length_cons]; omega
      show ((L.map nmS).map fun _ => 1).sum < 64
      rw [this, List.length_map]; omega
    · rw [hl2] at R ⊢
      have hr : H.r = cnt := by rw [hH]
      have ho1 := One.new (pt := pt07 s) (names := L.map nmS) (c := cnt + 6) hnm (by
        rw [List.map_map, List.Nodup, List.pairwise_map]
        refine hnd.imp_of_mem fun {a b} ha hb hne e => hne ?_
        dsimp only [Function.comp] at e
        rw [pt07_eq (hlt a ha), pt07_eq (hlt b hb)] at e
        omega)
      have e2 : ((L.map nmS).map fun nm => (nm, pt07 s nm 0)) = L.map fun h : Nat => (nmS h, s + 2 * (h : Int)) := by
        rw [List.map_map]
        refine List.map_congr_left fun h hh => ?_
        dsimp only [Function.comp]
        rw [pt07_eq (hlt h hh)]
      rw [e2] at ho1
      exact hQ st' H _ hr R ho1 ho
  refine Wp.cut (fun σ => ∃ st H ρ c, σ = ⟨[gr07 ns bits z s o3 (some (.ref (624, 1))) o6 (some (.inst 615 (1, H.r))) none none none none none none none none], st, c⟩ ∧ Inv07 z s H (624, 1) L0 ρ st c) ?_ ?_
  · wide_line with []
    refine wp_comp (l := intsL (natsL L0)) (C := fun σ' => σ'.st (624, 1) = some (.list (intsL (natsL L0)))) (fun a => match a with
      | .int h => some (.str (nmS h.toNat))
      | _ => none) (by wide_line with [h624]) (fun _ => h624) (by unfold intsL natsL; rw [List.length_map, List.length_map]; omega) ?_ ?_
    · intro x hx fr hfr
      obtain ⟨a, b, rfl⟩ := len2 hfr
      obtain ⟨x', hx', rfl⟩ := List.mem_map.mp hx
      obtain ⟨y, hy, rfl⟩ := List.mem_map.mp hx'
      have := n2 y hy
      wide_line with [strF_nat (show y < 1000 by omega), Int.toNat_natCast]
      exact ⟨_, rfl, rfl⟩
    · have e : (intsL (natsL L0)).filterMap (fun a => match a with
        | .int h => some (.str (nmS h.toNat))
        | _ => none) = L0.map fun h => AV.str (nmS h) := by
        unfold intsL natsL
        rw [List.map_map, filterMap_map (f' := fun h : Nat => AV.str (nmS h)) (fun h hh => by simp)]
      rw [e]
      wide_line with []
      refine mk L0 _ _ _ _ (hE _ _ _ _ _ _ _ _ _ _ _ _ _ _ _ h618) n1 (fun y hy => by have := n2 y hy; omega) (by omega) fun st' H ρ hr R O ho => ?_
      wide_line with []
      exact ⟨st', H, ρ, _, by rw [hr], R, O, n1, n2, n3, by rw [ho _ (by simp)]; exact h624, .inl rfl, by omega, by rw [ho _ (by simp)]; exact h618, by omega⟩
  rintro σ ⟨st3, H, ρ0, c0, rfl, I0⟩
  -- the deeds
  refine Wp.cut (fun σ => ∃ o5 o6 o8 o9 o10 o11 o12 o13 st c, σ = ⟨[gr07 ns bits z s o3 o5 o6 (some (.inst 615 (1, H.r))) o8 o9 o10 o11 o12 o13 none none], st, c⟩ ∧ st (618, 0) = some (.dictS (tabL (fun k => s + 2 * (k : Int)) 32)) ∧ 0 < c) ?_ ?_
  · have h3 : itB (.rng 0 3 1) = Mine.M.pure (((List.range 3).map fun i : Nat => AV.int (i : Int)), fun _ => True) := hit 3 (by decide)
    wide_line with [h3]
    refine wp_forA (fun k σ => ∃ h5 L ρ o6 o8 o9 o10 o11 o12 o13 st c, σ = ⟨[gr07 ns bits z s o3 (some (.ref h5)) o6 (some (.inst 615 (1, H.r))) o8 o9 o10 o11 o12 o13 none none], st, c⟩ ∧ Inv07 z s H h5 L ρ st c ∧ L.length ≤ 5 + k) ?_ (fun _ _ _ _ => trivial) ?_ ?_
    · exact ⟨_, _, _, _, _, _, _, _, _, _, _, _, rfl, I0, n4⟩
    · rintro k hk σ ⟨h5, L, ρ, o6, o8, o9, o10, o11, o12, o13, st, c, rfl, I, hLl⟩
      have hk3 : k < 3 := by rw [List.length_map, List.length_range] at hk; exact hk
      rw [List.getElem_map, List.getElem_range]
      simp only [wp_bind, wp_stv, List.set_cons_succ, List.set_cons_zero]
      have hill : ∀ L : List Nat, (intsL (natsL L)).length = L.length := fun L => by unfold intsL natsL; rw [List.length_map, List.length_map]
      have hrows : ∀ {ρ : RS} {L : List Nat}, One ρ (L.map fun i => (nmS i, s + 2 * (i : Int))) → ρ.nodes.length = L.length ∧ ρ.np.length = L.length ∧ ρ.dist.length = L.length ∧ ρ.rg.length = L.length := fun O => by
        have := O.len
        rw [List.length_map] at this
        omega
      have hin : ∀ {L : List Nat} {y : Nat}, y ∈ L → (nmS y, s + 2 * (y : Int)) ∈ L.map fun i => (nmS i, s + 2 * (i : Int)) := fun h => List.mem_map.mpr ⟨_, h, rfl⟩
      have hri : ∀ {L : List Nat}, L.length ≤ 5 + k → L.length ≤ 8 := fun h => by omega
      -- one goes
      refine Wp.cut (fun σ => ∃ h5 L ρ st c, σ = ⟨[gr07 ns bits z s o3 (some (.ref h5)) o6 (some (.inst 615 (1, H.r))) (some (.int (k : Int))) o9 o10 o11 o12 o13 none none], st, c⟩ ∧ Inv07 z s H h5 L ρ st c ∧ L.length ≤ 5 + k) ?_ ?_
      · by_cases hd : (k : Int) = 1
        · by_cases hl1 : (1 : Int) < (L.length : Int)
          · obtain ⟨a, L1, rfl⟩ : ∃ a L1, L = a :: L1 := by
              cases L with
              | nil => exact absurd rfl I.ne
              | cons a L1 => exact ⟨a, L1, rfl⟩
            have ha := I.lt a (List.mem_cons_self ..)
            have hat : atL (intsL (natsL (a :: L1))) 0 = some (.int (a : Int)) := atL_0 (by rw [show (List.map AV.int (List.map (fun y : Nat => (y : Int)) L1)).length = L1.length by rw [List.length_map, List.length_map]]; have := hri hLl; rw [List.length_cons] at this; omega)
            obtain ⟨w1, w2, w3, w4⟩ := hrows I.O
            have hl8 := hri hLl
            have hl1' : (1 : Int) < ((L1.length + 1 : Nat) : Int) := hl1
            have hl40 : L1.length + 1 < 2 ^ 40 := by rw [List.length_cons] at hl8; omega
            wide_line with [hd, I.l, hill, hl1', hl40, I.R.r, wp_getAL I.l, hat, strF_nat (show a < 1000 by omega)]
            obtain ⟨q1, ⟨q, q2⟩, q3⟩ := I.O.known (hin (List.mem_cons_self ..))
            refine delItem_wp I.R q1 (by rw [q2]; rfl) q3 (nmS_ok a (by omega)) (by omega) fun st6 R6 ho6 => ?_
            have hsi := I.si
            have hl6 : st6 h5 = some (.list (intsL (natsL (a :: L1)))) := by rw [ho6 _ (by omega)]; exact I.l
            wide_line with [wp_sliceI hl6 (by rw [hill]; omega)]
            refine ⟨_, L1, _, _, _, rfl, ⟨R6.keep (fun m hm => upd_ne (by rintro rfl; simp at hm)) (Nat.le_succ _), ?_, (List.nodup_cons.mp I.nd).2, fun y hy => I.lt y (List.mem_cons_of_mem _ hy), ?_, ?_, .inr rfl, Nat.lt_succ_self _, ?_, by omega⟩, ?_⟩
            · have hO := I.O.drop (hin (List.mem_cons_self ..))
              have hfm : (((a :: L1).map fun i => (nmS i, s + 2 * (i : Int))).filter fun e => decide (e.1 ≠ nmS a)) = L1.map fun i => (nmS i, s + 2 * (i : Int)) := by
                rw [List.map_cons, List.filter_cons]
                simp only [ne_eq, not_true_eq_false, decide_false, Bool.false_eq_true, if_false]
                rw [List.filter_eq_self]
                intro e he
                obtain ⟨u, hu, rfl⟩ := List.mem_map.mp he
                have hu' := I.lt u (List.mem_cons_of_mem _ hu)
                have : ¬ nmS u = nmS a := fun e => (List.nodup_cons.mp I.nd).1 (nmS_inj (by omega) (by omega) e ▸ hu)
                simp [this]
              rw [hfm] at hO
              exact hO
            · rintro rfl
              simp at hl1
            · rw [upd_same, show (some (1 : Int)) = some ((1 : Nat) : Int) from rfl, sliceA_drop]; rfl
            · rw [upd_ne (by simp), ho6 _ (by simp)]; exact I.t
            · rw [List.length_cons] at hLl; omega
          · wide_line with [hd, I.l, hill, hl1, show L.length < 2 ^ 40 by omega]
            exact ⟨_, _, _, _, _, rfl, I, hLl⟩
        · wide_line with [hd]
          exact ⟨_, _, _, _, _, rfl, I, hLl⟩
      rintro σ ⟨h5, L, ρ, st, c, rfl, I, hLl⟩
      have hri : ∀ {L : List Nat}, L.length ≤ 5 + k → L.length ≤ 8 := fun h => by omega
      -- one comes
      refine Wp.cut (fun σ => ∃ L ρ st c, σ = ⟨[gr07 ns bits z s o3 (some (.ref h5)) o6 (some (.inst 615 (1, H.r))) (some (.int (k : Int))) o9 o10 o11 o12 o13 none none], st, c⟩ ∧ Inv07 z s H h5 L ρ st c ∧ L.length ≤ 5 + (k + 1)) ?_ ?_
      · by_cases hd : (k : Int) = 2
        · obtain ⟨x, hxe⟩ : ∃ x, x = ns.getD 2 14 := ⟨_, rfl⟩
          obtain ⟨y, hy, hyx⟩ : ∃ y : Nat, y < z ∧ x.fmod (z : Int) = (y : Int) := by
            have h1 := Int.fmod_nonneg_of_pos x (show (0 : Int) < z by omega)
            have h2 := Int.fmod_lt_of_pos x (show (0 : Int) < z by omega)
            exact ⟨(x.fmod z).toNat, by omega, by omega⟩
          have hmem : ((y : Int) ∈ natsL L) ↔ y ∈ L := by
            unfold natsL
            rw [List.mem_map]
            exact ⟨fun ⟨u, hu, e⟩ => by have := Int.ofNat_inj.mp e; subst this; exact hu, fun h => ⟨y, h, rfl⟩⟩
          have hla : ∀ {Q : AV → St → Prop} {σ : St}, Wp (lawAt.1 [.lst (intsL ns), .int 2, .int 14] []) Q σ = Q (.int x) σ := fun {Q σ} => by
            obtain ⟨fs, st, cnt⟩ := σ
            rw [lawAt_wp (k := 2) (by decide) hn, hxe]; rfl
          by_cases cm : y ∈ L
          · have c' : (y : Int) ∈ natsL L := hmem.mpr cm
            wide_line with [hd, hla, ar_mod hz0, hyx, wp_notIn_list I.l, c']
            exact ⟨_, _, _, _, rfl, I, by omega⟩
          · have c' : ¬ (y : Int) ∈ natsL L := mt hmem.mp cm
            obtain ⟨w1, w2, w3, w4⟩ := hrows I.O
            have hl8 := hri hLl
            have happ : intsL (natsL L) ++ [.int (y : Int)] = intsL (natsL (L ++ [y])) := by unfold intsL natsL; rw [List.map_append, List.map_append]; rfl
            have hsi := I.si
            have hla2 : atL (intsL (natsL (L ++ [y]))) (-1) = some (.int (y : Int)) := by rw [← happ]; exact atL_app (by rw [hill]; omega)
            have hl6 : upd st h5 (.list (intsL (natsL (L ++ [y])))) h5 = some (.list (intsL (natsL (L ++ [y])))) := upd_same
            have R6 : RingAt (upd st h5 (.list (intsL (natsL (L ++ [y]))))) c H ρ := I.R.keep (fun m hm => upd_ne (by rintro rfl; omega)) (Nat.le_refl _)
            have t6 : upd st h5 (.list (intsL (natsL (L ++ [y])))) (618, 0) = some (.dictS (tabL (fun k => s + 2 * (k : Int)) 32)) := by rw [upd_ne (by rintro rfl; simp at hsi)]; exact I.t
            wide_line with [hd, hla, ar_mod hz0, hyx, wp_notIn_list I.l, c', I.l, happ, tyA_ref, hill]
            refine ⟨by omega, ?_⟩
            generalize upd st h5 (.list (intsL (natsL (L ++ [y])))) = st6 at *
            have hnew : look ρ.nodes (nmS y) = none := by
              rw [look_none]
              intro e he q
              have h2 : (e.1, e.2.1) ∈ ρ.nodes.map fun e => (e.1, e.2.1) := List.mem_map.mpr ⟨e, he, rfl⟩
              rw [I.O.nodes, List.map_map] at h2
              obtain ⟨u, hu, e2⟩ := List.mem_map.mp h2
              have hu' := I.lt u hu
              have e3 : nmS u = nmS y := (congrArg Prod.fst e2).trans q
              exact cm (nmS_inj (by omega) (by omega) e3 ▸ hu)
            wide_line with [R6.r, hl6, wp_getAL hl6, un_neg, hla2, strF_nat (show y < 1000 by omega)]
            refine addNode_wp (pl07 s) R6 (hE _ _ _ _ _ _ _ _ _ _ _ _ _ _ _ t6) ⟨rfl, y, by omega, rfl⟩ hnew (by omega) fun st7 R7 ho7 => ?_
            have hO := I.O.tell (pt := pt07 s) (nm := nmS y) (c := c) (q := c + 1) (fun e he q => by
              obtain ⟨u, hu, rfl⟩ := List.mem_map.mp he
              have hu' := I.lt u hu
              exact cm (nmS_inj (by omega) (by omega) q ▸ hu)) (fun e he q => by
              obtain ⟨u, hu, rfl⟩ := List.mem_map.mp he
              rw [pt07_eq (by omega)] at q
              dsimp only at q
              have : u = y := by omega
              exact cm (this ▸ hu))
            refine ⟨L ++ [y], _, st7, _, rfl, ⟨R7, ?_, ?_, ?_, by simp, ?_, I.si, by have := I.c5; omega, ?_, by omega⟩, by simp; omega⟩
            · rw [List.map_append]
              rw [pt07_eq (by omega)] at hO
              exact hO
            · rw [List.nodup_append]
              exact ⟨I.nd, by simp, fun a ha b hb => by simp at hb; subst hb; rintro rfl; exact cm ha⟩
            · intro u hu
              rcases List.mem_append.mp hu with h | h
              · exact I.lt u h
              · simp at h; omega
            · rw [ho7 _ (by omega)]; exact hl6
            · rw [ho7 _ (by simp)]; exact t6
        · wide_line with [hd]
          exact ⟨_, _, _, _, rfl, I, by omega⟩
      rintro σ ⟨L, ρ, st, c, rfl, I, hLl⟩
      -- here
      have hLp : 0 < L.length := List.length_pos_iff.mpr I.ne
      refine Wp.cut (fun σ => ∃ here : Nat, here ∈ L ∧ σ = ⟨[gr07 ns bits z s o3 (some (.ref h5)) o6 (some (.inst 615 (1, H.r))) (some (.int (k : Int))) (some (.int (here : Int))) o10 o11 o12 o13 none none], st, c⟩) ?_ ?_
      · obtain ⟨x, hxe⟩ : ∃ x, x = ns.getD 3 1 := ⟨_, rfl⟩
        have hla : ∀ {Q : AV → St → Prop} {σ : St}, Wp (lawAt.1 [.lst (intsL ns), .int 3, .int 1] []) Q σ = Q (.int x) σ := fun {Q σ} => by
          obtain ⟨fs, st, cnt⟩ := σ
          rw [lawAt_wp (k := 3) (by decide) hn, hxe]; rfl
        obtain ⟨i, hi, hix⟩ : ∃ i : Nat, i < L.length ∧ x.fmod (L.length : Int) = (i : Int) := by
          have h1 := Int.fmod_nonneg_of_pos x (show (0 : Int) < L.length by omega)
          have h2 := Int.fmod_lt_of_pos x (show (0 : Int) < L.length by omega)
          exact ⟨(x.fmod L.length).toNat, by omega, by omega⟩
        have hat : atL (intsL (natsL L)) (i : Int) = some (.int ((L[i] : Nat) : Int)) := by
          rw [atL_intsL (l := natsL L) (by unfold natsL; rw [List.length_map]; exact hi) (by unfold natsL; rw [List.length_map]; omega)]
          unfold natsL; rw [List.getElem_map]
        have hmem : L[i] ∈ L := List.getElem_mem hi
        generalize L[i] = here at *
        wide_line with [hla, I.l, hill, show L.length < 2 ^ 40 by omega, ar_mod (show (L.length : Int) ≠ 0 by omega), hix, wp_getAL I.l, hat]
        exact ⟨here, hmem, rfl⟩
      rintro σ ⟨here, hh, rfl⟩
      have hhz := I.lt _ hh
      obtain ⟨T, hT, hget⟩ := I.T
      obtain ⟨x, hxe⟩ : ∃ x, x = ns.getD (4 + (k : Int)).toNat (3 * (k : Int) + 1) := ⟨_, rfl⟩
      have hla : ∀ {Q : AV → St → Prop} {σ : St}, Wp (lawAt.1 [.lst (intsL ns), .int (4 + (k : Int)), .int (3 * (k : Int) + 1)] []) Q σ = Q (.int x) σ := fun {Q σ} => by
        obtain ⟨fs, st, cnt⟩ := σ
        rw [lawAt_wp (k := 4 + (k : Int)) (by omega) hn, hxe]
      obtain ⟨y, hy, hyx⟩ : ∃ y : Nat, y < z ∧ x.fmod (z : Int) = (y : Int) := by
        have h1 := Int.fmod_nonneg_of_pos x (show (0 : Int) < z by omega)
        have h2 := Int.fmod_lt_of_pos x (show (0 : Int) < z by omega)
        exact ⟨(x.fmod z).toNat, by omega, by omega⟩
      refine Wp.cut (fun σ => ∃ o10 o11 o12 o13 st c, σ = ⟨[gr07 ns bits z s o3 (some (.ref h5)) o6 (some (.inst 615 (1, H.r))) (some (.int (k : Int))) (some (.int (here : Int))) o10 o11 o12 o13 none none], st, c⟩ ∧ Inv07 z s H h5 L ρ st c) ?_ ?_
      · wide_line with [ar_mulL (show smallI 3 = true by decide), hla, ar_mod hz0, hyx]
        rw [show [AV.int (here : Int), .int (y : Int)] = [here, y].map fun n : Nat => AV.int (n : Int) from rfl]
        refine wp_forA (fun j σ => ∃ o10 o11 o12 o13 st c, σ = ⟨[gr07 ns bits z s o3 (some (.ref h5)) o6 (some (.inst 615 (1, H.r))) (some (.int (k : Int))) (some (.int (here : Int))) o10 o11 o12 o13 none none], st, c⟩ ∧ Inv07 z s H h5 L ρ st c) ?_ (fun _ _ _ _ => trivial) ?_ ?_
        · exact ⟨_, _, _, _, _, _, rfl, I⟩
        · rintro j hj σ ⟨o10, o11, o12, o13, st, c, rfl, I⟩
          rw [List.getElem_map]
          have hkz : ([here, y][j]'(by rw [List.length_map] at hj; exact hj)) < z := by
            have : ∀ u ∈ [here, y], u < z := fun u hu => by
              simp only [List.mem_cons, List.not_mem_nil, or_false] at hu
              rcases hu with rfl | rfl <;> assumption
            exact this _ (List.getElem_mem _)
          generalize ([here, y][j]'(by rw [List.length_map] at hj; exact hj)) = key at *
          simp only [wp_bind, wp_stv, List.set_cons_succ, List.set_cons_zero]
          -- due
          refine Wp.cut (fun σ => σ = ⟨[gr07 ns bits z s o3 (some (.ref h5)) o6 (some (.inst 615 (1, H.r))) (some (.int (k : Int))) (some (.int (here : Int))) (some (.int (key : Int))) (some (.int ((T key : Nat) : Int))) o12 o13 none none], st, c⟩) ?_ ?_
          · wide_line with []
            refine wp_comp (l := intsL (natsL L)) (C := fun σ' => σ'.st h5 = some (.list (intsL (natsL L)))) (fun a => match a with
              | .int u => some (tup2 (((ix z u.toNat key : Nat) : Int) + 1, u))
              | _ => none) (by wide_line with [I.l]) (fun _ => I.l) (by rw [hill]; omega) ?_ ?_
            · intro x hx fr hfr
              obtain ⟨a, b, rfl⟩ := len2 hfr
              obtain ⟨x', hx', rfl⟩ := List.mem_map.mp hx
              obtain ⟨u, hu, rfl⟩ := List.mem_map.mp hx'
              have huz := I.lt u hu
              have hm : ((u : Int) - ((key : Int) - 1) - 1).fmod (z : Int) = ((ix z u key : Nat) : Int) := by
                rw [show (u : Int) - ((key : Int) - 1) - 1 = (u : Int) - (key : Int) by omega]
                exact mod_ix huz (by omega)
              wide_line with [lawWay_wp hz0, hm, Int.toNat_natCast]
              exact ⟨rfl, _, rfl, rfl⟩
            · have e : (intsL (natsL L)).filterMap (fun a => match a with
                | .int u => some (tup2 (((ix z u.toNat key : Nat) : Int) + 1, u))
                | _ => none) = (L.map fun u : Nat => (((ix z u key : Nat) : Int) + 1, (u : Int))).map tup2 := by
                unfold intsL natsL
                rw [List.map_map, filterMap_map (f' := fun u : Nat => tup2 (((ix z u key : Nat) : Int) + 1, (u : Int))) (fun h hh => by simp), List.map_map]; rfl
              have hdue : (minRow (L.map fun u : Nat => (((ix z u key : Nat) : Int) + 1, (u : Int)))).2 = ((T key : Nat) : Int) := due_eq I.ne hT hkz
              rw [e]
              wide_line with [wp_minT (rows := L.map fun u : Nat => (((ix z u key : Nat) : Int) + 1, (u : Int))) (by simpa using I.ne), two1, hdue]
          rintro σ rfl
          -- the route
          obtain ⟨q0, hq⟩ := isQ_ex (N := (· ∈ L)) hkz hhz I.lt
          refine Wp.cut (fun σ => ∃ st' hops, hops ≤ bl q0 ∧ σ = ⟨[gr07 ns bits z s o3 (some (.ref h5)) o6 (some (.inst 615 (1, H.r))) (some (.int (k : Int))) (some (.int (here : Int))) (some (.int (key : Int))) (some (.int ((T key : Nat) : Int))) (some (.int ((T key : Nat) : Int))) (some (.int ((hops : Nat) : Int))) none none], st', c + 1⟩ ∧ Inv07 z s H h5 L ρ st' (c + 1)) ?_ ?_
          · wide_line with []
            refine lawRoute_wp hbits hz I.R (hE _ _ _ _ _ _ _ _ _ _ _ _ _ _ _ I.t) I.O I.ne I.lt (by omega) hT hget hh hkz hq fun st' hops h1 _ ho => ?_
            have hsi := I.si
            wide_line with []
            exact ⟨st', hops, h1, rfl, I.R.keep (fun n hn => ho n (by rintro rfl; simp at hn)) (Nat.le_succ _), I.O, I.nd, I.lt, I.ne, by rw [ho _ (by rintro rfl; simp at hsi)]; exact I.l, I.si, by have := I.c5; omega, by rw [ho _ (by simp)]; exact I.t, by omega⟩
          rintro σ ⟨st', hops, hops1, rfl, I'⟩
          -- the test
          have hTz := I.lt _ (hT.mem key hkz)
          have hgn : ∀ {Q : AV → St → Prop}, Wp (getNode.1 [.inst 615 (1, H.r), .int (key : Int)] []) Q ⟨[gr07 ns bits z s o3 (some (.ref h5)) o6 (some (.inst 615 (1, H.r))) (some (.int (k : Int))) (some (.int (here : Int))) (some (.int (key : Int))) (some (.int ((T key : Nat) : Int))) (some (.int ((T key : Nat) : Int))) (some (.int ((hops : Nat) : Int))) none none], st', c + 1⟩ = Q (.str (nmS (T key))) ⟨[gr07 ns bits z s o3 (some (.ref h5)) o6 (some (.inst 615 (1, H.r))) (some (.int (k : Int))) (some (.int (here : Int))) (some (.int (key : Int))) (some (.int ((T key : Nat) : Int))) (some (.int ((T key : Nat) : Int))) (some (.int ((hops : Nat) : Int))) none none], st', c + 1⟩ := fun {Q} => by
            have hlen := I'.O.len
            rw [List.length_map] at hlen
            exact getNode_wp (pl07 s) I'.R (hE _ _ _ _ _ _ _ _ _ _ _ _ _ _ _ I'.t) trivial I'.O.sorted (by omega) (by
              intro e
              rw [e, List.length_nil] at hlen
              omega) (by omega) (hget key hkz).1 (hget key hkz).2
          have hoff := off_le hhz hkz
          have hb : ((off z here key : Nat) : Int) - 1 = ((off z here key - 1 : Nat) : Int) := by omega
          have hbe : bitlenF (.int ((off z here key - 1 : Nat) : Int)) [] = Mine.M.pure (.int ((bl (off z here key - 1) : Nat) : Int)) := by
            show Mine.M.pure _ = _
            rw [bitN_nat]
          have hfin : ¬ ((bl (off z here key - 1) : Nat) : Int) < ((hops : Nat) : Int) := by
            have h1 : bl q0 ≤ bl (off z here key - 1) := bl_mono (by have := hq.lt; omega)
            omega
          wide_line with [I'.R.r, hgn, strF_nat (show T key < 1000 by omega), wp_ne_str (nmS_ok (T key) (by omega)) (nmS_ok (T key) (by omega)), lawWay_wp hz0, way_off hhz hkz, hb, hbe, hfin]
          exact ⟨_, _, _, _, _, _, rfl, I'⟩
        · rintro σ ⟨o10, o11, o12, o13, st, c, rfl, I⟩
          wide_line with []
          exact ⟨_, _, _, _, _, _, rfl, I⟩
      rintro σ ⟨o10, o11, o12, o13, st, c, rfl, I⟩
      wide_line with []
      exact ⟨_, _, _, _, _, _, _, _, _, _, _, _, rfl, I, hLl⟩
    · rintro σ ⟨h5, L, ρ, o6, o8, o9, o10, o11, o12, o13, st, c, rfl, I, hLl⟩
      wide_line with []
      exact ⟨_, _, _, _, _, _, _, _, _, _, rfl, I.t, I.tc⟩
  rintro σ ⟨o5, o6, o8, o9, o10, o11, o12, o13, st4, c4, rfl, h618, hc4⟩
  -- the full ring
  obtain ⟨bits2, hbits2, hbe2⟩ : ∃ bits : Nat, (3 ≤ bits ∧ bits ≤ 4) ∧ 3 + (ns.getD 7 0).fmod 2 = (bits : Int) := by
    have h1 := Int.fmod_nonneg_of_pos (ns.getD 7 0) (show (0 : Int) < 2 by decide)
    have h2 := Int.fmod_lt_of_pos (ns.getD 7 0) (show (0 : Int) < 2 by decide)
    exact ⟨(3 + (ns.getD 7 0).fmod 2).toNat, by omega, by omega⟩
  obtain ⟨z2, hz2⟩ : ∃ z : Nat, z = 2 ^ bits2 := ⟨_, rfl⟩
  have hz232 : 8 ≤ z2 ∧ z2 ≤ 16 := by
    obtain ⟨h1, h2⟩ := hbits2
    rw [hz2]
    have a : 2 ^ 3 ≤ 2 ^ bits2 := Nat.pow_le_pow_right (by decide) h1
    have b : 2 ^ bits2 ≤ 2 ^ 4 := Nat.pow_le_pow_right (by decide) h2
    omega
  have hz20 : (z2 : Int) ≠ 0 := by omega
  have hpow2 : ((2 : Int) ^ bits2) = (z2 : Int) := by rw [hz2, Int.natCast_pow]; rfl
  have hp2 : smallI 2 = true ∧ 0 ≤ (bits2 : Int) ∧ (bits2 : Int) < 1000 := ⟨by decide, by omega, by omega⟩
  have hl7 : ∀ {Q : AV → St → Prop} {σ : St}, Wp (lawAt.1 [.lst (intsL ns), .int 7, .int 0] []) Q σ = Q (.int (ns.getD 7 0)) σ := fun {Q σ} => by
    obtain ⟨fs, st, cnt⟩ := σ
    rw [lawAt_wp (k := 7) (by decide) hn]; rfl
  have hl3 : ∀ {Q : AV → St → Prop} {σ : St}, Wp (lawAt.1 [.lst (intsL ns), .int 3, .int 1] []) Q σ = Q (.int (ns.getD 3 1)) σ := fun {Q σ} => by
    obtain ⟨fs, st, cnt⟩ := σ
    rw [lawAt_wp (k := 3) (by decide) hn]; rfl
  have hl4 : ∀ {Q : AV → St → Prop} {σ : St}, Wp (lawAt.1 [.lst (intsL ns), .int 4, .int 0] []) Q σ = Q (.int (ns.getD 4 0)) σ := fun {Q σ} => by
    obtain ⟨fs, st, cnt⟩ := σ
    rw [lawAt_wp (k := 4) (by decide) hn]; rfl
  refine Wp.cut (fun σ => σ = ⟨[gr07 ns bits2 z s o3 o5 o6 (some (.inst 615 (1, H.r))) o8 o9 o10 o11 o12 o13 none none], st4, c4⟩) ?_ ?_
  · wide_line with [hl7, ar_mod (show (2 : Int) ≠ 0 by decide), hbe2]
  rintro σ rfl
  refine Wp.cut (fun σ => σ = ⟨[gr07 ns bits2 z2 s o3 o5 o6 (some (.inst 615 (1, H.r))) o8 o9 o10 o11 o12 o13 none none], st4, c4⟩) ?_ ?_
  · wide_line with [ar_pow hp2, Int.toNat_natCast, hpow2]
  rintro σ rfl
  refine Wp.cut (fun σ => ∃ st H2 ρ c, σ = ⟨[gr07 ns bits2 z2 s o3 o5 o6 (some (.inst 615 (1, H.r))) o8 o9 o10 o11 o12 o13 (some (.inst 615 (1, H2.r))) none], st, c⟩ ∧ RingAt st c H2 ρ ∧ One ρ ((List.range z2).map fun i => (nmS i, s + 2 * (i : Int))) ∧ st (618, 0) = some (.dictS (tabL (fun k => s + 2 * (k : Int)) 32))) ?_ ?_
  · wide_line with []
    refine wp_comp (l := (List.range z2).map fun i : Nat => AV.int (i : Int)) (C := fun _ => True) (fun a => match a with
      | .int h => some (.str (nmS h.toNat))
      | _ => none) (by wide_line with [hit z2 (by omega)]) (fun _ => trivial) (by rw [List.length_map, List.length_range]; omega) ?_ ?_
    · intro x hx fr hfr
      obtain ⟨a, b, rfl⟩ := len2 hfr
      obtain ⟨y, hy, rfl⟩ := List.mem_map.mp hx
      have := List.mem_range.mp hy
      wide_line with [strF_nat (show y < 1000 by omega), Int.toNat_natCast]
      exact ⟨_, rfl, rfl⟩
    · rw [filterMap_map (f' := fun h : Nat => AV.str (nmS h)) (fun h hh => by simp)]
      wide_line with []
      refine mk (List.range z2) _ _ _ _ (hE _ _ _ _ _ _ _ _ _ _ _ _ _ _ _ h618) List.nodup_range (fun y hy => by have := List.mem_range.mp hy; omega) (by rw [List.length_range]; omega) fun st' H2 ρ hr R O ho => ?_
      wide_line with []
      exact ⟨st', H2, ρ, _, by rw [hr], R, O, by rw [ho _ (by simp)]; exact h618⟩
  rintro σ ⟨st5, H2, ρ, c, rfl, R, O, h618⟩
  obtain ⟨here, hh, hhe⟩ : ∃ y : Nat, y < z2 ∧ (ns.getD 3 1).fmod (z2 : Int) = (y : Int) := by
    have h1 := Int.fmod_nonneg_of_pos (ns.getD 3 1) (show (0 : Int) < z2 by omega)
    have h2 := Int.fmod_lt_of_pos (ns.getD 3 1) (show (0 : Int) < z2 by omega)
    exact ⟨((ns.getD 3 1).fmod z2).toNat, by omega, by omega⟩
  obtain ⟨key, hk, hke⟩ : ∃ y : Nat, y < z2 ∧ (ns.getD 4 0).fmod (z2 : Int) = (y : Int) := by
    have h1 := Int.fmod_nonneg_of_pos (ns.getD 4 0) (show (0 : Int) < z2 by omega)
    have h2 := Int.fmod_lt_of_pos (ns.getD 4 0) (show (0 : Int) < z2 by omega)
    exact ⟨((ns.getD 4 0).fmod z2).toNat, by omega, by omega⟩
  refine Wp.cut (fun σ => σ = ⟨[gr07 ns bits2 z2 s o3 o5 o6 (some (.inst 615 (1, H.r))) o8 (some (.int (here : Int))) (some (.int (key : Int))) o11 o12 o13 (some (.inst 615 (1, H2.r))) none], st5, c⟩) ?_ ?_
  · wide_line with [hl3, hl4, ar_mod hz20, hhe, hke]
  rintro σ rfl
  have hoff := off_le hh hk
  obtain ⟨q, hqd⟩ : ∃ q : Nat, q = off z2 here key - 1 := ⟨_, rfl⟩
  have hb : ((off z2 here key : Nat) : Int) - 1 = (q : Int) := by omega
  refine Wp.cut (fun σ => σ = ⟨[gr07 ns bits2 z2 s o3 o5 o6 (some (.inst 615 (1, H.r))) o8 (some (.int (here : Int))) (some (.int (key : Int))) o11 o12 o13 (some (.inst 615 (1, H2.r))) (some (.int (q : Int)))], st5, c⟩) ?_ ?_
  · wide_line with [lawWay_wp hz20, way_off hh hk, hb]
  rintro σ rfl
  have hltR : ∀ y ∈ List.range z2, y < z2 := fun y hy => List.mem_range.mp hy
  have hneR : List.range z2 ≠ [] := by
    intro e
    have := congrArg List.length e
    rw [List.length_range] at this
    simp at this; omega
  obtain ⟨T, hT, hget⟩ := ring_told O hneR hltR
  have hTk : T key = key := by
    have h1 := hT.min key hk key (List.mem_range.mpr hk)
    have h2 := hltR _ (hT.mem key hk)
    have e1 := ix_val hk h2
    have e2 := ix_val hk hk
    rw [if_pos (Nat.le_refl _)] at e2
    generalize ix z2 (T key) key = a at *
    split at e1 <;> omega
  have hq : IsQ z2 (· ∈ List.range z2) key here q := by
    refine ⟨by omega, ?_, fun y hy hlt => by omega⟩
    by_cases e : q = 0
    · exact .inl e
    · refine .inr ⟨(here + q) % z2, List.mem_range.mpr (Nat.mod_lt _ (by omega)), ?_⟩
      have hx : (here + q) % z2 < z2 := Nat.mod_lt _ (by omega)
      rw [off_val hh hx]
      have hxv : (here + q) % z2 = if here + q < z2 then here + q else here + q - z2 := by
        split
        · exact Nat.mod_eq_of_lt (by assumption)
        · rw [Nat.mod_eq_sub_mod (by omega), Nat.mod_eq_of_lt (by omega)]
      rw [hxv]
      split <;> split <;> omega
  wide_line with []
  refine lawRoute_wp ⟨hbits2.1, by omega⟩ hz2 R (hE _ _ _ _ _ _ _ _ _ _ _ _ _ _ _ h618) O hneR hltR (by rw [List.length_range]; omega) hT hget (List.mem_range.mpr hh) hk hq fun st' hops h1 h2 ho => ?_
  have hpc := h2 (fun y hy => List.mem_range.mpr hy) (by omega)
  wide_line with []
  refine wp_comp (l := (List.range bits2).map fun i : Nat => AV.int (i : Int)) (C := fun _ => True) (fun a => match a with
    | .int h => some (.int ((q / 2 ^ h.toNat % 2 : Nat) : Int))
    | _ => none) (by wide_line with [hit bits2 (by omega)]) (fun _ => trivial) (by rw [List.length_map, List.length_range]; omega) ?_ ?_
  · intro x hx fr hfr
    obtain ⟨a, b, rfl⟩ := len2 hfr
    obtain ⟨i, hi, rfl⟩ := List.mem_map.mp hx
    have hi := List.mem_range.mp hi
    have hpi : smallI 2 = true ∧ 0 ≤ (i : Int) ∧ (i : Int) < 1000 := ⟨by decide, by omega, by omega⟩
    have h2 : ((2 : Int) ^ i ≠ 0) ∧ ((2 : Int) ^ i).natAbs < 1073741824 := by
      have : ∀ h : Nat, h < 9 → ((2 : Int) ^ h ≠ 0) ∧ ((2 : Int) ^ h).natAbs < 1073741824 := by decide
      exact this i (by omega)
    have hv : ((q : Int).fdiv ((2 : Int) ^ i)).fmod 2 = ((q / 2 ^ i % 2 : Nat) : Int) := by
      have e1 : ((2 : Int) ^ i) = ((2 ^ i : Nat) : Int) := by rw [Int.natCast_pow]; rfl
      rw [e1, Int.fdiv_eq_ediv_of_nonneg _ (Int.natCast_nonneg _), Int.fmod_eq_emod_of_nonneg _ (by decide), Int.natCast_emod, Int.natCast_ediv]; rfl
    wide_line with [ar_pow hpi, Int.toNat_natCast, ar_div h2, ar_mod (show (2 : Int) ≠ 0 by decide), hv]
    exact ⟨_, rfl, rfl⟩
  · have e : ((List.range bits2).map fun i : Nat => AV.int (i : Int)).filterMap (fun a => match a with
      | .int h => some (.int ((q / 2 ^ h.toNat % 2 : Nat) : Int))
      | _ => none) = intsL ((List.range bits2).map fun i => ((q / 2 ^ i % 2 : Nat) : Int)) := by
      rw [filterMap_map (f' := fun i : Nat => AV.int ((q / 2 ^ i % 2 : Nat) : Int)) (fun h hh => by simp)]
      unfold intsL; rw [List.map_map]; rfl
    rw [e]
    wide_line with [wp_sum, pc_sum, wp_eq_tup2, hTk, hpc]
end Mine
end

section
open PySem PySem.W PySem.Calls PyProof.Rows
set_option Elab.async false
set_option maxRecDepth 100000
set_option maxHeartbeats 4000000
set_option pp.deepTerms false
set_option linter.unusedSimpArgs false
namespace Mine
abbrev tabs4 : List (Addr × Addr) := [(362, 358), (642, 640)]
noncomputable def W4 (prog : Program) (w : World) (h : Heap) (mg mb : Str → Option Value) (os : OsState) : Wd :=
  { prog := prog, w := w, H0 := ghostOf h tabs4, TB := [], K := hd.heap_39 w.params, mg := mg, mb := mb, os := os, clos := fun k => defsIn lawB.1.1 k, bnames := ownN lawB.1.2 }
theorem cells_lo {lo : Nat} : ∀ (names : List (Str × NameKind)) (n : Nat) (acc : List (Str × Addr)), (∀ q ∈ acc, lo ≤ q.2) → lo ≤ n → ∀ q ∈ cellsFrom n names acc, lo ≤ q.2
  | [], n, acc, h, _, q, hq => h q hq
  | (x, k) :: r, n, acc, h, hn, q, hq => by
    unfold cellsFrom at hq
    split at hq
    · refine cells_lo r (n + 1) _ (fun q' h' => ?_) (by omega) q hq
      rcases List.mem_cons.mp h' with rfl | h'
      · exact hn
      · exact h q' h'
    · exact cells_lo r n acc h hn q hq
theorem cells_apart : ∀ (names : List (Str × NameKind)) (n : Nat) (acc : List (Str × Addr)), (∀ q ∈ acc, q.2 < n) → acc.Pairwise (fun x y => x.2 ≠ y.2) → (cellsFrom n names acc).Pairwise (fun x y => x.2 ≠ y.2)
  | [], n, acc, _, h => h
  | (x, k) :: r, n, acc, hl, h => by
    unfold cellsFrom
    split
    · refine cells_apart r (n + 1) _ (fun q' h' => ?_) (List.pairwise_cons.mpr ⟨fun y hy e => ?_, h⟩)
      · rcases List.mem_cons.mp h' with rfl | h'
        · exact Nat.lt_succ_self _
        · exact Nat.lt_succ_of_lt (hl q' h')
      · have := hl y hy
        dsimp only at e
        rw [← e] at this
        exact absurd this (Nat.lt_irrefl _)
    · exact cells_apart r n acc hl h
theorem cells_look {cm : Str → Option Value} : ∀ {cs : List (Str × Addr)} {cells : List (Addr × Obj)}, CellsAre cm cs cells → ∀ {x : Str} {c : Addr}, (x, c) ∈ cs → ∃ o, (c, o) ∈ cells ∧ o.data = .cell (cm x)
  | _, _, .nil, _, _, h => by cases h
  | _, _, .cons (o := o) ho hr, x, c, h => by
    rcases List.mem_cons.mp h with h | h
    · cases h; exact ⟨o, List.mem_cons_self .., ho⟩
    · obtain ⟨o', h1, h2⟩ := cells_look hr h
      exact ⟨o', List.mem_cons_of_mem _ h1, h2⟩
theorem intsRep {V : Vw} : ∀ {vs : List Value} {ns : List Int}, IntsAre vs ns → RepVs V (intsL ns) vs
  | _, _, .nil => rfl
  | _, _, .cons n t h => ⟨.int n t, _, rfl, ⟨t, rfl⟩, intsRep h⟩
theorem all_lookup {P : Str → Value → Prop} {l : List (Str × Value)} (h : ∀ q ∈ l, P q.1 q.2) : ∀ x v, l.lookup x = some v → P x v := fun x v e => h _ (mem_of_lookup' e)
section
variable {prog : Program} {w : World} {s₁ : Shared} {mg mb : Str → Option Value} {p : Program} {loose : List Str} {mean : ExcName → Option Value}
theorem ok4 (X : (hd.heap_39 w.params).In (ghostOf s₁.heap tabs4)) (T : Top p loose mean mg mb (ghostOf s₁.heap tabs4)) : (W4 prog w s₁.heap mg mb s₁.os).Ok := by
  refine ⟨fun a o e => ⟨List.not_mem_nil, X a o e⟩, ?_, ?_, ?_⟩
  · obtain ⟨mc, h1, h2⟩ := T.nolimit
    obtain ⟨o, e, q⟩ := NsOb.of h1
    exact ⟨mc, o, e, List.not_mem_nil, q, h2⟩
  · obtain ⟨o, e, q⟩ := NsOb.of T.g
    exact ⟨o, e, List.not_mem_nil, q⟩
  · obtain ⟨o, e, q⟩ := NsOb.of T.b
    exact ⟨o, e, List.not_mem_nil, q⟩
theorem mg_none {K : Frag} {h : Heap} {mg : Str → Option Value} {n : Str} (X : K.In h) (G : h.Ns mainGlobals mg) (e : nsIn K mainGlobals n = some none) : mg n = none := by
  obtain ⟨o, es, ep, ho, hd, _, hf⟩ := G
  unfold nsIn at e
  split at e
  · rename_i c d es' n' sl q
    have h1 := X _ _ q
    rw [ho] at h1
    cases h1
    cases hd
    rw [← hf]
    split at e
    · cases e
    · rename_i hq
      unfold nsFind findBy
      simpa using hq
  · cases e
theorem E4_of (X : (hd.heap_39 w.params).In (ghostOf s₁.heap tabs4)) (T : Top p loose mean mg mb (ghostOf s₁.heap tabs4)) (htop : (prog.main.scope.names.lookup ("super" : Str)).isSome = false) (hfile : ((prog.main.file : Str) == ("/claim/cut.py" : Str)) = true) :
    E4 (W4 prog w s₁.heap mg mb s₁.os) w.params := by
  have mgs : ∀ x v, nsIn (hd.heap_39 w.params) mainGlobals x = some (some v) → mg x = some v := fun x v e => mg_of X T.g e
  have mgn : ∀ x, nsIn (hd.heap_39 w.params) mainGlobals x = some none → mg x = none := fun x e => mg_none X T.g e
  have mbs : ∀ (x : Str) (v : Value), x ≠ "__name__" → bootBuiltins x = some v → mb x = some v := fun x v h e => (T.builtins x h).trans e
  refine ⟨⟨ok4 X T, ?_, ?_⟩, rfl, ?_, ?_, ?_, htop, hfile, rfl⟩
  · refine all_lookup (P := fun x v => mg x = some v) fun q hq => ?_
    unfold gt4 at hq
    simp only [List.mem_cons, List.not_mem_nil, or_false] at hq
    rcases hq with rfl | rfl | rfl | rfl | rfl | rfl | rfl | rfl <;> exact mgs _ _ (by k_is)
  · refine all_lookup (P := fun x v => mg x = none ∧ mb x = some v) fun q hq => ?_
    unfold bt4 at hq
    simp only [List.mem_cons, List.not_mem_nil, or_false] at hq
    rcases hq with rfl | rfl | rfl | rfl | rfl | rfl | rfl | rfl | rfl | rfl | rfl | rfl | rfl | rfl | rfl | rfl <;> exact ⟨mgn _ (by k_is), mbs _ _ (by decide +kernel) (by decide +kernel)⟩
  · intro fd b ⟨o, h1, h2⟩ hb
    obtain ⟨o', fd', q1, q2, q3, q4⟩ := lawB.2 w.params
    have h1 : (hd.heap_39 w.params).lookup 643 = some o := h1
    rw [q1] at h1
    cases h1
    rw [q2] at h2
    cases h2
    rw [q3] at hb
    cases hb
    exact ⟨fun _ => rfl, by rw [q4]; rfl⟩
  · exact mgn _ (by k_is)
  · exact mbs _ _ (by decide +kernel) (by decide +kernel)
end
end Mine
end

section
open PySem PySem.W PySem.Calls PyProof.Rows
set_option Elab.async false
set_option maxRecDepth 100000
set_option maxHeartbeats 4000000
set_option pp.deepTerms false
set_option linter.unusedSimpArgs false
namespace Mine
section
variable {prog : Program} {w : World} {s₁ : Shared} {mg mb : Str → Option Value} {p : Program} {loose : List Str} {mean : ExcName → Option Value}
theorem top4 (X : (hd.heap_39 w.params).In (ghostOf s₁.heap tabs4)) (T : Top p loose mean mg mb (ghostOf s₁.heap tabs4)) (C : CodeHd (ghostOf s₁.heap tabs4) 642 640) : TopOK (W4 prog w s₁.heap mg mb s₁.os) 642 640 := by
  refine ⟨?_, ?_⟩
  · obtain ⟨o, vs, file, tf, flags, tg, inF, text, tt, h1, h2, h3, h4, h5, h6, h7, h8, h9, h10⟩ := C
    exact ⟨o, vs, file, tf, flags, tg, inF, text, tt, h1, List.not_mem_nil, h2, h3, h4, h5, h6, h7, h8, h9, h10⟩
  · obtain ⟨bm, ob, h1, h2, h3, h4, h5, h6⟩ := T.bmain
    exact ⟨bm, ob, h1, h2, List.not_mem_nil, h3, h4, h5, h6⟩
theorem lawNames : ownN lawB.1.2 = ([("script", .local), ("bits", .local), ("size", .cell), ("node", .local), ("place", .local), ("nodes", .local), ("number", .local), ("ring", .local), ("deed", .local), ("here", .local), ("key", .cell), ("due", .local), ("end", .local), ("hops", .local), ("whole", .local), ("ones", .cell), ("shift", .cell), ("table", .cell)] : List (Str × NameKind)) := by kernel_rfl
theorem init4 (v : AV) : initF (fnSc lawB.1.2).names ((["script"] : List Str).zip [v]) = some v :: List.replicate 17 none := by kernel_rfl
theorem aok4 (env : Env) : AOK 60 (callerA.deeper env) := by
  exact AOK.deeper (n := 60) ⟨rfl, by decide +kernel, by decide +kernel⟩
theorem kind4 (L a : Addr) (cd : Value) : (envOfC ("law" : Str) lawB.1.2 L a cd).kindOf ("script" : Str) = some .local := by kernel_rfl
theorem loc4 {x : Str} (i : Nat) (h : (fnSc lawB.1.2).names[i]? = some (x, NameKind.cell)) : x ≠ ("script" : Str) := by
  rintro rfl
  have h : (ownN lawB.1.2)[i]? = some (("script" : Str), NameKind.cell) := h
  have := List.mem_of_getElem? h
  rw [lawNames] at this
  revert this
  decide +kernel
theorem join4 {fa la : Addr} {o : Obj} {pm doc : Value} {params : Arguments} {vs : List Value} {ns : List Int} {R0 : Result → Shared → Prop}
    (X : (hd.heap_39 w.params).In (ghostOf s₁.heap tabs4)) (T : Top p loose mean mg mb (ghostOf s₁.heap tabs4)) (hT : TabsAt tabs4 s₁.heap) (C : CodeHd (ghostOf s₁.heap tabs4) 642 640)
    (ho : s₁.heap.get? fa = some o) (hdat : o.data = .func (Calls.docDef "law" params lawB.1.1 lawB.1.2 pm (.ref 642) doc)) (hlim : s₁.heap.NoLimit) (hcd : s₁.heap.CodeRec (.ref 642) "law")
    (hbind : ∀ x, bindArgs (Calls.docDef "law" params lawB.1.1 lawB.1.2 pm (.ref 642) doc) ⟨[x], []⟩ = pure [(("script" : Str), x)])
    (hl : (ghostOf s₁.heap tabs4).get? la = some { cls := .type "list", data := .seq vs.toArray }) (hI : IntsAre vs ns) (hn : ns.length ≤ 63) (hg : s₁.gens = #[])
    (htop : (prog.main.scope.names.lookup ("super" : Str)).isSome = false) (hfile : ((prog.main.file : Str) == ("/claim/cut.py" : Str)) = true)
    (hR : ∀ s', (∀ b o, (ghostOf s₁.heap tabs4).get? b = some o → s'.heap.get? b = some o) → s'.os = s₁.os → s'.gens = #[] → GrownAll tabs4 s'.heap → R0 (.ok (.ret (.bool true))) s') :
    codeAny (model prog w) callerA (.call (.ref fa) ⟨[.ref la], []⟩) R0 s₁ := by
  have e4 : E4 (W4 prog w s₁.heap mg mb s₁.os) w.params := E4_of X T htop hfile
  have TO : TopOK (W4 prog w s₁.heap mg mb s₁.os) 642 640 := top4 X T C
  refine call_cellsN_ret (binds := [(("script" : Str), .ref la)]) (by decide) ho hdat hlim hcd (hbind _) ?_ (by decide +kernel) (fun h₁ tk cells F N0 X0 => ?_)
  · intro x hx
    simp only [List.mem_cons, List.not_mem_nil, or_false] at hx
    subst hx
    exact .inl (by kernel_rfl)
  have hold : ∀ b, b < s₁.heap.objs.size → ∀ x, (x, b) ∉ cellsFrom (s₁.heap.objs.size + 1) lawB.1.2.names [] := fun b hb x hx => by
    have := cells_lo (lo := s₁.heap.objs.size + 1) lawB.1.2.names (s₁.heap.objs.size + 1) [] (fun q h => by cases h) (Nat.le_refl _) _ hx
    exact absurd (Nat.lt_of_lt_of_le hb (Nat.le_of_succ_le this)) (Nat.lt_irrefl _)
  have hnone : ∀ b, s₁.heap.objs.size ≤ b → (ghostOf s₁.heap tabs4).get? b = none := fun b hb => by
    refine ghost_fresh ?_
    cases e : s₁.heap.get? b with
    | none => rfl
    | some o => exact absurd (Heap.lt_size e) (Nat.not_lt.mpr hb)
  have htab : ∀ P ∈ ([358, 640] : List Addr), s₁.heap.get? P = some (tabObj #[]) := fun P hP => by
    simp only [List.mem_cons, List.not_mem_nil, or_false] at hP
    rcases hP with rfl | rfl
    · exact (hT (362, 358) (by simp)).2
    · exact (hT (642, 640) (by simp)).2
  have hcell : ∀ {x : Str} {c : Addr}, (cellsFrom (s₁.heap.objs.size + 1) lawB.1.2.names []).lookup x = some c → s₁.heap.objs.size + 1 ≤ c := fun {x c} h =>
    cells_lo (lo := s₁.heap.objs.size + 1) lawB.1.2.names (s₁.heap.objs.size + 1) [] (fun q h => by cases h) (Nat.le_refl _) _ (mem_of_lookup h)
  have FS : FnSc (fnSc lawB.1.2) [("script" : Str)] := fnSc_of (by kernel_rfl)
  have hbig : cStatics < s₁.heap.objs.size := by
    obtain ⟨mc, h, _⟩ := hlim
    obtain ⟨oc, hoc, _⟩ := NsOb.of h
    exact Heap.lt_size hoc
  obtain ⟨r, hpin⟩ := R.start (W := W4 prog w s₁.heap mg mb s₁.os) (X := fnSc lawB.1.2) (ps := [("script" : Str)]) (tabs := [358, 640]) (s := { s₁ with heap := h₁, toks := tk }) (L := s₁.heap.objs.size)
    (m := bindL (envOfC ("law" : Str) lawB.1.2 s₁.heap.objs.size fa (.ref 642)).kindOf [(("script" : Str), .ref la)] fun _ => none)
    (cm := bindC (envOfC ("law" : Str) lawB.1.2 s₁.heap.objs.size fa (.ref 642)).kindOf [(("script" : Str), .ref la)] fun _ => none)
    (cs := cellsFrom (s₁.heap.objs.size + 1) lawB.1.2.names []) (vals := [.lst (intsL ns)]) (ms := [.ref la]) FS rfl
    (fun b o e => F.keep b o (of_hideAll _ e)) F.ns (hnone _ (Nat.le_refl _))
    (fun P hP => ⟨hideAll_none _ (by simpa using hP), Nat.ne_of_lt (Heap.lt_size (htab P hP)), hold P (Heap.lt_size (htab P hP))⟩)
    (fun i x hi => by
      obtain ⟨c, hc⟩ := mem_lookup_isSome (cellsFrom_mem lawB.1.2.names (s₁.heap.objs.size + 1) [] x (.inl (FS.mem _ (List.mem_of_getElem? hi))))
      obtain ⟨oc, m1, m2⟩ := cells_look X0 (mem_of_lookup hc)
      have := hcell hc
      exact ⟨c, oc, hc, Nat.ne_of_gt this, hnone _ (Nat.le_of_succ_le this), (N0 _ m1).1, m2⟩)
    (fun x c h => hnone _ (Nat.le_of_succ_le (hcell h)))
    (cells_apart _ _ _ (fun q h => by cases h) List.Pairwise.nil)
    (fun i x hi => by
      unfold bindL
      rw [if_pos (kind4 _ _ _)]
      unfold bindL
      show (if x = ("script" : Str) then _ else _) = List.lookup x [(("script" : Str), Value.ref la)]
      rw [List.lookup_cons]
      by_cases h : x = ("script" : Str)
      · subst h; simp
      · rw [if_neg h]
        have : (x == ("script" : Str)) = false := by simp [h]
        rw [this]; rfl)
    (fun i x hi => by
      unfold bindC
      rw [if_pos (kind4 _ _ _)]
      unfold bindC
      show none = List.lookup x [(("script" : Str), Value.ref la)]
      rw [List.lookup_cons]
      have : (x == ("script" : Str)) = false := by simp [loc4 i hi]
      rw [this]; rfl)
    ⟨.ref la, [], rfl, ⟨la, vs.toArray, 0, rfl, hl, by simpa using intsRep hI⟩, rfl⟩ rfl hg
    (by
      have hk : ∀ b, b < s₁.heap.objs.size → b ∉ ([358, 640] : List Addr) → (Gh.start (W4 prog w s₁.heap mg mb s₁.os) [358, 640] (fnSc lawB.1.2) s₁.heap.objs.size (cellsFrom (s₁.heap.objs.size + 1) lawB.1.2.names []) h₁).kn b = ((ghostOf s₁.heap tabs4).get? b).map (Tag.z, ·) := fun b hb hn => by
        show (if b = _ then _ else _) = _
        rw [if_neg (Nat.ne_of_lt hb)]
        have : cellSlot (fnSc lawB.1.2).names (cellsFrom (s₁.heap.objs.size + 1) lawB.1.2.names []) b = none := by
          unfold cellSlot
          rw [List.findIdx?_eq_none_iff]
          intro q _
          simp only [Bool.and_eq_false_iff, beq_eq_false_iff_ne]
          right
          exact fun e => hold b hb _ (mem_of_lookup e)
        rw [this]
        dsimp only
        rw [if_neg hn]; rfl
      obtain ⟨mc, hNs, _⟩ := T.nolimit
      obtain ⟨oc, hoc, _⟩ := NsOb.of hNs
      refine ⟨⟨oc, by rw [hk _ hbig (by decide), hoc]; rfl⟩, fun t o e => ?_⟩
      rw [hk _ (Nat.lt_trans (by decide) hbig) (by decide)] at e
      obtain ⟨o', _, e2⟩ := Option.map_eq_some_iff.mp e
      cases e2; rfl)
  have P := R.startEnv (W := W4 prog w s₁.heap mg mb s₁.os) (X := fnSc lawB.1.2) (tabs := [358, 640]) (s := { s₁ with heap := h₁, toks := tk }) (env := envOfC ("law" : Str) lawB.1.2 s₁.heap.objs.size fa (.ref 642)) FS.kind rfl rfl rfl ⟨_, rfl⟩ rfl rfl
  obtain ⟨fl, σ', hrun, hfl0⟩ := (law07_t hn).elim
  subst hfl0
  rw [init4] at r
  have hpB := hpin 640 (by simp) _ (F.keep _ _ (htab 640 (by simp)))
  have hpA := hpin 358 (by simp) _ (F.keep _ _ (htab 358 (by simp)))
  have := (lawW.2 e4 642 640 TO) (envOfC ("law" : Str) lawB.1.2 s₁.heap.objs.size fa (.ref 642)) (callerA.deeper (envOfC ("law" : Str) lawB.1.2 s₁.heap.objs.size fa (.ref 642))) _ _ _ _ _ P rfl ⟨_, rfl, rfl⟩ hpB (aok4 (envOfC ("law" : Str) lawB.1.2 s₁.heap.objs.size fa (.ref 642))) r hrun
  refine wpAny_mono this (fun fl' s' ⟨G', r', hfl, lx, ps', hps⟩ => ?_) fun _ _ e => e
  cases fl' with
  | ret v =>
    have hv : v = .bool true := hfl
    subst hv
    refine hR s' (fun b o e => r'.old List.not_mem_nil e) r'.os r'.gens ⟨⟨#[], r'.sub _ _ _ (lx.pin _ _ (by decide) hpA)⟩, ⟨ps', r'.sub _ _ _ hps⟩, trivial⟩
  | _ => exact hfl.elim
end
end Mine
end

section
open PySem PySem.W PySem.Calls PyProof.Rows
set_option Elab.async false
set_option maxRecDepth 100000
set_option maxHeartbeats 8000000
set_option pp.deepTerms false
namespace Mine
theorem wellAll_ints {P : Params} {h : Heap} : ∀ {vs : List Value} {ns : List Int}, WellAll P h vs (ofPys (ns.map .int)) → IntsAre vs ns
  | _, [], x => by
    cases x; exact .nil
  | _, n :: ns, x => by
    cases x with
    | cons h1 h2 =>
      cases h1
      exact .cons _ _ (wellAll_ints h2)
theorem well_ints {P : Params} {h : Heap} {la : Addr} {ns : List Int} (x : Well P h (.ref la) (ofPy (.list (ns.map .int)))) : ∃ vs, h.get? la = some { cls := .type "list", data := .seq vs.toArray } ∧ IntsAre vs ns := by
  cases x with
  | list h1 h2 => exact ⟨_, h1, wellAll_ints h2⟩
end Mine
theorem PySem.Challenge.cw_bj0073_07_holds : PySem.Challenge.rw_bj0073_07.Holds :=
  hd (by
  k_fill
  intro w s₀ s₁ mg mb G Y fa o pm cd doc dV kV ho hd hcd hD hmg hg args vals as hpre hlay hrd hwl hlo
  have KX := km_in_of Y
  km_tabs Y
  have X := (Ground.X G).1
  have V := (Ground.X G).2
  refine Ground.open G ?_
  intro T B D TE TW
  try (refine guard_noD D (by decide +kernel) ?_; clear D)
  km_lay T hmg ho hd cd
  clear hmg
  wrow_args hpre hlay hrd hwl hlo
  all_goals (
    first | refine callC_kw (enter_call ?_) | refine enter_call ?_
    w_top on
    kn_posts)
  have he := Dflts.none hD rfl
  subst he
  have he := Dflts.noKw hD
  subst he
  rename_i ns _ _ _ _ _ _ _ la vs _ _ _ hW _ hI _ hlen _
  have hlen : ns.length ≤ 63 := by omega
  have X4 := ghost_K hT9 KX (by kernel_rfl)
  have T4 := ghost_top hT9 T
  obtain ⟨vs', hl, hI'⟩ := Mine.well_ints hW
  refine Mine.join4 X4 T4 hT9 (ghost_code hT9).2.1 ho (fd_plain hd) (Top.nolimit T) hcd (fun x => rfl) (ghost_get hT9 hl (fun q => by cases q)) hI' hlen hg (by decide +kernel) (by decide +kernel) ?_
  intro s' hk hos hgens hgr
  refine ⟨⟨.inl ⟨_, .bool true, [], rfl, fun _ => rfl, .bool true, ?_, ?_⟩, hk, hos, hgens⟩, hgr⟩
  · kernel_rfl
  · exact fun _ => ⟨List.nodup_nil, fun a h => nomatch h⟩)
end
