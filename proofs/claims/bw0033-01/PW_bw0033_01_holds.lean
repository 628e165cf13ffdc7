import PyProof.Rows.All
import Wide.All
import OpenK.AllK
import Wide.FinOn
import PySem.Challenge.RW_bw0033_01
set_option Elab.async false
set_option maxRecDepth 100000
set_option maxHeartbeats 4000000
set_option linter.all false
section
open PySem PySem.W PySem.Calls PyProof.Rows
namespace Mine
/-- the text's def number k -/
structure FDef where
  name : Str
  args : Arguments
  body : List Stmt
  scope : Scope
def noDef : FDef := ⟨Str.empty, ⟨[], [], none, [], [], none, []⟩, [], ⟨.function, [], false, false, []⟩⟩
def noStmt : Stmt := .Pass ⟨0, 0, 0, 0⟩
def defOf : Stmt → FDef
  | .FunctionDef name args body _ _ _ scope _ _ _ => ⟨name, args, body, scope⟩
  | _ => noDef
def FT (k : Nat) : FDef := defOf ((PySem.Challenge.pw_bw0033_01.main.body)[k]?.getD noStmt)
/-- abstract values -/
inductive PV where
  | none
  | bool (b : Bool)
  | int (i : Int)
  | str (s : Str)
  | tup (l : List PV)
  | lst (l : List PV)
  | nlst (l : List PV)
  | fn (k : Nat)
  | raw (v : Value)
  | mref
  | range (a b : Int)
  | sl (l u st : Option Int)
abbrev slObj (l u st : Option (Int × Tok)) : Obj := { cls := .type "slice", data := .fields #[partValue l, partValue u, partValue st] }
abbrev tupObj (vs : List Value) (n : Nat) : Obj := { cls := .type "tuple", data := .seq vs.toArray n }
abbrev lstObj (vs : List Value) (n : Nat) : Obj := { cls := .type "list", data := .seq vs.toArray n }
mutual
def Rep (fa : Nat → Addr) (μ : Option Addr) (h : Heap) : PV → Value → Prop
  | .none, v => v = .none
  | .bool b, v => v = .bool b
  | .int i, v => ∃ t, v = .int i t
  | .str s, v => ∃ t, v = .str s t
  | .tup l, v => ∃ a vs n, v = .ref a ∧ some a ≠ μ ∧ h.get? a = some (tupObj vs n) ∧ RepL fa μ h l vs
  | .lst l, v => ∃ a vs n, v = .ref a ∧ some a ≠ μ ∧ h.get? a = some (lstObj vs n) ∧ RepL fa μ h l vs
  | .nlst l, v => ∃ a vs n, v = .ref a ∧ some a ≠ μ ∧ fa 999 ≤ a ∧ h.get? a = some (lstObj vs n) ∧ RepL fa μ h l vs
  | .fn k, v => v = .ref (fa k)
  | .raw w, v => v = w
  | .mref, v => ∃ a, v = .ref a ∧ μ = some a
  | .range a b, v => ∃ r t u w, v = .ref r ∧ some r ≠ μ ∧ IsRange h r a b 1 t u w
  | .sl l u st, v => ∃ a l' u' s', v = .ref a ∧ some a ≠ μ ∧ l'.map (·.1) = l ∧ u'.map (·.1) = u ∧ s'.map (·.1) = st ∧ h.get? a = some (slObj l' u' s')
def RepL (fa : Nat → Addr) (μ : Option Addr) (h : Heap) : List PV → List Value → Prop
  | [], vs => vs = []
  | p :: ps, vs => ∃ v r, vs = v :: r ∧ Rep fa μ h p v ∧ RepL fa μ h ps r
end
/-- what stays: every object but those at L and at the changed list -/
def KeepsBut (L : Option Addr) (μ : Option Addr) (h h' : Heap) : Prop := ∀ b o, some b ≠ L → some b ≠ μ → h.get? b = some o → h'.get? b = some o
theorem KeepsBut.refl {L μ : Option Addr} {h : Heap} : KeepsBut L μ h h := fun _ _ _ _ e => e
theorem KeepsBut.trans {L μ : Option Addr} {h h' h'' : Heap} (a : KeepsBut L μ h h') (b : KeepsBut L μ h' h'') : KeepsBut L μ h h'' := fun c o x y e => b c o x y (a c o x y e)
theorem KeepsBut.of_keep {L μ : Option Addr} {h h' : Heap} (a : ∀ b o, h.get? b = some o → h'.get? b = some o) : KeepsBut L μ h h' := fun b o _ _ e => a b o e
def isSeqAt (h : Heap) (L : Option Addr) : Prop := ∀ a, L = some a → ∃ o es ep, h.get? a = some o ∧ o.data = .dict es ep
theorem isSeqAt.no {h : Heap} {L : Option Addr} (x : isSeqAt h L) {a : Addr} {o : Obj} (hg : h.get? a = some o) (hd : ∀ es ep, o.data ≠ .dict es ep) : some a ≠ L := fun e => by
  obtain ⟨o', es, ep, h1, h2⟩ := x a e.symm
  rw [hg] at h1
  cases h1
  exact hd _ _ h2
/-- the objects that bear values -/
def IsRepObj (o : Obj) : Prop := (∃ vs n, o = tupObj vs n) ∨ (∃ vs n, o = lstObj vs n) ∨ (∃ l u s, o = slObj l u s) ∨ ∃ a b c t u w, o = { cls := .type "range", dict := none, data := .fields #[.int a t, .int b u, .int c w], slots := #[] }
def KeepR (μ : Option Addr) (h h' : Heap) : Prop := ∀ b o, some b ≠ μ → IsRepObj o → h.get? b = some o → h'.get? b = some o
theorem IsRepObj.data {o : Obj} (x : IsRepObj o) : ∀ es ep, o.data ≠ .dict es ep := by
  rcases x with ⟨_, _, rfl⟩ | ⟨_, _, rfl⟩ | ⟨_, _, _, rfl⟩ | ⟨_, _, _, _, _, _, rfl⟩ <;> intro _ _ q <;> cases q
theorem KeepsBut.r {L μ : Option Addr} {h h' : Heap} (hL : isSeqAt h L) (hk : KeepsBut L μ h h') : KeepR μ h h' := fun b o hm ho e => hk b o (hL.no e ho.data) hm e
theorem KeepR.of_keep {μ : Option Addr} {h h' : Heap} (a : ∀ b o, h.get? b = some o → h'.get? b = some o) : KeepR μ h h' := fun b o _ _ e => a b o e
mutual
theorem Rep.keepsR {fa : Nat → Addr} {μ : Option Addr} {h h' : Heap} (hk : KeepR μ h h') : ∀ {p : PV} {v : Value}, Rep fa μ h p v → Rep fa μ h' p v
  | .none, _, r => r
  | .bool _, _, r => r
  | .int _, _, r => r
  | .str _, _, r => r
  | .tup _, _, ⟨a, vs, n, e, hm, hg, hr⟩ => ⟨a, vs, n, e, hm, hk a _ hm (.inl ⟨_, _, rfl⟩) hg, RepL.keepsR hk hr⟩
  | .lst _, _, ⟨a, vs, n, e, hm, hg, hr⟩ => ⟨a, vs, n, e, hm, hk a _ hm (.inr (.inl ⟨_, _, rfl⟩)) hg, RepL.keepsR hk hr⟩
  | .nlst _, _, ⟨a, vs, n, e, hm, hf, hg, hr⟩ => ⟨a, vs, n, e, hm, hf, hk a _ hm (.inr (.inl ⟨_, _, rfl⟩)) hg, RepL.keepsR hk hr⟩
  | .fn _, _, r => r
  | .raw _, _, r => r
  | .mref, _, r => r
  | .range _ _, _, ⟨r, t, u, w, e, hm, hg⟩ => ⟨r, t, u, w, e, hm, hk r _ hm (.inr (.inr (.inr ⟨_, _, _, _, _, _, rfl⟩))) hg⟩
  | .sl _ _ _, _, ⟨a, l', u', s', e, hm, e1, e2, e3, hg⟩ => ⟨a, l', u', s', e, hm, e1, e2, e3, hk a _ hm (.inr (.inr (.inl ⟨_, _, _, rfl⟩))) hg⟩
theorem RepL.keepsR {fa : Nat → Addr} {μ : Option Addr} {h h' : Heap} (hk : KeepR μ h h') : ∀ {ps : List PV} {vs : List Value}, RepL fa μ h ps vs → RepL fa μ h' ps vs
  | [], _, r => r
  | _ :: _, _, ⟨v, r, e, h1, h2⟩ => ⟨v, r, e, Rep.keepsR hk h1, RepL.keepsR hk h2⟩
end
theorem Rep.keeps {fa : Nat → Addr} {L μ : Option Addr} {h h' : Heap} (hL : isSeqAt h L) (hk : KeepsBut L μ h h') {p : PV} {v : Value} (r : Rep fa μ h p v) : Rep fa μ h' p v := r.keepsR (hk.r hL)
theorem RepL.keeps {fa : Nat → Addr} {L μ : Option Addr} {h h' : Heap} (hL : isSeqAt h L) (hk : KeepsBut L μ h h') {p : List PV} {v : List Value} (r : RepL fa μ h p v) : RepL fa μ h' p v := RepL.keepsR (hk.r hL) r
/-- default values: flat -/
def Flat : PV → Value → Prop
  | .none, v => v = .none
  | .bool b, v => v = .bool b
  | .int i, v => ∃ t, v = .int i t
  | .str s, v => ∃ t, v = .str s t
  | _, _ => False
def FlatL : List PV → List Value → Prop
  | [], vs => vs = []
  | p :: ps, vs => ∃ v r, vs = v :: r ∧ Flat p v ∧ FlatL ps r
theorem Flat.rep {fa : Nat → Addr} {μ : Option Addr} {h : Heap} : ∀ {p : PV} {v : Value}, Flat p v → Rep fa μ h p v
  | .none, _, r => r
  | .bool _, _, r => r
  | .int _, _, r => r
  | .str _, _, r => r
theorem FlatL.rep {fa : Nat → Addr} {μ : Option Addr} {h : Heap} : ∀ {ps : List PV} {vs : List Value}, FlatL ps vs → RepL fa μ h ps vs
  | [], _, r => r
  | _ :: _, _, ⟨v, r, e, h1, h2⟩ => ⟨v, r, e, h1.rep, h2.rep⟩
/-- the text's globals and their values; numbers of defs, default values -/
structure Prog where
  glo : List (Str × PV)
  dflt : Nat → List PV
  blt : List Str
  fns : Nat → Bool
/-- the def number k stands at its place -/
structure FnAt (P : Prog) (g : Heap) (fa : Nat → Addr) (cd : Nat → Value) (k : Nat) : Prop where
  at_ : ∃ o fd, g.get? (fa k) = some o ∧ o.data = .func fd ∧ fd.body = .stmts (FT k).body ∧ fd.scope = (FT k).scope ∧ fd.params = (FT k).args ∧ fd.qualname = (FT k).name ∧
    fd.globals = mainGlobals ∧ fd.closure = [] ∧ fd.code = cd k ∧ fd.builtins = builtinsNs ∧
    ((P.dflt k = [] ∧ fd.defaults = .none) ∨ ∃ T vs n, fd.defaults = .ref T ∧ g.get? T = some (tupObj vs n) ∧ FlatL (P.dflt k) vs)
  code : g.CodeRec (cd k) (FT k).name
/-- what is fixed: the heap that the top leaves -/
structure Static (P : Prog) where
  prog : Program
  w : World
  g : Heap
  mg : Str → Option Value
  mb : Str → Option Value
  hg : g.Ns mainGlobals mg
  hb : g.Ns builtinsNs mb
  hlim : g.NoLimit
  hdig : g.NoDigits
  hbi : ∀ x : Str, x ≠ "__name__" → mb x = bootBuiltins x
  fa : Nat → Addr
  cd : Nat → Value
  hglo : ∀ x p, (x, p) ∈ P.glo → ∃ v, mg x = some v ∧ Rep fa none g p v
  hgno : ∀ x, x ∈ P.blt → mg x = none ∧ x ≠ "__name__"
  hfn : ∀ k, P.fns k = true → FnAt P g fa cd k
  hlo : fa 999 = g.objs.size
def envK {P : Prog} (S : Static P) (k : Nat) (L : Addr) : Env := envOf (FT k).name (FT k).scope L (S.fa k) (S.cd k)
abbrev Names := List (Str × NameKind)
abbrev Vals := List (Option PV)
/-- the values of the locals -/
def Holds (fa : Nat → Addr) (μ : Option Addr) (h : Heap) (m : Str → Option Value) : Names → Vals → Prop
  | (x, _) :: ns, some p :: vs => (∃ v, m x = some v ∧ Rep fa μ h p v) ∧ Holds fa μ h m ns vs
  | _ :: ns, none :: vs => Holds fa μ h m ns vs
  | [], [] => True
  | _, _ => False
/-- the scope's words -/
structure ScopeOk (k : Nat) (ns : Names) : Prop where
  names : (FT k).scope.names = ns
  nodup : (ns.map (·.1)).Nodup
  kind : (FT k).scope.kind = .function
  gen : (FT k).scope.isGenerator = false
  co : (FT k).scope.isCoroutine = false
  cells : ∀ x ∈ ns, x.2 ≠ .cell
  dbg : ∀ x ∈ ns, (x.1 == ("__debug__" : Str)) = false
/-- the list that may be changed -/
def PlainAt (h : Heap) (a : Addr) (items : Array Value) : Prop := ∃ o, h.get? a = some o ∧ o.dict = none ∧ o.cls = .type "list" ∧ ∃ n, o.data = .seq items n
theorem PlainAt.isList {h : Heap} {a : Addr} {items : Array Value} (x : PlainAt h a items) : h.IsList a items := let ⟨o, e, _, c, n, d⟩ := x; ⟨o, e, c, n, d⟩
def Mut (fa : Nat → Addr) (g : Heap) (μ : Option Addr) (h : Heap) (σ : List PV) : Prop :=
  ∀ a, μ = some a → g.objs.size ≤ a ∧ ∃ vs, PlainAt h a vs.toArray ∧ RepL fa μ h σ vs
/-- the state outside of a frame -/
structure HS {P : Prog} (S : Static P) (μ : Option Addr) (σ : List PV) (s : Shared) : Prop where
  keep : ∀ b o, S.g.get? b = some o → s.heap.get? b = some o
  mu : Mut S.fa S.g μ s.heap σ
/-- the state within a frame of the def k at L -/
structure FS {P : Prog} (S : Static P) (μ : Option Addr) (L : Addr) (k : Nat) (ns : Names) (vs : Vals) (σ : List PV) (s : Shared) : Prop where
  ok : ScopeOk k ns
  fr : ∃ m, Fr S.g L s.heap m ∧ Holds S.fa μ s.heap m ns vs
  mu : Mut S.fa S.g μ s.heap σ
  ne : μ ≠ some L
/-- what a step leaves -/
structure Ext (L : Option Addr) (μ : Option Addr) (s s' : Shared) : Prop where
  keep : KeepsBut L μ s.heap s'.heap
  rest : s' = { s with heap := s'.heap, toks := s'.toks }
theorem Ext.refl {L μ : Option Addr} {s : Shared} : Ext L μ s s := ⟨.refl, rfl⟩
theorem Ext.trans {L μ : Option Addr} {s s' s'' : Shared} (a : Ext L μ s s') (b : Ext L μ s' s'') : Ext L μ s s'' :=
  ⟨a.keep.trans b.keep, by have h1 := a.rest; have h2 := b.rest; rw [h1] at h2; exact h2⟩
theorem Ext.toks {L μ : Option Addr} {s : Shared} {n : Nat} : Ext L μ s { s with toks := n } := ⟨.refl, rfl⟩
structure Room (A : Around) (n : Nat) : Prop where
  depth : A.depth + n < recursionLimit
  units : A.units + 8 * n < cLine
  handled : A.handled = none
theorem Room.down {A : Around} {n : Nat} (r : Room A (n + 1)) : Room A n := ⟨by have := r.depth; omega, by have := r.units; omega, r.handled⟩
theorem Room.deeper {A : Around} {n : Nat} (r : Room A (n + 1)) (env : Env) : Room (A.deeper env) n := ⟨by have := r.depth; simp only [depth_deeper]; omega, by have := r.units; simp only [Around.deeper_units]; omega, r.handled⟩
section
variable {P : Prog} {S : Static P} {μ : Option Addr} {L : Addr} {k : Nat} {ns : Names} {vs : Vals} {σ : List PV} {s s' : Shared}
theorem FS.notSeq (F : FS S μ L k ns vs σ s) : isSeqAt s.heap (some L) := by
  obtain ⟨m, fr, _⟩ := F.fr
  intro a e
  cases e
  obtain ⟨o, es, ep, ho, hd, _⟩ := fr.ns
  exact ⟨o, es, ep, ho, hd⟩
theorem FS.hs (F : FS S μ L k ns vs σ s) : HS S μ σ s := let ⟨_, fr, _⟩ := F.fr; ⟨fr.keep, F.mu⟩
theorem Holds.keepsR {fa : Nat → Addr} {μ : Option Addr} {h h' : Heap} {m : Str → Option Value} (hk : KeepR μ h h') : ∀ {ns : Names} {vs : Vals}, Holds fa μ h m ns vs → Holds fa μ h' m ns vs
  | [], [], _ => trivial
  | _ :: _, none :: _, r => by
    simp only [Holds] at r ⊢
    exact Holds.keepsR hk r
  | (x, _) :: _, some p :: _, r => by
    simp only [Holds] at r ⊢
    obtain ⟨⟨v, e, hr⟩, r⟩ := r
    exact ⟨⟨v, e, Rep.keepsR hk hr⟩, Holds.keepsR hk r⟩
theorem Holds.keeps {fa : Nat → Addr} {L μ : Option Addr} {h h' : Heap} {m : Str → Option Value} (hL : isSeqAt h L) (hk : KeepsBut L μ h h') {ns : Names} {vs : Vals} (r : Holds fa μ h m ns vs) : Holds fa μ h' m ns vs := r.keepsR (hk.r hL)
theorem Mut.keepsR {fa : Nat → Addr} {g : Heap} {μ : Option Addr} {h h' : Heap} {σ : List PV} (hk : KeepR μ h h') (hm : ∀ a, μ = some a → ∀ o, h.get? a = some o → h'.get? a = some o) (M : Mut fa g μ h σ) : Mut fa g μ h' σ :=
  fun a e => let ⟨h1, vs, ⟨o, h2, h4⟩, h3⟩ := M a e; ⟨h1, vs, ⟨o, hm a e _ h2, h4⟩, RepL.keepsR hk h3⟩
theorem Mut.keeps {fa : Nat → Addr} {g : Heap} {L μ : Option Addr} {h h' : Heap} {σ : List PV} (hL : isSeqAt h L) (hk : KeepsBut L μ h h') (hm : ∀ a, μ = some a → ∀ o, h.get? a = some o → h'.get? a = some o) (M : Mut fa g μ h σ) : Mut fa g μ h' σ := M.keepsR (hk.r hL) hm
/-- a step that keeps everything -/
theorem FS.grow (F : FS S μ L k ns vs σ s) (hk : ∀ b o, s.heap.get? b = some o → s'.heap.get? b = some o) : FS S μ L k ns vs σ s' := by
  obtain ⟨m, fr, hv⟩ := F.fr
  refine ⟨F.ok, ⟨m, fr.after hk, hv.keeps (L := some L) F.notSeq (.of_keep hk)⟩, F.mu.keeps (L := some L) F.notSeq (.of_keep hk) (fun a _ o e => hk a o e), F.ne⟩
theorem FS.toks (F : FS S μ L k ns vs σ s) {n : Nat} : FS S μ L k ns vs σ { s with toks := n } := F.grow fun _ _ e => e
theorem FS.push (F : FS S μ L k ns vs σ s) (o : Obj) {n : Nat} : FS S μ L k ns vs σ { s with heap := s.heap.push o, toks := n } := F.grow fun _ _ e => Heap.get?_push_of_some _ e
end
end Mine
end
section
open PySem PySem.W PySem.Calls PyProof.Rows
namespace Mine
section
variable {P : Prog} (S : Static P)
/-- a tree at a state of the frame: it ends in a value that is told, the locals as told -/
def VT (n k : Nat) (ns : Names) (μ : Option Addr) (L : Addr) (s : Shared) (t : Sem Value) (R : PV → Vals → List PV → Prop) : Prop :=
  ∀ (A : Around) (Q E : Value → Shared → Prop), Room A n →
    (∀ s' v p vs' σ', R p vs' σ' → FS S μ L k ns vs' σ' s' → Ext (some L) μ s s' → Rep S.fa μ s'.heap p v → Q v s') → wpAny (model S.prog S.w) A t Q E s
/-- a tree that leaves the locals -/
def OT (n k : Nat) (ns : Names) (vs : Vals) (σ : List PV) (μ : Option Addr) (L : Addr) (s : Shared) (t : Sem Value) (R : PV → Prop) : Prop :=
  ∀ (A : Around) (Q E : Value → Shared → Prop), Room A n →
    (∀ s' v p, R p → FS S μ L k ns vs σ s' → Ext (some L) μ s s' → Rep S.fa μ s'.heap p v → Q v s') → wpAny (model S.prog S.w) A t Q E s
def EV (n k : Nat) (ns : Names) (vs : Vals) (σ : List PV) (e : PySem.Expr) (R : PV → Vals → List PV → Prop) : Prop :=
  ∀ μ L s, FS S μ L k ns vs σ s → VT S n k ns μ L s (eval e (envK S k L)) R
def TV (n k : Nat) (ns : Names) (vs : Vals) (σ : List PV) (e : PySem.Expr) (R : Bool → Vals → List PV → Prop) : Prop :=
  ∀ μ L s, FS S μ L k ns vs σ s → ∀ (A : Around) (Q : Bool → Shared → Prop) (E : Value → Shared → Prop), Room A n →
    (∀ s' b vs' σ', R b vs' σ' → FS S μ L k ns vs' σ' s' → Ext (some L) μ s s' → Q b s') → wpAny (model S.prog S.w) A (isTrue e (envK S k L) (eval e (envK S k L))) Q E s
/-- tests behind one another -/
def LV (n k : Nat) (ns : Names) (vs : Vals) (σ : List PV) (op : BoolOp) (es : List PySem.Expr) (R : Bool → Vals → List PV → Prop) : Prop :=
  ∀ μ L s, FS S μ L k ns vs σ s → ∀ (A : Around) (Q : Bool → Shared → Prop) (E : Value → Shared → Prop), Room A n →
    (∀ s' b vs' σ', R b vs' σ' → FS S μ L k ns vs' σ' s' → Ext (some L) μ s s' → Q b s') → wpAny (model S.prog S.w) A (allTrue op es (envK S k L)) Q E s
/-- values behind one another -/
def BV (n k : Nat) (ns : Names) (vs : Vals) (σ : List PV) (op : BoolOp) (es : List PySem.Expr) (R : PV → Vals → List PV → Prop) : Prop :=
  ∀ pos μ L s, FS S μ L k ns vs σ s → VT S n k ns μ L s (boolOp pos op (evalEach es (envK S k L))) R
def AV (n k : Nat) (ns : Names) (vs : Vals) (σ : List PV) (es : List PySem.Expr) (R : List PV → Vals → List PV → Prop) : Prop :=
  ∀ pos μ L s, FS S μ L k ns vs σ s → ∀ (A : Around) (Q : List Value → Shared → Prop) (E : Value → Shared → Prop), Room A n →
    (∀ s' xs ps vs' σ', R ps vs' σ' → FS S μ L k ns vs' σ' s' → Ext (some L) μ s s' → RepL S.fa μ s'.heap ps xs → Q xs s') →
    wpAny (model S.prog S.w) A (spliced (backTo pos (starEach es (envK S k L)))) Q E s
def BinTo (n : Nat) (op : Operator) (x y : PV) (R : PV → Prop) : Prop :=
  ∀ k ns vs σ μ L s a b, FS S μ L k ns vs σ s → Rep S.fa μ s.heap x a → Rep S.fa μ s.heap y b → OT S n k ns vs σ μ L s (binaryOp op a b) R
def AugTo (n : Nat) (op : Operator) (x y : PV) (R : PV → Prop) : Prop :=
  ∀ k ns vs σ μ L s a b, FS S μ L k ns vs σ s → Rep S.fa μ s.heap x a → Rep S.fa μ s.heap y b → OT S n k ns vs σ μ L s (inplaceOp op a b) R
def CmpTo (n : Nat) (op : CmpOp) (x y : PV) (R : PV → Prop) : Prop :=
  ∀ k ns vs σ μ L s a b, FS S μ L k ns vs σ s → Rep S.fa μ s.heap x a → Rep S.fa μ s.heap y b → OT S n k ns vs σ μ L s (compareOp op a b) R
def UnTo (n : Nat) (op : PySem.UnaryOp) (x : PV) (R : PV → Prop) : Prop :=
  ∀ k ns vs σ μ L s a, FS S μ L k ns vs σ s → Rep S.fa μ s.heap x a → OT S n k ns vs σ μ L s (unaryOp op a) R
def TruTo (x : PV) (c : Bool) : Prop :=
  ∀ k ns vs σ μ L s a, FS S μ L k ns vs σ s → Rep S.fa μ s.heap x a → ∀ (A : Around) (Q : Bool → Shared → Prop) (E : Value → Shared → Prop),
    Q c s → wpAny (model S.prog S.w) A (truthy a) Q E s
/-- a call of a value upon values -/
def CallTo (n : Nat) (f : PV) (xs : List PV) (σ : List PV) (R : PV → List PV → Prop) : Prop :=
  ∀ k ns vs μ L s fv as, FS S μ L k ns vs σ s → Rep S.fa μ s.heap f fv → RepL S.fa μ s.heap xs as → ∀ (A : Around) (Q E : Value → Shared → Prop), Room A n →
    (∀ s' v p σ', R p σ' → FS S μ L k ns vs σ' s' → Ext (some L) μ s s' → Rep S.fa μ s'.heap p v → Q v s') → wpAny (model S.prog S.w) A (call fv as) Q E s
/-- a flow with what holds there: fallen through, returned, broken off -/
def FlowR (μ : Option Addr) (L : Addr) (k : Nat) (ns : Names) (N : Vals → List PV → Prop) (T : PV → List PV → Prop) (B : Vals → List PV → Prop) (s : Shared) : Flow → Prop
  | .next => ∃ vs σ, N vs σ ∧ FS S μ L k ns vs σ s
  | .brk => ∃ vs σ, B vs σ ∧ FS S μ L k ns vs σ s
  | .ret v => ∃ p σ, T p σ ∧ (∃ vs, FS S μ L k ns vs σ s) ∧ Rep S.fa μ s.heap p v
  | .cont => False
def XT (n k : Nat) (ns : Names) (vs : Vals) (σ : List PV) (st : Stmt) (N : Vals → List PV → Prop) (T : PV → List PV → Prop) (B : Vals → List PV → Prop) : Prop :=
  ∀ μ L s, FS S μ L k ns vs σ s → ∀ (A : Around) (Q : Flow → Shared → Prop) (E : Value → Shared → Prop), Room A n →
    (∀ s' f, FlowR S μ L k ns N T B s' f → Ext (some L) μ s s' → Q f s') → wpAny (model S.prog S.w) A (exec st (envK S k L)) Q E s
def XS (n k : Nat) (ns : Names) (vs : Vals) (σ : List PV) (st : List Stmt) (N : Vals → List PV → Prop) (T : PV → List PV → Prop) (B : Vals → List PV → Prop) : Prop :=
  ∀ μ L s, FS S μ L k ns vs σ s → ∀ (A : Around) (Q : Flow → Shared → Prop) (E : Value → Shared → Prop), Room A n →
    (∀ s' f, FlowR S μ L k ns N T B s' f → Ext (some L) μ s s' → Q f s') → wpAny (model S.prog S.w) A (execs st (envK S k L)) Q E s
end
section
variable {P : Prog} {S : Static P} {n k : Nat} {ns : Names} {vs vs' : Vals} {σ σ' : List PV} {μ : Option Addr} {L : Addr} {s s' : Shared}
theorem FS.up (F : FS S μ L k ns vs σ s) (X : Ext (some L) μ s s') {p : PV} {v : Value} (r : Rep S.fa μ s.heap p v) : Rep S.fa μ s'.heap p v := Rep.keeps F.notSeq X.keep r
theorem FS.upL (F : FS S μ L k ns vs σ s) (X : Ext (some L) μ s s') {p : List PV} {v : List Value} (r : RepL S.fa μ s.heap p v) : RepL S.fa μ s'.heap p v := RepL.keeps F.notSeq X.keep r
/-! mono -/
theorem EV.mono {e : PySem.Expr} {R R' : PV → Vals → List PV → Prop} (h : EV S n k ns vs σ e R) (hR : ∀ p v q, R p v q → R' p v q) : EV S n k ns vs σ e R' :=
  fun μ L s F A Q E rm hQ => h μ L s F A Q E rm fun s' v p vs' σ' r => hQ s' v p vs' σ' (hR _ _ _ r)
theorem FlowR.mono {N N' : Vals → List PV → Prop} {T T' : PV → List PV → Prop} {B B' : Vals → List PV → Prop} (hN : ∀ v q, N v q → N' v q) (hT : ∀ v q, T v q → T' v q) (hB : ∀ v q, B v q → B' v q) {s : Shared} :
    ∀ {f : Flow}, FlowR S μ L k ns N T B s f → FlowR S μ L k ns N' T' B' s f
  | .next, ⟨v, q, h, F⟩ => ⟨v, q, hN _ _ h, F⟩
  | .brk, ⟨v, q, h, F⟩ => ⟨v, q, hB _ _ h, F⟩
  | .ret _, ⟨v, q, h, F⟩ => ⟨v, q, hT _ _ h, F⟩
  | .cont, h => h
theorem XT.mono {st : Stmt} {N N' : Vals → List PV → Prop} {T T' : PV → List PV → Prop} {B B' : Vals → List PV → Prop} (h : XT S n k ns vs σ st N T B) (hN : ∀ v q, N v q → N' v q) (hT : ∀ v q, T v q → T' v q) (hB : ∀ v q, B v q → B' v q) : XT S n k ns vs σ st N' T' B' :=
  fun μ L s F A Q E rm hQ => h μ L s F A Q E rm fun s' f r => hQ s' f (r.mono hN hT hB)
theorem XS.mono {st : List Stmt} {N N' : Vals → List PV → Prop} {T T' : PV → List PV → Prop} {B B' : Vals → List PV → Prop} (h : XS S n k ns vs σ st N T B) (hN : ∀ v q, N v q → N' v q) (hT : ∀ v q, T v q → T' v q) (hB : ∀ v q, B v q → B' v q) : XS S n k ns vs σ st N' T' B' :=
  fun μ L s F A Q E rm hQ => h μ L s F A Q E rm fun s' f r => hQ s' f (r.mono hN hT hB)
theorem CallTo.mono {f : PV} {xs : List PV} {R R' : PV → List PV → Prop} (h : CallTo S n f xs σ R) (hR : ∀ p q, R p q → R' p q) : CallTo S n f xs σ R' :=
  fun k ns vs μ L s fv as F rf ras A Q E rm hQ => h k ns vs μ L s fv as F rf ras A Q E rm fun s' v p σ' r => hQ s' v p σ' (hR _ _ r)
theorem BinTo.mono {op : Operator} {x y : PV} {R R' : PV → Prop} (h : BinTo S n op x y R) (hR : ∀ p, R p → R' p) : BinTo S n op x y R' :=
  fun k ns vs σ μ L s a b F ra rb A Q E rm hQ => h k ns vs σ μ L s a b F ra rb A Q E rm fun s' v p r => hQ s' v p (hR _ r)
/-! literals -/
variable {R : PV → Vals → List PV → Prop}
theorem ev_int {i : Int} {kk : Nat} {pos : Pos} (h : R (.int i) vs σ) : EV S n k ns vs σ (.Constant (.int i) kk pos) R :=
  fun _ _ _ F _ _ _ _ hQ => wpAny_Constant_int (hQ _ _ _ _ _ h F.toks Ext.toks ⟨_, rfl⟩)
theorem ev_str {x : Str} {kk : Nat} {pos : Pos} (h : R (.str x) vs σ) : EV S n k ns vs σ (.Constant (.str x) kk pos) R :=
  fun _ _ _ F _ _ _ _ hQ => wpAny_Constant_str (hQ _ _ _ _ _ h F.toks Ext.toks ⟨_, rfl⟩)
theorem ev_bool {b : Bool} {kk : Nat} {pos : Pos} (h : R (.bool b) vs σ) : EV S n k ns vs σ (.Constant (.bool b) kk pos) R :=
  fun _ _ _ F _ _ _ _ hQ => wpAny_Constant_bool (hQ _ _ _ _ _ h F .refl rfl)
theorem ev_none {kk : Nat} {pos : Pos} (h : R .none vs σ) : EV S n k ns vs σ (.Constant .none kk pos) R :=
  fun _ _ _ F _ _ _ _ hQ => wpAny_Constant_none (hQ _ _ _ _ _ h F .refl rfl)
/-! names -/
inductive Sel : Names → Vals → Str → PV → Prop
  | here {x : Str} {p : PV} {ns : Names} {vs : Vals} : Sel ((x, .local) :: ns) (some p :: vs) x p
  | there {x : Str} {p : PV} {a : Str × NameKind} {b : Option PV} {ns : Names} {vs : Vals} : Sel ns vs x p → Sel (a :: ns) (b :: vs) x p
theorem Sel.mem {ns : Names} {vs : Vals} {x : Str} {p : PV} (h : Sel ns vs x p) : (x, NameKind.local) ∈ ns := by
  induction h with
  | here => exact .head _
  | there _ ih => exact .tail _ ih
theorem Sel.get {fa : Nat → Addr} {h : Heap} {m : Str → Option Value} {ns : Names} {vs : Vals} {x : Str} {p : PV} (hs : Sel ns vs x p) : Holds fa μ h m ns vs → ∃ v, m x = some v ∧ Rep fa μ h p v := by
  induction hs with
  | here => exact fun r => r.1
  | @there x p a b ns vs _ ih =>
    obtain ⟨a1, a2⟩ := a
    cases b with
    | none => exact fun r => ih r
    | some q => exact fun r => ih r.2
theorem lookup_of_mem {ns : Names} (hn : (ns.map (·.1)).Nodup) {x : Str} {c : NameKind} (hm : (x, c) ∈ ns) : ns.lookup x = some c := by
  induction ns with
  | nil => cases hm
  | cons a r ih =>
    obtain ⟨y, d⟩ := a
    rw [List.lookup_cons]
    simp only [List.map_cons, List.nodup_cons] at hn
    cases hm with
    | head => simp
    | tail _ hm =>
      have : x ≠ y := fun e => hn.1 (by rw [← e]; exact List.mem_map_of_mem (f := (·.1)) hm)
      rw [show (x == y) = false from by simpa using this]
      exact ih hn.2 hm
theorem ScopeOk.kindOf {k : Nat} {ns : Names} (O : ScopeOk k ns) {x : Str} {c : NameKind} (hm : (x, c) ∈ ns) : (envK S k L).kindOf x = some c := by
  have h : (FT k).scope.names.lookup x = some c := by rw [O.names]; exact lookup_of_mem O.nodup hm
  exact h
theorem ScopeOk.nodbg {k : Nat} {ns : Names} (O : ScopeOk k ns) {x : Str} {c : NameKind} (hm : (x, c) ∈ ns) : (x == ("__debug__" : Str)) = false := O.dbg _ hm
/-- the local x is looked up -/
def LK (ns : Names) (vs : Vals) (x : Str) (C : PV → Prop) : Prop := ∃ p, Sel ns vs x p ∧ C p
theorem lk_here {x : Str} {p : PV} {ns : Names} {vs : Vals} {C : PV → Prop} (h : C p) : LK ((x, .local) :: ns) (some p :: vs) x C := ⟨p, .here, h⟩
theorem lk_there {x : Str} {a : Str × NameKind} {b : Option PV} {ns : Names} {vs : Vals} {C : PV → Prop} (h : LK ns vs x C) : LK (a :: ns) (b :: vs) x C := let ⟨p, h1, h2⟩ := h; ⟨p, .there h1, h2⟩
theorem ev_local {x : Str} {pos : Pos} (h : LK ns vs x (fun p => R p vs σ)) : EV S n k ns vs σ (.Name x pos) R := by
  intro μ L s F A Q E rm hQ
  obtain ⟨p, hs, h⟩ := h
  obtain ⟨m, fr, hv⟩ := F.fr
  obtain ⟨v, e, r⟩ := hs.get hv
  exact ld fr e (hQ _ _ _ _ _ h F .refl r) F.ok.kind (F.ok.kindOf (S := S) (L := L) hs.mem) (F.ok.nodbg hs.mem)
theorem Rep.of_none {fa : Nat → Addr} {h : Heap} {g : Heap} {μ : Option Addr} (hk : ∀ b o, g.get? b = some o → h.get? b = some o) (hμ : ∀ a, μ = some a → g.get? a = none) : ∀ {p : PV} {v : Value}, Rep fa none g p v → Rep fa μ h p v := by
  have key : ∀ sz : Nat, (∀ p v, sizeOf p < sz → Rep fa none g p v → Rep fa μ h p v) ∧ (∀ ps vs, sizeOf ps < sz → RepL fa none g ps vs → RepL fa μ h ps vs) := by
    intro sz
    induction sz with
    | zero => exact ⟨fun _ _ h => absurd h (Nat.not_lt_zero _), fun _ _ h => absurd h (Nat.not_lt_zero _)⟩
    | succ sz ih =>
      have ne : ∀ {a o}, g.get? a = some o → some a ≠ μ := fun hg e => by rw [hμ _ e.symm] at hg; cases hg
      refine ⟨fun p v hz r => ?_, fun ps vs hz r => ?_⟩
      · cases p with
        | tup l =>
          obtain ⟨a, xs, n, e, _, hg, hr⟩ := r
          exact ⟨a, xs, n, e, ne hg, hk _ _ hg, ih.2 _ _ (by simp at hz; omega) hr⟩
        | lst l =>
          obtain ⟨a, xs, n, e, _, hg, hr⟩ := r
          exact ⟨a, xs, n, e, ne hg, hk _ _ hg, ih.2 _ _ (by simp at hz; omega) hr⟩
        | nlst l =>
          obtain ⟨a, xs, n, e, _, hf, hg, hr⟩ := r
          exact ⟨a, xs, n, e, ne hg, hf, hk _ _ hg, ih.2 _ _ (by simp at hz; omega) hr⟩
        | mref => obtain ⟨a, _, e⟩ := r; cases e
        | range a b =>
          obtain ⟨r, t, u, w, e, _, hg⟩ := r
          exact ⟨r, t, u, w, e, ne hg, hk _ _ hg⟩
        | sl l u st =>
          obtain ⟨a, l', u', s', e, _, e1, e2, e3, hg⟩ := r
          exact ⟨a, l', u', s', e, ne hg, e1, e2, e3, hk _ _ hg⟩
        | none => exact r
        | bool => exact r
        | int => exact r
        | str => exact r
        | fn => exact r
        | raw => exact r
      · cases ps with
        | nil => exact r
        | cons p ps =>
          obtain ⟨v, q, e, h1, h2⟩ := r
          exact ⟨v, q, e, ih.1 _ _ (by simp at hz; omega) h1, ih.2 _ _ (by simp at hz; omega) h2⟩
  exact fun {p v} r => (key (sizeOf p + 1)).1 p v (Nat.lt_succ_self _) r
theorem FS.mu_none (F : FS S μ L k ns vs σ s) : ∀ a, μ = some a → S.g.get? a = none := fun a e => by
  cases h : S.g.get? a with
  | none => rfl
  | some o => exact absurd (Heap.lt_size h) (Nat.not_lt.mpr (F.mu a e).1)
inductive Gl : Names → Str → Prop
  | here {x : Str} {ns : Names} : Gl ((x, .globalImplicit) :: ns) x
  | there {x : Str} {a : Str × NameKind} {ns : Names} : Gl ns x → Gl (a :: ns) x
theorem Gl.mem {ns : Names} {x : Str} (h : Gl ns x) : (x, NameKind.globalImplicit) ∈ ns := by
  induction h with
  | here => exact .head _
  | there _ ih => exact .tail _ ih
def GLO (P : Prog) (x : Str) (C : PV → Prop) : Prop := ∃ p, (x, p) ∈ P.glo ∧ C p
def BLT (P : Prog) (x : Str) (C : PV → Prop) : Prop := ∃ v, x ∈ P.blt ∧ bootBuiltins x = some v ∧ C (.raw v)
theorem ev_glob {x : Str} {pos : Pos} (hx : Gl ns x) (h : GLO P x (fun p => R p vs σ)) : EV S n k ns vs σ (.Name x pos) R := by
  intro μ L s F A Q E rm hQ
  obtain ⟨p, hg, h⟩ := h
  obtain ⟨m, fr, hv⟩ := F.fr
  obtain ⟨v, e, r⟩ := S.hglo x p hg
  exact ld_global_at fr S.hg e (hQ _ _ _ _ _ h F .refl (Rep.of_none fr.keep F.mu_none r)) F.ok.kind (F.ok.kindOf (S := S) (L := L) hx.mem) (F.ok.nodbg hx.mem)
theorem ev_builtin {x : Str} {pos : Pos} (hx : Gl ns x) (h : BLT P x (fun p => R p vs σ)) : EV S n k ns vs σ (.Name x pos) R := by
  intro μ L s F A Q E rm hQ
  obtain ⟨v, hg, hv, h⟩ := h
  obtain ⟨m, fr, _⟩ := F.fr
  obtain ⟨g1, g2⟩ := S.hgno x hg
  exact ld_builtin_at fr S.hg g1 S.hb ((S.hbi x g2).trans hv) (hQ _ _ _ _ _ h F .refl rfl) F.ok.kind (F.ok.kindOf (S := S) (L := L) hx.mem) (F.ok.nodbg hx.mem)
/-! operators -/
theorem ev_bin {l r : PySem.Expr} {op : Operator} {pos : Pos} (h : EV S n k ns vs σ l (fun x vs1 σ1 => EV S n k ns vs1 σ1 r (fun y vs2 σ2 => BinTo S n op x y (fun z => R z vs2 σ2)))) :
    EV S n k ns vs σ (.BinOp l op r pos) R := by
  intro μ L s F A Q E rm hQ
  refine wpAny_BinOp (h μ L s F A _ E rm fun s1 a x vs1 σ1 h1 F1 X1 ra => h1 μ L s1 F1 A _ E rm fun s2 b y vs2 σ2 h2 F2 X2 rb => ?_)
  exact h2 k ns vs2 σ2 μ L s2 a b F2 (F1.up X2 ra) rb A _ E rm fun s3 v z hz F3 X3 rv => hQ s3 v z vs2 σ2 hz F3 (X1.trans (X2.trans X3)) rv
theorem ev_un {x : PySem.Expr} {op : PySem.UnaryOp} {pos : Pos} (h : EV S n k ns vs σ x (fun x vs1 σ1 => UnTo S n op x (fun z => R z vs1 σ1))) :
    EV S n k ns vs σ (.UnaryOp op x pos) R := by
  intro μ L s F A Q E rm hQ
  refine wpAny_UnaryOp (h μ L s F A _ E rm fun s1 a x vs1 σ1 h1 F1 X1 ra => ?_)
  exact h1 k ns vs1 σ1 μ L s1 a F1 ra A _ E rm fun s3 v z hz F3 X3 rv => hQ s3 v z vs1 σ1 hz F3 (X1.trans X3) rv
theorem ev_ifexp {t b o : PySem.Expr} {pos : Pos} (h : TV S n k ns vs σ t (fun c vs1 σ1 => (c = true → EV S n k ns vs1 σ1 b R) ∧ (c = false → EV S n k ns vs1 σ1 o R))) :
    EV S n k ns vs σ (.IfExp t b o pos) R := by
  intro μ L s F A Q E rm hQ
  refine wpAny_IfExp (h μ L s F A _ E rm fun s1 c vs1 σ1 h1 F1 X1 => ?_)
  cases c with
  | true => exact h1.1 rfl μ L s1 F1 A _ E rm fun s2 v p vs2 σ2 hp F2 X2 rv => hQ s2 v p vs2 σ2 hp F2 (X1.trans X2) rv
  | false => exact h1.2 rfl μ L s1 F1 A _ E rm fun s2 v p vs2 σ2 hp F2 X2 rv => hQ s2 v p vs2 σ2 hp F2 (X1.trans X2) rv
theorem ev_boolop {op : BoolOp} {es : List PySem.Expr} {pos : Pos} (h : BV S n k ns vs σ op es R) : EV S n k ns vs σ (.BoolOp op es pos) R :=
  fun μ L s F => h pos μ L s F
theorem bv_one {op : BoolOp} {e : PySem.Expr} (h : EV S n k ns vs σ e R) : BV S n k ns vs σ op [e] R := fun _ μ L s F => h μ L s F
theorem bv_and {e e' : PySem.Expr} {es : List PySem.Expr} (h : EV S n k ns vs σ e (fun x vs1 σ1 => ∃ c, TruTo S x c ∧ (c = true → BV S n k ns vs1 σ1 .And (e' :: es) R) ∧ (c = false → R x vs1 σ1))) :
    BV S n k ns vs σ .And (e :: e' :: es) R := by
  intro pos μ L s F A Q E rm hQ
  show wpAny _ A (do
    let v ← eval e (envK S k L)
    standAt pos
    let t ← holding [v] (truthy v)
    match BoolOp.And, t with
    | .And, false | .Or, true => pure v
    | _, _ => boolOp pos .And (evalEach (e' :: es) (envK S k L))) Q E s
  refine wpAny_bind (h μ L s F A _ E rm fun s1 a x vs1 σ1 h1 F1 X1 ra => wpAny_bind (wpAny_standAt (wpAny_bind (wpAny_holding ?_))))
  obtain ⟨c, ht, h2, h3⟩ := h1
  refine ht k ns vs1 σ1 μ L s1 a F1 ra A _ E ?_
  cases c with
  | true => exact h2 rfl pos μ L s1 F1 A Q E rm fun s2 v p vs2 σ2 hp F2 X2 rv => hQ s2 v p vs2 σ2 hp F2 (X1.trans X2) rv
  | false => exact wpAny_pure (hQ _ _ _ _ _ (h3 rfl) F1 X1 ra)
theorem bv_or {e e' : PySem.Expr} {es : List PySem.Expr} (h : EV S n k ns vs σ e (fun x vs1 σ1 => ∃ c, TruTo S x c ∧ (c = false → BV S n k ns vs1 σ1 .Or (e' :: es) R) ∧ (c = true → R x vs1 σ1))) :
    BV S n k ns vs σ .Or (e :: e' :: es) R := by
  intro pos μ L s F A Q E rm hQ
  show wpAny _ A (do
    let v ← eval e (envK S k L)
    standAt pos
    let t ← holding [v] (truthy v)
    match BoolOp.Or, t with
    | .And, false | .Or, true => pure v
    | _, _ => boolOp pos .Or (evalEach (e' :: es) (envK S k L))) Q E s
  refine wpAny_bind (h μ L s F A _ E rm fun s1 a x vs1 σ1 h1 F1 X1 ra => wpAny_bind (wpAny_standAt (wpAny_bind (wpAny_holding ?_))))
  obtain ⟨c, ht, h2, h3⟩ := h1
  refine ht k ns vs1 σ1 μ L s1 a F1 ra A _ E ?_
  cases c with
  | false => exact h2 rfl pos μ L s1 F1 A Q E rm fun s2 v p vs2 σ2 hp F2 X2 rv => hQ s2 v p vs2 σ2 hp F2 (X1.trans X2) rv
  | true => exact wpAny_pure (hQ _ _ _ _ _ (h3 rfl) F1 X1 ra)
theorem ev_cmp {l r : PySem.Expr} {op : CmpOp} {pos : Pos} (h : EV S n k ns vs σ l (fun x vs1 σ1 => EV S n k ns vs1 σ1 r (fun y vs2 σ2 => CmpTo S n op x y (fun z => R z vs2 σ2))))
    (hm : behindInMarks op r = false := by with_unfolding_all rfl) : EV S n k ns vs σ (.Compare l [op] [r] pos) R := by
  intro μ L s F A Q E rm hQ
  refine wpAny_Compare1 (h μ L s F A _ E rm fun s1 a x vs1 σ1 h1 F1 X1 ra => h1 μ L s1 F1 A _ E rm fun s2 b y vs2 σ2 h2 F2 X2 rb => ?_) hm
  exact h2 k ns vs2 σ2 μ L s2 a b F2 (F1.up X2 ra) rb A _ E rm fun s3 v z hz F3 X3 rv => hQ s3 v z vs2 σ2 hz F3 (X1.trans (X2.trans X3)) rv
theorem tv_cmp {l r : PySem.Expr} {op : CmpOp} {pos : Pos} {R : Bool → Vals → List PV → Prop} (h : EV S n k ns vs σ l (fun x vs1 σ1 => EV S n k ns vs1 σ1 r (fun y vs2 σ2 => CmpTo S n op x y (fun z => ∃ c, z = .bool c ∧ R c vs2 σ2))))
    (hm : behindInMarks op r = false := by with_unfolding_all rfl) : TV S n k ns vs σ (.Compare l [op] [r] pos) R := by
  intro μ L s F A Q E rm hQ
  refine wpAny_isTrue_Compare1 (h μ L s F A _ E rm fun s1 a x vs1 σ1 h1 F1 X1 ra => h1 μ L s1 F1 A _ E rm fun s2 b y vs2 σ2 h2 F2 X2 rb => ?_) hm
  refine h2 k ns vs2 σ2 μ L s2 a b F2 (F1.up X2 ra) rb A _ E rm fun s3 v z hz F3 X3 rv => ?_
  obtain ⟨c, rfl, hc⟩ := hz
  cases rv
  exact wpAny_truthy_bool (hQ s3 c vs2 σ2 hc F3 (X1.trans (X2.trans X3)))
/-- a chain of two comparisons -/
theorem ev_chain {l r r' : PySem.Expr} {op op' : CmpOp} {pos : Pos} (h : EV S n k ns vs σ l (fun x vs1 σ1 => EV S n k ns vs1 σ1 r (fun y vs2 σ2 => CmpTo S n op x y (fun z => ∃ c, z = .bool c ∧
      (c = true → EV S n k ns vs2 σ2 r' (fun y' vs3 σ3 => CmpTo S n op' y y' (fun z => R z vs3 σ3))) ∧ (c = false → R (.bool false) vs2 σ2)))))
    (hm : lastMarks [op, op'] [r, r'] = false := by with_unfolding_all rfl) : EV S n k ns vs σ (.Compare l [op, op'] [r, r'] pos) R := by
  intro μ L s F A Q E rm hQ
  refine Compare_chain (h μ L s F A _ E rm fun s1 a x vs1 σ1 h1 F1 X1 ra => chain_link (h1 μ L s1 F1 A _ E rm fun s2 b y vs2 σ2 h2 F2 X2 rb => ?_)) hm
  refine h2 k ns vs2 σ2 μ L s2 a b F2 (F1.up X2 ra) rb A _ E rm fun s3 v z hz F3 X3 rv => ?_
  obtain ⟨c, rfl, hc, hf⟩ := hz
  cases rv
  refine wpAny_truthy_bool ?_
  cases c with
  | false => exact hQ _ _ _ _ _ (hf rfl) F3 (X1.trans (X2.trans X3)) rfl
  | true =>
    refine chain_last (hc rfl μ L s3 F3 A _ E rm fun s4 b' y' vs4 σ4 h4 F4 X4 rb' => ?_)
    exact h4 k ns vs4 σ4 μ L s4 b b' F4 (F3.up X4 (F2.up X3 rb)) rb' A _ E rm fun s5 v z hz F5 X5 rv => hQ s5 v z vs4 σ4 hz F5 (X1.trans (X2.trans (X3.trans (X4.trans X5)))) rv
theorem tv_chain {l r r' : PySem.Expr} {op op' : CmpOp} {pos : Pos} {R : Bool → Vals → List PV → Prop} (h : EV S n k ns vs σ l (fun x vs1 σ1 => EV S n k ns vs1 σ1 r (fun y vs2 σ2 => CmpTo S n op x y (fun z => ∃ c, z = .bool c ∧
      (c = true → EV S n k ns vs2 σ2 r' (fun y' vs3 σ3 => CmpTo S n op' y y' (fun z => ∃ c, z = .bool c ∧ R c vs3 σ3))) ∧ (c = false → R false vs2 σ2)))))
    (hm : lastMarks [op, op'] [r, r'] = false := by with_unfolding_all rfl) : TV S n k ns vs σ (.Compare l [op, op'] [r, r'] pos) R := by
  intro μ L s F A Q E rm hQ
  refine isTrue_chain (h μ L s F A _ E rm fun s1 a x vs1 σ1 h1 F1 X1 ra => test_link (h1 μ L s1 F1 A _ E rm fun s2 b y vs2 σ2 h2 F2 X2 rb => ?_)) hm
  refine h2 k ns vs2 σ2 μ L s2 a b F2 (F1.up X2 ra) rb A _ E rm fun s3 v z hz F3 X3 rv => ?_
  obtain ⟨c, rfl, hc, hf⟩ := hz
  cases rv
  refine wpAny_truthy_bool ?_
  cases c with
  | false => exact hQ _ _ _ _ (hf rfl) F3 (X1.trans (X2.trans X3))
  | true =>
    refine test_last (hc rfl μ L s3 F3 A _ E rm fun s4 b' y' vs4 σ4 h4 F4 X4 rb' => ?_)
    refine h4 k ns vs4 σ4 μ L s4 b b' F4 (F3.up X4 (F2.up X3 rb)) rb' A _ E rm fun s5 v z hz F5 X5 rv => ?_
    obtain ⟨c, rfl, hc⟩ := hz
    cases rv
    exact wpAny_truthy_bool (hQ s5 c vs4 σ4 hc F5 (X1.trans (X2.trans (X3.trans (X4.trans X5)))))
theorem tv_not {x : PySem.Expr} {pos : Pos} {R : Bool → Vals → List PV → Prop} (h : TV S n k ns vs σ x (fun c vs1 σ1 => R (!c) vs1 σ1)) : TV S n k ns vs σ (.UnaryOp .Not x pos) R :=
  fun μ L s F A Q E rm hQ => wpAny_isTrue_Not (h μ L s F A _ E rm fun s1 c vs1 σ1 h1 F1 X1 => hQ s1 _ vs1 σ1 h1 F1 X1)
theorem tv_boolop {op : BoolOp} {es : List PySem.Expr} {pos : Pos} {R : Bool → Vals → List PV → Prop} (h : LV S n k ns vs σ op es R) : TV S n k ns vs σ (.BoolOp op es pos) R :=
  fun μ L s F A Q E rm hQ => wpAny_isTrue_BoolOp (h μ L s F A Q E rm hQ)
theorem lv_and_nil {R : Bool → Vals → List PV → Prop} (h : R true vs σ) : LV S n k ns vs σ .And [] R := fun μ L s F A Q E rm hQ => wpAny_allTrue_And_nil (hQ _ _ _ _ h F .refl)
theorem lv_or_nil {R : Bool → Vals → List PV → Prop} (h : R false vs σ) : LV S n k ns vs σ .Or [] R := fun μ L s F A Q E rm hQ => wpAny_allTrue_Or_nil (hQ _ _ _ _ h F .refl)
theorem lv_and {x : PySem.Expr} {rest : List PySem.Expr} {R : Bool → Vals → List PV → Prop} (h : TV S n k ns vs σ x (fun c vs1 σ1 => (c = true → LV S n k ns vs1 σ1 .And rest R) ∧ (c = false → R false vs1 σ1))) :
    LV S n k ns vs σ .And (x :: rest) R := by
  intro μ L s F A Q E rm hQ
  refine wpAny_allTrue_And_cons (h μ L s F A _ E rm fun s1 c vs1 σ1 h1 F1 X1 => ?_)
  cases c with
  | true => exact h1.1 rfl μ L s1 F1 A Q E rm fun s2 b vs2 σ2 h2 F2 X2 => hQ s2 b vs2 σ2 h2 F2 (X1.trans X2)
  | false => exact hQ _ _ _ _ (h1.2 rfl) F1 X1
theorem lv_or {x : PySem.Expr} {rest : List PySem.Expr} {R : Bool → Vals → List PV → Prop} (h : TV S n k ns vs σ x (fun c vs1 σ1 => (c = false → LV S n k ns vs1 σ1 .Or rest R) ∧ (c = true → R true vs1 σ1))) :
    LV S n k ns vs σ .Or (x :: rest) R := by
  intro μ L s F A Q E rm hQ
  refine wpAny_allTrue_Or_cons (h μ L s F A _ E rm fun s1 c vs1 σ1 h1 F1 X1 => ?_)
  cases c with
  | false => exact h1.1 rfl μ L s1 F1 A Q E rm fun s2 b vs2 σ2 h2 F2 X2 => hQ s2 b vs2 σ2 h2 F2 (X1.trans X2)
  | true => exact hQ _ _ _ _ (h1.2 rfl) F1 X1
/-- a test that is a plain value -/
theorem tv_value {e : PySem.Expr} {R : Bool → Vals → List PV → Prop} (h : EV S n k ns vs σ e (fun x vs1 σ1 => ∃ c, TruTo S x c ∧ R c vs1 σ1))
    (he : ∀ env whole, isTrue e env whole = (do let v ← whole; standAt e.pos; holding [v] (truthy v)) := by intros; with_unfolding_all rfl) : TV S n k ns vs σ e R := by
  intro μ L s F A Q E rm hQ
  refine wpAny_isTrue_value (h μ L s F A _ E rm fun s1 a x vs1 σ1 h1 F1 X1 ra => ?_) (he _ _)
  obtain ⟨c, ht, hc⟩ := h1
  exact ht k ns vs1 σ1 μ L s1 a F1 ra A _ E (hQ _ _ _ _ hc F1 X1)
/-! arguments, displays -/
def plainExpr : PySem.Expr → Bool
  | .Starred _ _ => false
  | _ => true
theorem starEach_plain {e : PySem.Expr} {rest : List PySem.Expr} {env : Env} (h : plainExpr e = true) : starEach (e :: rest) env = (false, eval e env) :: starEach rest env := by
  cases e <;> first | rfl | cases h
theorem any_plain {pos : Pos} {env : Env} : ∀ {es : List PySem.Expr}, es.all plainExpr = true → (backTo pos (starEach es env)).any (fun x => x.fst) = false
  | [], _ => rfl
  | e :: r, h => by
    simp only [List.all_cons, Bool.and_eq_true] at h
    rw [starEach_plain h.1]
    exact any_plain h.2
theorem av_nil {R : List PV → Vals → List PV → Prop} (h : R [] vs σ) : AV S n k ns vs σ [] R := fun _ _ _ _ F _ _ _ _ hQ => args_nil (hQ _ _ _ _ _ h F .refl rfl)
theorem av_cons {e : PySem.Expr} {rest : List PySem.Expr} {R : List PV → Vals → List PV → Prop}
    (h : EV S n k ns vs σ e (fun x vs1 σ1 => AV S n k ns vs1 σ1 rest (fun xs vs2 σ2 => R (x :: xs) vs2 σ2))) (he : plainExpr e = true := by with_unfolding_all rfl) : AV S n k ns vs σ (e :: rest) R := by
  intro pos μ L s F A Q E rm hQ
  refine args_cons (h μ L s F A _ E rm fun s1 a x vs1 σ1 h1 F1 X1 ra => ?_) (starEach_plain he)
  exact h1 pos μ L s1 F1 A _ E rm fun s2 as xs vs2 σ2 h2 F2 X2 ras => hQ _ _ _ _ _ h2 F2 (X1.trans X2) ⟨_, _, rfl, F1.up X2 ra, ras⟩
theorem RepL.length {fa : Nat → Addr} {h : Heap} : ∀ {ps : List PV} {xs : List Value}, RepL fa μ h ps xs → xs.length = ps.length
  | [], _, r => by cases r; rfl
  | _ :: _, _, ⟨_, _, e, _, r⟩ => by rw [e, List.length_cons, List.length_cons, r.length]
theorem ev_tuple {es : List PySem.Expr} {kk : Nat} {pos : Pos} (h : AV S n k ns vs σ es (fun xs vs1 σ1 => R (.tup xs) vs1 σ1 ∧ xs.length ≤ 100)) : EV S n k ns vs σ (.Tuple es kk pos) R := by
  intro μ L s F A Q E rm hQ
  refine Tuple_ (h pos μ L s F A _ E rm fun s1 as xs vs1 σ1 h1 F1 X1 ras => ?_)
  refine wpAny_newObj_type ?_ (by show as.toArray.size ≤ sizeLine; rw [List.size_toArray, ras.length, sizeLine_eq]; have := h1.2; omega)
  have hk : ∀ b o, s1.heap.get? b = some o → (s1.heap.push (tupObj as 0)).get? b = some o := fun _ _ e => Heap.get?_push_of_some _ e
  have X2 : Ext (some L) μ s1 { s1 with heap := s1.heap.push (tupObj as 0) } := ⟨.of_keep hk, rfl⟩
  refine hQ _ _ _ _ _ h1.1 (F1.grow hk) (X1.trans X2) ⟨_, as, 0, rfl, ?_, Heap.get?_push_size _ rfl, F1.upL X2 ras⟩
  intro e
  obtain ⟨_, vs', ⟨_, hg, _⟩, _⟩ := F1.mu _ e.symm
  exact Nat.lt_irrefl _ (Heap.lt_size hg)
theorem ev_list {es : List PySem.Expr} {pos : Pos} (h : AV S n k ns vs σ es (fun xs vs1 σ1 => R (.lst xs) vs1 σ1 ∧ xs.length ≤ 100)) : EV S n k ns vs σ (.List es pos) R := by
  intro μ L s F A Q E rm hQ
  refine List_ (h pos μ L s F A _ E rm fun s1 as xs vs1 σ1 h1 F1 X1 ras => ?_)
  refine wpAny_newObj_type ?_ (by show as.toArray.size ≤ sizeLine; rw [List.size_toArray, ras.length, sizeLine_eq]; have := h1.2; omega)
  have hk : ∀ b o, s1.heap.get? b = some o → (s1.heap.push (lstObj as 0)).get? b = some o := fun _ _ e => Heap.get?_push_of_some _ e
  have X2 : Ext (some L) μ s1 { s1 with heap := s1.heap.push (lstObj as 0) } := ⟨.of_keep hk, rfl⟩
  refine hQ _ _ _ _ _ h1.1 (F1.grow hk) (X1.trans X2) ⟨_, as, 0, rfl, ?_, Heap.get?_push_size _ rfl, F1.upL X2 ras⟩
  intro e
  obtain ⟨_, vs', ⟨_, hg, _⟩, _⟩ := F1.mu _ e.symm
  exact Nat.lt_irrefl _ (Heap.lt_size hg)
/-! calls -/
inductive Callable : PV → Prop
  | fn {k' : Nat} : P.fns k' = true → Callable (.fn k')
  | bi {id : String} : Callable (.raw (.builtin id))
  | ty {T : String} : Callable (.raw (.type T))
theorem cl_bi {id : String} {X : Prop} (h : X) : Callable (P := P) (.raw (.builtin id)) ∧ X := ⟨.bi, h⟩
theorem cl_ty {T : String} {X : Prop} (h : X) : Callable (P := P) (.raw (.type T)) ∧ X := ⟨.ty, h⟩
theorem cl_fn {k' : Nat} {X : Prop} (hf : P.fns k' = true) (h : X) : Callable (P := P) (.fn k') ∧ X := ⟨.fn hf, h⟩
theorem ev_call {id : Str} {p : Pos} {e : PySem.Expr} {args : List PySem.Expr} {pos : Pos}
    (h : EV S n k ns vs σ (.Name id p) (fun f vs1 σ1 => Callable (P := P) f ∧ AV S n k ns vs1 σ1 (e :: args) (fun xs vs2 σ2 => CallTo S n f xs σ2 (fun z σ3 => R z vs2 σ3))))
    (he : (e :: args).all plainExpr = true := by with_unfolding_all rfl) : EV S n k ns vs σ (.Call (.Name id p) (e :: args) [] pos) R := by
  intro μ L s F A Q E rm hQ
  simp only [List.all_cons, Bool.and_eq_true] at he
  have he1 : plainExpr e = true := he.1
  have he2 : (backTo pos (starEach args (envK S k L))).any (fun x => x.fst) = false := any_plain he.2
  refine Call_ (h μ L s F A _ E rm fun s1 fv f vs1 σ1 h1 F1 X1 rf => ?_)
  obtain ⟨hc, h1⟩ := h1
  cases hc with
  | @fn k' hf =>
    cases rf
    obtain ⟨o, fd, ho, hd, _⟩ := (S.hfn k' hf).at_
    refine callWith_def_at ho hd (h1 pos μ L s1 F1 A _ E rm fun s2 as xs vs2 σ2 h2 F2 X2 ras => ⟨F2.hs.keep _ _ ho, ?_⟩) (starEach_plain he1)
    exact h2 k ns vs2 μ L s2 _ as F2 rfl ras A Q E rm fun s3 v z σ3 hz F3 X3 rv => hQ s3 v z vs2 σ3 hz F3 (X1.trans (X2.trans X3)) rv
  | @bi id =>
    cases rf
    refine PyProof.Rows.callWith_builtin1 (h1 pos μ L s1 F1 A _ E rm fun s2 as xs vs2 σ2 h2 F2 X2 ras => ?_) (starEach_plain he1) he2
    exact h2 k ns vs2 μ L s2 _ as F2 rfl ras A Q E rm fun s3 v z σ3 hz F3 X3 rv => hQ s3 v z vs2 σ3 hz F3 (X1.trans (X2.trans X3)) rv
  | @ty T =>
    cases rf
    refine PyProof.Rows.callWith_type1 (h1 pos μ L s1 F1 A _ E rm fun s2 as xs vs2 σ2 h2 F2 X2 ras => ?_) (starEach_plain he1) he2
    exact h2 k ns vs2 μ L s2 _ as F2 rfl ras A Q E rm fun s3 v z σ3 hz F3 X3 rv => hQ s3 v z vs2 σ3 hz F3 (X1.trans (X2.trans X3)) rv
/-- how parameters are bound -/
def BindK (k na nd : Nat) (nms : List Str) : Prop :=
  ∀ (fd : FuncData) (as ds : List Value), fd.params = (FT k).args → as.length = na → ds.length = nd →
    ∃ kk, bindArgs fd ⟨as, []⟩ = (seqItems? fd.defaults >>= kk) ∧ kk (some ds.toArray) = pure (nms.zip (as ++ ds.drop (nd - (nms.length - na)))) ∧ (nd = 0 → kk none = pure (nms.zip as))
inductive Inits : Names → List Str → List PV → Vals → Prop
  | nil : Inits [] [] [] []
  | pad {a : Str × NameKind} {ns : Names} {vs : Vals} : Inits ns [] [] vs → Inits (a :: ns) [] [] (none :: vs)
  | cons {x : Str} {ns : Names} {nms : List Str} {p : PV} {ps : List PV} {vs : Vals} : Inits ns nms ps vs → Inits ((x, .local) :: ns) (x :: nms) (p :: ps) (some p :: vs)
theorem Inits.mem {ns : Names} {nms : List Str} {ps : List PV} {vs : Vals} (h : Inits ns nms ps vs) : ∀ x ∈ nms, (x, NameKind.local) ∈ ns := by
  induction h with
  | nil => intro x hx; cases hx
  | pad => intro x hx; cases hx
  | cons _ ih =>
    intro x hx
    cases hx with
    | head => exact .head _
    | tail _ hx => exact .tail _ (ih x hx)
theorem Inits.sub {ns : Names} {nms : List Str} {ps : List PV} {vs : Vals} (h : Inits ns nms ps vs) : List.Sublist nms (ns.map (·.1)) := by
  induction h with
  | nil => exact List.nil_sublist _
  | pad => exact List.nil_sublist _
  | cons _ ih => exact ih.cons_cons _
theorem Inits.holds {fa : Nat → Addr} {h : Heap} {m : Str → Option Value} {ns : Names} {nms : List Str} {ps : List PV} {vs : Vals} (I : Inits ns nms ps vs) :
    ∀ {as : List Value}, RepL fa μ h ps as → (∀ x v, (x, v) ∈ nms.zip as → m x = some v) → Holds fa μ h m ns vs := by
  induction I with
  | nil => intro _ _ _; exact trivial
  | pad _ ih => intro as r hm; exact ih r fun x v hx => by cases hx
  | cons _ ih =>
    intro as r hm
    obtain ⟨v, q, rfl, h1, h2⟩ := r
    exact ⟨⟨v, hm _ _ (.head _), h1⟩, ih h2 fun x v hx => hm x v (.tail _ hx)⟩
theorem Inits.length {ns : Names} {nms : List Str} {ps : List PV} {vs : Vals} (h : Inits ns nms ps vs) : nms.length = ps.length := by
  induction h with
  | nil => rfl
  | pad => rfl
  | cons _ ih => rw [List.length_cons, List.length_cons, ih]
theorem lookup_of_mem' {α : Type} {l : List (Str × α)} (hn : (l.map (·.1)).Nodup) {x : Str} {c : α} (hm : (x, c) ∈ l) : l.lookup x = some c := by
  induction l with
  | nil => cases hm
  | cons a r ih =>
    obtain ⟨y, d⟩ := a
    rw [List.lookup_cons]
    simp only [List.map_cons, List.nodup_cons] at hn
    cases hm with
    | head => simp
    | tail _ hm =>
      have : x ≠ y := fun e => hn.1 (by rw [← e]; exact List.mem_map_of_mem (f := (·.1)) hm)
      rw [show (x == y) = false from by simpa using this]
      exact ih hn.2 hm
theorem RepL.append {fa : Nat → Addr} {h : Heap} : ∀ {ps qs : List PV} {xs ys : List Value}, RepL fa μ h ps xs → RepL fa μ h qs ys → RepL fa μ h (ps ++ qs) (xs ++ ys)
  | [], _, _, _, a, b => by cases a; exact b
  | _ :: _, _, _, _, ⟨v, r, e, h1, h2⟩, b => by rw [e]; exact ⟨v, r ++ _, rfl, h1, h2.append b⟩
theorem RepL.drop {fa : Nat → Addr} {h : Heap} : ∀ (j : Nat) {ps : List PV} {xs : List Value}, RepL fa μ h ps xs → RepL fa μ h (ps.drop j) (xs.drop j)
  | 0, _, _, a => a
  | _ + 1, [], _, a => by cases a; exact rfl
  | j + 1, _ :: _, _, ⟨_, _, e, _, h2⟩ => by rw [e]; exact RepL.drop j h2
theorem call_fn {k' : Nat} {ns' : Names} {nms : List Str} {vs0 : Vals} {xs : List PV} {R : PV → List PV → Prop} (hf : P.fns k' = true) (ok : ScopeOk k' ns') (hb : BindK k' xs.length (P.dflt k').length nms)
    (hi : Inits ns' nms (xs ++ (P.dflt k').drop ((P.dflt k').length - (nms.length - xs.length))) vs0)
    (h : XS S n k' ns' vs0 σ (FT k').body (fun _ σ' => R .none σ') R (fun _ _ => False)) : CallTo S (n + 1) (.fn k') xs σ R := by
  intro k ns vs μ L s fv as F rf ras A Q E rm hQ
  cases rf
  obtain ⟨o, fd, ho, hd, hbody, hsc, hpar, hqn, hgl, hcl, hcode, hbl, hdf⟩ := (S.hfn k' hf).at_
  obtain ⟨m, fr, hv⟩ := F.fr
  have hcell : ∀ x ∈ fd.scope.names, x.2 ≠ .cell := by rw [hsc, ok.names]; exact ok.cells
  -- the binding
  obtain ⟨bs, hbs, hbind, hrep⟩ : ∃ bs : List Value, bs.length = nms.length ∧ BindsTo s fd ⟨as, []⟩ (nms.zip bs) ∧ RepL S.fa μ s.heap (xs ++ (P.dflt k').drop ((P.dflt k').length - (nms.length - xs.length))) bs := by
    rcases hdf with ⟨hd0, hdv⟩ | ⟨T, ds, nn, hdv, hT, hfl⟩
    · obtain ⟨kk, e1, _, e3⟩ := hb fd as [] hpar ras.length (by rw [hd0]; rfl)
      refine ⟨as, ?_, ?_, ?_⟩
      · have := hi.length; rw [hd0] at this; simp at this; rw [this, ras.length]
      · intro M A' E' Q' hq
        rw [e1, hdv]
        show wpAny M A' (pure none >>= kk) Q' E' s
        refine wpAny_bind (wpAny_pure ?_)
        rw [e3 (by rw [hd0]; rfl)]
        exact wpAny_pure hq
      · rw [hd0]; simpa using ras
    · have hdl : ds.length = (P.dflt k').length := (FlatL.rep (fa := S.fa) (μ := μ) (h := s.heap) hfl).length
      obtain ⟨kk, e1, e2, _⟩ := hb fd as ds hpar ras.length hdl
      refine ⟨as ++ ds.drop ((P.dflt k').length - (nms.length - xs.length)), ?_, ?_, ?_⟩
      · have := hi.length; simp only [List.length_append, List.length_drop, hdl, ras.length] at this ⊢; exact this.symm
      · exact BindsTo.of_defaults hdv (fr.keep _ _ hT) rfl e1 e2
      · exact ras.append (RepL.drop _ hfl.rep)
  have hloc : ∀ x ∈ nms.zip bs, fd.scope.names.lookup x.1 = some .local := by
    intro x hx
    rw [hsc, ok.names]
    exact lookup_of_mem ok.nodup (hi.mem _ (List.of_mem_zip hx).1)
  have hcd : s.heap.CodeRec fd.code fd.qualname := by rw [hcode, hqn]; exact (S.hfn k' hf).code.keeps fr.keep
  have hroom : A.depth < recursionLimit := by have := rm.depth; omega
  refine wpAny_call (codeAny_call_def hroom (fr.keep _ _ ho) hd (S.hlim.keeps fr.keep) hcd hbody hbind hcell hloc (fun h₀ hns hk => ?_) (by rw [hsc]; exact ok.co) (by rw [hsc]; exact ok.gen) (by rw [hsc]; exact ok.kind))
  have henv : callEnv fd s.heap.objs.size (S.fa k') = envK S k' s.heap.objs.size := by
    unfold callEnv newEnv envK envOf
    rw [hsc, hgl, hcl, hcode, hbl, hqn]
  rw [henv]
  have hsz : S.g.objs.size ≤ s.heap.objs.size := by
    obtain ⟨oL, _, _, hL, _⟩ := fr.ns
    exact Nat.le_trans fr.above (Nat.le_of_lt (Heap.lt_size hL))
  have hndup : nms.Nodup := List.Nodup.sublist hi.sub ok.nodup
  have hz : (nms.zip bs).map (·.1) = nms := List.map_fst_zip (Nat.le_of_eq hbs.symm)
  have F0 : FS S μ s.heap.objs.size k' ns' vs0 σ { s with heap := h₀, toks := s.toks + (nms.zip bs).length } := by
    refine ⟨ok, ⟨_, ⟨hns, fun b o e => hk _ _ (fr.keep b o e), hsz⟩, ?_⟩, ?_, ?_⟩
    · refine hi.holds (RepL.keeps (L := some L) F.notSeq (.of_keep hk) hrep) fun x v hx => ?_
      refine lookup_of_mem' ?_ (List.mem_reverse.mpr hx)
      rw [List.map_reverse, hz]
      exact (List.reverse_perm _).nodup_iff.mpr hndup
    · exact F.mu.keeps (L := some L) F.notSeq (.of_keep hk) (fun a _ o e => hk a o e)
    · intro e
      obtain ⟨_, vs', ⟨_, hg, _⟩, _⟩ := F.mu _ e
      exact Nat.lt_irrefl _ (Heap.lt_size hg)
  refine h μ _ _ F0 _ _ _ (rm.deeper _) fun s' f hfl X => ?_
  have hkeep : KeepsBut none μ s.heap s'.heap := fun b o _ hm e => X.keep b o (fun q => Nat.lt_irrefl _ ((Option.some.inj q) ▸ Heap.lt_size e)) hm (hk b o e)
  have fin : ∀ σ', Mut S.fa S.g μ s'.heap σ' → (∀ b o, S.g.get? b = some o → s'.heap.get? b = some o) → FS S μ L k ns vs σ' s' := by
    intro σ' hM hg
    obtain ⟨oL, es, ep, hL, r⟩ := fr.ns
    have hL' : s'.heap.get? L = some oL := hkeep L oL (fun q => nomatch q) (fun q => F.ne q.symm) hL
    exact ⟨F.ok, ⟨m, ⟨⟨oL, es, ep, hL', r⟩, hg, fr.above⟩, hv.keeps (L := none) (fun _ q => nomatch q) hkeep⟩, hM, F.ne⟩
  have X' : Ext (some L) μ s s' := ⟨fun b o _ hm e => hkeep b o (fun q => nomatch q) hm e, by have := X.rest; simpa using this⟩
  cases f with
  | next =>
    obtain ⟨vs', σ', ho', hfl⟩ := hfl
    exact hQ s' _ _ σ' ho' (fin σ' hfl.mu hfl.hs.keep) X' rfl
  | ret v =>
    obtain ⟨p, σ', ho', ⟨vs', F'⟩, rv⟩ := hfl
    exact hQ s' _ _ σ' ho' (fin σ' F'.mu F'.hs.keep) X' rv
  | brk => obtain ⟨_, _, h, _⟩ := hfl; exact h.elim
  | cont => exact hfl.elim
end
end Mine
end
section
open PySem PySem.W PySem.Calls PyProof.Rows
namespace Mine
inductive Upd : Names → Vals → Str → PV → Vals → Prop
  | here {x : Str} {p : PV} {o : Option PV} {ns : Names} {vs : Vals} : Upd ((x, .local) :: ns) (o :: vs) x p (some p :: vs)
  | there {x : Str} {p : PV} {a : Str × NameKind} {b : Option PV} {ns : Names} {vs vs' : Vals} : Upd ns vs x p vs' → Upd (a :: ns) (b :: vs) x p (b :: vs')
/-- the local x is set to p -/
def UP (ns : Names) (vs : Vals) (x : Str) (p : PV) (C : Vals → Prop) : Prop := ∃ v', Upd ns vs x p v' ∧ C v'
theorem up_here {x : Str} {p : PV} {o : Option PV} {ns : Names} {vs : Vals} {C : Vals → Prop} (h : C (some p :: vs)) : UP ((x, .local) :: ns) (o :: vs) x p C := ⟨_, .here, h⟩
theorem up_there {x : Str} {p : PV} {a : Str × NameKind} {b : Option PV} {ns : Names} {vs : Vals} {C : Vals → Prop} (h : UP ns vs x p (fun v => C (b :: v))) : UP (a :: ns) (b :: vs) x p C := let ⟨v, h1, h2⟩ := h; ⟨_, .there h1, h2⟩
theorem upd_i {ns : Names} {v v' : Vals} {x : Str} {p : PV} {C : Vals → Prop} (h : Upd ns v x p v') (h2 : C v') : ∃ v', Upd ns v x p v' ∧ C v' := ⟨v', h, h2⟩
theorem Upd.mem {ns : Names} {vs vs' : Vals} {x : Str} {p : PV} (h : Upd ns vs x p vs') : (x, NameKind.local) ∈ ns := by
  induction h with
  | here => exact .head _
  | there _ ih => exact .tail _ ih
theorem Upd.set {ns : Names} {vs vs' : Vals} {x : Str} {p : PV} (h : Upd ns vs x p vs') : ∃ i, ns[i]? = some (x, NameKind.local) ∧ i < vs.length ∧ vs' = vs.set i (some p) := by
  induction h with
  | here => exact ⟨0, rfl, by simp, rfl⟩
  | there _ ih =>
    obtain ⟨i, h1, h2, h3⟩ := ih
    exact ⟨i + 1, by simpa using h1, by simp; omega, by simp [h3]⟩
theorem Upd.of_set : ∀ {i : Nat} {ns : Names} {vs : Vals} {x : Str} {p : PV}, ns[i]? = some (x, NameKind.local) → i < vs.length → Upd ns vs x p (vs.set i (some p))
  | 0, _ :: _, _ :: _, _, _, h, _ => by simp at h; subst h; exact .here
  | i + 1, a :: ns, b :: vs, x, p, h, hl => by
    simp at h hl
    rw [List.set_cons_succ]
    exact .there (Upd.of_set h hl)
  | _, [], _, _, _, h, _ => by simp at h
  | _, _ :: _, [], _, _, _, hl => by simp at hl
theorem Upd.comm {ns : Names} {vs v1 v2 : Vals} {x y : Str} {p q : PV} (hxy : x ≠ y) (h1 : Upd ns vs x p v1) (h2 : Upd ns v1 y q v2) : ∃ w, Upd ns vs y q w ∧ Upd ns w x p v2 := by
  obtain ⟨i, a1, a2, rfl⟩ := h1.set
  obtain ⟨j, b1, b2, rfl⟩ := h2.set
  have hij : i ≠ j := fun e => by subst e; rw [a1] at b1; injection b1 with b1; injection b1 with b1; exact hxy b1
  refine ⟨vs.set j (some q), Upd.of_set b1 (by simpa using b2), ?_⟩
  rw [List.set_comm _ _ hij]
  exact Upd.of_set a1 (by simpa using a2)
theorem Holds.update {fa : Nat → Addr} {μ : Option Addr} {h : Heap} {m : Str → Option Value} {v : Value} {ns : Names} {vs vs' : Vals} {x : Str} {p : PV} (hU : Upd ns vs x p vs') (hn : (ns.map (·.1)).Nodup) (r : Rep fa μ h p v) :
    Holds fa μ h m ns vs → Holds fa μ h (fun y => if y = x then some v else m y) ns vs' := by
  have skip : ∀ {ns : Names} {vs : Vals}, x ∉ ns.map (·.1) → Holds fa μ h m ns vs → Holds fa μ h (fun y => if y = x then some v else m y) ns vs := by
    intro ns
    induction ns with
    | nil => intro vs _ hv; cases vs with | nil => trivial | cons => cases hv
    | cons a ns ih =>
      intro vs hx hv
      obtain ⟨a1, a2⟩ := a
      simp only [List.map_cons, List.mem_cons, not_or] at hx
      cases vs with
      | nil => cases hv
      | cons b vs =>
        cases b with
        | none => exact ih hx.2 hv
        | some q =>
          obtain ⟨⟨w, e, hr⟩, hv⟩ := hv
          exact ⟨⟨w, by simp only [if_neg (Ne.symm hx.1)]; exact e, hr⟩, ih hx.2 hv⟩
  induction hU with
  | @here x p o ns vs =>
    intro hv
    simp only [List.map_cons, List.nodup_cons] at hn
    cases o with
    | none => exact ⟨⟨v, by simp, r⟩, skip hn.1 hv⟩
    | some q => exact ⟨⟨v, by simp, r⟩, skip hn.1 hv.2⟩
  | @there x p a b ns vs vs' hU ih =>
    intro hv
    obtain ⟨a1, a2⟩ := a
    simp only [List.map_cons, List.nodup_cons] at hn
    have hne : a1 ≠ x := fun e => hn.1 (by rw [e]; exact List.mem_map_of_mem (f := (·.1)) hU.mem)
    cases b with
    | none => exact ih hn.2 r skip hv
    | some q =>
      obtain ⟨⟨w, e, hr⟩, hv⟩ := hv
      exact ⟨⟨w, by simp only [if_neg hne]; exact e, hr⟩, ih hn.2 r skip hv⟩
section
variable {P : Prog} {S : Static P} {n k : Nat} {ns : Names} {vs vs' : Vals} {σ σ' : List PV} {μ : Option Addr} {L : Addr} {s s' : Shared}
variable {N B : Vals → List PV → Prop} {T : PV → List PV → Prop}
theorem FS.store {A : Around} {x : Str} {p : PV} {v : Value} {Q : Unit → Shared → Prop} {E : Value → Shared → Prop} (F : FS S μ L k ns vs σ s) (hU : Upd ns vs x p vs') (r : Rep S.fa μ s.heap p v)
    (hQ : ∀ s', FS S μ L k ns vs' σ s' → Ext (some L) μ s s' → Q () s') : wpAny (model S.prog S.w) A (storeName (envK S k L) x v) Q E s := by
  obtain ⟨m, fr, hv⟩ := F.fr
  refine wpAny_storeName_local (F.ok.kindOf (S := S) (L := L) hU.mem) fr.ns (fun h' hn hs => ?_) ?_
  · have hk : KeepsBut (some L) μ s.heap h' := fun b o hb _ e => (hs.2 b (fun q => hb (congrArg some q))).trans e
    have hLn : isSeqAt s.heap (some L) := F.notSeq
    refine hQ _ ⟨F.ok, ⟨_, fr.set hn hs, (hv.keeps hLn hk).update hU F.ok.nodup (Rep.keeps hLn hk r)⟩, F.mu.keeps hLn hk (fun a e o ho => (hs.2 a (fun q => F.ne (e.trans (congrArg some q)))).trans ho), F.ne⟩ ⟨hk, rfl⟩
  · show ((FT k).scope.kind == .class || ((FT k).scope.kind == .module && L != mainGlobals)) = false
    rw [F.ok.kind]
    rfl
/-! forgetting a local -/
inductive Weak : Vals → Vals → Prop
  | nil : Weak [] []
  | keep {o : Option PV} {a b : Vals} : Weak a b → Weak (o :: a) (o :: b)
  | drop {o : Option PV} {a b : Vals} : Weak a b → Weak (o :: a) (none :: b)
theorem Holds.weak {fa : Nat → Addr} {h : Heap} {m : Str → Option Value} {a b : Vals} (w : Weak a b) : ∀ {ns : Names}, Holds fa μ h m ns a → Holds fa μ h m ns b := by
  induction w with
  | nil => exact id
  | @keep o a b _ ih =>
    intro ns r
    cases ns with
    | nil => cases o <;> exact r
    | cons x ns => cases o with
      | none => exact ih r
      | some p => exact ⟨r.1, ih r.2⟩
  | @drop o a b _ ih =>
    intro ns r
    cases ns with
    | nil => cases o <;> exact r
    | cons x ns => cases o with
      | none => exact ih r
      | some p => exact ih r.2
theorem FS.weak (w : Weak vs vs') (F : FS S μ L k ns vs σ s) : FS S μ L k ns vs' σ s := let ⟨m, fr, hv⟩ := F.fr; ⟨F.ok, ⟨m, fr, hv.weak w⟩, F.mu, F.ne⟩
theorem xs_weak {st : List Stmt} (w : Weak vs vs') (h : XS S n k ns vs' σ st N T B) : XS S n k ns vs σ st N T B := fun μ L s F => h μ L s (F.weak w)
/-! suites -/
theorem xs_nil (h : N vs σ) : XS S n k ns vs σ [] N T B := fun μ L s F A Q E rm hQ => wpAny_execs_nil (hQ s .next ⟨vs, σ, h, F⟩ .refl)
theorem xs_cons {st : Stmt} {rest : List Stmt} (h : XT S n k ns vs σ st (fun v q => XS S n k ns v q rest N T B) T B) : XS S n k ns vs σ (st :: rest) N T B := by
  intro μ L s F A Q E rm hQ
  refine wpAny_execs_cons (h μ L s F A _ E rm fun s1 f hf X1 => ?_)
  cases f with
  | next =>
    obtain ⟨v, q, h1, F1⟩ := hf
    exact h1 μ L s1 F1 A Q E rm fun s2 f h2 X2 => hQ s2 f h2 (X1.trans X2)
  | brk => exact hQ s1 _ hf X1
  | cont => exact hQ s1 _ hf X1
  | ret v => exact hQ s1 _ hf X1
theorem xt_return {e : PySem.Expr} {pos : Pos} (h : EV S n k ns vs σ e (fun p _ q => T p q)) : XT S n k ns vs σ (.Return (some e) pos) N T B :=
  fun μ L s F A Q E rm hQ => wpAny_Return_some (h μ L s F A _ E rm fun s1 v p vs1 σ1 h1 F1 X1 r => hQ s1 _ ⟨p, σ1, h1, ⟨vs1, F1⟩, r⟩ X1)
theorem xt_break {pos : Pos} (h : B vs σ) : XT S n k ns vs σ (.Break pos) N T B := fun μ L s F A Q E rm hQ => wpAny_Break (hQ s _ ⟨vs, σ, h, F⟩ .refl)
theorem xt_assert {t : PySem.Expr} {msg : Option PySem.Expr} {pos : Pos} (h : TV S n k ns vs σ t (fun c v q => c = true ∧ N v q)) : XT S n k ns vs σ (.Assert t msg pos) N T B :=
  fun μ L s F A Q E rm hQ => wpAny_Assert_holds (h μ L s F A _ E rm fun s1 c vs1 σ1 h1 F1 X1 => ⟨h1.1, hQ s1 _ ⟨vs1, σ1, h1.2, F1⟩ X1⟩)
theorem xt_if {t : PySem.Expr} {body orelse : List Stmt} {pos : Pos} (h : TV S n k ns vs σ t (fun c v q => (c = true → XS S n k ns v q body N T B) ∧ (c = false → XS S n k ns v q orelse N T B))) :
    XT S n k ns vs σ (.If t body orelse pos) N T B := by
  intro μ L s F A Q E rm hQ
  refine wpAny_If (h μ L s F A _ E rm fun s1 c vs1 σ1 h1 F1 X1 => ?_)
  cases c with
  | true => exact h1.1 rfl μ L s1 F1 A Q E rm fun s2 f h2 X2 => hQ s2 f h2 (X1.trans X2)
  | false => exact h1.2 rfl μ L s1 F1 A Q E rm fun s2 f h2 X2 => hQ s2 f h2 (X1.trans X2)
def plainValue : PySem.Expr → Bool
  | .ListComp .. => false
  | .SetComp .. => false
  | .DictComp .. => false
  | _ => true
theorem swaps_plain {v : PySem.Expr} {t : Option PySem.Expr} {l : Nat} {env : Env} (h : plainValue v = true) : swapsWith v t l env = pure false := by
  cases v <;> first | rfl | cases h
theorem xt_assign {x : Str} {xp pos : Pos} {e : PySem.Expr} (h : EV S n k ns vs σ e (fun p v q => UP ns v x p (fun v' => N v' q))) (hp : plainValue e = true := by with_unfolding_all rfl) : XT S n k ns vs σ (.Assign [.Name x xp] e pos) N T B := by
  intro μ L s F A Q E rm hQ
  refine wpAny_Assign_Name (h μ L s F A _ E rm fun s1 v p vs1 σ1 h1 F1 X1 r => ?_) (swaps_plain hp)
  obtain ⟨v', hU, hN⟩ := h1
  exact F1.store hU r fun s2 F2 X2 => hQ s2 _ ⟨v', σ1, hN, F2⟩ (X1.trans X2)
theorem xt_aug {x : Str} {xp pos : Pos} {op : Operator} {e : PySem.Expr}
    (h : LK ns vs x (fun old => EV S n k ns vs σ e (fun p v q => AugTo S n op old p (fun z => UP ns v x z (fun v' => N v' q))))) : XT S n k ns vs σ (.AugAssign (.Name x xp) op e pos) N T B := by
  intro μ L s F A Q E rm hQ
  obtain ⟨old, hs, h⟩ := h
  obtain ⟨m, fr, hv⟩ := F.fr
  obtain ⟨ov, he, hr⟩ := hs.get hv
  refine wpAny_AugAssign_Name (wpAny_loadName_local F.ok.kind (F.ok.kindOf (S := S) (L := L) hs.mem) fr.ns he ?_)
  refine h μ L s F A _ E rm fun s1 v p vs1 σ1 h1 F1 X1 r => ?_
  refine h1 k ns vs1 σ1 μ L s1 ov v F1 (F.up X1 hr) r A _ E rm fun s2 w z hz F2 X2 rw => ?_
  obtain ⟨v', hU, hN⟩ := hz
  exact F2.store hU rw fun s3 F3 X3 => hQ s3 _ ⟨v', σ1, hN, F3⟩ (X1.trans (X2.trans X3))
theorem xt_while {t : PySem.Expr} {body : List Stmt} {pos : Pos} (Inv : Nat → Vals → List PV → Prop) (m₀ : Nat) (h0 : Inv m₀ vs σ)
    (step : ∀ m vs σ, Inv m vs σ → TV S n k ns vs σ t (fun c v q => (c = true → XS S n k ns v q body (fun v q => ∃ m', m' < m ∧ Inv m' v q) T N) ∧ (c = false → N v q))) :
    XT S n k ns vs σ (.While t body [] pos) N T B := by
  intro μ L s F A Q E rm hQ
  refine wpAny_While ?_
  refine codeAny_whileLoop (fun m s' => ∃ v q, Inv m v q ∧ FS S μ L k ns v q s' ∧ Ext (some L) μ s s') ?_ m₀ ⟨vs, σ, h0, F, .refl⟩
  rintro m s1 ⟨v, q, hI, F1, X1⟩
  refine step m v q hI μ L s1 F1 A _ _ rm fun s2 c v2 q2 h2 F2 X2 => ?_
  cases c with
  | false =>
    simp only [Bool.false_eq_true, if_false]
    exact wpAny_execs_nil (hQ s2 _ ⟨v2, q2, h2.2 rfl, F2⟩ (X1.trans X2))
  | true =>
    simp only [if_true]
    refine h2.1 rfl μ L s2 F2 A _ _ rm fun s3 f h3 X3 => ?_
    cases f with
    | next =>
      obtain ⟨v3, q3, ⟨m', hm, hI'⟩, F3⟩ := h3
      exact ⟨m', hm, v3, q3, hI', F3, X1.trans (X2.trans X3)⟩
    | cont => exact h3.elim
    | brk => exact hQ s3 _ h3 (X1.trans (X2.trans X3))
    | ret v => exact hQ s3 _ h3 (X1.trans (X2.trans X3))
/-! for -/
/-- an iterator at I: its place told by It, its items by 'items' -/
structure Walker (S : Static P) (μ : Option Addr) (I : Addr) (It : Heap → Nat → Prop) (items : Nat → Option PV) : Prop where
  obj : ∀ h i, It h i → ∃ o, h.get? I = some o ∧ ¬ IsRepObj o
  keep : ∀ h h' i, It h i → (∀ o, h.get? I = some o → h'.get? I = some o) → It h' i
  next : ∀ s i p, It s.heap i → items i = some p → ∀ (A : Around) (Q : Option Value → Shared → Prop) (E : Value → Shared → Prop), A.handled = none →
    (∀ h' v tk, It h' (i + 1) → Heap.SameBut I s.heap h' → Rep S.fa μ h' p v → Q (some v) { s with heap := h', toks := tk }) → wpAny (model S.prog S.w) A (pyNext (.ref I)) Q E s
  stop : ∀ s i, It s.heap i → items i = none → ∀ (A : Around) (Q : Option Value → Shared → Prop) (E : Value → Shared → Prop), A.handled = none →
    (∀ h', Heap.ExtBut I s.heap h' → Q none { s with heap := h' }) → wpAny (model S.prog S.w) A (pyNext (.ref I)) Q E s
def IterTo (S : Static P) (x : PV) (items : Nat → Option PV) : Prop :=
  ∀ μ s v, (∀ a, μ = some a → a ≠ s.heap.objs.size) → Rep S.fa μ s.heap x v → ∀ (A : Around) (Q E : Value → Shared → Prop),
    (∀ o It, o.isFreed = false → It (s.heap.push o) 0 → Walker S μ s.heap.objs.size It items → Q (.ref s.heap.objs.size) { s with heap := s.heap.push o }) → wpAny (model S.prog S.w) A (pyIter v) Q E s
theorem iter_range {a b : Int} (ha : -(2 ^ 62) ≤ a) (ha' : a < 2 ^ 62) (hb : -(2 ^ 62) ≤ b) (hb' : b < 2 ^ 62) : IterTo S (.range a b) (fun i => if a + i < b then some (.int (a + i)) else none) := by
  intro μ s v hm r A Q E hQ
  obtain ⟨rr, t, u, w, rfl, _, hr⟩ := r
  refine wpAny_pyIter_range hr (small_one ha ha' hb hb') ?_
  rw [rangeSize_one]
  refine hQ _ (fun h i => IsRangeIter h s.heap.objs.size (a + i) ((if a < b then b - a else 0) - i) 1) rfl ?_ ?_
  · have := Heap.get?_push_size s.heap (o := { cls := .type "range_iterator", data := .fields #[rawInt a, rawInt (if a < b then b - a else 0), rawInt 1] }) rfl
    simpa using this
  · refine ⟨fun h i e => ⟨_, e, fun x => by rcases x with ⟨_, _, q⟩ | ⟨_, _, q⟩ | ⟨_, _, _, q⟩ | ⟨_, _, _, _, _, _, q⟩ <;> simpa using congrArg Obj.cls q⟩, fun h h' i e hk => hk _ e, ?_, ?_⟩
    · intro s i p hit hi A Q E hh hQ
      by_cases hlt : a + (i : Int) < b
      · rw [if_pos hlt] at hi
        cases hi
        refine wpAny_pyNext_range_item hit (by split <;> omega) fun h' e hs => hQ h' _ _ ?_ hs ⟨_, rfl⟩
        have e1 : a + (i : Int) + 1 = a + ((i + 1 : Nat) : Int) := by omega
        have e2 : (if a < b then b - a else 0) - (i : Int) - 1 = (if a < b then b - a else 0) - ((i + 1 : Nat) : Int) := by omega
        rw [e1, e2] at e
        exact e
      · rw [if_neg hlt] at hi; cases hi
    · intro s i hit hi A Q E hh hQ
      by_cases hlt : a + (i : Int) < b
      · rw [if_pos hlt] at hi; cases hi
      · exact wpAny_pyNext_range_end hh hit (by split <;> omega) hQ
theorem iter_str {x : Str} : IterTo S (.str x) (fun i => (x.cps[i]?).map fun c => .str ⟨#[c]⟩) := by
  intro μ s v hm r A Q E hQ
  obtain ⟨t, rfl⟩ := r
  cases ha : x.cps.all (· < 128) with
  | true =>
    refine wpAny_pyIter_ascii ha (hQ _ (fun h i => h.IsStrIter s.heap.objs.size "str_ascii_iterator" x t i) rfl ⟨_, Heap.get?_push_size _ rfl, rfl, rfl⟩ ?_)
    refine ⟨fun h i ⟨o, h1, h2, h3⟩ => ⟨o, h1, fun x => by rcases x with ⟨_, _, rfl⟩ | ⟨_, _, rfl⟩ | ⟨_, _, _, rfl⟩ | ⟨_, _, _, _, _, _, rfl⟩ <;> simp at h2⟩, fun h h' i ⟨o, h1, h2⟩ hk => ⟨o, hk _ h1, h2⟩, ?_, ?_⟩
    · intro s2 i p hit hi A Q E hh hQ
      cases hc : x.cps[i]? with
      | none => simp only [hc] at hi; cases hi
      | some c =>
        simp only [hc] at hi
        cases hi
        exact wpAny_pyNext_ascii_item hit hc fun h' e hs => hQ h' _ _ e hs ⟨_, rfl⟩
    · intro s2 i hit hi A Q E hh hQ
      exact wpAny_pyNext_ascii_end hh hit (by cases hc : x.cps[i]? with | none => rfl | some c => simp only [hc] at hi; cases hi) hQ
  | false =>
    refine wpAny_pyIter_wide ha (hQ _ (fun h i => h.IsStrIter s.heap.objs.size "str_iterator" x t i) rfl ⟨_, Heap.get?_push_size _ rfl, rfl, rfl⟩ ?_)
    refine ⟨fun h i ⟨o, h1, h2, h3⟩ => ⟨o, h1, fun x => by rcases x with ⟨_, _, rfl⟩ | ⟨_, _, rfl⟩ | ⟨_, _, _, rfl⟩ | ⟨_, _, _, _, _, _, rfl⟩ <;> simp at h2⟩, fun h h' i ⟨o, h1, h2⟩ hk => ⟨o, hk _ h1, h2⟩, ?_, ?_⟩
    · intro s2 i p hit hi A Q E hh hQ
      cases hc : x.cps[i]? with
      | none => simp only [hc] at hi; cases hi
      | some c =>
        simp only [hc] at hi
        cases hi
        exact wpAny_pyNext_wide_item hit hc fun h' e hs => hQ h' _ _ e hs ⟨_, rfl⟩
    · intro s2 i hit hi A Q E hh hQ
      exact wpAny_pyNext_wide_end hh hit (by cases hc : x.cps[i]? with | none => rfl | some c => simp only [hc] at hi; cases hi) hQ
theorem xt_for {x : Str} {xp pos : Pos} {iter : PySem.Expr} {body : List Stmt} {items : Nat → Option PV} {len : Nat} (Inv : Nat → Vals → List PV → Prop)
    (h : EV S n k ns vs σ iter (fun p v q => IterTo S p items ∧ Inv 0 v q))
    (hlen : ∀ i, items i = none ↔ len ≤ i)
    (step : ∀ i p v q, items i = some p → Inv i v q → UP ns v x p (fun v' => XS S n k ns v' q body (fun v q => Inv (i + 1) v q) T N))
    (fin : ∀ v q, Inv len v q → N v q) (hs : ∀ env y, foldedSetIterable iter env y = pure y := by intros; with_unfolding_all rfl) : XT S n k ns vs σ (.For (.Name x xp) iter body [] pos) N T B := by
  intro μ L s F A Q E rm hQ
  refine wpAny_For (h μ L s F A _ E rm fun s1 v p vs1 σ1 h1 F1 X1 r => ?_) (hs _)
  obtain ⟨hit, hI⟩ := h1
  have hLlt : L < s1.heap.objs.size := by
    obtain ⟨m, fr, _⟩ := F1.fr
    obtain ⟨o, _, _, ho, _⟩ := fr.ns
    exact Heap.lt_size ho
  have hμlt : ∀ a, μ = some a → a < s1.heap.objs.size := fun a e => by
    obtain ⟨_, _, ⟨_, hg, _⟩, _⟩ := F1.mu a e
    exact Heap.lt_size hg
  refine hit μ s1 v (fun a e => Nat.ne_of_lt (hμlt a e)) r A _ E fun o It hfree h0 W => ?_
  have hk0 : ∀ b o', s1.heap.get? b = some o' → (s1.heap.push o).get? b = some o' := fun _ _ e => Heap.get?_push_of_some _ e
  -- what stands at every turn
  refine codeAny_forLoop (fun m s' => ∃ i v q, i ≤ len ∧ m = len - i ∧ It s'.heap i ∧ Inv i v q ∧ FS S μ L k ns v q s' ∧ Ext (some L) μ s s') ?_ len
    ⟨0, vs1, σ1, Nat.zero_le _, rfl, h0, hI, F1.grow hk0, X1.trans ⟨.of_keep hk0, rfl⟩⟩
  rintro m s2 ⟨i, v2, q2, hi, rfl, hit2, hI2, F2, X2⟩
  have hIL : s1.heap.objs.size ≠ L := Nat.ne_of_gt hLlt
  have hIμ : some s1.heap.objs.size ≠ μ := fun e => Nat.lt_irrefl _ (hμlt _ e.symm)
  have hextI : ∀ h', Heap.ExtBut s1.heap.objs.size s2.heap h' → FS S μ L k ns v2 q2 { s2 with heap := h' } ∧ Ext (some L) μ s { s2 with heap := h' } := by
    intro h' he
    obtain ⟨m, fr, hv⟩ := F2.fr
    obtain ⟨oI, hoI, hnI⟩ := W.obj _ _ hit2
    have hkR : KeepR μ s2.heap h' := fun b o hm ho e => he b o (fun q => by subst q; rw [hoI] at e; cases e; exact hnI ho) e
    have hgI : S.g.get? s1.heap.objs.size = none := by
      cases hq : S.g.get? s1.heap.objs.size with
      | none => rfl
      | some o => exact absurd (Nat.lt_of_lt_of_le (Heap.lt_size hq) (Nat.le_trans fr.above (Nat.le_of_lt hLlt))) (Nat.lt_irrefl _)
    refine ⟨⟨F2.ok, ⟨m, ⟨?_, fun b o e => he b o (fun q => by subst q; rw [hgI] at e; cases e) (fr.keep b o e), fr.above⟩, hv.keepsR hkR⟩, F2.mu.keepsR hkR (fun a e o ho => he a o (fun q => hIμ (by rw [e, q])) ho), F2.ne⟩, ⟨fun b o hb hm e => ?_, ?_⟩⟩
    · obtain ⟨oL, es, ep, hL, r⟩ := fr.ns
      exact ⟨oL, es, ep, he L oL (Ne.symm hIL) hL, r⟩
    · have hlt1 : b < s1.heap.objs.size := Heap.lt_size (X1.keep b o hb hm e)
      exact he b o (Nat.ne_of_lt hlt1) (X2.keep b o hb hm e)
    · have := X2.rest; rw [this]
  cases hc : items i with
  | none =>
    have hl : i = len := Nat.le_antisymm hi ((hlen i).mp hc)
    subst hl
    refine W.stop s2 i hit2 hc A _ _ rm.handled fun h' he => wpAny_execs_nil ?_
    obtain ⟨F3, X3⟩ := hextI h' he
    exact hQ _ _ ⟨v2, q2, fin _ _ hI2, F3⟩ X3
  | some p2 =>
    have hilt : i < len := Nat.lt_of_not_le fun hle => by rw [(hlen i).mpr hle] at hc; cases hc
    refine W.next s2 i p2 hit2 hc A _ _ rm.handled fun h' v3 tk hit3 hs3 hr3 => ?_
    obtain ⟨F3, X3⟩ := hextI h' hs3.extBut
    obtain ⟨v4, hU, hX⟩ := step i p2 v2 q2 hc hI2
    refine wpAny_assign_Name ((F3.toks (n := tk)).store hU hr3 fun s5 F5 X5 => ?_)
    have hI5 : It s5.heap (i + 1) := W.keep _ _ _ hit3 fun o e => X5.keep _ _ (fun q => hIL (Option.some.inj q)) hIμ e
    refine hX μ L s5 F5 A _ _ rm fun s6 f h6 X6 => ?_
    have X06 : Ext (some L) μ s s6 := (X3.trans (⟨.refl, rfl⟩ : Ext (some L) μ { s2 with heap := h' } { s2 with heap := h', toks := tk })).trans (X5.trans X6)
    cases f with
    | next =>
      obtain ⟨v6, q6, hI6, F6⟩ := h6
      exact ⟨len - (i + 1), by omega, i + 1, v6, q6, hilt, rfl, W.keep _ _ _ hI5 fun o e => X6.keep _ _ (fun q => hIL (Option.some.inj q)) hIμ e, hI6, F6, X06⟩
    | cont => exact h6.elim
    | brk => exact hQ s6 _ h6 X06
    | ret v => exact hQ s6 _ h6 X06
end
end Mine
end
section
open PySem PySem.W PySem.Calls PyProof.Rows
namespace Mine
theorem eraseDups_le {l : List Str} : l.eraseDups.length ≤ l.length := by
  have : ∀ n (l : List Str), l.length ≤ n → l.eraseDups.length ≤ l.length := by
    intro n
    induction n with
    | zero => intro l h; cases l with | nil => simp | cons => simp at h
    | succ n ih =>
      intro l h
      cases l with
      | nil => simp
      | cons a l =>
        rw [List.eraseDups_cons]
        simp only [List.length_cons] at h ⊢
        have h1 := List.length_filter_le (fun b => !b == a) l
        have h2 := ih (l.filter fun b => !b == a) (by omega)
        omega
  exact this _ l (Nat.le_refl _)
theorem nodup_of_eraseDups : ∀ {l : List Str}, l.eraseDups.length = l.length → l.Nodup
  | [], _ => List.nodup_nil
  | a :: l, h => by
    rw [List.eraseDups_cons] at h
    simp only [List.length_cons] at h
    have h1 := List.length_filter_le (fun b => !b == a) l
    have h2 := eraseDups_le (l := l.filter fun b => !b == a)
    have h3 : (l.filter fun b => !b == a).length = l.length := by omega
    have h4 : l.filter (fun b => !b == a) = l := by
      have := List.filter_sublist (p := fun b => !b == a) (l := l)
      exact this.eq_of_length h3
    rw [h4] at h
    refine List.nodup_cons.mpr ⟨fun hm => ?_, nodup_of_eraseDups (by omega)⟩
    have := (List.filter_eq_self.mp h4) a hm
    simp at this
inductive UpdL (ns : Names) : List Str → List PV → Vals → Vals → Prop
  | nil {vs : Vals} : UpdL ns [] [] vs vs
  | cons {x : Str} {xs : List Str} {p : PV} {ps : List PV} {vs v1 v2 : Vals} : Upd ns vs x p v1 → UpdL ns xs ps v1 v2 → UpdL ns (x :: xs) (p :: ps) vs v2
inductive UpdT (ns : Names) : List PySem.Expr → List PV → Vals → Vals → Prop
  | nil {vs : Vals} : UpdT ns [] [] vs vs
  | cons {x : Str} {pos : Pos} {es : List PySem.Expr} {p : PV} {ps : List PV} {vs v1 v2 : Vals} : Upd ns vs x p v1 → UpdT ns es ps v1 v2 → UpdT ns (.Name x pos :: es) (p :: ps) vs v2
/-- the names of a target are set -/
def UPT (ns : Names) (es : List PySem.Expr) (ps : List PV) (vs : Vals) (C : Vals → Prop) : Prop := ∃ v', UpdT ns es ps vs v' ∧ C v'
theorem upt_nil {ns : Names} {vs : Vals} {C : Vals → Prop} (h : C vs) : UPT ns [] [] vs C := ⟨_, .nil, h⟩
theorem upt_cons {ns : Names} {x : Str} {pos : Pos} {es : List PySem.Expr} {p : PV} {ps : List PV} {vs : Vals} {C : Vals → Prop} (h : UP ns vs x p (fun v => UPT ns es ps v C)) : UPT ns (.Name x pos :: es) (p :: ps) vs C :=
  let ⟨_, h1, _, h2, h3⟩ := h; ⟨_, .cons h1 h2, h3⟩
def UNP (ns : Names) (es : List PySem.Expr) (p : PV) (vs : Vals) (C : Vals → Prop) : Prop := ∃ ps, p = .tup ps ∧ UPT ns es ps vs C
theorem unp_i {ns : Names} {es : List PySem.Expr} {ps : List PV} {vs : Vals} {C : Vals → Prop} (h : UPT ns es ps vs C) : UNP ns es (.tup ps) vs C := ⟨_, rfl, h⟩
theorem updt_i {ns : Names} {es : List PySem.Expr} {ps : List PV} {v v' : Vals} {C : Vals → Prop} (h : UpdT ns es ps v v') (h2 : C v') : ∃ qs, PV.tup ps = .tup qs ∧ ∃ v', UpdT ns es qs v v' ∧ C v' := ⟨ps, rfl, v', h, h2⟩
theorem UpdL.snoc {ns : Names} {xs : List Str} {ps : List PV} {vs v1 v2 : Vals} {x : Str} {p : PV} (h : UpdL ns xs ps vs v1) (u : Upd ns v1 x p v2) : UpdL ns (xs ++ [x]) (ps ++ [p]) vs v2 := by
  induction h with
  | nil => exact .cons u .nil
  | cons a _ ih => exact .cons a (ih u)
theorem UpdL.push {ns : Names} {xs : List Str} {ps : List PV} {x : Str} {p : PV} {vs v1 v2 : Vals} (u : Upd ns vs x p v1) (h : UpdL ns xs ps v1 v2) (hx : x ∉ xs) : ∃ w, UpdL ns xs ps vs w ∧ Upd ns w x p v2 := by
  induction h generalizing vs with
  | nil => exact ⟨vs, .nil, u⟩
  | @cons y ys q qs a b c hy hr ih =>
    simp only [List.mem_cons, not_or] at hx
    obtain ⟨w, h1, h2⟩ := Upd.comm hx.1 u hy
    obtain ⟨w', h3, h4⟩ := ih h2 hx.2
    exact ⟨w', .cons h1 h3, h4⟩
theorem UpdL.reverse {ns : Names} {xs : List Str} {ps : List PV} {vs v2 : Vals} (h : UpdL ns xs ps vs v2) (hn : xs.Nodup) : UpdL ns xs.reverse ps.reverse vs v2 := by
  induction xs generalizing ps vs v2 with
  | nil => cases h; exact .nil
  | cons x xs ih =>
    cases h with
    | cons u r =>
      rw [List.nodup_cons] at hn
      obtain ⟨w, h1, h2⟩ := UpdL.push u r hn.1
      rw [List.reverse_cons, List.reverse_cons]
      exact (ih h1 hn.2).snoc h2
def tgt : List PySem.Expr → List Str
  | .Name x _ :: r => x :: tgt r
  | _ :: r => tgt r
  | [] => []
theorem UpdT.toL {ns : Names} {es : List PySem.Expr} {ps : List PV} {vs v2 : Vals} (h : UpdT ns es ps vs v2) : UpdL ns (tgt es) ps vs v2 := by
  induction h with
  | nil => exact .nil
  | cons u _ ih => exact .cons u ih
theorem UpdT.names {ns : Names} {es : List PySem.Expr} {ps : List PV} {vs v2 : Vals} (h : UpdT ns es ps vs v2) (c : Str → Pos → Bool) :
    (es.filterMap fun | .Name id pos => if c id pos then some id else none | _ => none).length ≤ es.length ∧
    ((es.filterMap fun | .Name id pos => if c id pos then some id else none | _ => none).length = es.length → (es.filterMap fun | .Name id pos => if c id pos then some id else none | _ => none) = tgt es) := by
  induction h with
  | nil => exact ⟨Nat.le_refl _, fun _ => rfl⟩
  | @cons x pos es p ps vs v1 v2 u r ih =>
    rw [List.filterMap_cons]
    simp only
    cases hc : c x pos with
    | true =>
      simp only [if_true, List.length_cons]
      exact ⟨by have := ih.1; omega, fun h => by simp only [tgt]; rw [ih.2 (by omega)]⟩
    | false =>
      simp only [Bool.false_eq_true, if_false, List.length_cons]
      exact ⟨by have := ih.1; omega, fun h => by have := ih.1; omega⟩
theorem UpdT.plain {ns : Names} {es : List PySem.Expr} {ps : List PV} {vs v2 : Vals} {env : Env} (h : UpdT ns es ps vs v2) : assignEach es env = (tgt es).map (fun x => (false, fun v => assign (.Name x ⟨0, 0, 0, 0⟩) env v)) ∨ True := .inr trivial
theorem UpdT.length {ns : Names} {es : List PySem.Expr} {ps : List PV} {vs v2 : Vals} (h : UpdT ns es ps vs v2) : es.length = ps.length := by
  induction h with
  | nil => rfl
  | cons _ _ ih => simp [ih]
theorem UpdT.each {ns : Names} {es : List PySem.Expr} {ps : List PV} {vs v2 : Vals} {env : Env} (h : UpdT ns es ps vs v2) : (assignEach es env).length = ps.length ∧ (assignEach es env).findIdx? (·.1) = none := by
  induction h with
  | nil => exact ⟨rfl, rfl⟩
  | @cons x pos es p ps vs v1 v2 u r ih =>
    have e : assignEach (.Name x pos :: es) env = (false, assign (.Name x pos) env) :: assignEach es env := rfl
    rw [e]
    exact ⟨by simp [ih.1], by rw [List.findIdx?_cons]; simp [ih.2]⟩
def constOk : PySem.Expr → Bool
  | .Tuple vs _ _ => !(vs.all (constantsAlone 8))
  | _ => true
section
variable {P : Prog} {S : Static P} {n k : Nat} {ns : Names} {vs vs' : Vals} {σ σ' : List PV} {μ : Option Addr} {L : Addr} {s s' : Shared}
variable {N B : Vals → List PV → Prop} {T : PV → List PV → Prop}
theorem FS.storesT {A : Around} {E : Value → Shared → Prop} {es : List PySem.Expr} {ps : List PV} {v2 : Vals} (hU : UpdT ns es ps vs v2) : ∀ {xs : List Value} {s : Shared} {Q : Unit → Shared → Prop}, FS S μ L k ns vs σ s → RepL S.fa μ s.heap ps xs →
    (∀ s', FS S μ L k ns v2 σ s' → Ext (some L) μ s s' → Q () s') → wpAny (model S.prog S.w) A (assignInOrder ((assignEach es (envK S k L)).map (·.2)) xs) Q E s := by
  induction hU with
  | nil => intro xs s Q F r hQ; exact wpAny_pure (hQ s F .refl)
  | @cons x pos es p ps vs v1 v2 u r ih =>
    intro xs s Q F hr hQ
    obtain ⟨v, xs, rfl, h1, h2⟩ := hr
    show wpAny _ A (assignInOrder (assign (.Name x pos) (envK S k L) :: (assignEach es (envK S k L)).map (·.2)) (v :: xs)) Q E s
    refine assignInOrder_cons (wpAny_assign_Name (F.store u h1 fun s1 F1 X1 => ?_))
    exact ih F1 (F.upL X1 h2) fun s2 F2 X2 => hQ s2 F2 (X1.trans X2)
theorem FS.storesL {A : Around} {E : Value → Shared → Prop} {ys : List Str} {ps : List PV} {v2 : Vals} (hU : UpdL ns ys ps vs v2) : ∀ {xs : List Value} {s : Shared} {Q : Unit → Shared → Prop}, FS S μ L k ns vs σ s → RepL S.fa μ s.heap ps xs →
    (∀ s', FS S μ L k ns v2 σ s' → Ext (some L) μ s s' → Q () s') → wpAny (model S.prog S.w) A (assignInOrder (ys.map fun n => bindName (envK S k L) n) xs) Q E s := by
  induction hU with
  | nil => intro xs s Q F r hQ; exact wpAny_pure (hQ s F .refl)
  | @cons x es p ps vs v1 v2 u r ih =>
    intro xs s Q F hr hQ
    obtain ⟨v, xs, rfl, h1, h2⟩ := hr
    rw [List.map_cons]
    refine assignInOrder_cons (wpAny_bindName (F.store u h1 fun s1 F1 X1 => ?_))
    exact ih F1 (F.upL X1 h2) fun s2 F2 X2 => hQ s2 F2 (X1.trans X2)
theorem RepL.reverse {fa : Nat → Addr} {h : Heap} : ∀ {ps : List PV} {xs : List Value}, RepL fa μ h ps xs → RepL fa μ h ps.reverse xs.reverse
  | [], _, r => by cases r; exact rfl
  | p :: ps, _, ⟨v, r, e, h1, h2⟩ => by
    rw [e, List.reverse_cons, List.reverse_cons]
    exact h2.reverse.append ⟨v, [], rfl, h1, rfl⟩
theorem swapped_cases {es : List PySem.Expr} {kk : Nat} {tp : Pos} {e : PySem.Expr} {env : Env} {ps : List PV} {v2 : Vals} (hU : UpdT ns es ps vs v2) (hc : constOk e = true) :
    swappedStores [.Tuple es kk tp] e env = pure none ∨ (swappedStores [.Tuple es kk tp] e env = pure (some (tgt es)) ∧ (tgt es).Nodup) := by
  cases e with
  | Tuple ws k2 p2 =>
    have hcc : ws.all (constantsAlone 8) = false := by simpa [constOk] using hc
    unfold swappedStores
    simp only
    split
    · left; rfl
    · split
      · left; rfl
      · have hn := hU.names (fun id pos => env.kindOf id == some .local && pos.line == (es.head?.map (·.pos.line)).getD 0)
        split
        · left; rfl
        · rename_i h3
          split
          · left; rfl
          · rw [hcc]
            simp only [Bool.or_eq_true, not_or, bne_iff_ne, ne_eq, Decidable.not_not] at h3
            right
            have e3 := hn.2 h3.1
            refine ⟨?_, ?_⟩
            · rw [← e3]; rfl
            · rw [← e3]; exact nodup_of_eraseDups h3.2
  | _ => left; rfl
theorem xt_unpack {es : List PySem.Expr} {kk : Nat} {tp pos : Pos} {e : PySem.Expr} (h : EV S n k ns vs σ e (fun p v q => UNP ns es p v (fun v' => N v' q)))
    (hp : plainValue e = true := by with_unfolding_all rfl) (hc : constOk e = true := by with_unfolding_all rfl) : XT S n k ns vs σ (.Assign [.Tuple es kk tp] e pos) N T B := by
  intro μ L s F A Q E rm hQ
  have e0 : exec (.Assign [.Tuple es kk tp] e pos) (envK S k L) = (do
      standAt pos
      if ← swapsWithSole [.Tuple es kk tp] e pos.line (envK S k L) then do
        evalThenUse e (envK S k L) fun v => assignAll v ((assignEach [.Tuple es kk tp] (envK S k L)).map (·.2))
        pure .next
      else do
        let v ← eval e (envK S k L)
        assignStores (envK S k L) v (← swappedStores [.Tuple es kk tp] e (envK S k L)) ((assignEach [.Tuple es kk tp] (envK S k L)).map (·.2))) := rfl
  rw [e0]
  refine wpAny_bind (wpAny_standAt ?_)
  have e1 : swapsWithSole [.Tuple es kk tp] e pos.line (envK S k L) = pure false := by unfold swapsWithSole; exact swaps_plain hp
  rw [e1]
  refine wpAny_bind (wpAny_pure ?_)
  simp only [Bool.false_eq_true, if_false]
  refine wpAny_bind (h μ L s F A _ E rm fun s1 v p vs1 σ1 h1 F1 X1 r => ?_)
  obtain ⟨ps, rfl, v', hU, hN⟩ := h1
  obtain ⟨a, xs, nn, rfl, hm, hg, hr⟩ := r
  have ht : IsTup s1.heap a xs.toArray := ⟨_, hg, rfl, nn, rfl⟩
  have hlen : xs.toArray.size = ps.length := by rw [List.size_toArray, hr.length]
  rcases swapped_cases (env := envK S k L) hU hc with e2 | ⟨e2, hnd⟩
  · rw [e2]
    refine wpAny_bind (wpAny_pure ?_)
    show wpAny _ A (do assignAll (.ref a) ((assignEach [.Tuple es kk tp] (envK S k L)).map (·.2)); pure .next) Q E s1
    refine wpAny_bind ?_
    show wpAny _ A (assign (.Tuple es kk tp) (envK S k L) (.ref a)) _ E s1
    refine assign_Tuple_tuple rm.handled ht (by rw [(hU.each (env := envK S k L)).1, hlen]) (hU.each (env := envK S k L)).2 fun h' he => ?_
    have hk : ∀ b o, s1.heap.get? b = some o → h'.get? b = some o := fun b o e => he b o (Nat.ne_of_lt (Heap.lt_size e)) e
    have X2 : Ext (some L) μ s1 { s1 with heap := h' } := ⟨.of_keep hk, rfl⟩
    refine (F1.grow hk : FS S μ L k ns vs1 σ1 { s1 with heap := h' }).storesT hU (F1.upL X2 hr) fun s3 F3 X3 => wpAny_pure (hQ s3 _ ⟨v', σ1, hN, F3⟩ (X1.trans (X2.trans X3)))
  · rw [e2]
    refine wpAny_bind (wpAny_pure ?_)
    show wpAny _ A (do
      rule "assign.swapped-stores"
      let items ← unpackItems (.ref a) (tgt es).length none
      assignInOrder ((tgt es).reverse.map fun n => bindName (envK S k L) n) items.reverse
      pure .next) Q E s1
    have hl : (tgt es).length = xs.toArray.size := by
      rw [hlen]
      have : ∀ {ys : List Str} {ps : List PV} {a b : Vals}, UpdL ns ys ps a b → ys.length = ps.length := fun h => by
        induction h with
        | nil => rfl
        | cons _ _ ih => simp [ih]
      exact this hU.toL
    refine wpAny_bind (wpAny_rule (wpAny_bind ?_))
    rw [hl]
    refine unpackItems_tuple rm.handled ht fun h' he => ?_
    have hk : ∀ b o, s1.heap.get? b = some o → h'.get? b = some o := fun b o e => he b o (Nat.ne_of_lt (Heap.lt_size e)) e
    have X2 : Ext (some L) μ s1 { s1 with heap := h' } := ⟨.of_keep hk, rfl⟩
    refine wpAny_bind ((F1.grow hk : FS S μ L k ns vs1 σ1 { s1 with heap := h' }).storesL (hU.toL.reverse hnd) (RepL.reverse (F1.upL X2 hr)) fun s3 F3 X3 => wpAny_pure (hQ s3 _ ⟨v', σ1, hN, F3⟩ (X1.trans (X2.trans X3))))
end
end Mine
end
section
open PySem PySem.W PySem.Calls PyProof.Rows
namespace Mine
/-! sizes -/
@[irreducible] def BIG : Nat := 2 ^ 9000
def Fit (i : Int) : Prop := i.natAbs < BIG
theorem Fit.of_lt {i : Int} {m : Nat} (h : i.natAbs < 2 ^ m) (hm : m ≤ 9000) : Fit i := by
  unfold Fit BIG
  exact Nat.lt_of_lt_of_le h (Nat.pow_le_pow_right (by decide) hm)
theorem Fit.log2 {i : Int} (h : Fit i) : i.natAbs.log2 < 9000 := by
  unfold Fit BIG at h
  by_cases h0 : i.natAbs = 0
  · rw [h0]; decide
  · exact (Nat.log2_lt h0).mpr h
theorem Fit.bits {i : Int} (h : Fit i) : Builtin.Int.intBits i ≤ 9000 := by
  unfold Builtin.Int.intBits
  have := h.log2
  split <;> omega
theorem Fit.mono {i j : Int} (h : Fit j) (hle : i.natAbs ≤ j.natAbs) : Fit i := Nat.lt_of_le_of_lt hle h
theorem Fit.mulOk {a b : Int} (ha : Fit a) (hb : Fit b) : IntMulOk a b := by
  unfold IntMulOk
  have h1 := ha.bits
  have h2 := hb.bits
  simp only [Bool.and_eq_true, not_and]
  intro _ h
  unfold Builtin.Int.intTooBig at h
  simp [bitsLine] at h
  omega
section
variable {P : Prog} {S : Static P} {n k : Nat} {ns : Names} {vs vs' : Vals} {σ σ' : List PV} {μ : Option Addr} {L : Addr} {s s' : Shared}
/-! the library's facts told over Fr and News -/
def noHeap : Heap := {}
def allBut (L : Addr) (h : Heap) : List (Addr × Obj) := (List.range h.objs.size).filterMap fun b => if b = L then none else (h.get? b).map fun o => (b, o)
theorem mem_allBut {L : Addr} {h : Heap} {b : Addr} {o : Obj} (hb : b ≠ L) (e : h.get? b = some o) : (b, o) ∈ allBut L h :=
  List.mem_filterMap.mpr ⟨b, List.mem_range.mpr (Heap.lt_size e), by rw [if_neg hb, e]; rfl⟩
theorem of_allBut {L : Addr} {h : Heap} {p : Addr × Obj} (hp : p ∈ allBut L h) : h.get? p.1 = some p.2 ∧ p.1 ≠ L := by
  obtain ⟨b, hb, e⟩ := List.mem_filterMap.mp hp
  by_cases hL : b = L
  · rw [if_pos hL] at e; cases e
  · rw [if_neg hL] at e
    cases hg : h.get? b with
    | none => rw [hg] at e; cases e
    | some o => rw [hg] at e; cases e; exact ⟨hg, hL⟩
theorem FS.adapt (F : FS S μ L k ns vs σ s) : ∃ m news, Fr noHeap L s.heap m ∧ News noHeap L s.heap news ∧
    ∀ h', Fr noHeap L h' m → (∀ p ∈ news, h'.get? p.1 = some p.2) → ∀ tk, FS S μ L k ns vs σ { s with heap := h', toks := tk } ∧ Ext (some L) μ s { s with heap := h', toks := tk } := by
  obtain ⟨m, fr, hv⟩ := F.fr
  refine ⟨m, allBut L s.heap, ⟨fr.ns, fun b o e => ?_, Nat.zero_le _⟩, fun p hp => ⟨(of_allBut hp).1, (of_allBut hp).2, ?_⟩, fun h' F' N' tk => ?_⟩
  · simp [noHeap, Heap.get?] at e
  · simp [noHeap, Heap.get?]
  · have hk : ∀ b o, b ≠ L → s.heap.get? b = some o → h'.get? b = some o := fun b o hb e => N' (b, o) (mem_allBut hb e)
    have hkB : KeepsBut (some L) μ s.heap h' := fun b o hb _ e => hk b o (fun q => hb (by rw [q])) e
    have hL := F.notSeq
    refine ⟨⟨F.ok, ⟨m, ⟨F'.ns, fun b o e => hk b o (fun q => ?_) (fr.keep b o e), fr.above⟩, hv.keeps hL hkB⟩, F.mu.keeps hL hkB (fun a e o ho => hk a o (fun q => F.ne (by rw [e, q])) ho), F.ne⟩, ⟨hkB, rfl⟩⟩
    exact Nat.lt_irrefl _ (Nat.lt_of_lt_of_le (Heap.lt_size e) (q ▸ fr.above))
theorem FS.fresh (F : FS S μ L k ns vs σ s) : some s.heap.objs.size ≠ μ := fun e => by
  obtain ⟨_, vs', ⟨_, hg, _⟩, _⟩ := F.mu _ e.symm
  exact Nat.lt_irrefl _ (Heap.lt_size hg)
/-! whole numbers -/
variable {R : PV → Prop} {i j : Int}
theorem bin_add (h : R (.int (i + j))) : BinTo S n .Add (.int i) (.int j) R := fun k ns vs σ μ L s a b F ⟨_, ra⟩ ⟨_, rb⟩ A Q E rm hQ => by
  subst ra rb; with_reducible refine PySem.P.add_int ?_
  exact hQ _ _ _ h F.toks .toks ⟨_, rfl⟩
theorem bin_sub (h : R (.int (i - j))) : BinTo S n .Sub (.int i) (.int j) R := fun k ns vs σ μ L s a b F ⟨_, ra⟩ ⟨_, rb⟩ A Q E rm hQ => by
  subst ra rb; with_reducible refine PySem.P.sub_int ?_
  exact hQ _ _ _ h F.toks .toks ⟨_, rfl⟩
theorem bin_mul (hi : Fit i) (hj : Fit j) (h : R (.int (i * j))) : BinTo S n .Mult (.int i) (.int j) R := fun k ns vs σ μ L s a b F ⟨_, ra⟩ ⟨_, rb⟩ A Q E rm hQ => by
  subst ra rb; with_reducible refine PySem.P.mul_int ?_ (hi.mulOk hj)
  exact hQ _ _ _ h F.toks .toks ⟨_, rfl⟩
theorem bin_floordiv (h0 : j ≠ 0) (hj : Fit j) (h : R (.int (i.fdiv j))) : BinTo S n .FloorDiv (.int i) (.int j) R := fun k ns vs σ μ L s a b F ⟨_, ra⟩ ⟨_, rb⟩ A Q E rm hQ => by
  subst ra rb; with_reducible refine floordiv_int h0 ?_ (.inl (PyProof.noPylong_of_log2 hj.log2))
  exact hQ _ _ _ h F.toks .toks ⟨_, rfl⟩
theorem bin_mod (h0 : j ≠ 0) (h : R (.int (i.fmod j))) : BinTo S n .Mod (.int i) (.int j) R := fun k ns vs σ μ L s a b F ⟨_, ra⟩ ⟨_, rb⟩ A Q E rm hQ => by
  subst ra rb; with_reducible refine mod_int' h0 ?_
  exact hQ _ _ _ h F.toks .toks ⟨_, rfl⟩
theorem bin_lshift (hi : Fit i) (h0 : 0 ≤ j) (hj : j ≤ 1000000) (h : R (.int (i * 2 ^ j.toNat))) : BinTo S n .LShift (.int i) (.int j) R := fun k ns vs σ μ L s a b F ⟨_, ra⟩ ⟨_, rb⟩ A Q E rm hQ => by
  subst ra rb; with_reducible refine lshift_int h0 (by have := hi.bits; omega) ?_
  exact hQ _ _ _ h F.toks .toks ⟨_, rfl⟩
theorem bin_rshift (h0 : 0 ≤ j) (h : R (.int (i.fdiv (2 ^ j.toNat)))) : BinTo S n .RShift (.int i) (.int j) R := fun k ns vs σ μ L s a b F ⟨_, ra⟩ ⟨_, rb⟩ A Q E rm hQ => by
  subst ra rb; with_reducible refine rshift_int h0 ?_
  exact hQ _ _ _ h F.toks .toks ⟨_, rfl⟩
theorem bin_and (h : R (.int (Builtin.bitAnd i j))) : BinTo S n .BitAnd (.int i) (.int j) R := fun k ns vs σ μ L s a b F ⟨_, ra⟩ ⟨_, rb⟩ A Q E rm hQ => by
  subst ra rb; with_reducible refine and_int ?_
  exact hQ _ _ _ h F.toks .toks ⟨_, rfl⟩
theorem bin_xor (h : R (.int (Builtin.bitXor i j))) : BinTo S n .BitXor (.int i) (.int j) R := fun k ns vs σ μ L s a b F ⟨_, ra⟩ ⟨_, rb⟩ A Q E rm hQ => by
  subst ra rb; with_reducible refine xor_int ?_
  exact hQ _ _ _ h F.toks .toks ⟨_, rfl⟩
theorem bin_pow (h0 : 0 ≤ j) (hi : i.natAbs ≤ 16) (hj : j ≤ 1000000) (h : R (.int (i ^ j.toNat))) : BinTo S n .Pow (.int i) (.int j) R := fun k ns vs σ μ L s a b F ⟨_, ra⟩ ⟨_, rb⟩ A Q E rm hQ => by
  subst ra rb
  refine pow_int h0 ?_ (hQ _ _ _ h F.toks .toks ⟨_, rfl⟩)
  have hb : Builtin.Int.intBits i ≤ 5 := by
    unfold Builtin.Int.intBits
    split
    · omega
    · rename_i h
      have : i.natAbs.log2 < 5 := (Nat.log2_lt (by simpa using h)).mpr (by omega)
      omega
  have : (Builtin.Int.intBits i : Int) * j ≤ 5 * j := Int.mul_le_mul_of_nonneg_right (by omega) h0
  omega
theorem aug_add (h : R (.int (i + j))) : AugTo S n .Add (.int i) (.int j) R := fun k ns vs σ μ L s a b F ⟨_, ra⟩ ⟨_, rb⟩ A Q E rm hQ => by
  subst ra rb; with_reducible refine PySem.P.iadd_int ?_
  exact hQ _ _ _ h F.toks .toks ⟨_, rfl⟩
theorem aug_sub (h : R (.int (i - j))) : AugTo S n .Sub (.int i) (.int j) R := fun k ns vs σ μ L s a b F ⟨_, ra⟩ ⟨_, rb⟩ A Q E rm hQ => by
  subst ra rb; with_reducible refine PySem.P.isub_int ?_
  exact hQ _ _ _ h F.toks .toks ⟨_, rfl⟩
theorem aug_rshift (h0 : 0 ≤ j) (h : R (.int (i.fdiv (2 ^ j.toNat)))) : AugTo S n .RShift (.int i) (.int j) R := fun k ns vs σ μ L s a b F ⟨_, ra⟩ ⟨_, rb⟩ A Q E rm hQ => by
  subst ra rb; with_reducible refine irshift_int h0 ?_
  exact hQ _ _ _ h F.toks .toks ⟨_, rfl⟩
theorem un_neg (h : R (.int (-i))) : UnTo S n .USub (.int i) R := fun k ns vs σ μ L s a F ⟨_, ra⟩ A Q E rm hQ => by
  subst ra; with_reducible refine PySem.P.neg_int ?_
  exact hQ _ _ _ h F.toks .toks ⟨_, rfl⟩
theorem cmp_eq (h : R (.bool (i == j))) : CmpTo S n .Eq (.int i) (.int j) R := fun k ns vs σ μ L s a b F ⟨_, ra⟩ ⟨_, rb⟩ A Q E rm hQ => by
  subst ra rb; with_reducible refine PySem.P.eq_int ?_
  exact hQ _ _ _ h F .refl rfl
theorem cmp_ne (h : R (.bool (i != j))) : CmpTo S n .NotEq (.int i) (.int j) R := fun k ns vs σ μ L s a b F ⟨_, ra⟩ ⟨_, rb⟩ A Q E rm hQ => by
  subst ra rb; with_reducible refine PySem.P.ne_int ?_
  exact hQ _ _ _ h F .refl rfl
theorem cmp_lt (h : R (.bool (decide (i < j)))) : CmpTo S n .Lt (.int i) (.int j) R := fun k ns vs σ μ L s a b F ⟨_, ra⟩ ⟨_, rb⟩ A Q E rm hQ => by
  subst ra rb; with_reducible refine PySem.P.lt_int ?_
  exact hQ _ _ _ h F .refl rfl
theorem cmp_le (h : R (.bool (decide (i ≤ j)))) : CmpTo S n .LtE (.int i) (.int j) R := fun k ns vs σ μ L s a b F ⟨_, ra⟩ ⟨_, rb⟩ A Q E rm hQ => by
  subst ra rb; with_reducible refine PySem.P.le_int ?_
  exact hQ _ _ _ h F .refl rfl
theorem cmp_gt (h : R (.bool (decide (i > j)))) : CmpTo S n .Gt (.int i) (.int j) R := fun k ns vs σ μ L s a b F ⟨_, ra⟩ ⟨_, rb⟩ A Q E rm hQ => by
  subst ra rb; with_reducible refine PySem.P.gt_int ?_
  exact hQ _ _ _ h F .refl rfl
theorem cmp_ge (h : R (.bool (decide (i ≥ j)))) : CmpTo S n .GtE (.int i) (.int j) R := fun k ns vs σ μ L s a b F ⟨_, ra⟩ ⟨_, rb⟩ A Q E rm hQ => by
  subst ra rb; with_reducible refine PySem.P.ge_int ?_
  exact hQ _ _ _ h F .refl rfl
theorem tru_int : TruTo S (.int i) (i != 0) := fun k ns vs σ μ L s a F ⟨_, ra⟩ A Q E hQ => by subst ra; exact PySem.P.truthy_int hQ
theorem tru_bool {b : Bool} : TruTo S (.bool b) b := fun k ns vs σ μ L s a F ra A Q E hQ => by cases ra; exact wpAny_truthy_bool hQ
theorem un_not {x : PV} {c : Bool} (ht : TruTo S x c) (h : R (.bool (!c))) : UnTo S n .Not x R := fun k ns vs σ μ L s a F ra A Q E rm hQ =>
  not_value (ht k ns vs σ μ L s a F ra A _ E (hQ _ _ _ h F .refl rfl))
/-! texts -/
variable {x y : Str}
theorem cmp_eq_str (h : R (.bool (x == y))) : CmpTo S n .Eq (.str x) (.str y) R := fun k ns vs σ μ L s a b F ⟨_, ra⟩ ⟨_, rb⟩ A Q E rm hQ => by
  subst ra rb; with_reducible refine eq_str ?_
  exact hQ _ _ _ h F .refl rfl
theorem cmp_ne_str (h : R (.bool (x != y))) : CmpTo S n .NotEq (.str x) (.str y) R := fun k ns vs σ μ L s a b F ⟨_, ra⟩ ⟨_, rb⟩ A Q E rm hQ => by
  subst ra rb; with_reducible refine ne_str ?_
  exact hQ _ _ _ h F .refl rfl
theorem bin_cat (hx : x.length ≤ 1000000) (hy : y.length ≤ 1000000) (h : R (.str (x ++ y))) : BinTo S n .Add (.str x) (.str y) R := fun k ns vs σ μ L s a b F ⟨_, ra⟩ ⟨_, rb⟩ A Q E rm hQ => by
  subst ra rb; exact PyProof.Rows.add_str (fun t' tk => hQ _ _ _ h F.toks .toks ⟨_, rfl⟩) (by rw [sizeLine_eq]; omega)
theorem aug_cat (hx : x.length ≤ 1000000) (hy : y.length ≤ 1000000) (h : R (.str (x ++ y))) : AugTo S n .Add (.str x) (.str y) R := fun k ns vs σ μ L s a b F ⟨_, ra⟩ ⟨_, rb⟩ A Q E rm hQ => by
  subst ra rb; exact PyProof.Rows.iadd_str (fun t' tk => hQ _ _ _ h F.toks .toks ⟨_, rfl⟩) (by rw [sizeLine_eq]; omega)
theorem cmp_is_none {p : PV} (h : R (.bool (match p with | .none => true | _ => false))) (hp : match p with | .raw _ => False | _ => True := by trivial) : CmpTo S n .Is p .none R := fun k ns vs σ μ L s a b F ra rb A Q E rm hQ => by
  cases rb
  refine is_none (hQ _ _ _ h F .refl ?_)
  cases p with
  | none => cases ra; rfl
  | bool => cases ra; rfl
  | int => obtain ⟨_, rfl⟩ := ra; rfl
  | str => obtain ⟨_, rfl⟩ := ra; rfl
  | tup => obtain ⟨_, _, _, rfl, _⟩ := ra; rfl
  | lst => obtain ⟨_, _, _, rfl, _⟩ := ra; rfl
  | nlst => obtain ⟨_, _, _, rfl, _⟩ := ra; rfl
  | fn => cases ra; rfl
  | raw => exact hp.elim
  | mref => obtain ⟨_, rfl, _⟩ := ra; rfl
  | range => obtain ⟨_, _, _, _, rfl, _⟩ := ra; rfl
  | sl => obtain ⟨_, _, _, _, rfl, _⟩ := ra; rfl
end
end Mine
end
section
open PySem PySem.W PySem.Calls PyProof.Rows
namespace Mine
-- written by gen_tab.py
@[reducible] def nm4 : Names := [(Str.ofString "n", .local)]
@[reducible] def nm5 : Names := [(Str.ofString "x", .local), (Str.ofString "xbits", .local), (Str.ofString "base", .local), (Str.ofString "bdigits", .local), (Str.ofString "int", .globalImplicit)]
@[reducible] def nm7 : Names := [(Str.ofString "n", .local), (Str.ofString "base", .local), (Str.ofString "digits", .local), (Str.ofString "digs", .local), (Str.ofString "digit", .local), (Str.ofString "str", .globalImplicit), (Str.ofString "divmod", .globalImplicit)]
@[reducible] def nm8 : Names := [(Str.ofString "n", .local), (Str.ofString "base", .local), (Str.ofString "size", .local), (Str.ofString "digits", .local), (Str.ofString "half", .local), (Str.ofString "A", .local), (Str.ofString "B", .local), (Str.ofString "ad", .local), (Str.ofString "bd", .local), (Str.ofString "numeral", .globalImplicit), (Str.ofString "small_numeral", .globalImplicit), (Str.ofString "divmod", .globalImplicit)]
@[reducible] def nm16 : Names := [(Str.ofString "n", .local), (Str.ofString "max", .globalImplicit), (Str.ofString "int", .globalImplicit), (Str.ofString "blog2_10", .globalImplicit)]
@[reducible] def nm17 : Names := [(Str.ofString "n", .local), (Str.ofString "dps", .local), (Str.ofString "prec_to_dps", .globalImplicit)]
@[reducible] def nm26 : Names := [(Str.ofString "sign", .local), (Str.ofString "man", .local), (Str.ofString "exp", .local), (Str.ofString "bc", .local), (Str.ofString "prec", .local), (Str.ofString "rnd", .local), (Str.ofString "n", .local), (Str.ofString "t", .local), (Str.ofString "fzero", .globalImplicit), (Str.ofString "round_nearest", .globalImplicit), (Str.ofString "MPZ_ONE", .globalImplicit), (Str.ofString "shifts_down", .globalImplicit), (Str.ofString "trailing", .globalImplicit)]
@[reducible] def nm27 : Names := [(Str.ofString "sign", .local), (Str.ofString "man", .local), (Str.ofString "exp", .local), (Str.ofString "bc", .local), (Str.ofString "prec", .local), (Str.ofString "rnd", .local), (Str.ofString "_normalize", .globalImplicit)]
@[reducible] def nm28 : Names := [(Str.ofString "man", .local), (Str.ofString "exp", .local), (Str.ofString "prec", .local), (Str.ofString "rnd", .local), (Str.ofString "sign", .local), (Str.ofString "bc", .local), (Str.ofString "t", .local), (Str.ofString "isinstance", .globalImplicit), (Str.ofString "int", .globalImplicit), (Str.ofString "TypeError", .globalImplicit), (Str.ofString "fzero", .globalImplicit), (Str.ofString "trailing", .globalImplicit), (Str.ofString "normalize", .globalImplicit)]
@[reducible] def nm29 : Names := [(Str.ofString "n", .local), (Str.ofString "prec", .local), (Str.ofString "rnd", .local), (Str.ofString "from_man_exp", .globalImplicit), (Str.ofString "int", .globalImplicit)]
@[reducible] def nm30 : Names := [(Str.ofString "p", .local), (Str.ofString "q", .local), (Str.ofString "prec", .local), (Str.ofString "rnd", .local), (Str.ofString "mpf_div", .globalImplicit), (Str.ofString "from_int", .globalImplicit)]
@[reducible] def nm31 : Names := [(Str.ofString "s", .local), (Str.ofString "prec", .local), (Str.ofString "sign", .local), (Str.ofString "man", .local), (Str.ofString "exp", .local), (Str.ofString "bc", .local), (Str.ofString "offset", .local)]
@[reducible] def nm33 : Names := [(Str.ofString "s", .local), (Str.ofString "prec", .local), (Str.ofString "rnd", .local), (Str.ofString "sign", .local), (Str.ofString "man", .local), (Str.ofString "exp", .local), (Str.ofString "bc", .local), (Str.ofString "finf", .globalImplicit), (Str.ofString "fninf", .globalImplicit), (Str.ofString "normalize", .globalImplicit)]
@[reducible] def nm36 : Names := [(Str.ofString "s", .local), (Str.ofString "t", .local), (Str.ofString "prec", .local), (Str.ofString "rnd", .local), (Str.ofString "ssign", .local), (Str.ofString "sman", .local), (Str.ofString "sexp", .local), (Str.ofString "sbc", .local), (Str.ofString "tsign", .local), (Str.ofString "tman", .local), (Str.ofString "texp", .local), (Str.ofString "tbc", .local), (Str.ofString "s_special", .local), (Str.ofString "t_special", .local), (Str.ofString "sign", .local), (Str.ofString "extra", .local), (Str.ofString "quot", .local), (Str.ofString "rem", .local), (Str.ofString "bc", .local), (Str.ofString "fzero", .globalImplicit), (Str.ofString "ZeroDivisionError", .globalImplicit), (Str.ofString "fnan", .globalImplicit), (Str.ofString "finf", .globalImplicit), (Str.ofString "fninf", .globalImplicit), (Str.ofString "mpf_sign", .globalImplicit), (Str.ofString "normalize", .globalImplicit), (Str.ofString "max", .globalImplicit), (Str.ofString "divmod", .globalImplicit)]
@[reducible] def nm39 : Names := [(Str.ofString "s", .local), (Str.ofString "dps", .local), (Str.ofString "base", .local), (Str.ofString "sign", .local), (Str.ofString "_sign", .local), (Str.ofString "man", .local), (Str.ofString "exp", .local), (Str.ofString "bc", .local), (Str.ofString "blog2", .local), (Str.ofString "unit", .local), (Str.ofString "bitprec", .local), (Str.ofString "exp_from_1", .local), (Str.ofString "exponent", .local), (Str.ofString "fixprec", .local), (Str.ofString "fixdps", .local), (Str.ofString "sf", .local), (Str.ofString "sb", .local), (Str.ofString "digits", .local), (Str.ofString "mpf_neg", .globalImplicit), (Str.ofString "int", .globalImplicit), (Str.ofString "blog2_10", .globalImplicit), (Str.ofString "pow", .globalImplicit), (Str.ofString "NotImplementedError", .globalImplicit), (Str.ofString "abs", .globalImplicit), (Str.ofString "max", .globalImplicit), (Str.ofString "to_fixed", .globalImplicit), (Str.ofString "bin_to_radix", .globalImplicit), (Str.ofString "numeral", .globalImplicit), (Str.ofString "len", .globalImplicit)]
@[reducible] def nm40 : Names := [(Str.ofString "sign", .local), (Str.ofString "digits", .local), (Str.ofString "dps", .local), (Str.ofString "base", .local), (Str.ofString "rnd", .local), (Str.ofString "fixed", .local), (Str.ofString "exponent", .local), (Str.ofString "rnd_digs", .local), (Str.ofString "tie_down", .local), (Str.ofString "tie_up", .local), (Str.ofString "i", .local), (Str.ofString "dig", .local), (Str.ofString "len", .globalImplicit), (Str.ofString "round_nearest", .globalImplicit), (Str.ofString "round_up", .globalImplicit), (Str.ofString "round_down", .globalImplicit), (Str.ofString "round_ceiling", .globalImplicit), (Str.ofString "round_floor", .globalImplicit), (Str.ofString "stddigits", .globalImplicit), (Str.ofString "range", .globalImplicit), (Str.ofString "int", .globalImplicit)]
@[reducible] def nm41 : Names := [(Str.ofString "s", .local), (Str.ofString "dps", .local), (Str.ofString "strip_zeros", .local), (Str.ofString "min_fixed", .local), (Str.ofString "max_fixed", .local), (Str.ofString "show_zero_exponent", .local), (Str.ofString "base", .local), (Str.ofString "binary_exp", .local), (Str.ofString "rnd", .local), (Str.ofString "sep", .local), (Str.ofString "prefix", .local), (Str.ofString "t", .local), (Str.ofString "sign", .local), (Str.ofString "digits", .local), (Str.ofString "exponent", .local), (Str.ofString "rnd_digs", .local), (Str.ofString "shift", .local), (Str.ofString "n", .local), (Str.ofString "exp_add", .local), (Str.ofString "split", .local), (Str.ofString "ValueError", .globalImplicit), (Str.ofString "round_nearest", .globalImplicit), (Str.ofString "round_floor", .globalImplicit), (Str.ofString "round_ceiling", .globalImplicit), (Str.ofString "round_up", .globalImplicit), (Str.ofString "round_down", .globalImplicit), (Str.ofString "fzero", .globalImplicit), (Str.ofString "finf", .globalImplicit), (Str.ofString "fninf", .globalImplicit), (Str.ofString "fnan", .globalImplicit), (Str.ofString "min", .globalImplicit), (Str.ofString "to_digits_exp", .globalImplicit), (Str.ofString "stddigits", .globalImplicit), (Str.ofString "int", .globalImplicit), (Str.ofString "hex", .globalImplicit), (Str.ofString "round_digits", .globalImplicit)]
@[reducible] def nm42 : Names := [(Str.ofString "x", .local), (Str.ofString "base", .local), (Str.ofString "sep", .local), (Str.ofString "e2", .local), (Str.ofString "parts", .local), (Str.ofString "exp", .local), (Str.ofString "a", .local), (Str.ofString "b", .local), (Str.ofString "pow", .globalImplicit), (Str.ofString "len", .globalImplicit), (Str.ofString "int", .globalImplicit), (Str.ofString "ValueError", .globalImplicit)]
@[reducible] def nm44 : Names := [(Str.ofString "x", .local), (Str.ofString "prec", .local), (Str.ofString "rnd", .local), (Str.ofString "base", .local), (Str.ofString "p", .local), (Str.ofString "q", .local), (Str.ofString "man", .local), (Str.ofString "exp", .local), (Str.ofString "s", .local), (Str.ofString "e2", .local), (Str.ofString "special_str", .globalImplicit), (Str.ofString "from_rational", .globalImplicit), (Str.ofString "int", .globalImplicit), (Str.ofString "str_to_man_exp", .globalImplicit), (Str.ofString "abs", .globalImplicit), (Str.ofString "from_int", .globalImplicit), (Str.ofString "mpf_mul", .globalImplicit), (Str.ofString "mpf_pow_int", .globalImplicit), (Str.ofString "ften", .globalImplicit), (Str.ofString "pow", .globalImplicit), (Str.ofString "from_man_exp", .globalImplicit), (Str.ofString "NotImplementedError", .globalImplicit)]
@[reducible] def nm47 : Names := [(Str.ofString "state", .local), (Str.ofString "many", .local), (Str.ofString "at", .local), (Str.ofString "len", .globalImplicit)]
@[reducible] def nm46 : Names := [(Str.ofString "script", .local), (Str.ofString "numbers", .local), (Str.ofString "sum", .globalImplicit), (Str.ofString "len", .globalImplicit)]
@[reducible] def nm48 : Names := [(Str.ofString "over", .local), (Str.ofString "under", .local), (Str.ofString "bits", .local), (Str.ofString "way", .local), (Str.ofString "minus", .local), (Str.ofString "whole", .local), (Str.ofString "deep", .local), (Str.ofString "found", .local), (Str.ofString "rest", .local), (Str.ofString "is_more", .local), (Str.ofString "size", .local), (Str.ofString "abs", .globalImplicit)]
@[reducible] def nm49 : Names := [(Str.ofString "base", .local), (Str.ofString "many", .local), (Str.ofString "found", .local), (Str.ofString "turn", .local), (Str.ofString "range", .globalImplicit)]
@[reducible] def nm50 : Names := [(Str.ofString "whole", .local), (Str.ofString "deep", .local), (Str.ofString "minus", .local), (Str.ofString "size", .local), (Str.ofString "abs", .globalImplicit)]
@[reducible] def nm51 : Names := [(Str.ofString "over", .local), (Str.ofString "under", .local), (Str.ofString "base", .local), (Str.ofString "place", .local)]
@[reducible] def nm52 : Names := [(Str.ofString "over", .local), (Str.ofString "under", .local), (Str.ofString "minus", .local), (Str.ofString "many", .local), (Str.ofString "base", .local), (Str.ofString "way", .local), (Str.ofString "place", .local), (Str.ofString "shift", .local), (Str.ofString "found", .local), (Str.ofString "rest", .local), (Str.ofString "is_more", .local), (Str.ofString "digits", .local), (Str.ofString "turn", .local), (Str.ofString "_law_place", .globalImplicit), (Str.ofString "_law_power", .globalImplicit), (Str.ofString "max", .globalImplicit), (Str.ofString "range", .globalImplicit)]
@[reducible] def nm53 : Names := [(Str.ofString "digits", .local), (Str.ofString "place", .local), (Str.ofString "minus", .local), (Str.ofString "many", .local), (Str.ofString "base", .local), (Str.ofString "low", .local), (Str.ofString "high", .local), (Str.ofString "is_struck", .local), (Str.ofString "is_shown", .local), (Str.ofString "is_plain", .local), (Str.ofString "text", .local), (Str.ofString "shown", .local), (Str.ofString "tail", .local), (Str.ofString "max", .globalImplicit), (Str.ofString "str", .globalImplicit)]
@[reducible] def nm54 : Names := [(Str.ofString "state", .local), (Str.ofString "whole", .local), (Str.ofString "deep", .local), (Str.ofString "minus", .local), (Str.ofString "base", .local), (Str.ofString "many", .local), (Str.ofString "way", .local), (Str.ofString "is_struck", .local), (Str.ofString "is_shown", .local), (Str.ofString "low", .local), (Str.ofString "high", .local), (Str.ofString "over", .local), (Str.ofString "under", .local), (Str.ofString "told", .local), (Str.ofString "digits", .local), (Str.ofString "place", .local), (Str.ofString "value", .local), (Str.ofString "one", .local), (Str.ofString "shift", .local), (Str.ofString "bits", .local), (Str.ofString "_law_draw", .globalImplicit), (Str.ofString "_law_power", .globalImplicit), (Str.ofString "max", .globalImplicit), (Str.ofString "to_str", .globalImplicit), (Str.ofString "_law_tuple", .globalImplicit), (Str.ofString "_law_laid", .globalImplicit), (Str.ofString "min", .globalImplicit), (Str.ofString "_law_text", .globalImplicit), (Str.ofString "from_str", .globalImplicit), (Str.ofString "_law_rounded", .globalImplicit)]
@[reducible] def nm55 : Names := [(Str.ofString "script", .local), (Str.ofString "state", .local), (Str.ofString "turn", .local), (Str.ofString "bits", .local), (Str.ofString "whole", .local), (Str.ofString "great", .local), (Str.ofString "word", .local), (Str.ofString "_law_state", .globalImplicit), (Str.ofString "range", .globalImplicit), (Str.ofString "_law_small_right", .globalImplicit), (Str.ofString "_law_draw", .globalImplicit), (Str.ofString "_law_power", .globalImplicit), (Str.ofString "_law_tuple", .globalImplicit), (Str.ofString "from_str", .globalImplicit), (Str.ofString "to_str", .globalImplicit), (Str.ofString "repr_dps", .globalImplicit), (Str.ofString "fzero", .globalImplicit), (Str.ofString "finf", .globalImplicit), (Str.ofString "fninf", .globalImplicit), (Str.ofString "fnan", .globalImplicit)]
def gloTab : List (Str × PV) := [(Str.ofString "MPZ_ZERO", .int 0),
  (Str.ofString "MPZ_ONE", .int 1),
  (Str.ofString "MPZ_FIVE", .int 5),
  (Str.ofString "stddigits", .str (Str.ofString "0123456789abcdefghijklmnopqrstuvwxyz")),
  (Str.ofString "round_nearest", .str (Str.ofString "n")),
  (Str.ofString "round_floor", .str (Str.ofString "f")),
  (Str.ofString "round_ceiling", .str (Str.ofString "c")),
  (Str.ofString "round_up", .str (Str.ofString "u")),
  (Str.ofString "round_down", .str (Str.ofString "d")),
  (Str.ofString "round_fast", .str (Str.ofString "d")),
  (Str.ofString "fzero", .tup [.int (0), .int (0), .int (0), .int (0)]),
  (Str.ofString "fnan", .tup [.int (0), .int (0), .int (-123), .int (-1)]),
  (Str.ofString "finf", .tup [.int (0), .int (0), .int (-456), .int (-2)]),
  (Str.ofString "fninf", .tup [.int (1), .int (0), .int (-789), .int (-3)]),
  (Str.ofString "blog2_10", .int 33219280948873626),
  (Str.ofString "shifts_down", .fn 1000),
  (Str.ofString "special_str", .fn 1001),
  (Str.ofString "trailing", .fn 4),
  (Str.ofString "bin_to_radix", .fn 5),
  (Str.ofString "small_numeral", .fn 7),
  (Str.ofString "numeral", .fn 8),
  (Str.ofString "prec_to_dps", .fn 16),
  (Str.ofString "repr_dps", .fn 17),
  (Str.ofString "_normalize", .fn 26),
  (Str.ofString "normalize", .fn 27),
  (Str.ofString "from_man_exp", .fn 28),
  (Str.ofString "from_int", .fn 29),
  (Str.ofString "from_rational", .fn 30),
  (Str.ofString "to_fixed", .fn 31),
  (Str.ofString "mpf_neg", .fn 33),
  (Str.ofString "mpf_div", .fn 36),
  (Str.ofString "to_digits_exp", .fn 39),
  (Str.ofString "round_digits", .fn 40),
  (Str.ofString "to_str", .fn 41),
  (Str.ofString "str_to_man_exp", .fn 42),
  (Str.ofString "from_str", .fn 44),
  (Str.ofString "_law_draw", .fn 47),
  (Str.ofString "_law_state", .fn 46),
  (Str.ofString "_law_rounded", .fn 48),
  (Str.ofString "_law_power", .fn 49),
  (Str.ofString "_law_tuple", .fn 50),
  (Str.ofString "_law_place", .fn 51),
  (Str.ofString "_law_laid", .fn 52),
  (Str.ofString "_law_text", .fn 53),
  (Str.ofString "_law_small_right", .fn 54)]
def dfltTab : Nat → List PV
  | 7 => [.int 10, .str (Str.ofString "0123456789abcdefghijklmnopqrstuvwxyz")]
  | 8 => [.int 10, .int 0, .str (Str.ofString "0123456789abcdefghijklmnopqrstuvwxyz")]
  | 28 => [.int 0, .str (Str.ofString "d")]
  | 29 => [.int 0, .str (Str.ofString "d")]
  | 30 => [.str (Str.ofString "d")]
  | 33 => [.int 0, .str (Str.ofString "d")]
  | 36 => [.str (Str.ofString "d")]
  | 39 => [.int 10]
  | 40 => [.str (Str.ofString "n"), .bool false]
  | 41 => [.bool true, .none, .none, .bool false, .int 10, .bool false, .str (Str.ofString "n")]
  | 42 => [.int 10]
  | 44 => [.int 0, .str (Str.ofString "d"), .int 0]
  | _ => []
def bltTab : List Str := [Str.ofString "int", Str.ofString "len", Str.ofString "max", Str.ofString "min", Str.ofString "abs", Str.ofString "range", Str.ofString "divmod", Str.ofString "isinstance", Str.ofString "pow", Str.ofString "str", Str.ofString "sum"]
def fnTab (k : Nat) : Bool := [4, 5, 7, 8, 16, 17, 26, 27, 28, 29, 30, 31, 33, 36, 39, 40, 41, 42, 44, 47, 46, 48, 49, 50, 51, 52, 53, 54].contains k
@[reducible] def thePr : Prog := ⟨gloTab, dfltTab, bltTab, fnTab⟩
theorem g_MPZ_ZERO {C : PV → Prop} (h : C (.int 0)) : GLO thePr (Str.ofString "MPZ_ZERO") C := ⟨_, .head _, h⟩
theorem g_MPZ_ONE {C : PV → Prop} (h : C (.int 1)) : GLO thePr (Str.ofString "MPZ_ONE") C := ⟨_, .tail _ (.head _), h⟩
theorem g_MPZ_FIVE {C : PV → Prop} (h : C (.int 5)) : GLO thePr (Str.ofString "MPZ_FIVE") C := ⟨_, .tail _ (.tail _ (.head _)), h⟩
theorem g_stddigits {C : PV → Prop} (h : C (.str (Str.ofString "0123456789abcdefghijklmnopqrstuvwxyz"))) : GLO thePr (Str.ofString "stddigits") C := ⟨_, .tail _ (.tail _ (.tail _ (.head _))), h⟩
theorem g_round_nearest {C : PV → Prop} (h : C (.str (Str.ofString "n"))) : GLO thePr (Str.ofString "round_nearest") C := ⟨_, .tail _ (.tail _ (.tail _ (.tail _ (.head _)))), h⟩
theorem g_round_floor {C : PV → Prop} (h : C (.str (Str.ofString "f"))) : GLO thePr (Str.ofString "round_floor") C := ⟨_, .tail _ (.tail _ (.tail _ (.tail _ (.tail _ (.head _))))), h⟩
theorem g_round_ceiling {C : PV → Prop} (h : C (.str (Str.ofString "c"))) : GLO thePr (Str.ofString "round_ceiling") C := ⟨_, .tail _ (.tail _ (.tail _ (.tail _ (.tail _ (.tail _ (.head _)))))), h⟩
theorem g_round_up {C : PV → Prop} (h : C (.str (Str.ofString "u"))) : GLO thePr (Str.ofString "round_up") C := ⟨_, .tail _ (.tail _ (.tail _ (.tail _ (.tail _ (.tail _ (.tail _ (.head _))))))), h⟩
theorem g_round_down {C : PV → Prop} (h : C (.str (Str.ofString "d"))) : GLO thePr (Str.ofString "round_down") C := ⟨_, .tail _ (.tail _ (.tail _ (.tail _ (.tail _ (.tail _ (.tail _ (.tail _ (.head _)))))))), h⟩
theorem g_round_fast {C : PV → Prop} (h : C (.str (Str.ofString "d"))) : GLO thePr (Str.ofString "round_fast") C := ⟨_, .tail _ (.tail _ (.tail _ (.tail _ (.tail _ (.tail _ (.tail _ (.tail _ (.tail _ (.head _))))))))), h⟩
theorem g_fzero {C : PV → Prop} (h : C (.tup [.int (0), .int (0), .int (0), .int (0)])) : GLO thePr (Str.ofString "fzero") C := ⟨_, .tail _ (.tail _ (.tail _ (.tail _ (.tail _ (.tail _ (.tail _ (.tail _ (.tail _ (.tail _ (.head _)))))))))), h⟩
theorem g_fnan {C : PV → Prop} (h : C (.tup [.int (0), .int (0), .int (-123), .int (-1)])) : GLO thePr (Str.ofString "fnan") C := ⟨_, .tail _ (.tail _ (.tail _ (.tail _ (.tail _ (.tail _ (.tail _ (.tail _ (.tail _ (.tail _ (.tail _ (.head _))))))))))), h⟩
theorem g_finf {C : PV → Prop} (h : C (.tup [.int (0), .int (0), .int (-456), .int (-2)])) : GLO thePr (Str.ofString "finf") C := ⟨_, .tail _ (.tail _ (.tail _ (.tail _ (.tail _ (.tail _ (.tail _ (.tail _ (.tail _ (.tail _ (.tail _ (.tail _ (.head _)))))))))))), h⟩
theorem g_fninf {C : PV → Prop} (h : C (.tup [.int (1), .int (0), .int (-789), .int (-3)])) : GLO thePr (Str.ofString "fninf") C := ⟨_, .tail _ (.tail _ (.tail _ (.tail _ (.tail _ (.tail _ (.tail _ (.tail _ (.tail _ (.tail _ (.tail _ (.tail _ (.tail _ (.head _))))))))))))), h⟩
theorem g_blog2_10 {C : PV → Prop} (h : C (.int 33219280948873626)) : GLO thePr (Str.ofString "blog2_10") C := ⟨_, .tail _ (.tail _ (.tail _ (.tail _ (.tail _ (.tail _ (.tail _ (.tail _ (.tail _ (.tail _ (.tail _ (.tail _ (.tail _ (.tail _ (.head _)))))))))))))), h⟩
theorem g_shifts_down {C : PV → Prop} (h : C (.fn 1000)) : GLO thePr (Str.ofString "shifts_down") C := ⟨_, .tail _ (.tail _ (.tail _ (.tail _ (.tail _ (.tail _ (.tail _ (.tail _ (.tail _ (.tail _ (.tail _ (.tail _ (.tail _ (.tail _ (.tail _ (.head _))))))))))))))), h⟩
theorem g_special_str {C : PV → Prop} (h : C (.fn 1001)) : GLO thePr (Str.ofString "special_str") C := ⟨_, .tail _ (.tail _ (.tail _ (.tail _ (.tail _ (.tail _ (.tail _ (.tail _ (.tail _ (.tail _ (.tail _ (.tail _ (.tail _ (.tail _ (.tail _ (.tail _ (.head _)))))))))))))))), h⟩
theorem g_trailing {C : PV → Prop} (h : C (.fn 4)) : GLO thePr (Str.ofString "trailing") C := ⟨_, .tail _ (.tail _ (.tail _ (.tail _ (.tail _ (.tail _ (.tail _ (.tail _ (.tail _ (.tail _ (.tail _ (.tail _ (.tail _ (.tail _ (.tail _ (.tail _ (.tail _ (.head _))))))))))))))))), h⟩
theorem g_bin_to_radix {C : PV → Prop} (h : C (.fn 5)) : GLO thePr (Str.ofString "bin_to_radix") C := ⟨_, .tail _ (.tail _ (.tail _ (.tail _ (.tail _ (.tail _ (.tail _ (.tail _ (.tail _ (.tail _ (.tail _ (.tail _ (.tail _ (.tail _ (.tail _ (.tail _ (.tail _ (.tail _ (.head _)))))))))))))))))), h⟩
theorem g_small_numeral {C : PV → Prop} (h : C (.fn 7)) : GLO thePr (Str.ofString "small_numeral") C := ⟨_, .tail _ (.tail _ (.tail _ (.tail _ (.tail _ (.tail _ (.tail _ (.tail _ (.tail _ (.tail _ (.tail _ (.tail _ (.tail _ (.tail _ (.tail _ (.tail _ (.tail _ (.tail _ (.tail _ (.head _))))))))))))))))))), h⟩
theorem g_numeral {C : PV → Prop} (h : C (.fn 8)) : GLO thePr (Str.ofString "numeral") C := ⟨_, .tail _ (.tail _ (.tail _ (.tail _ (.tail _ (.tail _ (.tail _ (.tail _ (.tail _ (.tail _ (.tail _ (.tail _ (.tail _ (.tail _ (.tail _ (.tail _ (.tail _ (.tail _ (.tail _ (.tail _ (.head _)))))))))))))))))))), h⟩
theorem g_prec_to_dps {C : PV → Prop} (h : C (.fn 16)) : GLO thePr (Str.ofString "prec_to_dps") C := ⟨_, .tail _ (.tail _ (.tail _ (.tail _ (.tail _ (.tail _ (.tail _ (.tail _ (.tail _ (.tail _ (.tail _ (.tail _ (.tail _ (.tail _ (.tail _ (.tail _ (.tail _ (.tail _ (.tail _ (.tail _ (.tail _ (.head _))))))))))))))))))))), h⟩
theorem g_repr_dps {C : PV → Prop} (h : C (.fn 17)) : GLO thePr (Str.ofString "repr_dps") C := ⟨_, .tail _ (.tail _ (.tail _ (.tail _ (.tail _ (.tail _ (.tail _ (.tail _ (.tail _ (.tail _ (.tail _ (.tail _ (.tail _ (.tail _ (.tail _ (.tail _ (.tail _ (.tail _ (.tail _ (.tail _ (.tail _ (.tail _ (.head _)))))))))))))))))))))), h⟩
theorem g_unormalize {C : PV → Prop} (h : C (.fn 26)) : GLO thePr (Str.ofString "_normalize") C := ⟨_, .tail _ (.tail _ (.tail _ (.tail _ (.tail _ (.tail _ (.tail _ (.tail _ (.tail _ (.tail _ (.tail _ (.tail _ (.tail _ (.tail _ (.tail _ (.tail _ (.tail _ (.tail _ (.tail _ (.tail _ (.tail _ (.tail _ (.tail _ (.head _))))))))))))))))))))))), h⟩
theorem g_normalize {C : PV → Prop} (h : C (.fn 27)) : GLO thePr (Str.ofString "normalize") C := ⟨_, .tail _ (.tail _ (.tail _ (.tail _ (.tail _ (.tail _ (.tail _ (.tail _ (.tail _ (.tail _ (.tail _ (.tail _ (.tail _ (.tail _ (.tail _ (.tail _ (.tail _ (.tail _ (.tail _ (.tail _ (.tail _ (.tail _ (.tail _ (.tail _ (.head _)))))))))))))))))))))))), h⟩
theorem g_from_man_exp {C : PV → Prop} (h : C (.fn 28)) : GLO thePr (Str.ofString "from_man_exp") C := ⟨_, .tail _ (.tail _ (.tail _ (.tail _ (.tail _ (.tail _ (.tail _ (.tail _ (.tail _ (.tail _ (.tail _ (.tail _ (.tail _ (.tail _ (.tail _ (.tail _ (.tail _ (.tail _ (.tail _ (.tail _ (.tail _ (.tail _ (.tail _ (.tail _ (.tail _ (.head _))))))))))))))))))))))))), h⟩
theorem g_from_int {C : PV → Prop} (h : C (.fn 29)) : GLO thePr (Str.ofString "from_int") C := ⟨_, .tail _ (.tail _ (.tail _ (.tail _ (.tail _ (.tail _ (.tail _ (.tail _ (.tail _ (.tail _ (.tail _ (.tail _ (.tail _ (.tail _ (.tail _ (.tail _ (.tail _ (.tail _ (.tail _ (.tail _ (.tail _ (.tail _ (.tail _ (.tail _ (.tail _ (.tail _ (.head _)))))))))))))))))))))))))), h⟩
theorem g_from_rational {C : PV → Prop} (h : C (.fn 30)) : GLO thePr (Str.ofString "from_rational") C := ⟨_, .tail _ (.tail _ (.tail _ (.tail _ (.tail _ (.tail _ (.tail _ (.tail _ (.tail _ (.tail _ (.tail _ (.tail _ (.tail _ (.tail _ (.tail _ (.tail _ (.tail _ (.tail _ (.tail _ (.tail _ (.tail _ (.tail _ (.tail _ (.tail _ (.tail _ (.tail _ (.tail _ (.head _))))))))))))))))))))))))))), h⟩
theorem g_to_fixed {C : PV → Prop} (h : C (.fn 31)) : GLO thePr (Str.ofString "to_fixed") C := ⟨_, .tail _ (.tail _ (.tail _ (.tail _ (.tail _ (.tail _ (.tail _ (.tail _ (.tail _ (.tail _ (.tail _ (.tail _ (.tail _ (.tail _ (.tail _ (.tail _ (.tail _ (.tail _ (.tail _ (.tail _ (.tail _ (.tail _ (.tail _ (.tail _ (.tail _ (.tail _ (.tail _ (.tail _ (.head _)))))))))))))))))))))))))))), h⟩
theorem g_mpf_neg {C : PV → Prop} (h : C (.fn 33)) : GLO thePr (Str.ofString "mpf_neg") C := ⟨_, .tail _ (.tail _ (.tail _ (.tail _ (.tail _ (.tail _ (.tail _ (.tail _ (.tail _ (.tail _ (.tail _ (.tail _ (.tail _ (.tail _ (.tail _ (.tail _ (.tail _ (.tail _ (.tail _ (.tail _ (.tail _ (.tail _ (.tail _ (.tail _ (.tail _ (.tail _ (.tail _ (.tail _ (.tail _ (.head _))))))))))))))))))))))))))))), h⟩
theorem g_mpf_div {C : PV → Prop} (h : C (.fn 36)) : GLO thePr (Str.ofString "mpf_div") C := ⟨_, .tail _ (.tail _ (.tail _ (.tail _ (.tail _ (.tail _ (.tail _ (.tail _ (.tail _ (.tail _ (.tail _ (.tail _ (.tail _ (.tail _ (.tail _ (.tail _ (.tail _ (.tail _ (.tail _ (.tail _ (.tail _ (.tail _ (.tail _ (.tail _ (.tail _ (.tail _ (.tail _ (.tail _ (.tail _ (.tail _ (.head _)))))))))))))))))))))))))))))), h⟩
theorem g_to_digits_exp {C : PV → Prop} (h : C (.fn 39)) : GLO thePr (Str.ofString "to_digits_exp") C := ⟨_, .tail _ (.tail _ (.tail _ (.tail _ (.tail _ (.tail _ (.tail _ (.tail _ (.tail _ (.tail _ (.tail _ (.tail _ (.tail _ (.tail _ (.tail _ (.tail _ (.tail _ (.tail _ (.tail _ (.tail _ (.tail _ (.tail _ (.tail _ (.tail _ (.tail _ (.tail _ (.tail _ (.tail _ (.tail _ (.tail _ (.tail _ (.head _))))))))))))))))))))))))))))))), h⟩
theorem g_round_digits {C : PV → Prop} (h : C (.fn 40)) : GLO thePr (Str.ofString "round_digits") C := ⟨_, .tail _ (.tail _ (.tail _ (.tail _ (.tail _ (.tail _ (.tail _ (.tail _ (.tail _ (.tail _ (.tail _ (.tail _ (.tail _ (.tail _ (.tail _ (.tail _ (.tail _ (.tail _ (.tail _ (.tail _ (.tail _ (.tail _ (.tail _ (.tail _ (.tail _ (.tail _ (.tail _ (.tail _ (.tail _ (.tail _ (.tail _ (.tail _ (.head _)))))))))))))))))))))))))))))))), h⟩
theorem g_to_str {C : PV → Prop} (h : C (.fn 41)) : GLO thePr (Str.ofString "to_str") C := ⟨_, .tail _ (.tail _ (.tail _ (.tail _ (.tail _ (.tail _ (.tail _ (.tail _ (.tail _ (.tail _ (.tail _ (.tail _ (.tail _ (.tail _ (.tail _ (.tail _ (.tail _ (.tail _ (.tail _ (.tail _ (.tail _ (.tail _ (.tail _ (.tail _ (.tail _ (.tail _ (.tail _ (.tail _ (.tail _ (.tail _ (.tail _ (.tail _ (.tail _ (.head _))))))))))))))))))))))))))))))))), h⟩
theorem g_str_to_man_exp {C : PV → Prop} (h : C (.fn 42)) : GLO thePr (Str.ofString "str_to_man_exp") C := ⟨_, .tail _ (.tail _ (.tail _ (.tail _ (.tail _ (.tail _ (.tail _ (.tail _ (.tail _ (.tail _ (.tail _ (.tail _ (.tail _ (.tail _ (.tail _ (.tail _ (.tail _ (.tail _ (.tail _ (.tail _ (.tail _ (.tail _ (.tail _ (.tail _ (.tail _ (.tail _ (.tail _ (.tail _ (.tail _ (.tail _ (.tail _ (.tail _ (.tail _ (.tail _ (.head _)))))))))))))))))))))))))))))))))), h⟩
theorem g_from_str {C : PV → Prop} (h : C (.fn 44)) : GLO thePr (Str.ofString "from_str") C := ⟨_, .tail _ (.tail _ (.tail _ (.tail _ (.tail _ (.tail _ (.tail _ (.tail _ (.tail _ (.tail _ (.tail _ (.tail _ (.tail _ (.tail _ (.tail _ (.tail _ (.tail _ (.tail _ (.tail _ (.tail _ (.tail _ (.tail _ (.tail _ (.tail _ (.tail _ (.tail _ (.tail _ (.tail _ (.tail _ (.tail _ (.tail _ (.tail _ (.tail _ (.tail _ (.tail _ (.head _))))))))))))))))))))))))))))))))))), h⟩
theorem g_law_draw {C : PV → Prop} (h : C (.fn 47)) : GLO thePr (Str.ofString "_law_draw") C := ⟨_, .tail _ (.tail _ (.tail _ (.tail _ (.tail _ (.tail _ (.tail _ (.tail _ (.tail _ (.tail _ (.tail _ (.tail _ (.tail _ (.tail _ (.tail _ (.tail _ (.tail _ (.tail _ (.tail _ (.tail _ (.tail _ (.tail _ (.tail _ (.tail _ (.tail _ (.tail _ (.tail _ (.tail _ (.tail _ (.tail _ (.tail _ (.tail _ (.tail _ (.tail _ (.tail _ (.tail _ (.head _)))))))))))))))))))))))))))))))))))), h⟩
theorem g_law_state {C : PV → Prop} (h : C (.fn 46)) : GLO thePr (Str.ofString "_law_state") C := ⟨_, .tail _ (.tail _ (.tail _ (.tail _ (.tail _ (.tail _ (.tail _ (.tail _ (.tail _ (.tail _ (.tail _ (.tail _ (.tail _ (.tail _ (.tail _ (.tail _ (.tail _ (.tail _ (.tail _ (.tail _ (.tail _ (.tail _ (.tail _ (.tail _ (.tail _ (.tail _ (.tail _ (.tail _ (.tail _ (.tail _ (.tail _ (.tail _ (.tail _ (.tail _ (.tail _ (.tail _ (.tail _ (.head _))))))))))))))))))))))))))))))))))))), h⟩
theorem g_law_rounded {C : PV → Prop} (h : C (.fn 48)) : GLO thePr (Str.ofString "_law_rounded") C := ⟨_, .tail _ (.tail _ (.tail _ (.tail _ (.tail _ (.tail _ (.tail _ (.tail _ (.tail _ (.tail _ (.tail _ (.tail _ (.tail _ (.tail _ (.tail _ (.tail _ (.tail _ (.tail _ (.tail _ (.tail _ (.tail _ (.tail _ (.tail _ (.tail _ (.tail _ (.tail _ (.tail _ (.tail _ (.tail _ (.tail _ (.tail _ (.tail _ (.tail _ (.tail _ (.tail _ (.tail _ (.tail _ (.tail _ (.head _)))))))))))))))))))))))))))))))))))))), h⟩
theorem g_law_power {C : PV → Prop} (h : C (.fn 49)) : GLO thePr (Str.ofString "_law_power") C := ⟨_, .tail _ (.tail _ (.tail _ (.tail _ (.tail _ (.tail _ (.tail _ (.tail _ (.tail _ (.tail _ (.tail _ (.tail _ (.tail _ (.tail _ (.tail _ (.tail _ (.tail _ (.tail _ (.tail _ (.tail _ (.tail _ (.tail _ (.tail _ (.tail _ (.tail _ (.tail _ (.tail _ (.tail _ (.tail _ (.tail _ (.tail _ (.tail _ (.tail _ (.tail _ (.tail _ (.tail _ (.tail _ (.tail _ (.tail _ (.head _))))))))))))))))))))))))))))))))))))))), h⟩
theorem g_law_tuple {C : PV → Prop} (h : C (.fn 50)) : GLO thePr (Str.ofString "_law_tuple") C := ⟨_, .tail _ (.tail _ (.tail _ (.tail _ (.tail _ (.tail _ (.tail _ (.tail _ (.tail _ (.tail _ (.tail _ (.tail _ (.tail _ (.tail _ (.tail _ (.tail _ (.tail _ (.tail _ (.tail _ (.tail _ (.tail _ (.tail _ (.tail _ (.tail _ (.tail _ (.tail _ (.tail _ (.tail _ (.tail _ (.tail _ (.tail _ (.tail _ (.tail _ (.tail _ (.tail _ (.tail _ (.tail _ (.tail _ (.tail _ (.tail _ (.head _)))))))))))))))))))))))))))))))))))))))), h⟩
theorem g_law_place {C : PV → Prop} (h : C (.fn 51)) : GLO thePr (Str.ofString "_law_place") C := ⟨_, .tail _ (.tail _ (.tail _ (.tail _ (.tail _ (.tail _ (.tail _ (.tail _ (.tail _ (.tail _ (.tail _ (.tail _ (.tail _ (.tail _ (.tail _ (.tail _ (.tail _ (.tail _ (.tail _ (.tail _ (.tail _ (.tail _ (.tail _ (.tail _ (.tail _ (.tail _ (.tail _ (.tail _ (.tail _ (.tail _ (.tail _ (.tail _ (.tail _ (.tail _ (.tail _ (.tail _ (.tail _ (.tail _ (.tail _ (.tail _ (.tail _ (.head _))))))))))))))))))))))))))))))))))))))))), h⟩
theorem g_law_laid {C : PV → Prop} (h : C (.fn 52)) : GLO thePr (Str.ofString "_law_laid") C := ⟨_, .tail _ (.tail _ (.tail _ (.tail _ (.tail _ (.tail _ (.tail _ (.tail _ (.tail _ (.tail _ (.tail _ (.tail _ (.tail _ (.tail _ (.tail _ (.tail _ (.tail _ (.tail _ (.tail _ (.tail _ (.tail _ (.tail _ (.tail _ (.tail _ (.tail _ (.tail _ (.tail _ (.tail _ (.tail _ (.tail _ (.tail _ (.tail _ (.tail _ (.tail _ (.tail _ (.tail _ (.tail _ (.tail _ (.tail _ (.tail _ (.tail _ (.tail _ (.head _)))))))))))))))))))))))))))))))))))))))))), h⟩
theorem g_law_text {C : PV → Prop} (h : C (.fn 53)) : GLO thePr (Str.ofString "_law_text") C := ⟨_, .tail _ (.tail _ (.tail _ (.tail _ (.tail _ (.tail _ (.tail _ (.tail _ (.tail _ (.tail _ (.tail _ (.tail _ (.tail _ (.tail _ (.tail _ (.tail _ (.tail _ (.tail _ (.tail _ (.tail _ (.tail _ (.tail _ (.tail _ (.tail _ (.tail _ (.tail _ (.tail _ (.tail _ (.tail _ (.tail _ (.tail _ (.tail _ (.tail _ (.tail _ (.tail _ (.tail _ (.tail _ (.tail _ (.tail _ (.tail _ (.tail _ (.tail _ (.tail _ (.head _))))))))))))))))))))))))))))))))))))))))))), h⟩
theorem g_law_small_right {C : PV → Prop} (h : C (.fn 54)) : GLO thePr (Str.ofString "_law_small_right") C := ⟨_, .tail _ (.tail _ (.tail _ (.tail _ (.tail _ (.tail _ (.tail _ (.tail _ (.tail _ (.tail _ (.tail _ (.tail _ (.tail _ (.tail _ (.tail _ (.tail _ (.tail _ (.tail _ (.tail _ (.tail _ (.tail _ (.tail _ (.tail _ (.tail _ (.tail _ (.tail _ (.tail _ (.tail _ (.tail _ (.tail _ (.tail _ (.tail _ (.tail _ (.tail _ (.tail _ (.tail _ (.tail _ (.tail _ (.tail _ (.tail _ (.tail _ (.tail _ (.tail _ (.tail _ (.head _)))))))))))))))))))))))))))))))))))))))))))), h⟩
theorem b_int {C : PV → Prop} (h : C (.raw (.type "int"))) : BLT thePr (Str.ofString "int") C := ⟨_, .head _, by first | exact boot_int | exact PyProof.Rows.boot_int | decide +kernel, h⟩
theorem b_len {C : PV → Prop} (h : C (.raw (.builtin "len"))) : BLT thePr (Str.ofString "len") C := ⟨_, .tail _ (.head _), by first | exact boot_len | exact PyProof.Rows.boot_len | decide +kernel, h⟩
theorem b_max {C : PV → Prop} (h : C (.raw (.builtin "max"))) : BLT thePr (Str.ofString "max") C := ⟨_, .tail _ (.tail _ (.head _)), by first | exact boot_max | exact PyProof.Rows.boot_max | decide +kernel, h⟩
theorem b_min {C : PV → Prop} (h : C (.raw (.builtin "min"))) : BLT thePr (Str.ofString "min") C := ⟨_, .tail _ (.tail _ (.tail _ (.head _))), by first | exact boot_min | exact PyProof.Rows.boot_min | decide +kernel, h⟩
theorem b_abs {C : PV → Prop} (h : C (.raw (.builtin "abs"))) : BLT thePr (Str.ofString "abs") C := ⟨_, .tail _ (.tail _ (.tail _ (.tail _ (.head _)))), by first | exact boot_abs | exact PyProof.Rows.boot_abs | decide +kernel, h⟩
theorem b_range {C : PV → Prop} (h : C (.raw (.type "range"))) : BLT thePr (Str.ofString "range") C := ⟨_, .tail _ (.tail _ (.tail _ (.tail _ (.tail _ (.head _))))), by first | exact boot_range | exact PyProof.Rows.boot_range | decide +kernel, h⟩
theorem b_divmod {C : PV → Prop} (h : C (.raw (.builtin "divmod"))) : BLT thePr (Str.ofString "divmod") C := ⟨_, .tail _ (.tail _ (.tail _ (.tail _ (.tail _ (.tail _ (.head _)))))), by first | exact boot_divmod | exact PyProof.Rows.boot_divmod | decide +kernel, h⟩
theorem b_isinstance {C : PV → Prop} (h : C (.raw (.builtin "isinstance"))) : BLT thePr (Str.ofString "isinstance") C := ⟨_, .tail _ (.tail _ (.tail _ (.tail _ (.tail _ (.tail _ (.tail _ (.head _))))))), by first | exact boot_isinstance | exact PyProof.Rows.boot_isinstance | decide +kernel, h⟩
theorem b_pow {C : PV → Prop} (h : C (.raw (.builtin "pow"))) : BLT thePr (Str.ofString "pow") C := ⟨_, .tail _ (.tail _ (.tail _ (.tail _ (.tail _ (.tail _ (.tail _ (.tail _ (.head _)))))))), by first | exact boot_pow | exact PyProof.Rows.boot_pow | decide +kernel, h⟩
theorem b_str {C : PV → Prop} (h : C (.raw (.type "str"))) : BLT thePr (Str.ofString "str") C := ⟨_, .tail _ (.tail _ (.tail _ (.tail _ (.tail _ (.tail _ (.tail _ (.tail _ (.tail _ (.head _))))))))), by first | exact boot_str | exact PyProof.Rows.boot_str | decide +kernel, h⟩
theorem b_sum {C : PV → Prop} (h : C (.raw (.builtin "sum"))) : BLT thePr (Str.ofString "sum") C := ⟨_, .tail _ (.tail _ (.tail _ (.tail _ (.tail _ (.tail _ (.tail _ (.tail _ (.tail _ (.tail _ (.head _)))))))))), by first | exact boot_sum | exact PyProof.Rows.boot_sum | decide +kernel, h⟩
theorem sok4 : ScopeOk 4 nm4 := ⟨rfl, by decide +kernel, rfl, rfl, rfl, by decide, by decide +kernel⟩
theorem sok5 : ScopeOk 5 nm5 := ⟨rfl, by decide +kernel, rfl, rfl, rfl, by decide, by decide +kernel⟩
theorem sok7 : ScopeOk 7 nm7 := ⟨rfl, by decide +kernel, rfl, rfl, rfl, by decide, by decide +kernel⟩
theorem sok8 : ScopeOk 8 nm8 := ⟨rfl, by decide +kernel, rfl, rfl, rfl, by decide, by decide +kernel⟩
theorem sok16 : ScopeOk 16 nm16 := ⟨rfl, by decide +kernel, rfl, rfl, rfl, by decide, by decide +kernel⟩
theorem sok17 : ScopeOk 17 nm17 := ⟨rfl, by decide +kernel, rfl, rfl, rfl, by decide, by decide +kernel⟩
theorem sok26 : ScopeOk 26 nm26 := ⟨rfl, by decide +kernel, rfl, rfl, rfl, by decide, by decide +kernel⟩
theorem sok27 : ScopeOk 27 nm27 := ⟨rfl, by decide +kernel, rfl, rfl, rfl, by decide, by decide +kernel⟩
theorem sok28 : ScopeOk 28 nm28 := ⟨rfl, by decide +kernel, rfl, rfl, rfl, by decide, by decide +kernel⟩
theorem sok29 : ScopeOk 29 nm29 := ⟨rfl, by decide +kernel, rfl, rfl, rfl, by decide, by decide +kernel⟩
theorem sok30 : ScopeOk 30 nm30 := ⟨rfl, by decide +kernel, rfl, rfl, rfl, by decide, by decide +kernel⟩
theorem sok31 : ScopeOk 31 nm31 := ⟨rfl, by decide +kernel, rfl, rfl, rfl, by decide, by decide +kernel⟩
theorem sok33 : ScopeOk 33 nm33 := ⟨rfl, by decide +kernel, rfl, rfl, rfl, by decide, by decide +kernel⟩
theorem sok36 : ScopeOk 36 nm36 := ⟨rfl, by decide +kernel, rfl, rfl, rfl, by decide, by decide +kernel⟩
theorem sok39 : ScopeOk 39 nm39 := ⟨rfl, by decide +kernel, rfl, rfl, rfl, by decide, by decide +kernel⟩
theorem sok40 : ScopeOk 40 nm40 := ⟨rfl, by decide +kernel, rfl, rfl, rfl, by decide, by decide +kernel⟩
theorem sok41 : ScopeOk 41 nm41 := ⟨rfl, by decide +kernel, rfl, rfl, rfl, by decide, by decide +kernel⟩
theorem sok42 : ScopeOk 42 nm42 := ⟨rfl, by decide +kernel, rfl, rfl, rfl, by decide, by decide +kernel⟩
theorem sok44 : ScopeOk 44 nm44 := ⟨rfl, by decide +kernel, rfl, rfl, rfl, by decide, by decide +kernel⟩
theorem sok47 : ScopeOk 47 nm47 := ⟨rfl, by decide +kernel, rfl, rfl, rfl, by decide, by decide +kernel⟩
theorem sok46 : ScopeOk 46 nm46 := ⟨rfl, by decide +kernel, rfl, rfl, rfl, by decide, by decide +kernel⟩
theorem sok48 : ScopeOk 48 nm48 := ⟨rfl, by decide +kernel, rfl, rfl, rfl, by decide, by decide +kernel⟩
theorem sok49 : ScopeOk 49 nm49 := ⟨rfl, by decide +kernel, rfl, rfl, rfl, by decide, by decide +kernel⟩
theorem sok50 : ScopeOk 50 nm50 := ⟨rfl, by decide +kernel, rfl, rfl, rfl, by decide, by decide +kernel⟩
theorem sok51 : ScopeOk 51 nm51 := ⟨rfl, by decide +kernel, rfl, rfl, rfl, by decide, by decide +kernel⟩
theorem sok52 : ScopeOk 52 nm52 := ⟨rfl, by decide +kernel, rfl, rfl, rfl, by decide, by decide +kernel⟩
theorem sok53 : ScopeOk 53 nm53 := ⟨rfl, by decide +kernel, rfl, rfl, rfl, by decide, by decide +kernel⟩
theorem sok54 : ScopeOk 54 nm54 := ⟨rfl, by decide +kernel, rfl, rfl, rfl, by decide, by decide +kernel⟩
theorem sok55 : ScopeOk 55 nm55 := ⟨rfl, by decide +kernel, rfl, rfl, rfl, by decide, by decide +kernel⟩
end Mine
end
section
open PySem PySem.W PySem.Calls PyProof.Rows
namespace Mine
section
variable {P : Prog} {S : Static P} {n k : Nat} {ns : Names} {vs vs' : Vals} {σ σ' : List PV} {μ : Option Addr} {L : Addr} {s s' : Shared}
variable {R : PV → Vals → List PV → Prop}
/-! methods -/
def GetM (S : Static P) (x : PV) (name : Str) (id : String) : Prop :=
  ∀ μ s a pl (A : Around) (Q : Value × List Value → Shared → Prop) (E : Value → Shared → Prop), Rep S.fa μ s.heap x a → Q (.builtin id, [a]) s → wpAny (model S.prog S.w) A (getMethod a name pl) Q E s
theorem ev_meth0 {o : PySem.Expr} {name : Str} {ap pos : Pos}
    (h : EV S n k ns vs σ o (fun x vs1 σ1 => ∃ id, GetM S x name id ∧ CallTo S n (.raw (.builtin id)) [x] σ1 (fun z σ3 => R z vs1 σ3)))
    (hmod : ∀ env, ∃ pl, eval (.Call (.Attribute o name ap) [] [] pos) env = (do
      let ov ← eval o env
      standAt ap.atName
      let (f, first) ← holding [ov] (getMethod ov name pl)
      callWith pos f first (backTo pos (starEach [] env)) []) := by intro _; with_unfolding_all exact ⟨_, rfl⟩) :
    EV S n k ns vs σ (.Call (.Attribute o name ap) [] [] pos) R := by
  intro μ L s F A Q E rm hQ
  obtain ⟨pl, he⟩ := hmod (envK S k L)
  refine MethodCall_ (pl := pl) (h μ L s F A _ E rm fun s1 a x vs1 σ1 h1 F1 X1 r => h1.choose_spec.1 μ s1 a pl A _ E r ?_) he
  exact callWith_method0 (h1.choose_spec.2 k ns vs1 μ L s1 _ _ F1 rfl ⟨_, _, rfl, r, rfl⟩ A Q E rm fun s3 v z σ3 hz F3 X3 rv => hQ s3 v z vs1 σ3 hz F3 (X1.trans X3) rv)
theorem ev_meth {o e : PySem.Expr} {name : Str} {ap pos : Pos} {rest : List PySem.Expr}
    (h : EV S n k ns vs σ o (fun x vs1 σ1 => ∃ id, GetM S x name id ∧ AV S n k ns vs1 σ1 (e :: rest) (fun xs vs2 σ2 => CallTo S n (.raw (.builtin id)) (x :: xs) σ2 (fun z σ3 => R z vs2 σ3))))
    (hpl : (e :: rest).all plainExpr = true := by with_unfolding_all rfl)
    (hmod : ∀ env, ∃ pl, eval (.Call (.Attribute o name ap) (e :: rest) [] pos) env = (do
      let ov ← eval o env
      standAt ap.atName
      let (f, first) ← holding [ov] (getMethod ov name pl)
      callWith pos f first (backTo pos (starEach (e :: rest) env)) []) := by intro _; with_unfolding_all exact ⟨_, rfl⟩) :
    EV S n k ns vs σ (.Call (.Attribute o name ap) (e :: rest) [] pos) R := by
  intro μ L s F A Q E rm hQ
  obtain ⟨pl, he⟩ := hmod (envK S k L)
  refine MethodCall_ (pl := pl) (h μ L s F A _ E rm fun s1 a x vs1 σ1 h1 F1 X1 r => h1.choose_spec.1 μ s1 a pl A _ E r ?_) he
  simp only [List.all_cons, Bool.and_eq_true] at hpl
  exact callWith_method1 (h1.choose_spec.2 pos μ L s1 F1 A _ E rm fun s2 as xs vs2 σ2 h2 F2 X2 ras =>
      h2 k ns vs2 μ L s2 _ _ F2 rfl ⟨_, _, rfl, F1.up X2 r, ras⟩ A Q E rm fun s3 v z σ3 hz F3 X3 rv => hQ s3 v z vs2 σ3 hz F3 (X1.trans (X2.trans X3)) rv) (starEach_plain hpl.1) (any_plain hpl.2)
/-! methods of whole numbers -/
theorem gm_bitlen {i : Int} : GetM S (.int i) (Str.ofString "bit_length") "int.bit_length" := fun μ s a pl A Q E ⟨_, ra⟩ hQ => by subst ra; exact getMethod_int_bit_length hQ
variable {R : PV → List PV → Prop} {i j : Int}
theorem ct_bitlen (h : R (.int (Builtin.Int.intBits i)) σ) : CallTo S n (.raw (.builtin "int.bit_length")) [.int i] σ R := by
  intro k ns vs μ L s fv as F rf ras A Q E rm hQ
  cases rf
  obtain ⟨_, _, rfl, ⟨_, rfl⟩, rfl⟩ := ras
  with_reducible refine call_int_bit_length ?_
  exact hQ _ _ _ _ h F.toks .toks ⟨_, rfl⟩
end
end Mine
end
section
open PySem PySem.W PySem.Calls PyProof.Rows
namespace Mine
section
variable {P : Prog} {S : Static P} {n k : Nat} {ns : Names} {vs vs' : Vals} {σ σ' : List PV} {μ : Option Addr} {L : Addr} {s s' : Shared}
variable {R : PV → List PV → Prop} {i j : Int} {x y z : Str}
theorem ct_int_int (h : R (.int i) σ) : CallTo S n (.raw (.type "int")) [.int i] σ R := by
  intro k ns vs μ L s fv as F rf ras A Q E rm hQ
  cases rf; obtain ⟨_, _, rfl, ⟨_, rfl⟩, rfl⟩ := ras
  with_reducible refine call_int_int ?_
  exact hQ _ _ _ _ h F .refl ⟨_, rfl⟩
theorem ct_len_str (hx : x.length ≤ 1000000) (h : R (.int x.length) σ) : CallTo S n (.raw (.builtin "len")) [.str x] σ R := by
  intro k ns vs μ L s fv as F rf ras A Q E rm hQ
  cases rf; obtain ⟨_, _, rfl, ⟨_, rfl⟩, rfl⟩ := ras
  with_reducible refine PyProof.Rows.len_str (by omega) ?_
  exact hQ _ _ _ _ h F.toks .toks ⟨_, rfl⟩
theorem ct_abs (h : R (.int (if i < 0 then -i else i)) σ) : CallTo S n (.raw (.builtin "abs")) [.int i] σ R := by
  intro k ns vs μ L s fv as F rf ras A Q E rm hQ
  cases rf; obtain ⟨_, _, rfl, ⟨_, rfl⟩, rfl⟩ := ras
  exact call_abs_int (fun _ _ => hQ _ _ _ _ h F.toks .toks ⟨_, rfl⟩)
theorem ct_max (h : R (.int (if j > i then j else i)) σ) : CallTo S n (.raw (.builtin "max")) [.int i, .int j] σ R := by
  intro k ns vs μ L s fv as F rf ras A Q E rm hQ
  cases rf; obtain ⟨_, _, rfl, ⟨_, rfl⟩, _, _, rfl, ⟨_, rfl⟩, rfl⟩ := ras
  obtain ⟨m, news, F', N', ad⟩ := F.adapt
  refine max_two_N rm.handled F' N' fun h' tk F2 N2 => ?_
  obtain ⟨F3, X3⟩ := ad h' F2 (fun p hp => (N2 p hp).1) tk
  exact hQ _ _ _ _ h F3 X3 ⟨_, rfl⟩
theorem ct_min (h : R (.int (if j < i then j else i)) σ) : CallTo S n (.raw (.builtin "min")) [.int i, .int j] σ R := by
  intro k ns vs μ L s fv as F rf ras A Q E rm hQ
  cases rf; obtain ⟨_, _, rfl, ⟨_, rfl⟩, _, _, rfl, ⟨_, rfl⟩, rfl⟩ := ras
  obtain ⟨m, news, F', N', ad⟩ := F.adapt
  refine min_two_N rm.handled F' N' fun h' tk F2 N2 => ?_
  obtain ⟨F3, X3⟩ := ad h' F2 (fun p hp => (N2 p hp).1) tk
  exact hQ _ _ _ _ h F3 X3 ⟨_, rfl⟩
theorem ct_divmod (h0 : j ≠ 0) (hj : Fit j) (h : R (.tup [.int (i.fdiv j), .int (i.fmod j)]) σ) : CallTo S n (.raw (.builtin "divmod")) [.int i, .int j] σ R := by
  intro k ns vs μ L s fv as F rf ras A Q E rm hQ
  cases rf; obtain ⟨_, _, rfl, ⟨_, rfl⟩, _, _, rfl, ⟨_, rfl⟩, rfl⟩ := ras
  obtain ⟨m, news, F', N', ad⟩ := F.adapt
  refine divmod_N (hp := .inl (PyProof.noPylong_of_log2 hj.log2)) F' N' h0 fun h' F2 N2 => ?_
  obtain ⟨F3, X3⟩ := ad h' F2 (fun p hp => (N2 p (.tail _ hp)).1) (s.toks + 1 + 1)
  exact hQ _ _ _ _ h F3 X3 ⟨_, [_, _], 0, rfl, F.fresh, (N2 _ (.head _)).1, _, _, rfl, ⟨_, rfl⟩, _, _, rfl, ⟨_, rfl⟩, rfl⟩
theorem ct_range1 (h : R (.range 0 i) σ) : CallTo S n (.raw (.type "range")) [.int i] σ R := by
  intro k ns vs μ L s fv as F rf ras A Q E rm hQ
  cases rf; obtain ⟨_, _, rfl, ⟨_, rfl⟩, rfl⟩ := ras
  with_reducible refine call_range_1 ?_
  exact hQ _ _ _ _ h (F.push _) ⟨.of_keep fun _ _ e => Heap.get?_push_of_some _ e, rfl⟩ ⟨_, _, _, _, rfl, F.fresh, Heap.get?_push_size _ rfl⟩
theorem ct_range2 (h : R (.range i j) σ) : CallTo S n (.raw (.type "range")) [.int i, .int j] σ R := by
  intro k ns vs μ L s fv as F rf ras A Q E rm hQ
  cases rf; obtain ⟨_, _, rfl, ⟨_, rfl⟩, _, _, rfl, ⟨_, rfl⟩, rfl⟩ := ras
  with_reducible refine call_range_2 ?_
  exact hQ _ _ _ _ h (F.push _) ⟨.of_keep fun _ _ e => Heap.get?_push_of_some _ e, rfl⟩ ⟨_, _, _, _, rfl, F.fresh, Heap.get?_push_size _ rfl⟩
theorem ct_isinst_int (h : R (.bool true) σ) : CallTo S n (.raw (.builtin "isinstance")) [.int i, .raw (.type "int")] σ R := by
  intro k ns vs μ L s fv as F rf ras A Q E rm hQ
  cases rf; obtain ⟨_, _, rfl, ⟨_, rfl⟩, _, _, rfl, hr, rfl⟩ := ras
  cases hr
  with_reducible refine call_isinstance_yes (typeIs_int _ _ _) meta_int sub_int_int ?_
  exact hQ _ _ _ _ h F .refl rfl
theorem ct_int_text (hn : PySem.intText? x = some i) (hl : x.length ≤ 640) (h : R (.int i) σ) : CallTo S n (.raw (.type "int")) [.str x] σ R := by
  intro k ns vs μ L s fv as F rf ras A Q E rm hQ
  cases rf; obtain ⟨_, _, rfl, ⟨_, rfl⟩, rfl⟩ := ras
  with_reducible refine KIN.call_text hn hl ?_
  exact hQ _ _ _ _ h F.toks .toks ⟨_, rfl⟩
/-! methods of texts -/
section
theorem gm_lower : GetM S (.str x) (Str.ofString "lower") "str.lower" := fun μ s a pl A Q E ⟨_, ra⟩ hQ => by subst ra; with_reducible exact GM.lower hQ
theorem gm_strip : GetM S (.str x) (Str.ofString "strip") "str.strip" := fun μ s a pl A Q E ⟨_, ra⟩ hQ => by subst ra; with_reducible exact GM.strip hQ
theorem gm_rstrip : GetM S (.str x) (Str.ofString "rstrip") "str.rstrip" := fun μ s a pl A Q E ⟨_, ra⟩ hQ => by subst ra; with_reducible exact GM.rstrip hQ
theorem gm_replace : GetM S (.str x) (Str.ofString "replace") "str.replace" := fun μ s a pl A Q E ⟨_, ra⟩ hQ => by subst ra; with_reducible exact GM.replace hQ
theorem gm_split : GetM S (.str x) (Str.ofString "split") "str.split" := fun μ s a pl A Q E ⟨_, ra⟩ hQ => by subst ra; with_reducible exact GM.split hQ
theorem gm_find : GetM S (.str x) (Str.ofString "find") "str.find" := fun μ s a pl A Q E ⟨_, ra⟩ hQ => by subst ra; with_reducible exact GM.find hQ
theorem gm_index : GetM S (.str x) (Str.ofString "index") "str.index" := fun μ s a pl A Q E ⟨_, ra⟩ hQ => by subst ra; with_reducible exact GM.index hQ
theorem gm_join : GetM S (.str x) (Str.ofString "join") "str.join" := fun μ s a pl A Q E ⟨_, ra⟩ hQ => by subst ra; with_reducible exact GM.join hQ
theorem gm_startswith : GetM S (.str x) (Str.ofString "startswith") "str.startswith" := fun μ s a pl A Q E ⟨_, ra⟩ hQ => by subst ra; with_reducible exact GM.startswith hQ
end
theorem ct_lower (hx : x.length ≤ 1000000) (h : R (.str (Txt.lower x)) σ) : CallTo S n (.raw (.builtin "str.lower")) [.str x] σ R := by
  intro k ns vs μ L s fv as F rf ras A Q E rm hQ
  cases rf; obtain ⟨_, _, rfl, ⟨_, rfl⟩, rfl⟩ := ras
  exact SCL.lower (by omega) fun _ => hQ _ _ _ _ h F.toks .toks ⟨_, rfl⟩
theorem ct_strip (hx : x.length ≤ 1000000) (h : R (.str (Txt.strip x)) σ) : CallTo S n (.raw (.builtin "str.strip")) [.str x] σ R := by
  intro k ns vs μ L s fv as F rf ras A Q E rm hQ
  cases rf; obtain ⟨_, _, rfl, ⟨_, rfl⟩, rfl⟩ := ras
  exact SC.strip (fun _ _ => hQ _ _ _ _ h F.toks .toks ⟨_, rfl⟩) (by rw [sizeLine_eq]; omega)
theorem ct_rstrip (hx : x.length ≤ 1000000) (h : R (.str (Txt.rstripChars x y)) σ) : CallTo S n (.raw (.builtin "str.rstrip")) [.str x, .str y] σ R := by
  intro k ns vs μ L s fv as F rf ras A Q E rm hQ
  cases rf; obtain ⟨_, _, rfl, ⟨_, rfl⟩, _, _, rfl, ⟨_, rfl⟩, rfl⟩ := ras
  exact SC.rstripChars (fun _ _ => hQ _ _ _ _ h F.toks .toks ⟨_, rfl⟩) (by rw [sizeLine_eq]; omega)
theorem ct_find (h : R (.int (Txt.find x y)) σ) : CallTo S n (.raw (.builtin "str.find")) [.str x, .str y] σ R := by
  intro k ns vs μ L s fv as F rf ras A Q E rm hQ
  cases rf; obtain ⟨_, _, rfl, ⟨_, rfl⟩, _, _, rfl, ⟨_, rfl⟩, rfl⟩ := ras
  with_reducible refine SC.find ?_
  exact hQ _ _ _ _ h F.toks .toks ⟨_, rfl⟩
theorem ct_index {i : Nat} {rest : List Nat} (ho : Builtin.Str.occurrences x y 0 x.length 1 = i :: rest) (h : R (.int i) σ) : CallTo S n (.raw (.builtin "str.index")) [.str x, .str y] σ R := by
  intro k ns vs μ L s fv as F rf ras A Q E rm hQ
  cases rf; obtain ⟨_, _, rfl, ⟨_, rfl⟩, _, _, rfl, ⟨_, rfl⟩, rfl⟩ := ras
  with_reducible refine SC.index ho ?_
  exact hQ _ _ _ _ h F.toks .toks ⟨_, rfl⟩
theorem gives_replace_none {t u v : Tok} (ho : (Builtin.Str.occurrences x y 0 x.length (x.length + 1)).isEmpty = true) : Gives (Builtin.«str.replace» ⟨[.str x t, .str y u, .str z v], []⟩) (.val (.str x t)) := by
  show Gives (if ((Builtin.Str.occurrences x y 0 x.length (x.length + 1)).isEmpty || (y.length == 0 && z.length == 0)) = true then (do rule "str.replace.nothing"; ret (.str x t)) else _) _
  rw [ho]
  exact .rule (.of_eq rfl)
theorem ct_replace_none (ho : (Builtin.Str.occurrences x y 0 x.length (x.length + 1)).isEmpty = true) (h : R (.str x) σ) : CallTo S n (.raw (.builtin "str.replace")) [.str x, .str y, .str z] σ R := by
  intro k ns vs μ L s fv as F rf ras A Q E rm hQ
  cases rf; obtain ⟨_, _, rfl, ⟨_, rfl⟩, _, _, rfl, ⟨_, rfl⟩, _, _, rfl, ⟨_, rfl⟩, rfl⟩ := ras
  with_reducible refine call_gives PySem.F.slot_str_replace (typeIs_str _ _ _) PySem.F.entry_str_replace (PySem.F.args_str_replace_3 _ _ _) (gives_replace_none ho) ?_
  exact hQ _ _ _ _ h F .refl ⟨_, rfl⟩
theorem repL_strs {fa : Nat → Addr} {h : Heap} : ∀ l : List (Str × Tok), RepL fa μ h (l.map fun p => .str p.1) (strValues l)
  | [] => rfl
  | (x, t) :: r => ⟨_, _, rfl, ⟨t, rfl⟩, repL_strs r⟩
theorem ct_split (hx : x.length ≤ 1000000) (hy : (y.length == 0) = false) (h : R (.lst ((Txt.split x y).map .str)) σ) : CallTo S n (.raw (.builtin "str.split")) [.str x, .str y] σ R := by
  intro k ns vs μ L s fv as F rf ras A Q E rm hQ
  cases rf; obtain ⟨_, _, rfl, ⟨_, rfl⟩, _, _, rfl, ⟨_, rfl⟩, rfl⟩ := ras
  obtain ⟨m, news, F', N', ad⟩ := F.adapt
  refine splitN1A F' N' hy (fun l h' tk e1 _ _ _ F2 N2 => ?_) (by rw [sizeLine_eq]; omega)
  obtain ⟨F3, X3⟩ := ad h' F2 (fun p hp => (N2 p (.tail _ hp)).1) tk
  refine hQ _ _ _ _ h F3 X3 ⟨_, strValues l, 0, rfl, F.fresh, (N2 _ (.head _)).1, ?_⟩
  have := repL_strs (fa := S.fa) (μ := μ) (h := h') l
  rw [← e1, List.map_map]
  exact this
theorem ct_len_lst {l : List PV} (hl : l.length ≤ 1000000) (h : R (.int l.length) σ) : CallTo S n (.raw (.builtin "len")) [.lst l] σ R := by
  intro k ns vs μ L s fv as F rf ras A Q E rm hQ
  cases rf; obtain ⟨_, _, rfl, ⟨a, xs, nn, rfl, _, hg, hr⟩, rfl⟩ := ras
  have e : xs.toArray.size = l.length := by rw [List.size_toArray, hr.length]
  have hq := hQ { s with toks := s.toks + 1 + 1 } (.int xs.toArray.size (s.toks + 1)) (.int l.length) σ h F.toks .toks ⟨_, by rw [e]⟩
  exact Calls.call_len_list ⟨_, hg, rfl, nn, rfl⟩ (by rw [e]; omega) hq
end
end Mine
end
section
open PySem PySem.W PySem.Calls PyProof.Rows
namespace Mine
theorem subscripted_ops (slice : PySem.Expr) (o i : Value) : ∃ ops, subscripted slice false o i = operate ops (getItem o i) := by
  unfold subscripted
  split
  · exact ⟨_, rfl⟩
  · rename_i h; cases h
  · exact ⟨_, rfl⟩
section
variable {P : Prog} {S : Static P} {n k : Nat} {ns : Names} {vs vs' : Vals} {σ σ' : List PV} {μ : Option Addr} {L : Addr} {s s' : Shared}
variable {R : PV → Vals → List PV → Prop} {x y z : Str} {i j : Int}
/-- an item, a cut -/
def GetTo (S : Static P) (n : Nat) (x y : PV) (R : PV → Prop) : Prop :=
  ∀ k ns vs σ μ L s a b, FS S μ L k ns vs σ s → Rep S.fa μ s.heap x a → Rep S.fa μ s.heap y b →
    (∃ T id, s.TypeIs a T ∧ typeLookup (.type T) "__getitem__" = pure (some (.builtin id))) ∧ OT S n k ns vs σ μ L s (getItem a b) R
theorem ev_sub {v ie : PySem.Expr} {pos : Pos} (h : EV S n k ns vs σ v (fun x vs1 σ1 => EV S n k ns vs1 σ1 ie (fun y vs2 σ2 => GetTo S n x y (fun z => R z vs2 σ2)))) :
    EV S n k ns vs σ (.Subscript v ie pos) R := by
  intro μ L s F A Q E rm hQ
  refine Subscript_ (h μ L s F A _ E rm fun s1 a x vs1 σ1 h1 F1 X1 ra => h1 μ L s1 F1 A _ E rm fun s2 b y vs2 σ2 h2 F2 X2 rb => ?_)
  obtain ⟨⟨T, id, hT, hl⟩, hg⟩ := h2 k ns vs2 σ2 μ L s2 a b F2 (F1.up X2 ra) rb
  obtain ⟨ops, hs⟩ := subscripted_ops ie a b
  exact tail_any hT hl (hg A _ E rm fun s3 v z hz F3 X3 rv => hQ s3 v z vs2 σ2 hz F3 (X1.trans (X2.trans X3)) rv) hs
/-- the parts of a cut -/
def PT (S : Static P) (n k : Nat) (ns : Names) (vs : Vals) (σ : List PV) (e : Option PySem.Expr) (R : Option Int → Vals → List PV → Prop) : Prop :=
  ∀ μ L s, FS S μ L k ns vs σ s → ∀ (A : Around) (Q E : Value → Shared → Prop), Room A n →
    (∀ s' (p : Option (Int × Tok)) vs' σ', R (p.map (·.1)) vs' σ' → FS S μ L k ns vs' σ' s' → Ext (some L) μ s s' → Q (partValue p) s') → wpAny (model S.prog S.w) A (evalPart e (envK S k L)) Q E s
theorem pt_none {R : Option Int → Vals → List PV → Prop} (h : R none vs σ) : PT S n k ns vs σ none R := fun μ L s F A Q E rm hQ => by
  rw [evalPart_none]; exact wpAny_pure (hQ s none vs σ h F .refl)
theorem pt_some {e : PySem.Expr} {R : Option Int → Vals → List PV → Prop} (h : EV S n k ns vs σ e (fun p v q => ∃ i, p = .int i ∧ R (some i) v q)) : PT S n k ns vs σ (some e) R := fun μ L s F A Q E rm hQ => by
  refine evalPart_some_step (h μ L s F A _ E rm fun s1 v p vs1 σ1 h1 F1 X1 r => ?_)
  obtain ⟨i, rfl, hi⟩ := h1
  obtain ⟨t, rfl⟩ := r
  exact hQ s1 (some (i, t)) vs1 σ1 hi F1 X1
theorem ev_slice {l u st : Option PySem.Expr} {pos : Pos} (h : PT S n k ns vs σ l (fun a v1 q1 => PT S n k ns v1 q1 u (fun b v2 q2 => PT S n k ns v2 q2 st (fun c v3 q3 => R (.sl a b c) v3 q3)))) :
    EV S n k ns vs σ (.Slice l u st pos) R := by
  intro μ L s F A Q E rm hQ
  refine wpAny_Slice (h μ L s F A _ E rm fun s1 a v1 q1 h1 F1 X1 => h1 μ L s1 F1 A _ E rm fun s2 b v2 q2 h2 F2 X2 => h2 μ L s2 F2 A _ E rm fun s3 c v3 q3 h3 F3 X3 => ?_)
  exact hQ _ _ _ _ _ h3 (F3.push _) (X1.trans (X2.trans (X3.trans ⟨.of_keep fun _ _ e => Heap.get?_push_of_some _ e, rfl⟩))) ⟨_, a, b, c, rfl, F3.fresh, rfl, rfl, rfl, Heap.get?_push_size _ rfl⟩
variable {R : PV → Prop}
theorem sub_str {c : Nat} (hi : -(2 ^ 63) ≤ i) (hi' : i < 2 ^ 63) (hc : (seqIndex? i x.length).bind (x.cps[·]?) = some c) (h : R (.str ⟨#[c]⟩)) : GetTo S n (.str x) (.int i) R := by
  intro k ns vs σ μ L s a b F ⟨_, ra⟩ ⟨_, rb⟩
  subst ra rb
  refine ⟨⟨"str", _, typeIs_str _ _ _, PySem.F.slot_str_getitem.lookup⟩, fun A Q E rm hQ => ?_⟩
  exact getItem_str (by simp; omega) hc (hQ _ _ _ h F.toks .toks ⟨_, rfl⟩)
theorem RepL.get {fa : Nat → Addr} {h : Heap} : ∀ {ps : List PV} {xs : List Value} {j : Nat} {p : PV}, RepL fa μ h ps xs → ps[j]? = some p → ∃ v, xs[j]? = some v ∧ Rep fa μ h p v
  | _ :: _, _, 0, _, ⟨v, r, e, h1, _⟩, hj => by simp at hj; subst hj; exact ⟨v, by rw [e]; rfl, h1⟩
  | _ :: _, _, j + 1, _, ⟨v, r, e, _, h2⟩, hj => by
    simp at hj
    obtain ⟨w, e1, e2⟩ := h2.get hj
    exact ⟨w, by rw [e]; simpa using e1, e2⟩
theorem sub_tup {l : List PV} {p : PV} {j : Nat} (hi : -(2 ^ 63) ≤ i) (hi' : i < 2 ^ 63) (hj : seqIndex? i l.length = some j) (hp : l[j]? = some p) (h : R p) : GetTo S n (.tup l) (.int i) R := by
  intro k ns vs σ μ L s a b F ⟨ad, xs, nn, ra, _, hg, hr⟩ ⟨_, rb⟩
  subst ra rb
  have ht : IsTup s.heap ad xs.toArray := ⟨_, hg, rfl, nn, rfl⟩
  refine ⟨⟨"tuple", _, ⟨_, hg, rfl⟩, slot_tuple_getitem.lookup⟩, fun A Q E rm hQ => ?_⟩
  obtain ⟨v, e1, e2⟩ := hr.get hp
  exact getItem_tuple ht hi hi' (by rw [List.size_toArray, hr.length]; exact hj) (by simpa using e1) (hQ _ _ _ h F .refl e2)
theorem sub_lst {l : List PV} {p : PV} (h0 : 0 ≤ i) (hi' : i < 2 ^ 63) (hp : l[i.toNat]? = some p) (h : R p) : GetTo S n (.lst l) (.int i) R := by
  intro k ns vs σ μ L s a b F ⟨ad, xs, nn, ra, _, hg, hr⟩ ⟨_, rb⟩
  subst ra rb
  refine ⟨⟨"list", _, ⟨_, hg, rfl⟩, slot_list_getitem.lookup⟩, fun A Q E rm hQ => ?_⟩
  obtain ⟨v, e1, e2⟩ := hr.get hp
  exact wpAny_getItem_list ⟨_, hg, rfl, nn, rfl⟩ h0 hi' (by simpa using e1) (hQ _ _ _ h F .refl e2)
/-- a cut of a text -/
def sliceBy (x : Str) (l u : Option Int) (st : Int) : Str := ⟨((Builtin.Str.strSliceIndices l u st x.length).filterMap (x.cps[·]?)).toArray⟩
theorem sub_cut {l u st : Option Int} (h0 : (st.getD 1 == 0) = false) (hx : x.length ≤ 1000000)
    (h : R (.str (if (st.getD 1 == 1 && (Builtin.Str.strSliceIndices l u (st.getD 1) x.length).length == x.length) = true then x else sliceBy x l u (st.getD 1))))
    (hl : (Builtin.Str.strSliceIndices l u (st.getD 1) x.length).length ≤ x.length) : GetTo S n (.str x) (.sl l u st) R := by
  intro k ns vs σ μ L s a b F ⟨t, ra⟩ ⟨ad, l', u', s', rb, _, e1, e2, e3, hg⟩
  subst ra rb e1 e2 e3
  refine ⟨⟨"str", _, typeIs_str _ _ _, PySem.F.slot_str_getitem.lookup⟩, fun A Q E rm hQ => ?_⟩
  refine wpAny_getItem_str_slice ⟨_, hg, rfl, rfl⟩ h0 ?_
  unfold sliceMade slicePicked
  split
  · rename_i hc
    rw [if_pos hc] at h
    exact hQ _ _ _ h F .refl ⟨_, rfl⟩
  · rename_i hc
    rw [if_neg hc] at h
    refine ⟨?_, hQ _ _ _ h F.toks .toks ⟨_, rfl⟩⟩
    show (List.toArray _).size ≤ sizeLine
    rw [List.size_toArray, sizeLine_eq]
    have h1 := List.length_filterMap_le (fun i => x.cps[i]?) (Builtin.Str.strSliceIndices (l'.map (·.1)) (u'.map (·.1)) ((s'.map (·.1)).getD 1) x.length)
    omega
theorem sub_cut1 {l u : Option Int} (hx : x.length ≤ 1000000) (h : R (.str (Txt.slice x l u))) : GetTo S n (.str x) (.sl l u none) R :=
  sub_cut rfl hx (by unfold Txt.slice at h; exact h) (sliceIndices_le l u x.length)
end
theorem iftt {b : Bool} {X Y : Prop} (hb : b = true) (h : X) : (b = true → X) ∧ (b = false → Y) := ⟨fun _ => h, fun e => (by rw [hb] at e; cases e)⟩
theorem ifff {b : Bool} {X Y : Prop} (hb : b = false) (h : Y) : (b = true → X) ∧ (b = false → Y) := ⟨fun e => (by rw [hb] at e; cases e), fun _ => h⟩
theorem ifft {b : Bool} {X Y : Prop} (hb : b = false) (h : X) : (b = false → X) ∧ (b = true → Y) := ⟨fun _ => h, fun e => (by rw [hb] at e; cases e)⟩
theorem iftf {b : Bool} {X Y : Prop} (hb : b = true) (h : Y) : (b = false → X) ∧ (b = true → Y) := ⟨fun e => (by rw [hb] at e; cases e), fun _ => h⟩
/-! the changed list -/
section
variable {P : Prog} {S : Static P} {n k : Nat} {ns : Names} {vs vs' : Vals} {σ σ' : List PV} {μ : Option Addr} {L : Addr} {s s' : Shared}
variable {R : PV → Vals → List PV → Prop} {N B : Vals → List PV → Prop} {T : PV → List PV → Prop}
theorem ev_subm {v ie : PySem.Expr} {pos : Pos} (h : EV S n k ns vs σ v (fun x vs1 σ1 => x = .mref ∧ EV S n k ns vs1 σ1 ie (fun y vs2 σ2 => ∃ i p, y = .int i ∧ 0 ≤ i ∧ i < 2 ^ 63 ∧ σ2[i.toNat]? = some p ∧ R p vs2 σ2))) :
    EV S n k ns vs σ (.Subscript v ie pos) R := by
  intro μ L s F A Q E rm hQ
  refine Subscript_ (h μ L s F A _ E rm fun s1 a x vs1 σ1 h1 F1 X1 ra => h1.2 μ L s1 F1 A _ E rm fun s2 b y vs2 σ2 h2 F2 X2 rb => ?_)
  obtain ⟨rfl, _⟩ := h1
  obtain ⟨ad, rfl, hμ⟩ := ra
  obtain ⟨i, p, rfl, h0, hi, hp, hR⟩ := h2
  obtain ⟨t, rfl⟩ := rb
  obtain ⟨_, xs, hl, hr⟩ := F2.mu ad hμ
  obtain ⟨w, e1, e2⟩ := RepL.get hr hp
  obtain ⟨ops, hs⟩ := subscripted_ops ie (.ref ad) (.int i t)
  exact tail_any hl.isList.typeIs slot_list_getitem.lookup (wpAny_getItem_list hl.isList h0 hi (by simpa using e1) (hQ _ _ _ _ _ hR F2 (X1.trans X2) e2)) hs
theorem RepL.set {fa : Nat → Addr} {h : Heap} : ∀ {ps : List PV} {xs : List Value} {j : Nat} {p : PV} {v : Value}, RepL fa μ h ps xs → Rep fa μ h p v → RepL fa μ h (ps.set j p) (xs.set j v)
  | [], _, _, _, _, r, _ => by cases r; exact rfl
  | _ :: _, _, 0, _, _, ⟨_, _, e, _, h2⟩, r => by rw [e]; exact ⟨_, _, rfl, r, h2⟩
  | _ :: _, _, j + 1, _, _, ⟨_, _, e, h1, h2⟩, r => by rw [e]; exact ⟨_, _, rfl, h1, h2.set r⟩
/-- a change of the list itself -/
theorem setItem_plain {prog : Program} {w : World} {A : Around} {E : Value → Shared → Prop} {s : Shared} {l : Addr} {items : Array Value} {k : Int} {t : Tok} {v : Value} {Q : Unit → Shared → Prop} (hp : PlainAt s.heap l items)
    (h0 : 0 ≤ k) (hfit : k < 2 ^ 63) (hn : k < items.size)
    (hQ : ∀ h', PlainAt h' l (items.setIfInBounds k.toNat v) → Heap.SameBut l s.heap h' → Q () { s with heap := h' }) :
    wpAny (model prog w) A (setItem (.ref l) (.int k t) v) Q E s := by
  obtain ⟨o, ho, hdn, hc, ne, hd⟩ := id hp
  have hl := hp.isList
  unfold setItem
  try with_reducible refine wpAny_holding ?_
  first | refine wpAny_bind (wpAny_pure ?_) | skip
  refine wpAny_bind (wpAny_sequenceKey hl.typeIs (by decide) ?_)
  refine wpAny_bind (wpAny_callSpecial?_slot (name := Str.ofString "__setitem__") hl.typeIs slot_list_setitem
    (wpAny_call_entry slot_list_setitem hl.typeIs entry_list_setitem ?_ (args_list_setitem _ _ _)))
  show wpAny _ _ (Builtin.List.listSubscript? (.int k t) >>= _) _ _ s
  refine wpAny_bind (wpAny_listSubscript_int (fitsIndex_of h0 hfit) ?_)
  clear hfit
  obtain ⟨j, rfl⟩ := Int.eq_ofNat_of_zero_le h0
  have hj : j < items.size := by omega
  have hx' : items[j]? = some items[j] := Array.getElem?_eq_getElem hj
  show wpAny _ _ ((seqItemAt l j >>= fun r => pure (r.map (j, ·))) >>= _) _ _ s
  refine wpAny_bind (wpAny_bind (wpAny_seqItemAt ho hd (wpAny_pure ?_)))
  rw [hx']
  show wpAny _ _ (setSeqItemAt l j v >>= _) _ _ s
  obtain ⟨n', hd'⟩ := Obj.data_mapSeq hd (·.setIfInBounds j v)
  have hdn' : (Obj.mapSeq (·.setIfInBounds j v) o).dict = none := by
    obtain ⟨c, d, dt, sl⟩ := o
    subst hd
    exact hdn
  have hfin : PlainAt (s.heap.update l (Obj.mapSeq (·.setIfInBounds j v))) l (items.setIfInBounds j v) :=
    ⟨_, Heap.get?_update_self _ ho (Obj.isFreed_of_seq hd'), hdn', (Obj.cls_mapSeq ..).trans hc, n', hd'⟩
  refine wpAny_bind (wpAny_setSeqItemAt ho hd ?_)
  first
    | exact wpAny_bind (wpAny_pure (wpAny_pure ⟨.none, rfl, wpAny_pure (hQ _ hfin (Heap.SameBut.update ..))⟩))
    | exact wpAny_pure ⟨.none, rfl, wpAny_pure (hQ _ hfin (Heap.SameBut.update ..))⟩
theorem FS.turn {ad : Addr} {ys : List Value} {h' : Heap} (F : FS S μ L k ns vs σ s) (hμ : μ = some ad) (hl : PlainAt h' ad ys.toArray) (hs : Heap.SameBut ad s.heap h') (hr : RepL S.fa μ s.heap σ' ys) {tk : Nat} :
    FS S μ L k ns vs σ' { s with heap := h', toks := tk } ∧ Ext (some L) μ s { s with heap := h', toks := tk } := by
  obtain ⟨m, fr, hv⟩ := F.fr
  have hge := (F.mu ad hμ).1
  have hk : ∀ b o, b ≠ ad → s.heap.get? b = some o → h'.get? b = some o := fun b o hb e => (hs.2 b hb).trans e
  have hkR : KeepR μ s.heap h' := fun b o hm _ e => hk b o (fun q => hm (by rw [q, hμ])) e
  have hne : L ≠ ad := fun q => F.ne (by rw [hμ, q])
  refine ⟨⟨F.ok, ⟨m, ⟨?_, fun b o e => hk b o (fun q => ?_) (fr.keep b o e), fr.above⟩, hv.keepsR hkR⟩, fun a e => ?_, F.ne⟩, ⟨fun b o _ hm e => hk b o (fun q => hm (by rw [q, hμ])) e, rfl⟩⟩
  · obtain ⟨oL, es, ep, hL, r⟩ := fr.ns
    exact ⟨oL, es, ep, hk L oL hne hL, r⟩
  · exact Nat.lt_irrefl _ (Nat.lt_of_lt_of_le (Heap.lt_size e) (q ▸ hge))
  · rw [hμ] at e
    cases e
    exact ⟨hge, ys, hl, RepL.keepsR hkR hr⟩
theorem xt_setm {o ie e : PySem.Expr} {sp pos : Pos}
    (h : EV S n k ns vs σ e (fun p v1 q1 => EV S n k ns v1 q1 o (fun x v2 q2 => x = .mref ∧ EV S n k ns v2 q2 ie (fun y v3 q3 => ∃ i, y = .int i ∧ 0 ≤ i ∧ i < q3.length ∧ q3.length < 1000 ∧ N v3 (q3.set i.toNat p)))))
    (hp : plainValue e = true := by with_unfolding_all rfl) : XT S n k ns vs σ (.Assign [.Subscript o ie sp] e pos) N T B := by
  intro μ L s F A Q E rm hQ
  refine wpAny_Assign_Subscript (h μ L s F A _ E rm fun s1 v p v1 q1 h1 F1 X1 rp => h1 μ L s1 F1 A _ E rm fun s2 a x v2 q2 h2 F2 X2 ra => h2.2 μ L s2 F2 A _ E rm fun s3 b y v3 q3 h3 F3 X3 rb => ?_) (swaps_plain hp)
  obtain ⟨rfl, _⟩ := h2
  obtain ⟨ad, rfl, hμ⟩ := ra
  obtain ⟨i, rfl, h0, hi, hlt, hN⟩ := h3
  obtain ⟨t, rfl⟩ := rb
  obtain ⟨_, xs, hl, hr⟩ := F3.mu ad hμ
  have hlen := hr.length
  refine setItem_plain hl h0 (by omega) (by rw [List.size_toArray, hlen]; omega) fun h' hl' hs' => ?_
  have e1 : xs.toArray.setIfInBounds i.toNat v = (xs.set i.toNat v).toArray := by simp
  rw [e1] at hl'
  obtain ⟨F4, X4⟩ := F3.turn hμ hl' hs' (RepL.set hr (F2.up X3 (F1.up X2 rp))) (tk := s3.toks)
  exact hQ _ .next ⟨v3, _, hN, F4⟩ (X1.trans (X2.trans (X3.trans X4)))
end
end Mine
end
section
open PySem PySem.W PySem.Calls PyProof.Rows
namespace Mine
-- written by gen_bind.py
theorem bind4_1 : BindK 4 1 0 [Str.ofString "n"] := by
  intro fd as ds hp ha hd
  obtain ⟨_, _, _, _, _, _, _, _, _, _, _, _, _, _, _⟩ := fd
  cases hp
  rcases as with _ | ⟨a0, _ | _⟩ <;> simp at ha
  rcases ds with _ | _ <;> simp at hd
  exact ⟨_, rfl, rfl, fun h => by first | rfl | cases h⟩
theorem bind5_4 : BindK 5 4 0 [Str.ofString "x", Str.ofString "xbits", Str.ofString "base", Str.ofString "bdigits"] := by
  intro fd as ds hp ha hd
  obtain ⟨_, _, _, _, _, _, _, _, _, _, _, _, _, _, _⟩ := fd
  cases hp
  rcases as with _ | ⟨a0, _ | ⟨a1, _ | ⟨a2, _ | ⟨a3, _ | _⟩⟩⟩⟩ <;> simp at ha
  rcases ds with _ | _ <;> simp at hd
  exact ⟨_, rfl, rfl, fun h => by first | rfl | cases h⟩
theorem bind7_3 : BindK 7 3 2 [Str.ofString "n", Str.ofString "base", Str.ofString "digits"] := by
  intro fd as ds hp ha hd
  obtain ⟨_, _, _, _, _, _, _, _, _, _, _, _, _, _, _⟩ := fd
  cases hp
  rcases as with _ | ⟨a0, _ | ⟨a1, _ | ⟨a2, _ | _⟩⟩⟩ <;> simp at ha
  rcases ds with _ | ⟨d0, _ | ⟨d1, _ | _⟩⟩ <;> simp at hd
  exact ⟨_, rfl, rfl, fun h => by first | rfl | cases h⟩
theorem bind16_1 : BindK 16 1 0 [Str.ofString "n"] := by
  intro fd as ds hp ha hd
  obtain ⟨_, _, _, _, _, _, _, _, _, _, _, _, _, _, _⟩ := fd
  cases hp
  rcases as with _ | ⟨a0, _ | _⟩ <;> simp at ha
  rcases ds with _ | _ <;> simp at hd
  exact ⟨_, rfl, rfl, fun h => by first | rfl | cases h⟩
theorem bind17_1 : BindK 17 1 0 [Str.ofString "n"] := by
  intro fd as ds hp ha hd
  obtain ⟨_, _, _, _, _, _, _, _, _, _, _, _, _, _, _⟩ := fd
  cases hp
  rcases as with _ | ⟨a0, _ | _⟩ <;> simp at ha
  rcases ds with _ | _ <;> simp at hd
  exact ⟨_, rfl, rfl, fun h => by first | rfl | cases h⟩
theorem bind26_6 : BindK 26 6 0 [Str.ofString "sign", Str.ofString "man", Str.ofString "exp", Str.ofString "bc", Str.ofString "prec", Str.ofString "rnd"] := by
  intro fd as ds hp ha hd
  obtain ⟨_, _, _, _, _, _, _, _, _, _, _, _, _, _, _⟩ := fd
  cases hp
  rcases as with _ | ⟨a0, _ | ⟨a1, _ | ⟨a2, _ | ⟨a3, _ | ⟨a4, _ | ⟨a5, _ | _⟩⟩⟩⟩⟩⟩ <;> simp at ha
  rcases ds with _ | _ <;> simp at hd
  exact ⟨_, rfl, rfl, fun h => by first | rfl | cases h⟩
theorem bind27_6 : BindK 27 6 0 [Str.ofString "sign", Str.ofString "man", Str.ofString "exp", Str.ofString "bc", Str.ofString "prec", Str.ofString "rnd"] := by
  intro fd as ds hp ha hd
  obtain ⟨_, _, _, _, _, _, _, _, _, _, _, _, _, _, _⟩ := fd
  cases hp
  rcases as with _ | ⟨a0, _ | ⟨a1, _ | ⟨a2, _ | ⟨a3, _ | ⟨a4, _ | ⟨a5, _ | _⟩⟩⟩⟩⟩⟩ <;> simp at ha
  rcases ds with _ | _ <;> simp at hd
  exact ⟨_, rfl, rfl, fun h => by first | rfl | cases h⟩
theorem bind28_4 : BindK 28 4 2 [Str.ofString "man", Str.ofString "exp", Str.ofString "prec", Str.ofString "rnd"] := by
  intro fd as ds hp ha hd
  obtain ⟨_, _, _, _, _, _, _, _, _, _, _, _, _, _, _⟩ := fd
  cases hp
  rcases as with _ | ⟨a0, _ | ⟨a1, _ | ⟨a2, _ | ⟨a3, _ | _⟩⟩⟩⟩ <;> simp at ha
  rcases ds with _ | ⟨d0, _ | ⟨d1, _ | _⟩⟩ <;> simp at hd
  exact ⟨_, rfl, rfl, fun h => by first | rfl | cases h⟩
theorem bind29_1 : BindK 29 1 2 [Str.ofString "n", Str.ofString "prec", Str.ofString "rnd"] := by
  intro fd as ds hp ha hd
  obtain ⟨_, _, _, _, _, _, _, _, _, _, _, _, _, _, _⟩ := fd
  cases hp
  rcases as with _ | ⟨a0, _ | _⟩ <;> simp at ha
  rcases ds with _ | ⟨d0, _ | ⟨d1, _ | _⟩⟩ <;> simp at hd
  exact ⟨_, rfl, rfl, fun h => by first | rfl | cases h⟩
theorem bind29_3 : BindK 29 3 2 [Str.ofString "n", Str.ofString "prec", Str.ofString "rnd"] := by
  intro fd as ds hp ha hd
  obtain ⟨_, _, _, _, _, _, _, _, _, _, _, _, _, _, _⟩ := fd
  cases hp
  rcases as with _ | ⟨a0, _ | ⟨a1, _ | ⟨a2, _ | _⟩⟩⟩ <;> simp at ha
  rcases ds with _ | ⟨d0, _ | ⟨d1, _ | _⟩⟩ <;> simp at hd
  exact ⟨_, rfl, rfl, fun h => by first | rfl | cases h⟩
theorem bind30_4 : BindK 30 4 1 [Str.ofString "p", Str.ofString "q", Str.ofString "prec", Str.ofString "rnd"] := by
  intro fd as ds hp ha hd
  obtain ⟨_, _, _, _, _, _, _, _, _, _, _, _, _, _, _⟩ := fd
  cases hp
  rcases as with _ | ⟨a0, _ | ⟨a1, _ | ⟨a2, _ | ⟨a3, _ | _⟩⟩⟩⟩ <;> simp at ha
  rcases ds with _ | ⟨d0, _ | _⟩ <;> simp at hd
  exact ⟨_, rfl, rfl, fun h => by first | rfl | cases h⟩
theorem bind31_2 : BindK 31 2 0 [Str.ofString "s", Str.ofString "prec"] := by
  intro fd as ds hp ha hd
  obtain ⟨_, _, _, _, _, _, _, _, _, _, _, _, _, _, _⟩ := fd
  cases hp
  rcases as with _ | ⟨a0, _ | ⟨a1, _ | _⟩⟩ <;> simp at ha
  rcases ds with _ | _ <;> simp at hd
  exact ⟨_, rfl, rfl, fun h => by first | rfl | cases h⟩
theorem bind33_1 : BindK 33 1 2 [Str.ofString "s", Str.ofString "prec", Str.ofString "rnd"] := by
  intro fd as ds hp ha hd
  obtain ⟨_, _, _, _, _, _, _, _, _, _, _, _, _, _, _⟩ := fd
  cases hp
  rcases as with _ | ⟨a0, _ | _⟩ <;> simp at ha
  rcases ds with _ | ⟨d0, _ | ⟨d1, _ | _⟩⟩ <;> simp at hd
  exact ⟨_, rfl, rfl, fun h => by first | rfl | cases h⟩
theorem bind36_4 : BindK 36 4 1 [Str.ofString "s", Str.ofString "t", Str.ofString "prec", Str.ofString "rnd"] := by
  intro fd as ds hp ha hd
  obtain ⟨_, _, _, _, _, _, _, _, _, _, _, _, _, _, _⟩ := fd
  cases hp
  rcases as with _ | ⟨a0, _ | ⟨a1, _ | ⟨a2, _ | ⟨a3, _ | _⟩⟩⟩⟩ <;> simp at ha
  rcases ds with _ | ⟨d0, _ | _⟩ <;> simp at hd
  exact ⟨_, rfl, rfl, fun h => by first | rfl | cases h⟩
theorem bind39_3 : BindK 39 3 1 [Str.ofString "s", Str.ofString "dps", Str.ofString "base"] := by
  intro fd as ds hp ha hd
  obtain ⟨_, _, _, _, _, _, _, _, _, _, _, _, _, _, _⟩ := fd
  cases hp
  rcases as with _ | ⟨a0, _ | ⟨a1, _ | ⟨a2, _ | _⟩⟩⟩ <;> simp at ha
  rcases ds with _ | ⟨d0, _ | _⟩ <;> simp at hd
  exact ⟨_, rfl, rfl, fun h => by first | rfl | cases h⟩
theorem bind40_5 : BindK 40 5 2 [Str.ofString "sign", Str.ofString "digits", Str.ofString "dps", Str.ofString "base", Str.ofString "rnd", Str.ofString "fixed"] := by
  intro fd as ds hp ha hd
  obtain ⟨_, _, _, _, _, _, _, _, _, _, _, _, _, _, _⟩ := fd
  cases hp
  rcases as with _ | ⟨a0, _ | ⟨a1, _ | ⟨a2, _ | ⟨a3, _ | ⟨a4, _ | _⟩⟩⟩⟩⟩ <;> simp at ha
  rcases ds with _ | ⟨d0, _ | ⟨d1, _ | _⟩⟩ <;> simp at hd
  exact ⟨_, rfl, rfl, fun h => by first | rfl | cases h⟩
theorem bind41_9 : BindK 41 9 7 [Str.ofString "s", Str.ofString "dps", Str.ofString "strip_zeros", Str.ofString "min_fixed", Str.ofString "max_fixed", Str.ofString "show_zero_exponent", Str.ofString "base", Str.ofString "binary_exp", Str.ofString "rnd"] := by
  intro fd as ds hp ha hd
  obtain ⟨_, _, _, _, _, _, _, _, _, _, _, _, _, _, _⟩ := fd
  cases hp
  rcases as with _ | ⟨a0, _ | ⟨a1, _ | ⟨a2, _ | ⟨a3, _ | ⟨a4, _ | ⟨a5, _ | ⟨a6, _ | ⟨a7, _ | ⟨a8, _ | _⟩⟩⟩⟩⟩⟩⟩⟩⟩ <;> simp at ha
  rcases ds with _ | ⟨d0, _ | ⟨d1, _ | ⟨d2, _ | ⟨d3, _ | ⟨d4, _ | ⟨d5, _ | ⟨d6, _ | _⟩⟩⟩⟩⟩⟩⟩ <;> simp at hd
  exact ⟨_, rfl, rfl, fun h => by first | rfl | cases h⟩
theorem bind41_2 : BindK 41 2 7 [Str.ofString "s", Str.ofString "dps", Str.ofString "strip_zeros", Str.ofString "min_fixed", Str.ofString "max_fixed", Str.ofString "show_zero_exponent", Str.ofString "base", Str.ofString "binary_exp", Str.ofString "rnd"] := by
  intro fd as ds hp ha hd
  obtain ⟨_, _, _, _, _, _, _, _, _, _, _, _, _, _, _⟩ := fd
  cases hp
  rcases as with _ | ⟨a0, _ | ⟨a1, _ | _⟩⟩ <;> simp at ha
  rcases ds with _ | ⟨d0, _ | ⟨d1, _ | ⟨d2, _ | ⟨d3, _ | ⟨d4, _ | ⟨d5, _ | ⟨d6, _ | _⟩⟩⟩⟩⟩⟩⟩ <;> simp at hd
  exact ⟨_, rfl, rfl, fun h => by first | rfl | cases h⟩
theorem bind42_2 : BindK 42 2 1 [Str.ofString "x", Str.ofString "base"] := by
  intro fd as ds hp ha hd
  obtain ⟨_, _, _, _, _, _, _, _, _, _, _, _, _, _, _⟩ := fd
  cases hp
  rcases as with _ | ⟨a0, _ | ⟨a1, _ | _⟩⟩ <;> simp at ha
  rcases ds with _ | ⟨d0, _ | _⟩ <;> simp at hd
  exact ⟨_, rfl, rfl, fun h => by first | rfl | cases h⟩
theorem bind44_3 : BindK 44 3 3 [Str.ofString "x", Str.ofString "prec", Str.ofString "rnd", Str.ofString "base"] := by
  intro fd as ds hp ha hd
  obtain ⟨_, _, _, _, _, _, _, _, _, _, _, _, _, _, _⟩ := fd
  cases hp
  rcases as with _ | ⟨a0, _ | ⟨a1, _ | ⟨a2, _ | _⟩⟩⟩ <;> simp at ha
  rcases ds with _ | ⟨d0, _ | ⟨d1, _ | ⟨d2, _ | _⟩⟩⟩ <;> simp at hd
  exact ⟨_, rfl, rfl, fun h => by first | rfl | cases h⟩
theorem bind47_2 : BindK 47 2 0 [Str.ofString "state", Str.ofString "many"] := by
  intro fd as ds hp ha hd
  obtain ⟨_, _, _, _, _, _, _, _, _, _, _, _, _, _, _⟩ := fd
  cases hp
  rcases as with _ | ⟨a0, _ | ⟨a1, _ | _⟩⟩ <;> simp at ha
  rcases ds with _ | _ <;> simp at hd
  exact ⟨_, rfl, rfl, fun h => by first | rfl | cases h⟩
theorem bind46_1 : BindK 46 1 0 [Str.ofString "script"] := by
  intro fd as ds hp ha hd
  obtain ⟨_, _, _, _, _, _, _, _, _, _, _, _, _, _, _⟩ := fd
  cases hp
  rcases as with _ | ⟨a0, _ | _⟩ <;> simp at ha
  rcases ds with _ | _ <;> simp at hd
  exact ⟨_, rfl, rfl, fun h => by first | rfl | cases h⟩
theorem bind48_4 : BindK 48 4 0 [Str.ofString "over", Str.ofString "under", Str.ofString "bits", Str.ofString "way"] := by
  intro fd as ds hp ha hd
  obtain ⟨_, _, _, _, _, _, _, _, _, _, _, _, _, _, _⟩ := fd
  cases hp
  rcases as with _ | ⟨a0, _ | ⟨a1, _ | ⟨a2, _ | ⟨a3, _ | _⟩⟩⟩⟩ <;> simp at ha
  rcases ds with _ | _ <;> simp at hd
  exact ⟨_, rfl, rfl, fun h => by first | rfl | cases h⟩
theorem bind49_2 : BindK 49 2 0 [Str.ofString "base", Str.ofString "many"] := by
  intro fd as ds hp ha hd
  obtain ⟨_, _, _, _, _, _, _, _, _, _, _, _, _, _, _⟩ := fd
  cases hp
  rcases as with _ | ⟨a0, _ | ⟨a1, _ | _⟩⟩ <;> simp at ha
  rcases ds with _ | _ <;> simp at hd
  exact ⟨_, rfl, rfl, fun h => by first | rfl | cases h⟩
theorem bind50_2 : BindK 50 2 0 [Str.ofString "whole", Str.ofString "deep"] := by
  intro fd as ds hp ha hd
  obtain ⟨_, _, _, _, _, _, _, _, _, _, _, _, _, _, _⟩ := fd
  cases hp
  rcases as with _ | ⟨a0, _ | ⟨a1, _ | _⟩⟩ <;> simp at ha
  rcases ds with _ | _ <;> simp at hd
  exact ⟨_, rfl, rfl, fun h => by first | rfl | cases h⟩
theorem bind51_3 : BindK 51 3 0 [Str.ofString "over", Str.ofString "under", Str.ofString "base"] := by
  intro fd as ds hp ha hd
  obtain ⟨_, _, _, _, _, _, _, _, _, _, _, _, _, _, _⟩ := fd
  cases hp
  rcases as with _ | ⟨a0, _ | ⟨a1, _ | ⟨a2, _ | _⟩⟩⟩ <;> simp at ha
  rcases ds with _ | _ <;> simp at hd
  exact ⟨_, rfl, rfl, fun h => by first | rfl | cases h⟩
theorem bind52_6 : BindK 52 6 0 [Str.ofString "over", Str.ofString "under", Str.ofString "minus", Str.ofString "many", Str.ofString "base", Str.ofString "way"] := by
  intro fd as ds hp ha hd
  obtain ⟨_, _, _, _, _, _, _, _, _, _, _, _, _, _, _⟩ := fd
  cases hp
  rcases as with _ | ⟨a0, _ | ⟨a1, _ | ⟨a2, _ | ⟨a3, _ | ⟨a4, _ | ⟨a5, _ | _⟩⟩⟩⟩⟩⟩ <;> simp at ha
  rcases ds with _ | _ <;> simp at hd
  exact ⟨_, rfl, rfl, fun h => by first | rfl | cases h⟩
theorem bind53_9 : BindK 53 9 0 [Str.ofString "digits", Str.ofString "place", Str.ofString "minus", Str.ofString "many", Str.ofString "base", Str.ofString "low", Str.ofString "high", Str.ofString "is_struck", Str.ofString "is_shown"] := by
  intro fd as ds hp ha hd
  obtain ⟨_, _, _, _, _, _, _, _, _, _, _, _, _, _, _⟩ := fd
  cases hp
  rcases as with _ | ⟨a0, _ | ⟨a1, _ | ⟨a2, _ | ⟨a3, _ | ⟨a4, _ | ⟨a5, _ | ⟨a6, _ | ⟨a7, _ | ⟨a8, _ | _⟩⟩⟩⟩⟩⟩⟩⟩⟩ <;> simp at ha
  rcases ds with _ | _ <;> simp at hd
  exact ⟨_, rfl, rfl, fun h => by first | rfl | cases h⟩
theorem bind54_1 : BindK 54 1 0 [Str.ofString "state"] := by
  intro fd as ds hp ha hd
  obtain ⟨_, _, _, _, _, _, _, _, _, _, _, _, _, _, _⟩ := fd
  cases hp
  rcases as with _ | ⟨a0, _ | _⟩ <;> simp at ha
  rcases ds with _ | _ <;> simp at hd
  exact ⟨_, rfl, rfl, fun h => by first | rfl | cases h⟩
end Mine
end
section
open PySem PySem.W PySem.Calls PyProof.Rows
namespace Mine
section
variable {P : Prog} {S : Static P} {n k : Nat} {ns : Names} {vs vs' : Vals} {σ σ' : List PV} {μ : Option Addr} {L : Addr} {s s' : Shared}
section
variable {R : PV → Prop} {x y z : Str} {i j : Int}
/-- text times number -/
theorem bin_rep (hx : x.length ≤ 1000) (hi : -1000 ≤ i) (hi' : i ≤ 1000) (h : R (.str (Txt.mul x i))) : BinTo S n .Mult (.str x) (.int i) R := fun k ns vs σ μ L s a b F ⟨t, ra⟩ ⟨u, rb⟩ A Q E rm hQ => by
  subst ra rb
  obtain ⟨h1, h2, h3⟩ := mulOk_of (x := x) (n := i) 1000 1000 hx hi' (by omega) (by decide) (by decide)
  have hl := len_mul x i
  refine PySem.P.mul_str h1 h2 h3 ?_
  unfold Txt.mul at h hl
  have hb : x.length * i.toNat ≤ 1000 * 1000 := Nat.mul_le_mul hx (by omega)
  by_cases c : i < 1
  · rw [if_pos c] at h ⊢
    exact ⟨by decide, hQ _ _ _ h F.toks .toks ⟨_, rfl⟩⟩
  · rw [if_neg c] at h hl ⊢
    by_cases d : (i == 1 || x.length == 0) = true
    · rw [if_pos d] at h ⊢
      exact hQ _ _ _ h F .refl ⟨_, rfl⟩
    · rw [if_neg d] at h hl ⊢
      refine ⟨?_, hQ _ _ _ h F.toks .toks ⟨_, rfl⟩⟩
      have hi0 : decide (i < 0) = false := decide_eq_false (by omega)
      rw [hi0] at hl
      simp only [Bool.false_eq_true, if_false] at hl
      have e : (x.length : Int) * i = ((x.length * i.toNat : Nat) : Int) := by
        rw [Int.natCast_mul]; congr 1; omega
      rw [e] at hl
      rw [sizeLine_eq]
      omega
end
section
variable {R : PV → List PV → Prop} {i j : Int} {x y z : Str}
theorem ct_str_int (hi : i.natAbs < 2 ^ 1900) (h : R (.str (Str.ofString (toString i))) σ) : CallTo S n (.raw (.type "str")) [.int i] σ R := by
  intro k ns vs μ L s fv as F rf ras A Q E rm hQ
  cases rf; obtain ⟨_, _, rfl, ⟨_, rfl⟩, rfl⟩ := ras
  refine PySem.P.str_of_int ?_ (hQ _ _ _ _ h F.toks .toks ⟨_, rfl⟩)
  by_cases h0 : i.natAbs = 0
  · rw [h0]; decide
  · rw [Nat.log2_lt h0]
    exact Nat.lt_of_lt_of_le hi (Nat.pow_le_pow_right (by decide) (by decide))
end
section
variable {R : PV → Vals → List PV → Prop} {x1 x2 x3 x4 : Str} {i1 i2 i3 i4 : Int}
theorem pairs_step {prog : Program} {w : World} {A : Around} {E : Value → Shared → Prop} {s : Shared} {env : Env} {i : Int} {x : Str} {a b : Nat} {p q pos : Pos} {ks : List (Option PySem.Expr)} {vs : List PySem.Expr} {Q : List (Value × Value) → Shared → Prop}
    (h : ∀ t u tk, wpAny (model prog w) A (evalPairs (pairTrees ks vs env pos)) (fun r s3 => Q ((.int i t, .str x u) :: r) s3) E { s with toks := tk }) :
    wpAny (model prog w) A (evalPairs (pairTrees (some (.Constant (.int i) a p) :: ks) (.Constant (.str x) b q :: vs) env pos)) Q E s :=
  pairTrees_cons_walk (wpAny_Constant_int (wpAny_Constant_str (h _ _ _)))
theorem ev_dict4 {a1 a2 a3 a4 b1 b2 b3 b4 : Nat} {p1 p2 p3 p4 q1 q2 q3 q4 pos pos' : Pos} {ie : PySem.Expr}
    (h : EV S n k ns vs σ ie (fun y vs2 σ2 => ∃ i x, y = .int i ∧ (([(i1, x1), (i2, x2), (i3, x3), (i4, x4)].find? fun p => p.1 = i).map (·.2)) = some x ∧ R (.str x) vs2 σ2))
    (hd : i1 ≠ i2 ∧ i1 ≠ i3 ∧ i1 ≠ i4 ∧ i2 ≠ i3 ∧ i2 ≠ i4 ∧ i3 ≠ i4 := by decide) :
    EV S n k ns vs σ (.Subscript (.Dict [some (.Constant (.int i1) a1 p1), some (.Constant (.int i2) a2 p2), some (.Constant (.int i3) a3 p3), some (.Constant (.int i4) a4 p4)]
      [.Constant (.str x1) b1 q1, .Constant (.str x2) b2 q2, .Constant (.str x3) b3 q3, .Constant (.str x4) b4 q4] pos) ie pos') R := by
  intro μ L s F A Q E rm hQ
  with_reducible refine Subscript_ ?_
  with_reducible refine wpAny_Dict_walk (knd := intKind S.prog S.w) ?_ ?_ ?_ ?_ ?_
  · rfl
  · rfl
  · simp
  · exact Nat.le_of_ble_eq_true rfl
  with_reducible refine pairs_step fun t1 u1 k1 => ?_
  with_reducible refine pairs_step fun t2 u2 k2 => ?_
  with_reducible refine pairs_step fun t3 u3 k3 => ?_
  with_reducible refine pairs_step fun t4 u4 k4 => ?_
  with_reducible refine pairTrees_nil_walk ?_
  refine ⟨[(i1, .str x1 u1), (i2, .str x2 u2), (i3, .str x3 u3), (i4, .str x4 u4)], ⟨intKind_is _ _ i1 t1, rfl, intKind_is _ _ i2 t2, rfl, intKind_is _ _ i3 t3, rfl, intKind_is _ _ i4 t4, rfl, trivial⟩, Heap.DictOf.new s.heap, fun h' hD hS => ?_⟩
  have hS2 : ∀ b, b ≠ s.heap.objs.size → h'.get? b = (s.heap.push { cls := .type "dict", data := .dict #[] }).get? b := hS.2
  clear hS
  have hk : ∀ b o, s.heap.get? b = some o → h'.get? b = some o := fun b o e => by
    rw [hS2 b (Nat.ne_of_lt (Heap.lt_size e))]
    exact Heap.get?_push_of_some _ e
  refine h μ L _ (F.grow hk) A _ E rm fun s2 b y vs2 σ2 h2 F2 X2 rb => ?_
  obtain ⟨i, x, rfl, hx, hR⟩ := h2
  obtain ⟨t, rfl⟩ := rb
  obtain ⟨o, ho, hoD⟩ := Heap.dictOf_iff.mp hD
  have hL : s.heap.objs.size ≠ L := fun e => by
    obtain ⟨m, fr, _⟩ := F.fr
    obtain ⟨o', _, _, ho', _⟩ := fr.ns
    exact Nat.lt_irrefl _ (e ▸ Heap.lt_size ho')
  have ho2 := X2.keep _ _ (fun e => hL (by injection e)) F.fresh ho
  have hD2 : s2.heap.DictOf (intKind S.prog S.w) s.heap.objs.size _ := Heap.dictOf_iff.mpr ⟨o, ho2, hoD⟩
  have X1 : Ext (some L) μ s { s with heap := h', toks := s2.toks } := ⟨.of_keep hk, rfl⟩
  obtain ⟨ops, hs⟩ := subscripted_ops ie (.ref s.heap.objs.size) (.int i t)
  obtain ⟨tk, hv⟩ : ∃ tk, valueAt (merged [] [(i1, Value.str x1 u1), (i2, .str x2 u2), (i3, .str x3 u3), (i4, .str x4 u4)]) i = some (.str x tk) := by
    have e : merged [] [(i1, Value.str x1 u1), (i2, .str x2 u2), (i3, .str x3 u3), (i4, .str x4 u4)] = [(i1, Value.str x1 u1), (i2, .str x2 u2), (i3, .str x3 u3), (i4, .str x4 u4)] := by
      obtain ⟨h1, h2, h3, h4, h5, h6⟩ := hd
      simp [merged, stored, h1, h2, h3, h4, h5, h6]
    rw [e]
    unfold valueAt
    simp only [List.find?] at hx ⊢
    by_cases c1 : i1 = i
    · simp [c1] at hx ⊢; exact hx
    · by_cases c2 : i2 = i
      · simp [c1, c2] at hx ⊢; exact hx
      · by_cases c3 : i3 = i
        · simp [c1, c2, c3] at hx ⊢; exact hx
        · by_cases c4 : i4 = i
          · simp [c1, c2, c3, c4] at hx ⊢; exact hx
          · simp [c1, c2, c3, c4] at hx
  have X3 : Ext (some L) μ s { s2 with toks := s2.toks + 1 } := Ext.trans (Ext.trans (s' := { s with heap := h', toks := s.toks }) ⟨.of_keep hk, rfl⟩ ⟨X2.keep, X2.rest⟩) Ext.toks
  exact tail_any hD2.typeIs slot_dict_getitem.lookup (wpAny_getItem_of (intKind_is _ _ i t) hD2.mapOf hv (hQ _ _ _ vs2 σ2 hR F2.toks X3 ⟨_, rfl⟩)) hs
end
end
end Mine
end
section
open PySem PySem.W PySem.Calls PyProof.Rows
namespace Mine
theorem RepL.snoc {fa : Nat → Addr} {h : Heap} {μ : Option Addr} : ∀ {ps : List PV} {xs : List Value} {p : PV} {v : Value}, RepL fa μ h ps xs → Rep fa μ h p v → RepL fa μ h (ps ++ [p]) (xs ++ [v])
  | [], _, _, _, r, r2 => by cases r; exact ⟨_, _, rfl, r2, rfl⟩
  | _ :: _, _, _, _, ⟨_, _, e, h1, h2⟩, r => by rw [e]; exact ⟨_, _, rfl, h1, h2.snoc r⟩
theorem RepL.rev {fa : Nat → Addr} {h : Heap} {μ : Option Addr} : ∀ {ps : List PV} {xs : List Value}, RepL fa μ h ps xs → RepL fa μ h ps.reverse xs.reverse
  | [], _, r => by cases r; exact rfl
  | _ :: _, _, ⟨_, _, e, h1, h2⟩ => by rw [e, List.reverse_cons, List.reverse_cons]; exact h2.rev.snoc h1
theorem repL_texts {fa : Nat → Addr} {h : Heap} {μ : Option Addr} : ∀ {ys : List Str} {xs : List Value}, RepL fa μ h (ys.map .str) xs → ∃ l : List (Str × Tok), l.map (·.1) = ys ∧ xs = strValues l
  | [], _, r => by cases r; exact ⟨[], rfl, rfl⟩
  | y :: ys, _, ⟨_, _, e, ⟨t, h1⟩, h2⟩ => by
    obtain ⟨l, e1, e2⟩ := repL_texts h2
    subst h1
    exact ⟨(y, t) :: l, by simp [e1], by rw [e, e2]; rfl⟩
/-- values without addresses -/
def flatP : PV → Bool
  | .none | .bool _ | .int _ | .str _ => true
  | _ => false
theorem Rep.flat {fa : Nat → Addr} {h h' : Heap} {μ μ' : Option Addr} {p : PV} {v : Value} (hf : flatP p = true) (r : Rep fa μ h p v) : Rep fa μ' h' p v := by
  cases p <;> first | exact r | (simp [flatP] at hf)
theorem Holds.flat {fa : Nat → Addr} {h h' : Heap} {μ μ' : Option Addr} {m : Str → Option Value} : ∀ (ns : Names) (vs : Vals), (∀ p, some p ∈ vs → flatP p = true) → Holds fa μ h m ns vs → Holds fa μ' h' m ns vs := by
  intro ns
  induction ns with
  | nil => intro vs hf H; cases vs with
    | nil => trivial
    | cons _ _ => exact H.elim
  | cons a ns ih => intro vs hf H; cases vs with
    | nil => exact H.elim
    | cons o vs =>
      have hf2 : ∀ p, some p ∈ vs → flatP p = true := fun p hp => hf p (List.mem_cons_of_mem _ hp)
      cases o with
      | none => exact ih vs hf2 H
      | some p =>
        obtain ⟨⟨v, e, r⟩, h2⟩ := H
        exact ⟨⟨v, e, Rep.flat (hf p (List.mem_cons_self ..)) r⟩, ih vs hf2 h2⟩
theorem Holds.blank {fa : Nat → Addr} {h h' : Heap} {μ μ' : Option Addr} {m m' : Str → Option Value} : ∀ (ns : Names) (vs : Vals), Holds fa μ h m ns vs → Holds fa μ' h' m' ns (ns.map fun _ => none) := by
  intro ns
  induction ns with
  | nil => intro vs H; trivial
  | cons a ns ih => intro vs H; cases vs with
    | nil => exact H.elim
    | cons o vs => cases o with
      | none => exact ih vs H
      | some p => exact ih vs H.2
section
variable {P : Prog} {S : Static P} {n k : Nat} {ns : Names} {vs vs' : Vals} {σ σ' : List PV} {μ : Option Addr} {L : Addr} {s s' : Shared}
variable {N B : Vals → List PV → Prop} {T : PV → List PV → Prop}
theorem xt_expr {e : PySem.Expr} {pos : Pos} (h : EV S n k ns vs σ e (fun _ v q => N v q))
    (hi : ∀ env, interactive (envOf (FT k).name (FT k).scope env (S.fa k) (S.cd k)) = false := by intro _; rfl)
    (hs : ∀ env, swapsWith e none pos.line env = pure false := by intro _; with_unfolding_all rfl) : XT S n k ns vs σ (.Expr e pos) N T B := by
  intro μ L s F A Q E rm hQ
  exact wpAny_Expr_any (h μ L s F A _ E rm fun s1 v p vs1 σ1 h1 F1 X1 r => hQ s1 _ ⟨vs1, σ1, h1, F1⟩ X1) (hi L) (hs _)
theorem append_plain {prog : Program} {w : World} {A : Around} {E : Value → Shared → Prop} {s : Shared} {l : Addr} {items : Array Value} {x : Value} {Q : Value → Shared → Prop} (hp : PlainAt s.heap l items)
    (hQ : ∀ h', PlainAt h' l (items.push x) → Heap.SameBut l s.heap h' → Q .none { s with heap := h' }) (hsz : items.size ≤ sizeLine) :
    wpAny (model prog w) A (call (.builtin "list.append") [.ref l, x]) Q E s := by
  obtain ⟨o, ho, hdn, hc, n, hd⟩ := hp
  refine list_append_plainL (l := l) (its := items) ⟨o, n, ho, hc, hdn, hd⟩ (fun h' hl hs => hQ h' ?_ hs) hsz
  obtain ⟨o', n', h1, h2, h3, h4⟩ := hl
  exact ⟨o', h1, h3, h2, n', h4⟩
theorem ev_append {o e : PySem.Expr} {ap pos : Pos} {R : PV → Vals → List PV → Prop}
    (h : EV S n k ns vs σ o (fun x v1 q1 => x = .mref ∧ EV S n k ns v1 q1 e (fun p v2 q2 => q2.length < 1000 ∧ R .none v2 (q2 ++ [p]))))
    (hpl : plainExpr e = true := by with_unfolding_all rfl)
    (hmod : ∀ env, ∃ pl, eval (.Call (.Attribute o (Str.ofString "append") ap) [e] [] pos) env = (do
      let ov ← eval o env
      standAt ap.atName
      let (f, first) ← holding [ov] (getMethod ov (Str.ofString "append") pl)
      callWith pos f first (backTo pos (starEach [e] env)) []) := by intro _; with_unfolding_all exact ⟨_, rfl⟩) :
    EV S n k ns vs σ (.Call (.Attribute o (Str.ofString "append") ap) [e] [] pos) R := by
  intro μ L s F A Q E rm hQ
  obtain ⟨pl, he⟩ := hmod (envK S k L)
  refine MethodCall_ (pl := pl) (h μ L s F A _ E rm fun s1 a x vs1 σ1 h1 F1 X1 r => ?_) he
  obtain ⟨rfl, h1⟩ := h1
  obtain ⟨ad, rfl, hμ⟩ := r
  obtain ⟨_, ys, ⟨ob, hob, hdn, hc, nn, hd⟩, hr⟩ := F1.mu ad hμ
  refine Calls.getMethod_list_append hob hc hdn ?_
  have hav : AV S n k ns vs1 σ1 [e] (fun xs v2 q2 => ∃ p, xs = [p] ∧ q2.length < 1000 ∧ R .none v2 (q2 ++ [p])) := av_cons (he := hpl) (EV.mono h1 fun p v q hp => av_nil ⟨p, rfl, hp⟩)
  refine callWith_method1 (hav pos μ L s1 F1 A _ E rm fun s2 as xs vs2 σ2 h2 F2 X2 ras => ?_) (starEach_plain hpl) (any_plain (by rfl))
  obtain ⟨p, rfl, hlt, hR⟩ := h2
  obtain ⟨v, _, rfl, rv, rfl⟩ := ras
  obtain ⟨_, xs, hl, hr2⟩ := F2.mu ad hμ
  refine append_plain hl (fun h' hl' hs' => ?_) (by rw [List.size_toArray, hr2.length, sizeLine_eq]; omega)
  have e1 : xs.toArray.push v = (xs ++ [v]).toArray := by simp
  rw [e1] at hl'
  obtain ⟨F3, X3⟩ := F2.turn hμ hl' hs' (RepL.snoc hr2 rv) (tk := s2.toks)
  exact hQ _ _ .none vs2 _ hR F3 (X1.trans (X2.trans X3)) rfl
theorem xs_newlist {x : Str} {xp lp pos : Pos} {rest : List Stmt} (hfl : ∀ p, some p ∈ vs → flatP p = true)
    (h : UP ns vs x .mref (fun v' => XS S n k ns v' [] rest (fun _ _ => False) (fun p _ => flatP p = true ∧ T p σ) (fun _ _ => False))) :
    XS S n k ns vs σ (.Assign [.Name x xp] (.List [] lp) pos :: rest) N T B := by
  intro μ L s F A Q E rm hQ
  obtain ⟨v', hU, h⟩ := h
  refine wpAny_execs_cons (wpAny_Assign_Name (List_ ((av_nil (R := fun xs v q => xs = [] ∧ v = vs ∧ q = σ) ⟨rfl, rfl, rfl⟩ : AV S n k ns vs σ [] _) lp μ L s F A _ E rm fun s1 as xs vs1 σ1 h1 F1 X1 ras => ?_)) (swaps_plain (by rfl)))
  obtain ⟨rfl, rfl, rfl⟩ := h1
  cases ras
  refine wpAny_newObj_type ?_ (by show (0 : Nat) ≤ sizeLine; exact Nat.zero_le _)
  have hk : ∀ b o, s1.heap.get? b = some o → (s1.heap.push (lstObj [] 0)).get? b = some o := fun _ _ e => Heap.get?_push_of_some _ e
  obtain ⟨m, fr, hv⟩ := F1.fr
  have hLlt : L < s1.heap.objs.size := by
    obtain ⟨o, _, _, ho, _⟩ := fr.ns
    exact Heap.lt_size ho
  have hgs : S.g.objs.size ≤ s1.heap.objs.size := Nat.le_of_lt (Nat.lt_of_le_of_lt fr.above hLlt)
  have F2 : FS S (some s1.heap.objs.size) L k ns vs1 [] { s1 with heap := s1.heap.push (lstObj [] 0) } :=
    ⟨F1.ok, ⟨m, fr.after hk, hv.flat _ _ hfl⟩, fun a e => by
      cases e
      exact ⟨hgs, [], ⟨_, Heap.get?_push_size _ rfl, rfl, rfl, 0, rfl⟩, rfl⟩, fun e => by
      cases e; exact Nat.lt_irrefl _ hLlt⟩
  refine F2.store hU ⟨_, rfl, rfl⟩ fun s2 F3 X3 => ?_
  refine h _ L s2 F3 A Q E rm fun s3 f hf X4 => ?_
  have X5 := X3.trans X4
  have X6 : Ext (some L) μ s1 s3 := ⟨fun b o hb hm e => X5.keep b o hb (fun q => by
      cases q
      exact Nat.lt_irrefl _ (Heap.lt_size e)) (hk b o e), by have := X5.rest; exact this⟩
  cases f with
  | next => obtain ⟨_, _, h, _⟩ := hf; exact h.elim
  | brk => obtain ⟨_, _, h, _⟩ := hf; exact h.elim
  | cont => exact hf.elim
  | ret v =>
    obtain ⟨p, q, ⟨hp, hT⟩, ⟨vs2, F6⟩, r⟩ := hf
    obtain ⟨m2, fr2, hv2⟩ := F6.fr
    refine hQ s3 _ ⟨p, σ1, hT, ⟨_, F1.ok, ⟨m2, fr2, hv2.blank _ _⟩, F1.mu.keeps F1.notSeq X6.keep (fun a e o ho => X5.keep a o (fun q => F1.ne (by rw [e, q])) (fun q => by
      cases q
      exact Nat.lt_irrefl _ (Heap.lt_size ho)) (hk a o ho)), F1.ne⟩, Rep.flat hp r⟩ (X1.trans X6)
theorem ev_mrev {v : PySem.Expr} {sp pos p1 p2 : Pos} {kk : Nat} {R : PV → Vals → List PV → Prop} (h : EV S n k ns vs σ v (fun x vs1 σ1 => x = .mref ∧ σ1.length < 1000 ∧ R (.lst σ1.reverse) vs1 σ1)) :
    EV S n k ns vs σ (.Subscript v (.Slice none none (some (.UnaryOp .USub (.Constant (.int 1) kk p1) p2)) sp) pos) R := by
  intro μ L s F A Q E rm hQ
  have hsl : ∀ vs1 σ1, EV S n k ns vs1 σ1 (.Slice none none (some (.UnaryOp .USub (.Constant (.int 1) kk p1) p2)) sp) (fun x v q => x = .sl none none (some (-1)) ∧ v = vs1 ∧ q = σ1) :=
    fun vs1 σ1 => ev_slice (pt_none (pt_none (pt_some (ev_un (ev_int (un_neg ⟨_, rfl, rfl, rfl, rfl⟩))))))
  refine Subscript_ (h μ L s F A _ E rm fun s1 a x vs1 σ1 h1 F1 X1 ra => hsl vs1 σ1 μ L s1 F1 A _ E rm fun s2 b y vs2 σ2 h2 F2 X2 rb => ?_)
  obtain ⟨rfl, hlt, hR⟩ := h1
  obtain ⟨rfl, rfl, rfl⟩ := h2
  obtain ⟨ad, rfl, hμ⟩ := ra
  obtain ⟨sa, l', u', s', rfl, _, e1, e2, e3, hg⟩ := rb
  obtain ⟨_, xs, hl, hr⟩ := F2.mu ad hμ
  obtain ⟨ops, hs⟩ := subscripted_ops (.Slice none none (some (.UnaryOp .USub (.Constant (.int 1) kk p1) p2)) sp) (.ref ad) (.ref sa)
  cases l' with
  | some _ => cases e1
  | none =>
    cases u' with
    | some _ => cases e2
    | none =>
      cases s' with
      | none => cases e3
      | some q =>
        obtain ⟨i, t⟩ := q
        have e3 : i = -1 := by simpa using e3
        subst e3
        refine tail_any hl.isList.typeIs slot_list_getitem.lookup (wpAny_getItem_list_slice hl.isList ⟨_, hg, rfl, rfl⟩ .none .none (.int _ _) (by decide) ?_ (by rw [List.size_toArray, hr.length, sizeLine_eq]; omega)) hs
        rw [krv_pick]
        have hk : ∀ b o, s2.heap.get? b = some o → (s2.heap.push (lstObj xs.reverse 0)).get? b = some o := fun _ _ e => Heap.get?_push_of_some _ e
        refine hQ _ _ (.lst _) vs2 _ hR (F2.grow hk) (X1.trans (X2.trans ⟨.of_keep hk, rfl⟩)) ⟨_, xs.reverse, 0, rfl, F2.fresh, Heap.get?_push_size _ rfl, ?_⟩
        exact (F2.upL ⟨.of_keep hk, rfl⟩ hr).rev
end
section
variable {P : Prog} {S : Static P} {n k : Nat} {ns : Names} {vs vs' : Vals} {σ σ' : List PV} {μ : Option Addr} {L : Addr} {s s' : Shared}
variable {R : PV → List PV → Prop} {x : Str}
theorem ct_join {ys : List Str} (hx : x.length ≤ 10) (hy : ∀ y ∈ ys, y.length ≤ 1000) (hl : ys.length ≤ 1000) (h : R (.str (Txt.join x ys)) σ) : CallTo S n (.raw (.builtin "str.join")) [.str x, .lst (ys.map .str)] σ R := by
  intro k ns vs μ L s fv as F rf ras A Q E rm hQ
  cases rf; obtain ⟨_, _, rfl, ⟨_, rfl⟩, _, _, rfl, ⟨a, xs, nn, rfl, _, hg, hr⟩, rfl⟩ := ras
  obtain ⟨l, e1, e2⟩ := repL_texts hr
  subst e2
  refine SC.join (l := l) ⟨_, hg, rfl, _, rfl⟩ e1 ?_ (fun t' k => hQ _ _ _ _ h F.toks .toks ⟨_, rfl⟩)
  unfold JoinOk
  rw [Bool.not_eq_true']
  exact StrLaws.joinFits hy (by
    have h1 : ys.length * 1000 ≤ 1000 * 1000 := Nat.mul_le_mul_right _ hl
    have h2 : ys.length * x.length ≤ 1000 * 10 := Nat.mul_le_mul hl hx
    omega)
end
end Mine
end
section
open PySem PySem.W PySem.Calls PyProof.Rows
namespace Mine
section
variable {P : Prog} {S : Static P} {n k : Nat} {ns : Names} {vs vs' : Vals} {σ σ' : List PV} {μ : Option Addr} {L : Addr} {s s' : Shared}
/-- a call with words -/
def CallKw (S : Static P) (n : Nat) (f : PV) (xs : List PV) (ks : List Str) (ys : List PV) (σ : List PV) (R : PV → List PV → Prop) : Prop :=
  ∀ k ns vs μ L s fv as bs, FS S μ L k ns vs σ s → Rep S.fa μ s.heap f fv → RepL S.fa μ s.heap xs as → RepL S.fa μ s.heap ys bs → ∀ (A : Around) (Q E : Value → Shared → Prop), Room A n →
    (∀ s' v p σ', R p σ' → FS S μ L k ns vs σ' s' → Ext (some L) μ s s' → Rep S.fa μ s'.heap p v → Q v s') → wpAny (model S.prog S.w) A (call fv as (ks.zip bs)) Q E s
theorem ev_call_kw2 {id k1 k2 : Str} {p p1 p2 : Pos} {e e1 e2 : PySem.Expr} {pos : Pos} {R : PV → Vals → List PV → Prop}
    (h : EV S n k ns vs σ (.Name id p) (fun f vs1 σ1 => ∃ k', f = .fn k' ∧ P.fns k' = true ∧ EV S n k ns vs1 σ1 e (fun x vs2 σ2 => EV S n k ns vs2 σ2 e1 (fun y vs3 σ3 => EV S n k ns vs3 σ3 e2 (fun z vs4 σ4 =>
      CallKw S n f [x] [k1, k2] [y, z] σ4 (fun r σ5 => R r vs4 σ5))))))
    (he : plainExpr e = true := by with_unfolding_all rfl)
    (hmod : ∀ env, eval (.Call (.Name id p) [e] [⟨some k1, e1, p1⟩, ⟨some k2, e2, p2⟩] pos) env = (do callWith pos (← eval (.Name id p) env) [] (backTo pos (starEach [e] env)) (backToKw pos (keywordEach [⟨some k1, e1, p1⟩, ⟨some k2, e2, p2⟩] env))) := by intro _; with_unfolding_all rfl) :
    EV S n k ns vs σ (.Call (.Name id p) [e] [⟨some k1, e1, p1⟩, ⟨some k2, e2, p2⟩] pos) R := by
  intro μ L s F A Q E rm hQ
  rw [hmod]
  refine wpAny_bind (h μ L s F A _ E rm fun s1 fv f vs1 σ1 h1 F1 X1 rf => ?_)
  obtain ⟨k', rfl, hf, h1⟩ := h1
  cases rf
  obtain ⟨o, fd, ho, hd, _⟩ := (S.hfn k' hf).at_
  refine callWith_def_kw hd (evalArgs_kw2 rfl (args_cons (h1 μ L s1 F1 A _ E rm fun s2 a x vs2 σ2 h2 F2 X2 ra => args_nil ?_) (starEach_plain he)) (starEach_plain he))
  refine kwAll_cons (h2 μ L s2 F2 A _ E rm fun s3 b y vs3 σ3 h3 F3 X3 rb => kwAll_cons (h3 μ L s3 F3 A _ E rm fun s4 c z vs4 σ4 h4 F4 X4 rc => kwAll_nil ⟨F4.hs.keep _ _ ho, ?_⟩))
  have X := X1.trans (X2.trans (X3.trans X4))
  exact h4 k ns vs4 μ L s4 _ [a] [b, c] F4 rfl ⟨_, _, rfl, F3.up X4 (F2.up X3 ra), rfl⟩ ⟨_, _, rfl, F3.up X4 rb, _, _, rfl, rc, rfl⟩ A Q E rm fun s5 v r σ5 hr F5 X5 rv => hQ s5 v r vs4 σ5 hr F5 (X.trans X5) rv
theorem call_fn_kw {k' : Nat} {ns' : Names} {nms ks : List Str} {vs0 : Vals} {xs ys : List PV} {d : Nat} {R : PV → List PV → Prop} (hf : P.fns k' = true) (ok : ScopeOk k' ns') (hd0 : P.dflt k' ≠ [])
    (hb : ∀ (fd : FuncData) (as bs ds : List Value), fd.params = (FT k').args → as.length = xs.length → bs.length = ys.length → ds.length = (P.dflt k').length →
      ∃ kk, bindArgs fd ⟨as, ks.zip bs⟩ = (seqItems? fd.defaults >>= kk) ∧ kk (some ds.toArray) = pure (nms.zip (as ++ bs ++ ds.drop d)))
    (hi : Inits ns' nms (xs ++ ys ++ (P.dflt k').drop d) vs0)
    (h : XS S n k' ns' vs0 σ (FT k').body (fun _ σ' => R .none σ') R (fun _ _ => False)) : CallKw S (n + 1) (.fn k') xs ks ys σ R := by
  intro k ns vs μ L s fv as bs' F rf ras rbs A Q E rm hQ
  cases rf
  obtain ⟨o, fd, ho, hd, hbody, hsc, hpar, hqn, hgl, hcl, hcode, hbl, hdf⟩ := (S.hfn k' hf).at_
  obtain ⟨m, fr, hv⟩ := F.fr
  have hcell : ∀ x ∈ fd.scope.names, x.2 ≠ .cell := by rw [hsc, ok.names]; exact ok.cells
  obtain ⟨bs, hbs, hbind, hrep⟩ : ∃ bs : List Value, bs.length = nms.length ∧ BindsTo s fd ⟨as, ks.zip bs'⟩ (nms.zip bs) ∧ RepL S.fa μ s.heap (xs ++ ys ++ (P.dflt k').drop d) bs := by
    rcases hdf with ⟨hd0', hdv⟩ | ⟨T, ds, nn, hdv, hT, hfl⟩
    · exact absurd hd0' hd0
    · have hdl : ds.length = (P.dflt k').length := (FlatL.rep (fa := S.fa) (μ := μ) (h := s.heap) hfl).length
      obtain ⟨kk, e1, e2⟩ := hb fd as bs' ds hpar ras.length rbs.length hdl
      refine ⟨as ++ bs' ++ ds.drop d, ?_, ?_, ?_⟩
      · have := hi.length; simp only [List.length_append, List.length_drop, hdl, ras.length, rbs.length] at this ⊢; exact this.symm
      · exact BindsTo.of_defaults hdv (fr.keep _ _ hT) rfl e1 e2
      · exact (ras.append rbs).append (RepL.drop _ hfl.rep)
  have hloc : ∀ x ∈ nms.zip bs, fd.scope.names.lookup x.1 = some .local := by
    intro x hx
    rw [hsc, ok.names]
    exact lookup_of_mem ok.nodup (hi.mem _ (List.of_mem_zip hx).1)
  have hcd : s.heap.CodeRec fd.code fd.qualname := by rw [hcode, hqn]; exact (S.hfn k' hf).code.keeps fr.keep
  have hroom : A.depth < recursionLimit := by have := rm.depth; omega
  refine wpAny_call (codeAny_call_def hroom (fr.keep _ _ ho) hd (S.hlim.keeps fr.keep) hcd hbody hbind hcell hloc (fun h₀ hns hk => ?_) (by rw [hsc]; exact ok.co) (by rw [hsc]; exact ok.gen) (by rw [hsc]; exact ok.kind))
  have henv : callEnv fd s.heap.objs.size (S.fa k') = envK S k' s.heap.objs.size := by
    unfold callEnv newEnv envK envOf
    rw [hsc, hgl, hcl, hcode, hbl, hqn]
  rw [henv]
  have hsz : S.g.objs.size ≤ s.heap.objs.size := by
    obtain ⟨oL, _, _, hL, _⟩ := fr.ns
    exact Nat.le_trans fr.above (Nat.le_of_lt (Heap.lt_size hL))
  have hndup : nms.Nodup := List.Nodup.sublist hi.sub ok.nodup
  have hz : (nms.zip bs).map (·.1) = nms := List.map_fst_zip (Nat.le_of_eq hbs.symm)
  have F0 : FS S μ s.heap.objs.size k' ns' vs0 σ { s with heap := h₀, toks := s.toks + (nms.zip bs).length } := by
    refine ⟨ok, ⟨_, ⟨hns, fun b o e => hk _ _ (fr.keep b o e), hsz⟩, ?_⟩, ?_, ?_⟩
    · refine hi.holds (RepL.keeps (L := some L) F.notSeq (.of_keep hk) hrep) fun x v hx => ?_
      refine lookup_of_mem' ?_ (List.mem_reverse.mpr hx)
      rw [List.map_reverse, hz]
      exact (List.reverse_perm _).nodup_iff.mpr hndup
    · exact F.mu.keeps (L := some L) F.notSeq (.of_keep hk) (fun a _ o e => hk a o e)
    · intro e
      obtain ⟨_, vs', ⟨_, hg, _⟩, _⟩ := F.mu _ e
      exact Nat.lt_irrefl _ (Heap.lt_size hg)
  refine h μ _ _ F0 _ _ _ (rm.deeper _) fun s' f hfl X => ?_
  have hkeep : KeepsBut none μ s.heap s'.heap := fun b o _ hm e => X.keep b o (fun q => Nat.lt_irrefl _ ((Option.some.inj q) ▸ Heap.lt_size e)) hm (hk b o e)
  have fin : ∀ σ', Mut S.fa S.g μ s'.heap σ' → (∀ b o, S.g.get? b = some o → s'.heap.get? b = some o) → FS S μ L k ns vs σ' s' := by
    intro σ' hM hg
    obtain ⟨oL, es, ep, hL, r⟩ := fr.ns
    have hL' : s'.heap.get? L = some oL := hkeep L oL (fun q => nomatch q) (fun q => F.ne q.symm) hL
    exact ⟨F.ok, ⟨m, ⟨⟨oL, es, ep, hL', r⟩, hg, fr.above⟩, hv.keeps (L := none) (fun _ q => nomatch q) hkeep⟩, hM, F.ne⟩
  have X' : Ext (some L) μ s s' := ⟨fun b o _ hm e => hkeep b o (fun q => nomatch q) hm e, by have := X.rest; simpa using this⟩
  cases f with
  | next =>
    obtain ⟨vs', σ', ho', hfl⟩ := hfl
    exact hQ s' _ _ σ' ho' (fin σ' hfl.mu hfl.hs.keep) X' rfl
  | ret v =>
    obtain ⟨p, σ', ho', ⟨vs', F'⟩, rv⟩ := hfl
    exact hQ s' _ _ σ' ho' (fin σ' F'.mu F'.hs.keep) X' rv
  | brk => obtain ⟨_, _, h, _⟩ := hfl; exact h.elim
  | cont => exact hfl.elim
end
theorem bind8_kw (fd : FuncData) (as bs ds : List Value) (hp : fd.params = (FT 8).args) (ha : as.length = 1) (hb : bs.length = 2) (hd : ds.length = 3) :
    ∃ kk, bindArgs fd ⟨as, [Str.ofString "base", Str.ofString "size"].zip bs⟩ = (seqItems? fd.defaults >>= kk) ∧ kk (some ds.toArray) = pure ([Str.ofString "n", Str.ofString "base", Str.ofString "size", Str.ofString "digits"].zip (as ++ bs ++ ds.drop 2)) := by
  obtain ⟨_, _, _, _, _, _, _, _, _, _, _, _, _, _, _⟩ := fd
  cases hp
  rcases as with _ | ⟨a0, _ | _⟩ <;> simp at ha
  rcases bs with _ | ⟨b0, _ | ⟨b1, _ | _⟩⟩ <;> simp at hb
  rcases ds with _ | ⟨d0, _ | ⟨d1, _ | ⟨d2, _ | _⟩⟩⟩ <;> simp at hd
  exact ⟨_, rfl, rfl⟩
end Mine
end
section
open PySem PySem.W PySem.Calls PyProof.Rows
namespace Mine
open Builtin in
theorem entry_powT : entryFor table "pow" = some Builtin.«pow» := entryFor_of_fast (by kernel_rfl)
theorem kind_powT : builtinKind "pow" = none := by decide +kernel
theorem plain_powT : plainId "pow" = true := by decide +kernel
theorem args_pow2 (a b : Value) : argsOk "pow" ⟨[a, b], []⟩ := by unfold argsOk; kernel_rfl
section
variable {P : Prog} {S : Static P} {n k : Nat} {ns : Names} {vs vs' : Vals} {σ σ' : List PV} {μ : Option Addr} {L : Addr} {s s' : Shared}
section
variable {R : PV → List PV → Prop} {i j : Int}
theorem pow_body {prog : Program} {w : World} {A : Around} {E : Value → Shared → Prop} {s : Shared} {a b : Value} {Q : Value → Shared → Prop} (h : wpAny (model prog w) A.in1 (binaryOp .Pow a b) Q E s) :
    wpAny (model prog w) A (call (.builtin "pow") [a, b]) Q E s := by
  refine Calls.call_function_entry kind_powT plain_powT entry_powT (args_pow2 _ _) ?_
  have e : Builtin.Builtins.bindParams "pow" ["base", "exp", "mod"] 2 ⟨[a, b], []⟩ = pure [some a, some b, none] := by
    unfold Builtin.Builtins.bindParams
    with_unfolding_all rfl
  unfold Builtin.«pow»
  rw [e]
  refine wpAny_bind (wpAny_pure ?_)
  exact wpAny_bind (wpAny_mono h (fun v s' hq => wpAny_pure ⟨_, rfl, hq⟩) fun _ _ e => e)
theorem ct_pow (h0 : 0 ≤ j) (hi : i.natAbs ≤ 16) (hj : j ≤ 1000000) (h : R (.int (i ^ j.toNat)) σ) : CallTo S n (.raw (.builtin "pow")) [.int i, .int j] σ R := by
  intro k ns vs μ L s fv as F rf ras A Q E rm hQ
  cases rf; obtain ⟨_, _, rfl, ⟨_, rfl⟩, _, _, rfl, ⟨_, rfl⟩, rfl⟩ := ras
  refine pow_body (pow_int h0 ?_ (hQ _ _ _ _ h F.toks .toks ⟨_, rfl⟩))
  have hb : Builtin.Int.intBits i ≤ 5 := by
    unfold Builtin.Int.intBits
    split
    · omega
    · rename_i h
      have : i.natAbs.log2 < 5 := (Nat.log2_lt (by simpa using h)).mpr (by omega)
      omega
  have : (Builtin.Int.intBits i : Int) * j ≤ 5 * 1000000 := Int.mul_le_mul (by omega) hj h0 (by omega)
  omega
end
section
variable {R : PV → Vals → List PV → Prop}
theorem ev_walrus {x : Str} {xp pos : Pos} {e : PySem.Expr} (h : EV S n k ns vs σ e (fun p v q => UP ns v x p (fun v' => R p v' q))) : EV S n k ns vs σ (.NamedExpr (.Name x xp) e pos) R := by
  intro μ L s F A Q E rm hQ
  refine wpAny_NamedExpr (h μ L s F A _ E rm fun s1 v p vs1 σ1 h1 F1 X1 r => wpAny_assign_Name ?_)
  obtain ⟨v', hU, hR⟩ := h1
  exact F1.store hU r fun s2 F2 X2 => hQ s2 v p v' σ1 hR F2 (X1.trans X2) (F1.up X2 r)
end
theorem repL_at_str {fa : Nat → Addr} {h : Heap} {μ : Option Addr} : ∀ {ys : List Str} {xs : List Value}, RepL fa μ h (ys.map .str) xs → ∀ v ∈ xs, ∃ y t, v = .str y t ∧ y ∈ ys
  | [], _, r, v, hv => by cases r; cases hv
  | y :: ys, _, ⟨_, _, e, ⟨t, h1⟩, h2⟩, v, hv => by
    subst e h1
    cases hv with
    | head => exact ⟨y, t, rfl, .head _⟩
    | tail _ hv => obtain ⟨y', t', e, hm⟩ := repL_at_str h2 v hv; exact ⟨y', t', e, .tail _ hm⟩
def strEq (x : Str) : Value → Bool
  | .str y _ => y == x
  | _ => false
theorem any_strEq {fa : Nat → Addr} {h : Heap} {μ : Option Addr} {x : Str} : ∀ {ys : List Str} {xs : List Value}, RepL fa μ h (ys.map .str) xs → xs.any (strEq x) = ys.contains x
  | [], _, r => by cases r; rfl
  | y :: ys, _, ⟨_, _, e, ⟨t, h1⟩, h2⟩ => by
    subst e h1
    rw [List.any_cons, any_strEq h2, List.contains_cons]
    show (y == x || _) = _
    rw [Bool.beq_comm]
def intEq (x : Int) : Value → Bool
  | .int y _ => y == x
  | _ => false
theorem repL_at_int {fa : Nat → Addr} {h : Heap} {μ : Option Addr} : ∀ {ys : List Int} {xs : List Value}, RepL fa μ h (ys.map .int) xs → ∀ v ∈ xs, ∃ y t, v = .int y t ∧ y ∈ ys
  | [], _, r, v, hv => by cases r; cases hv
  | y :: ys, _, ⟨_, _, e, ⟨t, h1⟩, h2⟩, v, hv => by
    subst e h1
    cases hv with
    | head => exact ⟨y, t, rfl, .head _⟩
    | tail _ hv => obtain ⟨y', t', e, hm⟩ := repL_at_int h2 v hv; exact ⟨y', t', e, .tail _ hm⟩
theorem any_intEq {fa : Nat → Addr} {h : Heap} {μ : Option Addr} {x : Int} : ∀ {ys : List Int} {xs : List Value}, RepL fa μ h (ys.map .int) xs → xs.any (intEq x) = ys.contains x
  | [], _, r => by cases r; rfl
  | y :: ys, _, ⟨_, _, e, ⟨t, h1⟩, h2⟩ => by
    subst e h1
    rw [List.any_cons, any_intEq h2, List.contains_cons]
    show (y == x || _) = _
    rw [Bool.beq_comm]
section
variable {R : PV → Prop} {x y : Str} {i : Int}
theorem cmp_in_tup {ys : List Str} (h : R (.bool (ys.contains x))) : CmpTo S n .In (.str x) (.tup (ys.map .str)) R := fun k ns vs σ μ L s a b F ⟨_, ra⟩ rb A Q E rm hQ => by
  subst ra
  obtain ⟨ad, xs, nn, rfl, _, hg, hr⟩ := rb
  refine SeqAt.in_tupleAt (strEq x) (items := xs.toArray) ⟨_, hg, rfl, nn, rfl⟩ (fun v hv => ?_) ?_
  · obtain ⟨y, t, rfl, _⟩ := repL_at_str hr v (by simpa using hv)
    exact SeqAt.EqAt.str_str _ _ _ _
  · rw [List.any_toArray, any_strEq hr]
    exact hQ _ _ _ h F .refl rfl
theorem cmp_notin_tup {ys : List Str} (h : R (.bool (!ys.contains x))) : CmpTo S n .NotIn (.str x) (.tup (ys.map .str)) R := fun k ns vs σ μ L s a b F ⟨_, ra⟩ rb A Q E rm hQ => by
  subst ra
  obtain ⟨ad, xs, nn, rfl, _, hg, hr⟩ := rb
  refine SeqAt.notIn_tupleAt (strEq x) (items := xs.toArray) ⟨_, hg, rfl, nn, rfl⟩ (fun v hv => ?_) ?_
  · obtain ⟨y, t, rfl, _⟩ := repL_at_str hr v (by simpa using hv)
    exact SeqAt.EqAt.str_str _ _ _ _
  · rw [List.any_toArray, any_strEq hr]
    exact hQ _ _ _ h F .refl rfl
theorem cmp_in_ints {ys : List Int} (h : R (.bool (ys.contains i))) : CmpTo S n .In (.int i) (.lst (ys.map .int)) R := fun k ns vs σ μ L s a b F ⟨_, ra⟩ rb A Q E rm hQ => by
  subst ra
  obtain ⟨ad, xs, nn, rfl, _, hg, hr⟩ := rb
  refine SeqAt.in_listAt (intEq i) (items := xs.toArray) ⟨_, hg, rfl, nn, rfl⟩ (fun v hv => ?_) ?_
  · obtain ⟨y, t, rfl, _⟩ := repL_at_int hr v (by simpa using hv)
    exact SeqAt.EqAt.int_int _ _ _ _
  · rw [List.any_toArray, any_intEq hr]
    exact hQ _ _ _ h F .refl rfl
theorem cmp_in_str {c : Nat} (h : R (.bool (decide (c ∈ x.cps.toList)))) : CmpTo S n .In (.str ⟨#[c]⟩) (.str x) R := fun k ns vs σ μ L s a b F ⟨_, ra⟩ ⟨_, rb⟩ A Q E rm hQ => by
  subst ra rb
  refine PySem.P.in_str ?_
  rw [StrLaws.found_one]
  exact hQ _ _ _ h F .refl rfl
end
end
end Mine
end
section
open PySem PySem.W
namespace Mine
theorem two_pow_pos' (n : Nat) : 0 < 2 ^ n := Nat.two_pow_pos n
/-! bits -/
theorem bitAnd_nat (a b : Nat) : Builtin.bitAnd (a : Int) (b : Int) = ((a &&& b : Nat) : Int) := by
  unfold Builtin.bitAnd
  simp
theorem bitAnd_one (a : Nat) : Builtin.bitAnd (a : Int) 1 = ((a % 2 : Nat) : Int) := by
  have := bitAnd_nat a 1
  rw [Nat.and_one_is_mod] at this
  exact this
theorem bitAnd_two (a : Nat) : Builtin.bitAnd (a : Int) 2 = ((a / 2 % 2 * 2 : Nat) : Int) := by
  have h : a &&& 2 = a / 2 % 2 * 2 := by
    apply Nat.eq_of_testBit_eq
    intro i
    rw [Nat.testBit_and]
    cases i with
    | zero => simp [Nat.testBit_zero]
    | succ i =>
      rw [Nat.testBit_succ, Nat.testBit_succ, Nat.testBit_succ]
      have e1 : (2 : Nat) / 2 = 1 := rfl
      have e2 : a / 2 % 2 * 2 / 2 = a / 2 % 2 := by omega
      rw [e1, e2]
      cases i with
      | zero => simp [Nat.testBit_zero]
      | succ i =>
        have e3 : Nat.testBit 1 (i + 1) = false := by rw [Nat.testBit_succ]; simp
        have e4 : Nat.testBit (a / 2 % 2) (i + 1) = false := by
          rw [Nat.testBit_succ]
          have : a / 2 % 2 / 2 = 0 := by omega
          rw [this]; simp
        rw [e3, e4]; simp
  have := bitAnd_nat a 2
  rw [h] at this
  exact this
theorem bitAnd_mask (a n : Nat) : Builtin.bitAnd (a : Int) (((1 : Int) * 2 ^ n) - 1) = ((a % 2 ^ n : Nat) : Int) := by
  have h : ((1 : Int) * 2 ^ n) - 1 = ((2 ^ n - 1 : Nat) : Int) := by
    have h1 := two_pow_pos' n
    have h2 : ((2 ^ n : Nat) : Int) = (2 : Int) ^ n := by simp
    omega
  rw [h, bitAnd_nat, Nat.and_two_pow_sub_one_eq_mod]
/-- how many noughts at the end -/
def tz (n : Nat) : Nat := if h : n = 0 then 0 else if n % 2 = 0 then tz (n / 2) + 1 else 0
termination_by n
decreasing_by omega
theorem tz_odd {n : Nat} (h : n % 2 = 1) : tz n = 0 := by
  unfold tz
  rw [dif_neg (by omega), if_neg (by omega)]
theorem tz_even {n : Nat} (h : 0 < n) : tz (2 * n) = tz n + 1 := by
  rw [tz, dif_neg (by omega), if_pos (by omega)]
  have : 2 * n / 2 = n := by omega
  rw [this]
theorem land_pred (n : Nat) (h : 0 < n) : n - (n &&& (n - 1)) = 2 ^ tz n ∧ (n &&& (n - 1)) ≤ n := by
  induction n using Nat.strongRecOn with
  | _ n ih =>
    by_cases hn : n % 2 = 0
    · obtain ⟨k, rfl⟩ : ∃ k, n = 2 * k := ⟨n / 2, by omega⟩
      have hk : 0 < k := by omega
      have e : (2 * k) &&& (2 * k - 1) = 2 * (k &&& (k - 1)) := by
        apply Nat.eq_of_testBit_eq
        intro i
        rw [Nat.testBit_and]
        cases i with
        | zero => simp [Nat.testBit_zero]
        | succ i =>
          rw [Nat.testBit_succ, Nat.testBit_succ, Nat.testBit_succ]
          have e1 : 2 * k / 2 = k := by omega
          have e2 : (2 * k - 1) / 2 = k - 1 := by omega
          have e3 : 2 * (k &&& (k - 1)) / 2 = (k &&& (k - 1)) := by omega
          rw [e1, e2, e3, Nat.testBit_and]
      have ih' := ih k (by omega) hk
      rw [e, tz_even hk, Nat.pow_succ]
      omega
    · obtain ⟨k, rfl⟩ : ∃ k, n = 2 * k + 1 := ⟨n / 2, by omega⟩
      have e : (2 * k + 1) &&& (2 * k + 1 - 1) = 2 * k := by
        apply Nat.eq_of_testBit_eq
        intro i
        rw [Nat.testBit_and]
        have e0 : 2 * k + 1 - 1 = 2 * k := by omega
        rw [e0]
        cases i with
        | zero => simp [Nat.testBit_zero]
        | succ i =>
          rw [Nat.testBit_succ, Nat.testBit_succ]
          have e1 : 2 * k / 2 = k := by omega
          have e2 : (2 * k + 1) / 2 = k := by omega
          rw [e1, e2]; simp
      rw [e, tz_odd (by omega)]
      omega
theorem bitAnd_neg (n : Nat) (h : 0 < n) : Builtin.bitAnd (n : Int) (-(n : Int)) = ((2 ^ tz n : Nat) : Int) := by
  unfold Builtin.bitAnd
  have h1 : decide (0 ≤ (n : Int)) = true := by simp
  have h2 : decide (0 ≤ -(n : Int)) = false := by simp; omega
  rw [h1, h2]
  have h3 : (Builtin.bitNot (-(n : Int))).toNat = n - 1 := by unfold Builtin.bitNot; omega
  simp only [h3, Int.toNat_natCast]
  have := land_pred n h
  omega
/-- how many bits -/
def bl (n : Nat) : Nat := if n = 0 then 0 else n.log2 + 1
theorem intBits_nat (n : Nat) : Builtin.Int.intBits (n : Int) = bl n := by
  unfold Builtin.Int.intBits bl
  simp
theorem bl_pos {n : Nat} (h : 0 < n) : 0 < bl n := by unfold bl; rw [if_neg (by omega)]; omega
theorem bl_lt (n : Nat) : n < 2 ^ bl n := by
  unfold bl
  split
  · rename_i h; rw [h]; decide
  · exact Nat.lt_log2_self
theorem bl_le {n : Nat} (h : 0 < n) : 2 ^ (bl n - 1) ≤ n := by
  unfold bl
  rw [if_neg (by omega)]
  exact Nat.log2_self_le (by omega)
theorem bl_unique {n b : Nat} (h1 : 2 ^ b ≤ n) (h2 : n < 2 ^ (b + 1)) : bl n = b + 1 := by
  have hn : n ≠ 0 := by have := two_pow_pos' b; omega
  unfold bl
  rw [if_neg hn]
  have : n.log2 = b := (Nat.log2_eq_iff hn).mpr ⟨h1, h2⟩
  omega
theorem bl_two_pow (k : Nat) : bl (2 ^ k) = k + 1 := bl_unique (Nat.le_refl _) (Nat.pow_lt_pow_right (by decide) (Nat.lt_succ_self _))
theorem bl_mul_pow {n : Nat} (h : 0 < n) (k : Nat) : bl (n * 2 ^ k) = bl n + k := by
  have h1 := bl_le h
  have h2 := bl_lt n
  have hp := bl_pos h
  have e : bl n + k = (bl n - 1 + k) + 1 := by omega
  rw [e]
  apply bl_unique
  · rw [Nat.pow_add]; exact Nat.mul_le_mul_right _ h1
  · have e2 : bl n - 1 + k + 1 = bl n + k := by omega
    rw [e2, Nat.pow_add]
    exact Nat.mul_lt_mul_of_pos_right h2 (two_pow_pos' k)
/-- the odd part -/
def od (n : Nat) : Nat := n / 2 ^ tz n
theorem od_spec (n : Nat) : od n * 2 ^ tz n = n ∧ (0 < n → od n % 2 = 1) := by
  induction n using Nat.strongRecOn with
  | _ n ih =>
    by_cases h0 : n = 0
    · subst h0; exact ⟨by simp [od], fun h => absurd h (by omega)⟩
    · by_cases hn : n % 2 = 0
      · obtain ⟨k, rfl⟩ : ∃ k, n = 2 * k := ⟨n / 2, by omega⟩
        have hk : 0 < k := by omega
        have ih' := ih k (by omega)
        have e : od (2 * k) = od k := by
          unfold od
          rw [tz_even hk, Nat.pow_succ, Nat.mul_comm (2 ^ tz k) 2, Nat.mul_div_mul_left _ _ (by decide)]
        rw [e, tz_even hk, Nat.pow_succ, ← Nat.mul_assoc, ih'.1]
        exact ⟨Nat.mul_comm _ _, fun _ => ih'.2 hk⟩
      · have : tz n = 0 := tz_odd (by omega)
        unfold od
        rw [this]
        simp
        omega
theorem od_odd {n : Nat} (h : 0 < n) : od n % 2 = 1 := (od_spec n).2 h
theorem od_mul (n : Nat) : od n * 2 ^ tz n = n := (od_spec n).1
theorem od_pos {n : Nat} (h : 0 < n) : 0 < od n := by have := od_odd h; omega
theorem tz_mul_pow {n : Nat} (h : 0 < n) (k : Nat) : tz (n * 2 ^ k) = tz n + k := by
  induction k with
  | zero => simp
  | succ k ih =>
    have e : n * 2 ^ (k + 1) = 2 * (n * 2 ^ k) := by rw [Nat.pow_succ, ← Nat.mul_assoc, Nat.mul_comm]
    rw [e, tz_even (Nat.mul_pos h (two_pow_pos' k)), ih]
    omega
theorem od_mul_pow {n : Nat} (h : 0 < n) (k : Nat) : od (n * 2 ^ k) = od n := by
  unfold od
  rw [tz_mul_pow h, Nat.pow_add, Nat.mul_div_mul_right _ _ (two_pow_pos' k)]
theorem bl_od {n : Nat} (h : 0 < n) : bl (od n) + tz n = bl n := by
  have := bl_mul_pow (od_pos h) (tz n)
  rw [od_mul] at this
  omega
theorem od_of_odd {n : Nat} (h : n % 2 = 1) : od n = n := by unfold od; rw [tz_odd h]; simp
/-- a number as mpmath keeps it -/
def canon (s : Int) (m : Nat) (e : Int) : PV := .tup [.int s, .int (od m), .int (e + tz m), .int (bl (od m))]
theorem canon_shift (s : Int) {m : Nat} (h : 0 < m) (e : Int) (k : Nat) : canon s (m * 2 ^ k) e = canon s m (e + k) := by
  unfold canon
  rw [od_mul_pow h, tz_mul_pow h]
  have : e + ((tz m + k : Nat) : Int) = e + k + tz m := by omega
  rw [this]
theorem canon_congr (s : Int) {m1 m2 : Nat} {e1 e2 : Int} (h1 : 0 < m1) (h2 : 0 < m2) (a b : Nat) (h : m1 * 2 ^ a = m2 * 2 ^ b) (he : e1 - a = e2 - b) : canon s m1 e1 = canon s m2 e2 := by
  have x := canon_shift s h1 (e1 - a) a
  have y := canon_shift s h2 (e2 - b) b
  rw [h, he] at x
  rw [x] at y
  have ex : e2 - b + a = e1 := by omega
  have ey : e2 - b + b = e2 := by omega
  rw [ex, ey] at y
  exact y
/-! rounding -/
inductive Rnd where
  | n | f | c | u | d
  deriving DecidableEq
def Rnd.str : Rnd → Str
  | .n => Str.ofString "n"
  | .f => Str.ofString "f"
  | .c => Str.ofString "c"
  | .u => Str.ofString "u"
  | .d => Str.ofString "d"
/-- is it rounded away from nought, the sign and the way given (not to the nearest) -/
def Rnd.away (sgn : Int) : Rnd → Bool
  | .n => false
  | .f => sgn == 1
  | .c => sgn == 0
  | .u => true
  | .d => false
/-- is q + rest / den rounded up to q + 1 -/
def isMore (sgn : Int) (r : Rnd) (q rest den : Nat) : Bool := match r with
  | .n => decide (2 * rest > den) || (decide (2 * rest = den) && decide (q % 2 = 1))
  | r => decide (rest > 0) && r.away sgn
def rnd (sgn : Int) (r : Rnd) (num den : Nat) : Nat := num / den + (if isMore sgn r (num / den) (num % den) den then 1 else 0)
theorem rnd_le (sgn : Int) (r : Rnd) (a b : Nat) : a / b ≤ rnd sgn r a b ∧ rnd sgn r a b ≤ a / b + 1 := by
  unfold rnd
  split <;> omega
theorem rnd_near {m k : Nat} (hk : 0 < k) (sgn : Int) : rnd sgn .n m (2 ^ k) = m / 2 ^ (k - 1) / 2 + if (m / 2 ^ (k - 1)) % 2 = 1 ∧ (m / 2 ^ (k - 1) / 2 % 2 = 1 ∨ m % 2 ^ (k - 1) ≠ 0) then 1 else 0 := by
  obtain ⟨j, rfl⟩ : ∃ j, k = j + 1 := ⟨k - 1, by omega⟩
  have e1 : j + 1 - 1 = j := by omega
  have e2 : m / 2 ^ (j + 1) = m / 2 ^ j / 2 := by rw [Nat.pow_succ, ← Nat.div_div_eq_div_mul]
  have e3 : m % 2 ^ (j + 1) = m % 2 ^ j + 2 ^ j * (m / 2 ^ j % 2) := by rw [Nat.pow_succ, Nat.mod_mul]
  unfold rnd isMore
  simp only [e1, e2, e3]
  have hp := two_pow_pos' j
  have hlt := Nat.mod_lt m hp
  have ep : 2 ^ (j + 1) = 2 * 2 ^ j := by rw [Nat.pow_succ, Nat.mul_comm]
  rw [ep]
  generalize 2 ^ j = d at *
  generalize m / d = t at *
  generalize m % d = r at *
  have ht : t % 2 = 0 ∨ t % 2 = 1 := by omega
  congr 1
  rcases ht with ht | ht
  · rw [ht]
    simp only [Nat.mul_zero, Nat.add_zero]
    have h1 : ¬ (2 * r > 2 * d) := by omega
    have h2 : ¬ (2 * r = 2 * d) := by omega
    simp [h1, h2]
  · rw [ht]
    simp only [Nat.mul_one]
    by_cases hr : r = 0
    · subst hr
      have h1 : ¬ (2 * (0 + d) > 2 * d) := by omega
      have h2 : (2 * (0 + d) = 2 * d) := by omega
      simp [h1, h2]
    · have h1 : (2 * (r + d) > 2 * d) := by omega
      simp [h1, hr]
theorem rnd_far {m d : Nat} {sgn : Int} {r : Rnd} (hr : r ≠ .n) : rnd sgn r m d = m / d + (if r.away sgn = true then (if m % d > 0 then 1 else 0) else 0) := by
  have h : isMore sgn r (m / d) (m % d) d = (decide (m % d > 0) && r.away sgn) := by cases r <;> first | exact absurd rfl hr | rfl
  unfold rnd
  rw [h]
  cases r.away sgn <;> simp
theorem rnd_bl {m prec : Nat} (sgn : Int) (r : Rnd) (h0 : 0 < m) (hp : 0 < prec) (h : prec < bl m) :
    2 ^ (prec - 1) ≤ rnd sgn r m (2 ^ (bl m - prec)) ∧ (bl (rnd sgn r m (2 ^ (bl m - prec))) = prec ∨ rnd sgn r m (2 ^ (bl m - prec)) = 2 ^ prec) := by
  have h1 := bl_le h0
  have h2 := bl_lt m
  have hq1 : 2 ^ (prec - 1) ≤ m / 2 ^ (bl m - prec) := by
    rw [Nat.le_div_iff_mul_le (two_pow_pos' _), ← Nat.pow_add]
    have : prec - 1 + (bl m - prec) = bl m - 1 := by omega
    rw [this]; exact h1
  have hq2 : m / 2 ^ (bl m - prec) < 2 ^ prec := by
    rw [Nat.div_lt_iff_lt_mul (two_pow_pos' _), ← Nat.pow_add]
    have : prec + (bl m - prec) = bl m := by omega
    rw [this]; exact h2
  have hr := rnd_le sgn r m (2 ^ (bl m - prec))
  generalize rnd sgn r m (2 ^ (bl m - prec)) = M at *
  generalize m / 2 ^ (bl m - prec) = q at *
  refine ⟨by omega, ?_⟩
  by_cases hM : M = 2 ^ prec
  · exact .inr hM
  · left
    have e : prec = prec - 1 + 1 := by omega
    rw [e]
    exact bl_unique (by omega) (by rw [← e]; omega)
theorem od_two_pow (k : Nat) : od (2 ^ k) = 1 := by
  have := od_mul_pow (n := 1) (by decide) k
  rw [Nat.one_mul] at this
  rw [this]
  exact od_of_odd rfl
theorem shift_pos {w : Nat} (h : 0 < w) (j : Nat) : 0 < w / 2 ^ j ↔ j < bl w := by
  have h1 := bl_le h
  have h2 := bl_lt w
  have hp := bl_pos h
  rw [Nat.div_pos_iff]
  constructor
  · rintro ⟨_, h3⟩
    have := Nat.lt_of_le_of_lt h3 h2
    rwa [Nat.pow_lt_pow_iff_right (by decide)] at this
  · intro hj
    refine ⟨two_pow_pos' j, Nat.le_trans (Nat.pow_le_pow_right (by decide) (by omega)) h1⟩
theorem canon_half (s : Int) {w : Nat} (h : 0 < w) (he : w % 2 = 0) (d : Int) : canon s w d = canon s (w / 2) (d + 1) := by
  have h2 : 0 < w / 2 := by omega
  have := canon_shift s h2 d 1
  have e : w / 2 * 2 ^ 1 = w := by omega
  rw [e] at this
  exact this
theorem canon_odd (s : Int) {w : Nat} (h : w % 2 = 1) (d : Int) : canon s w d = .tup [.int s, .int (w : Nat), .int d, .int (bl w : Nat)] := by
  unfold canon
  rw [od_of_odd h, tz_odd h]
  simp
end Mine
end
section
open PySem PySem.W
namespace Mine
theorem rnd_scale (sgn : Int) (r : Rnd) (a b : Nat) {c : Nat} (hc : 0 < c) : rnd sgn r (a * c) (b * c) = rnd sgn r a b := by
  unfold rnd isMore
  rw [Nat.mul_div_mul_right _ _ hc, Nat.mul_mod_mul_right]
  have h1 : ∀ x y : Nat, (2 * (x * c) > y * c) ↔ 2 * x > y := by
    intro x y
    rw [← Nat.mul_assoc]
    exact Nat.mul_lt_mul_right hc
  have h2 : ∀ x y : Nat, (2 * (x * c) = y * c) ↔ 2 * x = y := by
    intro x y
    rw [← Nat.mul_assoc]
    exact Nat.mul_right_cancel_iff hc
  have h3 : ∀ x : Nat, (x * c > 0) ↔ x > 0 := fun x => ⟨fun h => Nat.pos_of_mul_pos_right h, fun h => Nat.mul_pos h hc⟩
  cases r <;> simp only [h1, h2, h3]
theorem rnd_ratio (sgn : Int) (r : Rnd) {a b a' b' : Nat} (hb : 0 < b) (hb' : 0 < b') (h : a * b' = a' * b) : rnd sgn r a b = rnd sgn r a' b' := by
  rw [← rnd_scale sgn r a b hb', ← rnd_scale sgn r a' b' hb, h, Nat.mul_comm b b']
theorem rnd_one (sgn : Int) (r : Rnd) (a : Nat) : rnd sgn r a 1 = a := by
  unfold rnd isMore
  rw [Nat.div_one, Nat.mod_one]
  cases r <;> simp
theorem div_ratio {a b a' b' : Nat} (hb : 0 < b) (hb' : 0 < b') (h : a * b' = a' * b) : a / b = a' / b' := by
  rw [← Nat.mul_div_mul_right a b hb', ← Nat.mul_div_mul_right a' b' hb, h, Nat.mul_comm b b']
/-- M, E: (A / B) · 2 ^ e rounded to so many bits -/
def IsRnd (sgn : Int) (r : Rnd) (bits A B : Nat) (e : Int) (M : Nat) (E : Int) : Prop :=
  ∃ i j : Nat, E = e + i - j ∧ 2 ^ (bits - 1) ≤ A * 2 ^ j / (B * 2 ^ i) ∧ A * 2 ^ j / (B * 2 ^ i) < 2 ^ bits ∧ M = rnd sgn r (A * 2 ^ j) (B * 2 ^ i)
def RndOf (sgn : Int) (r : Rnd) (bits A B : Nat) (e : Int) (p : PV) : Prop := ∃ M E, IsRnd sgn r bits A B e M E ∧ p = canon sgn M E
theorem IsRnd.pos {sgn : Int} {r : Rnd} {bits A B : Nat} {e : Int} {M : Nat} {E : Int} (h : IsRnd sgn r bits A B e M E) : 0 < M := by
  obtain ⟨i, j, _, h1, _, rfl⟩ := h
  have := two_pow_pos' (bits - 1)
  have h2 := (rnd_le sgn r (A * 2 ^ j) (B * 2 ^ i)).1
  omega
theorem IsRnd.ratio {sgn : Int} {r : Rnd} {bits A B A' B' : Nat} {e : Int} {M : Nat} {E : Int} (hB : 0 < B) (hB' : 0 < B') (h : A * B' = A' * B) (H : IsRnd sgn r bits A B e M E) : IsRnd sgn r bits A' B' e M E := by
  obtain ⟨i, j, h1, h2, h3, h4⟩ := H
  have hr : A * 2 ^ j * (B' * 2 ^ i) = A' * 2 ^ j * (B * 2 ^ i) := by
    have : A * 2 ^ j * (B' * 2 ^ i) = (A * B') * (2 ^ j * 2 ^ i) := by ac_rfl
    rw [this, h]; ac_rfl
  have p1 : 0 < B * 2 ^ i := Nat.mul_pos hB (two_pow_pos' i)
  have p2 : 0 < B' * 2 ^ i := Nat.mul_pos hB' (two_pow_pos' i)
  exact ⟨i, j, h1, by rw [← div_ratio p1 p2 hr]; exact h2, by rw [← div_ratio p1 p2 hr]; exact h3, by rw [← rnd_ratio sgn r p1 p2 hr]; exact h4⟩
theorem IsRnd.unique {sgn : Int} {r : Rnd} {bits A B : Nat} {e : Int} {M M' : Nat} {E E' : Int} (hb : 0 < bits) (hB : 0 < B) (h : IsRnd sgn r bits A B e M E) (h' : IsRnd sgn r bits A B e M' E') : M = M' ∧ E = E' := by
  obtain ⟨i, j, h1, h2, h3, h4⟩ := h
  obtain ⟨i', j', h1', h2', h3', h4'⟩ := h'
  have key : ∀ {i j i' j' : Nat}, 2 ^ (bits - 1) ≤ A * 2 ^ j / (B * 2 ^ i) → A * 2 ^ j' / (B * 2 ^ i') < 2 ^ bits → ¬ (i + j' > i' + j) := by
    intro i j i' j' x y hgt
    have p1 : 0 < B * 2 ^ i := Nat.mul_pos hB (two_pow_pos' i)
    have p2 : 0 < B * 2 ^ i' := Nat.mul_pos hB (two_pow_pos' i')
    rw [Nat.le_div_iff_mul_le p1] at x
    rw [Nat.div_lt_iff_lt_mul p2] at y
    have x2 := Nat.mul_le_mul_right (2 ^ j') x
    have y2 := Nat.mul_lt_mul_of_pos_right y (two_pow_pos' j)
    have e1 : A * 2 ^ j * 2 ^ j' = A * 2 ^ j' * 2 ^ j := by ac_rfl
    rw [e1] at x2
    have z := Nat.lt_of_le_of_lt x2 y2
    have e2 : 2 ^ (bits - 1) * (B * 2 ^ i) * 2 ^ j' = B * 2 ^ (bits - 1 + (i + j')) := by rw [Nat.pow_add, Nat.pow_add]; ac_rfl
    have e3 : 2 ^ bits * (B * 2 ^ i') * 2 ^ j = B * 2 ^ (bits + (i' + j)) := by rw [Nat.pow_add, Nat.pow_add]; ac_rfl
    rw [e2, e3, Nat.mul_lt_mul_left hB, Nat.pow_lt_pow_iff_right (by decide)] at z
    omega
  have k1 := key h2 h3'
  have k2 := key h2' h3
  have hij : i + j' = i' + j := by omega
  refine ⟨?_, by omega⟩
  rw [h4, h4']
  refine rnd_ratio sgn r (Nat.mul_pos hB (two_pow_pos' i)) (Nat.mul_pos hB (two_pow_pos' i')) ?_
  have e1 : A * 2 ^ j * (B * 2 ^ i') = A * B * 2 ^ (i' + j) := by rw [Nat.pow_add]; ac_rfl
  have e2 : A * 2 ^ j' * (B * 2 ^ i) = A * B * 2 ^ (i + j') := by rw [Nat.pow_add]; ac_rfl
  rw [e1, e2, hij]
theorem RndOf.unique {sgn : Int} {r : Rnd} {bits A B : Nat} {e : Int} {p p' : PV} (hb : 0 < bits) (hB : 0 < B) (h : RndOf sgn r bits A B e p) (h' : RndOf sgn r bits A B e p') : p = p' := by
  obtain ⟨M, E, h1, rfl⟩ := h
  obtain ⟨M', E', h1', rfl⟩ := h'
  obtain ⟨rfl, rfl⟩ := h1.unique hb hB h1'
  rfl
theorem RndOf.ratio {sgn : Int} {r : Rnd} {bits A B A' B' : Nat} {e : Int} {p : PV} (hB : 0 < B) (hB' : 0 < B') (h : A * B' = A' * B) (H : RndOf sgn r bits A B e p) : RndOf sgn r bits A' B' e p :=
  let ⟨M, E, h1, h2⟩ := H; ⟨M, E, h1.ratio hB hB' h, h2⟩
/-- a power of two goes from the number to the exponent -/
theorem RndOf.up {sgn : Int} {r : Rnd} {bits A B x : Nat} {e : Int} {p : PV} (H : RndOf sgn r bits (A * 2 ^ x) B e p) : RndOf sgn r bits A B (e + x) p := by
  obtain ⟨M, E, ⟨i, j, h1, h2, h3, h4⟩, rfl⟩ := H
  have e1 : A * 2 ^ x * 2 ^ j = A * 2 ^ (x + j) := by rw [Nat.pow_add]; ac_rfl
  rw [e1] at h2 h3 h4
  exact ⟨M, E, ⟨i, x + j, by omega, h2, h3, h4⟩, rfl⟩
theorem RndOf.down {sgn : Int} {r : Rnd} {bits A B x : Nat} {e : Int} {p : PV} (H : RndOf sgn r bits A (B * 2 ^ x) e p) : RndOf sgn r bits A B (e - x) p := by
  obtain ⟨M, E, ⟨i, j, h1, h2, h3, h4⟩, rfl⟩ := H
  have e1 : B * 2 ^ x * 2 ^ i = B * 2 ^ (x + i) := by rw [Nat.pow_add]; ac_rfl
  rw [e1] at h2 h3 h4
  exact ⟨M, E, ⟨x + i, j, by omega, h2, h3, h4⟩, rfl⟩
theorem RndOf.up' {sgn : Int} {r : Rnd} {bits A B x : Nat} {e : Int} {p : PV} (hB : 0 < B) (H : RndOf sgn r bits A B e p) : RndOf sgn r bits (A * 2 ^ x) B (e - x) p := by
  have h1 := RndOf.ratio (A' := A * 2 ^ x) (B' := B * 2 ^ x) hB (Nat.mul_pos hB (two_pow_pos' x)) (by ac_rfl) H
  exact h1.down
theorem RndOf.down' {sgn : Int} {r : Rnd} {bits A B x : Nat} {e : Int} {p : PV} (hB : 0 < B) (H : RndOf sgn r bits A B e p) : RndOf sgn r bits A (B * 2 ^ x) (e + x) p := by
  have h1 := RndOf.ratio (A' := A * 2 ^ x) (B' := B * 2 ^ x) hB (Nat.mul_pos hB (two_pow_pos' x)) (by ac_rfl) H
  exact h1.up
/-- what normalize gives is the number rounded -/
def nrm (sgn : Int) (r : Rnd) (m : Nat) (e : Int) (prec : Nat) : Nat × Int := if bl m ≤ prec then (m, e) else (rnd sgn r m (2 ^ (bl m - prec)), e + (bl m - prec : Nat))
theorem nrm_rnd {sgn : Int} {r : Rnd} {m prec : Nat} {e : Int} (h0 : 0 < m) (hp : 0 < prec) : RndOf sgn r prec m 1 e (canon sgn (nrm sgn r m e prec).1 (nrm sgn r m e prec).2) := by
  have h1 := bl_le h0
  have h2 := bl_lt m
  unfold nrm
  split
  · rename_i hle
    refine ⟨m * 2 ^ (prec - bl m), e - (prec - bl m : Nat), ⟨0, prec - bl m, by omega, ?_, ?_, ?_⟩, ?_⟩
    · simp only [Nat.pow_zero, Nat.mul_one, Nat.div_one]
      have e1 : prec - 1 = (bl m - 1) + (prec - bl m) := by have := bl_pos h0; omega
      rw [e1, Nat.pow_add]
      exact Nat.mul_le_mul_right _ h1
    · simp only [Nat.pow_zero, Nat.mul_one, Nat.div_one]
      have e1 : prec = bl m + (prec - bl m) := by omega
      have e2 : 2 ^ prec = 2 ^ bl m * 2 ^ (prec - bl m) := by rw [← Nat.pow_add, ← e1]
      rw [e2]
      exact Nat.mul_lt_mul_of_pos_right h2 (two_pow_pos' _)
    · simp only [Nat.pow_zero, Nat.mul_one, rnd_one]
    · show canon sgn m e = _
      rw [canon_shift sgn h0]
      congr 1
      omega
  · rename_i hgt
    refine ⟨rnd sgn r m (2 ^ (bl m - prec)), e + (bl m - prec : Nat), ⟨bl m - prec, 0, by omega, ?_, ?_, ?_⟩, rfl⟩
    · simp only [Nat.pow_zero, Nat.mul_one, Nat.one_mul]
      rw [Nat.le_div_iff_mul_le (two_pow_pos' _), ← Nat.pow_add]
      have : prec - 1 + (bl m - prec) = bl m - 1 := by omega
      rw [this]; exact h1
    · simp only [Nat.pow_zero, Nat.mul_one, Nat.one_mul]
      rw [Nat.div_lt_iff_lt_mul (two_pow_pos' _), ← Nat.pow_add]
      have : prec + (bl m - prec) = bl m := by omega
      rw [this]; exact h2
    · simp only [Nat.pow_zero, Nat.mul_one, Nat.one_mul]
/-- a quotient with a mark for what is left behind -/
theorem sticky {sgn : Int} {r : Rnd} {N Q k : Nat} (hQ : 0 < Q) (hr : N % Q ≠ 0) (hk : 2 ≤ k) : rnd sgn r (2 * (N / Q) + 1) (2 ^ k) = rnd sgn r (2 * N) (Q * 2 ^ k) := by
  have hN := Nat.div_add_mod N Q
  have hlt := Nat.mod_lt N hQ
  generalize N / Q = q0 at *
  generalize N % Q = rem at *
  obtain ⟨h, hh⟩ : ∃ h, 2 ^ k = 4 * h ∧ 0 < h := by
    refine ⟨2 ^ (k - 2), ?_, two_pow_pos' _⟩
    have e : k = k - 2 + 2 := by omega
    rw [e, Nat.pow_add]
    have : k - 2 + 2 - 2 = k - 2 := by omega
    rw [this, Nat.mul_comm]
  obtain ⟨hh, hpos⟩ := hh
  rw [hh]
  have hD : 0 < 4 * h := by omega
  have hu := Nat.div_add_mod (2 * q0 + 1) (4 * h)
  have hul := Nat.mod_lt (2 * q0 + 1) hD
  have hodd : (2 * q0 + 1) % (4 * h) % 2 = 1 := by
    have : (2 * q0 + 1) % (4 * h) % 2 = (2 * q0 + 1) % 2 := Nat.mod_mod_of_dvd _ ⟨2 * h, by omega⟩
    rw [this]; omega
  have hdiv : 2 * N / (Q * (4 * h)) = (2 * q0 + 1) / (4 * h) ∧ 2 * N % (Q * (4 * h)) = Q * ((2 * q0 + 1) % (4 * h) - 1) + 2 * rem := by
    generalize (2 * q0 + 1) / (4 * h) = t at *
    generalize (2 * q0 + 1) % (4 * h) = u at *
    have e0 : 2 * q0 = 4 * h * t + (u - 1) := by omega
    have e1 : 2 * N = Q * (4 * h) * t + (Q * (u - 1) + 2 * rem) := by
      rw [← hN]
      have : 2 * (Q * q0 + rem) = Q * (2 * q0) + 2 * rem := by rw [Nat.mul_add, ← Nat.mul_assoc, ← Nat.mul_assoc, Nat.mul_comm 2 Q]
      rw [this, e0, Nat.mul_add, ← Nat.mul_assoc]
      omega
    have hw : Q * (u - 1) + 2 * rem < Q * (4 * h) := by
      have a1 : Q * (u - 1) + 2 * Q ≤ Q * (4 * h) := by
        have : Q * (u - 1) + 2 * Q = Q * (u + 1) := by
          have : u + 1 = (u - 1) + 2 := by omega
          rw [this, Nat.mul_add, Nat.mul_comm 2 Q]
        rw [this]
        exact Nat.mul_le_mul_left _ (by omega)
      omega
    have hQD : 0 < Q * (4 * h) := Nat.mul_pos hQ hD
    constructor
    · rw [e1, Nat.add_comm, Nat.add_mul_div_left _ _ hQD, Nat.div_eq_of_lt hw, Nat.zero_add]
    · rw [e1, Nat.add_comm, Nat.add_mul_mod_self_left, Nat.mod_eq_of_lt hw]
  unfold rnd
  rw [hdiv.1]
  congr 2
  unfold isMore
  rw [hdiv.2]
  generalize (2 * q0 + 1) / (4 * h) = t at *
  generalize (2 * q0 + 1) % (4 * h) = u at *
  have hupos : 0 < u := by omega
  have hwpos : 0 < Q * (u - 1) + 2 * rem := by omega
  have c2 : (2 * u > 4 * h) ↔ (2 * (Q * (u - 1) + 2 * rem) > Q * (4 * h)) := by
    constructor
    · intro hc
      have : 2 * h ≤ u - 1 := by omega
      have a1 := Nat.mul_le_mul_left Q this
      have a2 : Q * (4 * h) = 2 * (Q * (2 * h)) := by
        have : 4 * h = 2 * (2 * h) := by omega
        rw [this]; ac_rfl
      omega
    · intro hc
      apply Classical.byContradiction
      intro hn
      have : u + 1 ≤ 2 * h := by omega
      have a1 := Nat.mul_le_mul_left Q this
      have a2 : Q * (4 * h) = 2 * (Q * (2 * h)) := by
        have : 4 * h = 2 * (2 * h) := by omega
        rw [this]; ac_rfl
      have a3 : Q * (u + 1) = Q * (u - 1) + 2 * Q := by
        have : u + 1 = (u - 1) + 2 := by omega
        rw [this, Nat.mul_add, Nat.mul_comm Q 2]
      omega
  have c3 : ¬ (2 * u = 4 * h) := by omega
  have c4 : ¬ (2 * (Q * (u - 1) + 2 * rem) = Q * (4 * h)) := by
    intro hc
    by_cases hc2 : 2 * u > 4 * h
    · have := c2.mp hc2; omega
    · have : u + 1 ≤ 2 * h := by omega
      have a1 := Nat.mul_le_mul_left Q this
      have a2 : Q * (4 * h) = 2 * (Q * (2 * h)) := by
        have : 4 * h = 2 * (2 * h) := by omega
        rw [this]; ac_rfl
      have a3 : Q * (u + 1) = Q * (u - 1) + 2 * Q := by
        have : u + 1 = (u - 1) + 2 := by omega
        rw [this, Nat.mul_add, Nat.mul_comm Q 2]
      omega
  cases r <;> simp only [c2, c3, c4, hupos, hwpos, gt_iff_lt, decide_true, decide_false, Bool.true_and, Bool.false_and]
end Mine
end
section
open PySem PySem.W
namespace Mine
/-- the code of a digit -/
def dc (d : Nat) : Nat := if d < 10 then 48 + d else 87 + d
/-- the last k digits of x -/
def dgs (b : Nat) : Nat → Nat → List Nat
  | 0, _ => []
  | k + 1, x => dc (x / b ^ k % b) :: dgs b k x
theorem dgs_len (b : Nat) : ∀ k x, (dgs b k x).length = k
  | 0, _ => rfl
  | k + 1, x => by show (dgs b k x).length + 1 = _; rw [dgs_len b k x]
theorem dgs_add (b : Nat) : ∀ k j x, dgs b (k + j) x = dgs b k (x / b ^ j) ++ dgs b j x
  | 0, j, x => by rw [Nat.zero_add]; rfl
  | k + 1, j, x => by
    rw [show k + 1 + j = (k + j) + 1 by omega]
    show dc (x / b ^ (k + j) % b) :: dgs b (k + j) x = dc (x / b ^ j / b ^ k % b) :: (dgs b k (x / b ^ j) ++ dgs b j x)
    rw [dgs_add b k j x, Nat.div_div_eq_div_mul, ← Nat.pow_add, Nat.add_comm j k]
theorem mod_digit (b : Nat) {k j : Nat} (h : k < j) (x : Nat) : x % b ^ j / b ^ k % b = x / b ^ k % b := by
  have e : b ^ j = b ^ k * b ^ (j - k) := by rw [← Nat.pow_add]; congr 1; omega
  rw [e, Nat.mod_mul_right_div_self]
  exact Nat.mod_mod_of_dvd _ ⟨b ^ (j - k - 1), by rw [Nat.mul_comm, ← Nat.pow_succ]; congr 1; omega⟩
theorem dgs_mod (b : Nat) : ∀ {k j : Nat} (_ : k ≤ j) (x : Nat), dgs b k (x % b ^ j) = dgs b k x
  | 0, _, _, _ => rfl
  | k + 1, j, h, x => by
    show dc (x % b ^ j / b ^ k % b) :: dgs b k (x % b ^ j) = _
    rw [dgs_mod b (by omega) x, mod_digit b (by omega)]; rfl
theorem dgs_zero (b : Nat) : ∀ k, dgs b k 0 = List.replicate k 48
  | 0 => rfl
  | k + 1 => by
    show dc (0 / b ^ k % b) :: dgs b k 0 = _
    rw [dgs_zero b k, Nat.zero_div, Nat.zero_mod]; rfl
theorem dgs_get (b : Nat) : ∀ {k i : Nat} (_ : i < k) (x : Nat), (dgs b k x)[i]? = some (dc (x / b ^ (k - 1 - i) % b))
  | 0, _, h, _ => by omega
  | k + 1, 0, _, x => rfl
  | k + 1, i + 1, h, x => by
    show (dgs b k x)[i]? = _
    rw [dgs_get b (by omega) x]
    congr 5
    omega
theorem dgs_pad {b : Nat} (hb : 0 < b) (k j x : Nat) : dgs b (k + j) (x * b ^ j) = dgs b k x ++ List.replicate j 48 := by
  rw [dgs_add, Nat.mul_div_cancel _ (Nat.pow_pos hb), ← dgs_mod b (Nat.le_refl j) (x * b ^ j), Nat.mul_mod_left, dgs_zero]
theorem dgs_lead {b : Nat} (j : Nat) {k x : Nat} (h : x < b ^ k) : dgs b (j + k) x = List.replicate j 48 ++ dgs b k x := by
  rw [dgs_add, Nat.div_eq_of_lt h, dgs_zero]
/-- the worth of a digit's code -/
def dv (c : Nat) : Nat := if c < 58 then c - 48 else c - 87
theorem dv_dc {d : Nat} : dv (dc d) = d := by
  unfold dc dv; split <;> split <;> omega
def vl (b : Nat) (l : List Nat) : Nat := l.foldl (fun v c => v * b + dv c) 0
theorem vl_from (b : Nat) : ∀ (l : List Nat) (v : Nat), l.foldl (fun v c => v * b + dv c) v = v * b ^ l.length + vl b l
  | [], v => by simp [vl]
  | c :: l, v => by
    show l.foldl _ (v * b + dv c) = _
    unfold vl
    rw [List.foldl_cons, vl_from b l (v * b + dv c), vl_from b l (0 * b + dv c), List.length_cons, Nat.pow_succ, Nat.add_mul, Nat.zero_mul, Nat.zero_add, Nat.mul_assoc, Nat.mul_comm b, Nat.add_assoc]
theorem vl_append (b : Nat) (l m : List Nat) : vl b (l ++ m) = vl b l * b ^ m.length + vl b m := by
  unfold vl; rw [List.foldl_append, vl_from]; rfl
theorem vl_cons (b c : Nat) (m : List Nat) : vl b (c :: m) = dv c * b ^ m.length + vl b m := by
  have := vl_append b [c] m
  simpa [vl] using this
theorem vl_dgs {b : Nat} (hb : 0 < b) : ∀ k x, vl b (dgs b k x) = x % b ^ k
  | 0, x => by simp [dgs, vl, Nat.mod_one]
  | k + 1, x => by
    show vl b (dc (x / b ^ k % b) :: dgs b k x) = _
    rw [vl_cons, dv_dc, dgs_len, vl_dgs hb k x, Nat.pow_succ, Nat.mod_mul, Nat.mul_comm, Nat.add_comm]
theorem vl_zeros (b : Nat) : ∀ k, vl b (List.replicate k 48) = 0
  | 0 => rfl
  | k + 1 => by
    rw [List.replicate_succ, vl_cons, vl_zeros b k]; simp [dv]
/-! texts -/
def tx (l : List Nat) : Str := ⟨l.toArray⟩
theorem tx_append (l m : List Nat) : tx l ++ tx m = tx (l ++ m) := by
  show Str.mk (l.toArray ++ m.toArray) = _
  rw [List.append_toArray]; rfl
theorem tx_length (l : List Nat) : (tx l).length = l.length := by show l.toArray.size = _; simp
theorem tx_inj {l m : List Nat} : tx l = tx m ↔ l = m := by unfold tx; simp
open StrLaws in
theorem tx_slice (l : List Nat) {i j : Int} (h0 : 0 ≤ i) (h1 : i ≤ j) (h2 : j ≤ l.length) : Txt.slice (tx l) (some i) (some j) = tx ((l.drop i.toNat).take (j - i).toNat) :=
  sliceText_plain (x := tx l) ⟨h0, h1, by simpa [tx] using h2⟩
open StrLaws in
theorem tx_take (l : List Nat) {j : Int} (h1 : 0 ≤ j) (h2 : j ≤ l.length) : Txt.slice (tx l) none (some j) = tx (l.take j.toNat) := by
  have := sliceText_to (x := tx l) (j := j) ⟨h1, by simpa [tx] using h2⟩
  refine this.trans ?_
  simp [tx]
open StrLaws in
theorem tx_drop (l : List Nat) {j : Int} (h1 : 0 ≤ j) (h2 : j ≤ l.length) : Txt.slice (tx l) (some j) none = tx (l.drop j.toNat) := by
  have := sliceText_from (x := tx l) (i := j) ⟨h1, by simpa [tx] using h2⟩
  refine this.trans ?_
  have e : ((l.length : Int) - j).toNat = l.length - j.toNat := by omega
  simp only [tx, Str.mk.injEq, e]
  congr 1
  rw [List.take_of_length_le]
  simp
open StrLaws in
theorem tx_dropLast (l : List Nat) (h : l ≠ []) : Txt.slice (tx l) none (some (-1)) = tx l.dropLast := by
  have hl : 0 < l.length := List.length_pos_iff.mpr h
  have hx : (tx l).length = l.length := tx_length l
  have := sliceText_to_neg (x := tx l) (j := -1) (by decide) (by rw [hx]; omega)
  refine this.trans ?_
  rw [hx, show ((-1 : Int) + (l.length : Int) - 0).toNat = l.length - 1 by omega]
  simp [tx, List.dropLast_eq_take]
/-- without the c at the end -/
def rs (c : Nat) (l : List Nat) : List Nat := (l.reverse.dropWhile (· == c)).reverse
theorem rs_snoc (c : Nat) (l : List Nat) (d : Nat) : rs c (l ++ [d]) = if d = c then rs c l else l ++ [d] := by
  unfold rs
  rw [List.reverse_append, List.reverse_singleton, List.singleton_append, List.dropWhile_cons]
  by_cases h : d = c
  · simp [h]
  · simp [h]
theorem rs_nil (c : Nat) : rs c [] = [] := rfl
theorem rs_eq_take (c : Nat) (l : List Nat) : rs c l = l.take (l.length - (l.reverse.takeWhile (· == c)).length) := by
  have h := List.takeWhile_append_dropWhile (p := (· == c)) (l := l.reverse)
  have e : l = rs c l ++ (l.reverse.takeWhile (· == c)).reverse := by
    have := congrArg List.reverse h
    rw [List.reverse_append, List.reverse_reverse] at this
    exact this.symm
  have hl : l.length - (l.reverse.takeWhile (· == c)).length = (rs c l).length := by
    have := congrArg List.length e
    rw [List.length_append, List.length_reverse] at this
    omega
  rw [hl]
  have := congrArg (List.take (rs c l).length) e
  rw [List.take_left] at this
  exact this.symm
open Builtin Builtin.Str in
theorem tx_rstrip (l : List Nat) (c : Nat) : Txt.rstripChars (tx l) (tx [c]) = tx (rs c l) := by
  have e2 : (tx [c]).cps.contains = (fun d => d == c) := by funext d; rw [Bool.eq_iff_iff]; simp [tx]
  unfold Txt.rstripChars
  rw [PyProof.Rows.stripBy_eq, PyProof.Rows.strSub_mk, rs_eq_take, e2]
  simp only [stripLo, stripHi, if_true, List.drop_zero, tx_length]
  unfold tx
  simp
end Mine
end
section
open PySem PySem.W
namespace Mine
def zs (k : Nat) : List Nat := List.replicate k 48
theorem fold_cat (l : List (Array Nat)) (a : Array Nat) : (l.foldl (· ++ ·) a).toList = a.toList ++ (l.map Array.toList).flatten := by
  induction l generalizing a with
  | nil => simp
  | cons x r ih => rw [List.foldl_cons, ih]; simp
theorem mul_zero_txt (i : Int) : Txt.mul (Str.ofString "0") i = tx (zs i.toNat) := by
  have e0 : Str.ofString "0" = tx [48] := by decide +kernel
  rw [e0]
  unfold Txt.mul
  by_cases h : i < 1
  · rw [if_pos h, show i.toNat = 0 by omega]; rfl
  · rw [if_neg h]
    by_cases h1 : i = 1
    · subst h1; rfl
    · have : ((i == 1) || (tx [48]).length == 0) = false := by
        rw [tx_length]; simp [h1]
      rw [this]
      simp only [Bool.false_eq_true, if_false]
      have h2 := fold_cat (List.replicate i.toNat (tx [48]).cps) #[]
      have h3 : ((List.replicate i.toNat (tx [48]).cps).map Array.toList).flatten = zs i.toNat := by
        rw [List.map_replicate]
        show (List.replicate i.toNat [48]).flatten = _
        generalize i.toNat = k
        induction k with
        | zero => rfl
        | succ k ih => rw [List.replicate_succ, List.flatten_cons, ih]; rfl
      rw [h3] at h2
      show Str.mk _ = Str.mk _
      congr 1
      apply Array.toList_inj.mp
      refine h2.trans ?_
      simp
/-- the decimal text of a number -/
def dec (n : Nat) : List Nat := (Nat.toDigits 10 n).map Char.toNat
theorem str_nat (n : Nat) : Str.ofString (toString ((n : Nat) : Int)) = tx (dec n) := by
  rw [Str.ofString_eq_toList]
  have e : (toString ((n : Nat) : Int)).toList = Nat.toDigits 10 n := by
    show (Nat.repr n).toList = _
    simp [Nat.repr]
  rw [e]; rfl
theorem str_neg (n : Nat) : Str.ofString (toString (-((n + 1 : Nat) : Int))) = tx (45 :: dec (n + 1)) := by
  rw [Str.ofString_eq_toList]
  have e : (toString (-((n + 1 : Nat) : Int))).toList = '-' :: Nat.toDigits 10 (n + 1) := by
    show ("-" ++ Nat.repr (n + 1)).toList = _
    simp [Nat.repr]
  rw [e]; rfl
/-- with its sign -/
def shw (x : Int) : List Nat := (if x ≥ 0 then 43 else 45) :: dec x.natAbs
def pre (b : Nat) : List Nat := if b = 2 then [48, 98] else if b = 8 then [48, 111] else if b = 16 then [48, 120] else []
def body (ds : List Nat) (place : Int) (many : Nat) (low high : Int) : List Nat :=
  if low < place ∧ place < high then
    if place < 0 then [48, 46] ++ (zs (-place - 1).toNat ++ ds)
    else (ds ++ zs (place + 1 - many).toNat).take (place + 1).toNat ++ ([46] ++ (ds ++ zs (place + 1 - many).toNat).drop (place + 1).toNat)
  else ds.take 1 ++ ([46] ++ ds.drop 1)
def struck (l : List Nat) : List Nat := if (rs 48 l).getLast? = some 46 then rs 48 l ++ [48] else rs 48 l
def shownP (place low high : Int) : Int := if low < place ∧ place < high then 0 else place
def tailP (b : Nat) (sh : Int) (shown : Bool) : List Nat := if sh ≠ 0 ∨ shown = true then (if b > 10 then [64] else [101]) ++ shw sh else []
def textP (ds : List Nat) (place : Int) (many : Nat) (low high : Int) (strk shown minus : Bool) (b : Nat) : List Nat :=
  (if minus then [45] else []) ++ pre b ++ (if strk then struck (body ds place many low high) else body ds place many low high) ++ tailP b (shownP place low high) shown
theorem dec_len_le {n k : Nat} (hk : 0 < k) (h : n < 10 ^ k) : (dec n).length ≤ k := by
  unfold dec; rw [List.length_map]
  exact (Nat.length_toDigits_le_iff (by decide) hk).mpr h
theorem dgs_snoc {b : Nat} (k x : Nat) : dgs b (k + 1) x = dgs b k (x / b) ++ [dc (x % b)] := by
  rw [dgs_add, Nat.pow_one]
  show _ ++ [dc (x / b ^ 0 % b)] = _
  rw [Nat.pow_zero, Nat.div_one]
theorem digitChar_code {d : Nat} (h : d < 10) : (Nat.digitChar d).toNat = dc d := by
  have : ∀ d : Fin 10, (Nat.digitChar d).toNat = dc d := by decide
  exact this ⟨d, h⟩
theorem dec_eq : ∀ (k n : Nat), n < 10 ^ (k + 1) → (k = 0 ∨ 10 ^ k ≤ n) → dec n = dgs 10 (k + 1) n
  | 0, n, h, _ => by
    have h' : n < 10 := by simpa using h
    unfold dec
    rw [Nat.toDigits_of_lt_base h']
    show [(Nat.digitChar n).toNat] = [dc (n / 10 ^ 0 % 10)]
    rw [Nat.pow_zero, Nat.div_one, Nat.mod_eq_of_lt h', digitChar_code h']
  | k + 1, n, h, h2 => by
    have h2' : 10 ^ (k + 1) ≤ n := by rcases h2 with h2 | h2 <;> omega
    have h10 : 10 ≤ n := Nat.le_trans (Nat.le_self_pow (by omega) 10) h2'
    have ih := dec_eq k (n / 10) (by rw [Nat.div_lt_iff_lt_mul (by decide), ← Nat.pow_succ]; exact h) (by
      right; rw [Nat.le_div_iff_mul_le (by decide), ← Nat.pow_succ]; exact h2')
    rw [dgs_snoc, ← ih]
    unfold dec
    rw [Nat.toDigits_of_base_le (by decide) h10, List.map_append]
    congr 1
    show [_] = [_]
    rw [digitChar_code (Nat.mod_lt _ (by decide))]
end Mine
end
section
open PySem PySem.W PySem.Calls PyProof.Rows
namespace Mine
open Builtin Float PySem in
theorem formatField_sign {prog : Program} {w : World} {A : Around} {E : Value → Shared → Prop} {s : Shared} {a : Int} {t : Tok} {spec : Str} {f : FormatSpec} {Q : Value → Shared → Prop}
    (hn : s.heap.NoDigits) (hlt : a.natAbs < 10 ^ 4300)
    (hp : parseFormatSpec spec.cps.toList "int" 62 = .ok f)
    (hne : (spec.length == 0) = false)
    (hasc : ((spec.cps.toList.drop 1).any (· ≥ 128) || (spec.cps.getD 0 0 ≥ 128 && !([60, 62, 61, 94] : List Nat).contains (spec.cps.getD 1 0))) = false)
    (hty : f.type.getD (if spec.cps.back? == some 0 then 0 else 100) = 100) (hpr : f.precision = none) (hz : f.noNeg0 = false) (hal : f.alt = false) (hw : f.width = none) (hgr : f.grouping = none) (hsg : f.sign = some 43)
    (h : Q (.str (intSpecText f a) (s.toks + 1)) { s with toks := s.toks + 1 + 1 }) (hsz : spec.length ≤ sizeLine) (hlen : (intSpecText f a).length ≤ sizeLine) :
    wpAny (model prog w) A (formatField (.int a t) spec) Q E s := by
  show wpAny _ _ (holding [.int a t] (pyFormat (.int a t) spec)) Q E s
  refine wpAny_holding ?_
  unfold pyFormat
  refine wpAny_bind (wpAny_mkStr ?_ hsz)
  refine wpAny_bind (m := callSpecial? (.int a t) (Str.ofString "__format__") [.str spec s.toks]) (wpAny_callSpecial?_slot (name := Str.ofString "__format__") (typeIs_int _ a t) slot_int_format ?_)
  refine wpAny_call (codeAny_call_builtin slot_int_format.plain entry_int_format (slot_int_format.check _ _ _ _ _ _ _ _ (typeIs_int _ a t) (args_int_format _ _) ?_))
  unfold Builtin.«int.__format__»
  simp only [selfAndOne, noKeywords, Int.intOfSelf, asInt?, asStr?, List.isEmpty_nil, if_true, pure_bind, bind_pure, bind_assoc, hne, hasc, Bool.false_eq_true, if_false,
    show (Value.str spec s.toks == Value.none) = false from rfl]
  refine wpAny_bind (wpAny_typeNameOf (T := "str") (typeIs_str _ _ _) (by decide) fun _ => ?_)
  first | refine wpAny_bind (wpAny_typeNameOfCut_int ?_) | refine wpAny_bind (wpAny_typeNameOf_int ?_)
  simp only [hp, hty]
  rw [if_pos (by decide)]
  show wpAny _ _ (if _ then _ else _) _ _ _
  rw [if_neg (by simp [hpr])]
  show wpAny _ _ (if _ then _ else _) _ _ _
  rw [if_neg (by simp [hz])]
  show wpAny _ _ (if _ then _ else _) _ _ _
  rw [if_neg (by decide)]
  show wpAny _ _ (do let r ← Builtin.overDigitLimit? a; _) _ _ _
  refine wpAny_bind (overDigitLimit_any hn (fun _ => ?_) (fun hge => absurd hlt (Nat.not_lt.mpr hge)))
  show wpAny _ _ (if _ then _ else _) _ _ _
  rw [if_neg (by simp [hw])]
  show wpAny _ _ (retStr _) _ _ _
  unfold retStr
  refine wpAny_bind (wpAny_mkStr (wpAny_pure ?_) ?hs2)
  case hs2 =>
    simp only [hal, Bool.false_eq_true, if_false, show ((10 : Nat) == 10) = true by decide, if_true]
    conv => lhs; arg 1; whnf
    simp only [intSpecText, intField', hgr, hsg, hal, Bool.false_eq_true, if_false, show ((10 : Nat) == 10) = true by decide, if_true] at hlen ⊢
    exact hlen
  dsimp only
  refine wpAny_bind (wpAny_isInstance (typeIs_str _ _ _) isSubtype_str_str (wpAny_pure ?_))
  simp only [hal, Bool.false_eq_true, if_false, show ((10 : Nat) == 10) = true by decide, if_true]
  conv => arg 1; arg 1; whnf
  simp only [intSpecText, intField', hgr, hsg, hal, Bool.false_eq_true, if_false, show ((10 : Nat) == 10) = true by decide, if_true] at h ⊢
  exact h
open Builtin Float PySem in
def plusSpec : FormatSpec := match parseFormatSpec (Str.ofString "+").cps.toList "int" 62 with | .ok f => f | .error _ => { align := 62 }
open Builtin Float PySem in
theorem plus_text (a : Int) : intSpecText plusSpec a = tx (shw a) := by
  have e1 : plusSpec.sign = some 43 := by rfl
  have e2 : plusSpec.width = none := by rfl
  have e3 : plusSpec.grouping = none := by rfl
  have e4 : plusSpec.align = 62 := by rfl
  have e5 : plusSpec.fill = 32 := by rfl
  have hne : (Nat.toDigits 10 a.natAbs).map Char.toNat ≠ [] := by simp
  have hd : ((Nat.toDigits 10 a.natAbs).map fun c => (if (100 : Nat) == 88 then c.toUpper else c).toNat) = dec a.natAbs := rfl
  have hde : (dec a.natAbs).isEmpty = false := by
    cases h : dec a.natAbs with
    | nil => exact absurd h hne
    | cons _ _ => rfl
  unfold intSpecText intField'
  rw [hd]
  simp only [e1, e2, e3, e4, e5, hde, Bool.false_eq_true, if_false]
  unfold shw tx
  by_cases h : a < 0
  · have : ¬ a ≥ 0 := by omega
    simp [h, this]
  · have : a ≥ 0 := by omega
    simp [h, this]
section
variable {P : Prog} {S : Static P} {n k : Nat} {ns : Names} {vs vs' : Vals} {σ σ' : List PV} {μ : Option Addr} {L : Addr} {s s' : Shared}
variable {R : PV → Vals → List PV → Prop}
theorem ev_plus {e : PySem.Expr} {kk : Nat} {p1 p2 p3 p4 : Pos} (h : EV S n k ns vs σ e (fun x v q => ∃ i, x = .int i ∧ i.natAbs < 1000 ∧ R (.str (tx (shw i))) v q)) :
    EV S n k ns vs σ (.JoinedStr [.FormattedValue e (-1) (some (.JoinedStr [.Constant (.str (Str.ofString "+")) kk p1] p2)) p3] p4) R := by
  intro μ L s F A Q E rm hQ
  refine wpAny_JoinedStr_one (wpAny_FormattedValue_spec (h μ L s F A _ E rm fun s1 v p vs1 σ1 h1 F1 X1 r => wpAny_JoinedStr_one (wpAny_Constant_str ⟨_, _, rfl, ?_⟩)))
  obtain ⟨i, rfl, hi, hR⟩ := h1
  obtain ⟨t, rfl⟩ := r
  have hl := dec_len_le (n := i.natAbs) (k := 3) (by decide) (by omega)
  have hlen : (intSpecText plusSpec i).length ≤ sizeLine := by
    rw [plus_text, tx_length, sizeLine_eq]
    unfold shw
    simp; omega
  obtain ⟨m, fr, _⟩ := F1.fr
  refine formatField_sign (f := plusSpec) (S.hdig.keeps fr.keep) (Nat.lt_of_lt_of_le (m := 10 ^ 3) (by omega) (Nat.pow_le_pow_right (by decide) (by decide))) rfl (by decide +kernel) (by decide +kernel) (by rfl) (by rfl) (by rfl) (by rfl) (by rfl) (by rfl) (by rfl) ?_ (by decide +kernel) hlen
  rw [plus_text]
  exact hQ _ _ _ vs1 σ1 hR F1.toks (X1.trans Ext.toks) ⟨_, rfl⟩
end
end Mine
end
section
open PySem PySem.W PySem.Calls PyProof.Rows PySem.NumText
namespace Mine
theorem wp_textB {M : Model} {A : Around} {E : Value → Shared → Prop} {s : Shared} {Q : Value → Shared → Prop} {v : Value} {text : List Nat} {n : Int} {b : Nat}
    (hs : (text.takeWhile (· != 0)).length ≤ 640) (hr : (int_private% "readNumeral") 0 b (text.takeWhile (· != 0)) = (int_private% "Numeral.value") n)
    (ha : ((text.takeWhile (· != 0)).length == text.length) = true) (h : Q (.int n s.toks) { s with toks := s.toks + 1 }) :
    wpAny M A ((int_private% "intFromText") v text b) Q E s := by
  obtain ⟨hp, g, d, tk, os⟩ := s
  repeat (any_goals (first
    | assumption
    | (with_reducible refine wpAny_ite_true (decide_eq_true hs) ?_)
    | (with_reducible refine wpAny_ite_true (decide_eq_true ha) ?_)
    | wp_step))
  all_goals (try rw [hr])
  all_goals (try dsimp only)
  repeat (any_goals (first
    | assumption
    | (with_reducible refine wpAny_ite_true (decide_eq_true hs) ?_)
    | (with_reducible refine wpAny_ite_true (decide_eq_true ha) ?_)
    | wp_step))
structure Hid (p : Prop) : Prop where
  out : p
theorem gives_textB {x : PySem.Str} {u t : Tok} {n : Int} {b : Nat} (hb : 2 ≤ b) (hb2 : b ≤ 36) (hs : (numSeenOf x).length ≤ 640)
    (hr : (int_private% "readNumeral") 0 b (numSeenOf x) = (int_private% "Numeral.value") n) (ha : ((numSeenOf x).length == (numTextOf x).length) = true) :
    Gives (Builtin.«int.__new__» ⟨[.type "int", .str x u, .int (b : Nat) t], []⟩) (.int n) :=
  .of_wp fun M A E s Q h => by
    obtain ⟨hp, g, d, tk, os⟩ := s
    have f1 := F.conv_sub_int
    have f2 := F.madeHere_int
    have hk := Hid.mk (And.intro hs (And.intro hr ha))
    have hbb : (((b : Nat) : Int) != 0 && decide (((b : Nat) : Int) < 2) || decide (((b : Nat) : Int) > 36)) = false := by
      have h1 : decide (((b : Nat) : Int) < 2) = false := decide_eq_false (by omega)
      have h2 : decide (((b : Nat) : Int) > 36) = false := decide_eq_false (by omega)
      rw [h1, h2]; simp
    clear hs hr ha hb hb2
    repeat (any_goals (first
      | assumption
      | ((with_reducible show wpAny _ _ ((int_private% "intFromText") _ _ _) _ _ _); refine wp_textB hk.out.1 hk.out.2.1 hk.out.2.2 ?_)
      | (with_reducible refine wpAny_ite_false hbb ?_)
      | wp_step))
    all_goals first | exact ⟨_, rfl, h⟩ | skip
theorem typeCall_int_2 (a b : Value) : checkTypeCall "int" ⟨[a, b], []⟩ = pure () := by kernel_rfl
theorem newCall_int_2 (a b : Value) : checkBuiltinCall "int.__new__" ⟨[.type "int", a, b], []⟩ = pure () := by kernel_rfl
section
variable {P : Prog} {S : Static P} {n k : Nat} {ns : Names} {vs vs' : Vals} {σ σ' : List PV} {μ : Option Addr} {L : Addr} {s s' : Shared}
variable {R : PV → List PV → Prop} {x : Str}
theorem ct_int_base {i : Int} {b : Nat} (hb : 2 ≤ b) (hb2 : b ≤ 36) (hs : (numSeenOf x).length ≤ 640)
    (hr : (int_private% "readNumeral") 0 b (numSeenOf x) = (int_private% "Numeral.value") i) (ha : ((numSeenOf x).length == (numTextOf x).length) = true) (h : R (.int i) σ) :
    CallTo S n (.raw (.type "int")) [.str x, .int (b : Nat)] σ R := by
  intro k ns vs μ L s fv as F rf ras A Q E rm hQ
  cases rf; obtain ⟨_, _, rfl, ⟨t, rfl⟩, _, _, rfl, ⟨u, rfl⟩, rfl⟩ := ras
  exact callType_new PySem.F.called_int PySem.F.newNe_int (typeCall_int_2 _ _) (newCall_int_2 _ _) (fun obj => PySem.F.args_object_init_3 obj _ _) PySem.F.entry_int_new (gives_textB hb hb2 hs hr ha).meets
    (show (Made.int i).post _ s from ⟨rfl, hQ _ _ _ _ h F.toks .toks ⟨_, rfl⟩⟩)
end
/-! reading a numeral -/
def isDg (b c : Nat) : Prop := ∃ d, d < b ∧ c = dc d
theorem digit_dc {d : Nat} (h : d < 16) : digit? (dc d) = some d := by
  have : ∀ d : Fin 16, digit? (dc d) = some d.val := by decide
  exact this ⟨d, h⟩
theorem dc_facts {d : Nat} (h : d < 16) : dc d ≠ 95 ∧ dc d ≠ 45 ∧ dc d ≠ 43 ∧ dc d < 128 ∧ dc d ≠ 0 ∧ blank (dc d) = false := by
  have : ∀ d : Fin 16, dc d ≠ 95 ∧ dc d ≠ 45 ∧ dc d ≠ 43 ∧ dc d < 128 ∧ dc d ≠ 0 ∧ blank (dc d) = false := by decide
  exact this ⟨d, h⟩
theorem step_dc {b d : Nat} (hb : b ≤ 16) (h : d < b) (p : Array Nat × Bool) : NumText.step b p (dc d) = some (p.1.push d, true) := by
  unfold NumText.step
  have h1 := (dc_facts (d := d) (by omega)).1
  rw [show (dc d == 95) = false by simpa using h1, digit_dc (by omega)]
  simp [h]
theorem fold_dgs {b : Nat} (hb : b ≤ 16) : ∀ (ds : List Nat) (p : Array Nat × Bool), (∀ c ∈ ds, isDg b c) → ds.foldlM (NumText.step b) p = some (p.1 ++ (ds.map dv).toArray, p.2 || !ds.isEmpty)
  | [], p, _ => by simp
  | c :: ds, p, h => by
    obtain ⟨d, hd, rfl⟩ := h c (.head _)
    rw [List.foldlM_cons, step_dc hb hd]
    show ds.foldlM (NumText.step b) (p.1.push d, true) = _
    rw [fold_dgs hb ds _ fun c hc => h c (.tail _ hc)]
    simp [dv_dc]
theorem digits_dgs {b : Nat} (hb : b ≤ 16) {ds : List Nat} (h0 : ds ≠ []) (h : ∀ c ∈ ds, isDg b c) : digits? b ds = some (ds.map dv).toArray := by
  unfold digits?
  rw [fold_dgs hb ds _ h]
  cases ds with
  | nil => exact absurd rfl h0
  | cons c ds => simp
theorem vl_map (b : Nat) (ds : List Nat) : ((ds.map dv).toArray).foldl (fun acc d => acc * b + d) 0 = vl b ds := by
  unfold vl
  simp [List.foldl_map]
theorem judge_based {b : Nat} {neg : Bool} {ds : List Nat} (hl : ds.length ≤ 600) : judge 0 neg b false (some (ds.map dv).toArray) = (int_private% "Numeral.value") (if neg then -((vl b ds : Nat) : Int) else ((vl b ds : Nat) : Int)) := by
  have e1 : (![2, 4, 8, 16, 32].contains b && (0 : Nat) != 0 && decide ((ds.map dv).toArray.size > 0)) = false := by simp
  have e2 : (b == 10 && decide ((ds.map dv).toArray.size > 6000)) = false := by
    rw [decide_eq_false (by simp; omega), Bool.and_false]
  unfold judge
  rw [← vl_map]
  exact (if_neg (by rw [e1]; exact Bool.false_ne_true)).trans ((if_neg (by rw [e2]; exact Bool.false_ne_true)).trans rfl)
theorem strip_blank {ds : List Nat} (h : ∀ c ∈ ds, blank c = false) : (ds.reverse.dropWhile blank).reverse = ds := by
  have : ds.reverse.dropWhile blank = ds.reverse := by
    cases hr : ds.reverse with
    | nil => rfl
    | cons c l =>
      have : c ∈ ds := List.mem_reverse.mp (by rw [hr]; exact .head _)
      rw [List.dropWhile_cons, h c this]; rfl
  rw [this, List.reverse_reverse]
theorem numText_tx {l : List Nat} (h : ∀ c ∈ l, c < 128) : numTextOf (tx l) = l := by
  unfold numTextOf
  have : (tx l).cps.all (· < 128) = true := by
    rw [Array.all_eq_true']
    intro c hc
    exact decide_eq_true (h c (by simpa [tx] using hc))
  rw [if_pos this]; simp [tx]
theorem numSeen_tx {l : List Nat} (h : ∀ c ∈ l, c < 128 ∧ c ≠ 0) : numSeenOf (tx l) = l := by
  unfold numSeenOf
  rw [numText_tx fun c hc => (h c hc).1]
  have : ∀ l : List Nat, (∀ c ∈ l, c ≠ 0) → l.takeWhile (· != 0) = l := by
    intro l
    induction l with
    | nil => intro _; rfl
    | cons c l ih =>
      intro h
      rw [List.takeWhile_cons, show (c != 0) = true by simpa using h c (.head _)]
      simp only [if_true]
      rw [ih fun c hc => h c (.tail _ hc)]
  exact this l fun c hc => (h c hc).2
theorem sign_plain {c : Nat} {r : List Nat} (h1 : c ≠ 45) (h2 : c ≠ 43) : sign (c :: r) = (false, c :: r) := by
  unfold sign
  split
  · rename_i h; cases h; exact absurd rfl h1
  · rename_i h; cases h; exact absurd rfl h2
  · rfl
/-- a numeral with its sign and its prefix -/
theorem read_based {b : Nat} (hb : b = 10 ∨ b = 2 ∨ b = 8 ∨ b = 16) (neg : Bool) {ds : List Nat} (h0 : ds ≠ []) (h : ∀ c ∈ ds, isDg b c) (hl : ds.length ≤ 600) :
    (int_private% "readNumeral") 0 b ((if neg then [45] else []) ++ pre b ++ ds) = (int_private% "Numeral.value") (if neg then -((vl b ds : Nat) : Int) else ((vl b ds : Nat) : Int)) := by
  have hb16 : b ≤ 16 := by omega
  obtain ⟨c, r, rfl⟩ : ∃ c r, ds = c :: r := by cases ds with | nil => exact absurd rfl h0 | cons c r => exact ⟨c, r, rfl⟩
  obtain ⟨d, hd, rfl⟩ := h c (.head _)
  have hf := dc_facts (d := d) (by omega)
  have hbl : ∀ c ∈ dc d :: r, blank c = false := fun c hc => by obtain ⟨d', hd', rfl⟩ := h c hc; exact (dc_facts (by omega)).2.2.2.2.2
  have hs : ∀ t : List Nat, t ≠ [] → (∀ c r, t = c :: r → c ≠ 45 ∧ c ≠ 43 ∧ blank c = false) → sign (((if neg then [45] else []) ++ t).dropWhile blank) = (neg, t) := by
    intro t ht hc
    obtain ⟨c, r, rfl⟩ : ∃ c r, t = c :: r := by cases t with | nil => exact absurd rfl ht | cons c r => exact ⟨c, r, rfl⟩
    have hcc := hc c r rfl
    cases neg with
    | true => rfl
    | false =>
      show sign ((c :: r).dropWhile blank) = _
      rw [List.dropWhile_cons, hcc.2.2]
      exact sign_plain hcc.1 hcc.2.1
  rw [List.append_assoc]
  refine (readNumeral_eq 0 b _).trans ?_
  have hsg : sign (((if neg then [45] else []) ++ (pre b ++ dc d :: r)).dropWhile blank) = (neg, pre b ++ dc d :: r) := by
    apply hs
    · simp
    · intro c' r' e
      rcases hb with rfl | rfl | rfl | rfl
      · have e2 : dc d :: r = c' :: r' := e
        cases e2; exact ⟨hf.2.1, hf.2.2.1, hf.2.2.2.2.2⟩
      all_goals
        cases e
        decide
  rw [hsg]
  have hbs : based b (pre b ++ dc d :: r) = (b, false, dc d :: r) := by
    have h95 : ∀ r : List Nat, (match dc d :: r with | 95 :: r => r | r => r) = dc d :: r := by
      intro r
      split
      · rename_i h; injection h with h1 _; exact absurd h1 hf.1
      · rfl
    rcases hb with rfl | rfl | rfl | rfl
    · exact based_ten _
    all_goals
      show ((_ : Nat), false, (match dc d :: r with | 95 :: r => r | r => r)) = _
      rw [h95]
  rw [hbs]
  show judge 0 neg b false (digits? b ((dc d :: r).reverse.dropWhile blank).reverse) = _
  rw [strip_blank hbl, digits_dgs hb16 h0 h]
  exact judge_based hl
end Mine
end
section
open PySem PySem.W PySem.Calls PyProof.Rows PySem.NumText
namespace Mine
theorem more_n {s : Int} {Q t low P h : Nat} (hP : 0 < P) (hlow : low < P) : isMore s .n Q (t * P + low) (2 * h * P) = true ↔ (h < t ∨ (t = h ∧ (low ≠ 0 ∨ Q % 2 = 1))) := by
  have e : isMore s .n Q (t * P + low) (2 * h * P) = (decide (2 * (t * P + low) > 2 * h * P) || (decide (2 * (t * P + low) = 2 * h * P) && decide (Q % 2 = 1))) := rfl
  rw [e, Bool.or_eq_true, Bool.and_eq_true, decide_eq_true_eq, decide_eq_true_eq, decide_eq_true_eq]
  have e2 : 2 * h * P = 2 * (h * P) := Nat.mul_assoc ..
  rw [e2]
  rcases Nat.lt_trichotomy t h with ht | ht | ht
  · have : (t + 1) * P ≤ h * P := Nat.mul_le_mul_right _ ht
    rw [Nat.add_mul, Nat.one_mul] at this
    omega
  · subst ht; omega
  · have : (h + 1) * P ≤ t * P := Nat.mul_le_mul_right _ ht
    rw [Nat.add_mul, Nat.one_mul] at this
    omega
theorem more_u {s : Int} {Q t low P X : Nat} (hP : 0 < P) : isMore s .u Q (t * P + low) X = true ↔ (1 ≤ t ∨ low ≠ 0) := by
  have e : isMore s .u Q (t * P + low) X = (decide (t * P + low > 0) && true) := rfl
  rw [e, Bool.and_true, decide_eq_true_eq]
  rcases Nat.eq_zero_or_pos t with rfl | ht
  · simp; omega
  · have := Nat.mul_pos ht hP
    omega
section
variable {P : Prog} {S : Static P} {n k : Nat} {ns : Names} {vs vs' : Vals} {σ σ' : List PV} {μ : Option Addr} {L : Addr} {s s' : Shared}
variable {R : PV → List PV → Prop} {x : Str}
theorem ct_int_digit {b t : Nat} (hb : b = 10 ∨ b = 2 ∨ b = 8 ∨ b = 16) (ht : t < b) (h : R (.int (t : Nat)) σ) : CallTo S n (.raw (.type "int")) [.str ⟨#[dc t]⟩, .int (b : Nat)] σ R := by
  have hb16 : b ≤ 16 := by omega
  have hf := dc_facts (d := t) (by omega)
  have hall : ∀ c ∈ [dc t], c < 128 ∧ c ≠ 0 := fun c hc => by
    rw [List.mem_singleton] at hc; subst hc; exact ⟨hf.2.2.2.1, hf.2.2.2.2.1⟩
  show CallTo S n (.raw (.type "int")) [.str (tx [dc t]), .int (b : Nat)] σ R
  refine ct_int_base (by omega) (by omega) (by rw [numSeen_tx hall]; simp) ?_ (by rw [numSeen_tx hall, numText_tx fun c hc => (hall c hc).1]; simp) h
  rw [numSeen_tx hall]
  refine (readNumeral_eq 0 b _).trans ?_
  have hsg : sign ([dc t].dropWhile blank) = (false, [dc t]) := by
    rw [List.dropWhile_cons, hf.2.2.2.2.2]
    exact sign_plain hf.2.1 hf.2.2.1
  rw [hsg]
  have hpr : prefix? [dc t] = none := by
    unfold prefix?; split
    · rename_i h; injection h with _ h; cases h
    · rfl
  have hb0 : (b == 0) = false := by simp; omega
  have hbs : based b [dc t] = (b, false, [dc t]) := by
    unfold based
    rw [hpr, hb0]; rfl
  rw [hbs]
  show judge 0 false b false (digits? b ([dc t].reverse.dropWhile blank).reverse) = _
  rw [strip_blank (by intro c hc; rw [List.mem_singleton] at hc; subst hc; exact hf.2.2.2.2.2), digits_dgs hb16 (by simp) (by intro c hc; rw [List.mem_singleton] at hc; exact ⟨t, ht, hc⟩), judge_based (by simp)]
  have : vl b [dc t] = t := by show 0 * b + dv (dc t) = t; rw [dv_dc]; omega
  rw [this]; rfl
end
end Mine
end
section
open PySem PySem.W PySem.Calls PyProof.Rows
namespace Mine
theorem cut_unique {c : Nat} : ∀ {A B p q : List Nat}, c ∉ A → c ∉ p → p ++ c :: q = A ++ c :: B → p = A ∧ q = B
  | [], B, [], q, _, _, h => ⟨rfl, by simpa using h⟩
  | [], B, y :: p, q, _, hp, h => by
    injection h with h1 _
    exact absurd (by rw [h1]; exact .head _) hp
  | a :: A, B, [], q, hA, _, h => by
    injection h with h1 _
    exact absurd (by rw [h1]; exact .head _) hA
  | a :: A, B, y :: p, q, hA, hp, h => by
    injection h with h1 h2
    obtain ⟨e1, e2⟩ := cut_unique (fun hc => hA (.tail _ hc)) (fun hc => hp (.tail _ hc)) h2
    exact ⟨by rw [h1, e1], e2⟩
theorem split_none {c : Nat} {l : List Nat} (h : c ∉ l) : Txt.split (tx l) (tx [c]) = [tx l] := by
  have hj := StrLaws.join_split (tx l) (tx [c])
  generalize hp : Txt.split (tx l) (tx [c]) = ps at hj
  have hlen := split_pos (tx l) (tx [c])
  rw [hp] at hlen
  match ps, hj, hlen with
  | [p], hj, _ => exact congrArg (fun z => [z]) hj
  | p :: q :: r, hj, _ =>
    exfalso
    have e : p ++ tx [c] ++ Str.join (tx [c]) (q :: r) = tx l := hj
    have e2 := congrArg (fun z : Str => z.cps.toList) e
    simp only [Str.cps_append, Array.toList_append] at e2
    apply h
    have : (tx l).cps.toList = l := by simp [tx]
    rw [this] at e2
    rw [← e2]
    simp [tx]
theorem split_one {c : Nat} {A B : List Nat} (hA : c ∉ A) (hB : c ∉ B) : Txt.split (tx (A ++ c :: B)) (tx [c]) = [tx A, tx B] := by
  have hj := StrLaws.join_split (tx (A ++ c :: B)) (tx [c])
  have hfree := StrLaws.split_free (tx (A ++ c :: B)) c
  have hlen := split_pos (tx (A ++ c :: B)) (tx [c])
  have hx : (tx (A ++ c :: B)).cps.toList = A ++ c :: B := by simp [tx]
  generalize hp : Txt.split (tx (A ++ c :: B)) (tx [c]) = ps at hj hlen
  rw [show (⟨#[c]⟩ : Str) = tx [c] from rfl, hp] at hfree
  have back : ∀ z : Str, tx z.cps.toList = z := fun z => by show Str.mk _ = z; simp
  match ps, hj, hlen, hfree with
  | [p], hj, _, hf =>
    exfalso
    have e : p = tx (A ++ c :: B) := hj
    have := hf p (.head _)
    rw [e, hx] at this
    exact this (by simp)
  | p :: q :: r, hj, _, hf =>
    have e : p ++ tx [c] ++ Str.join (tx [c]) (q :: r) = tx (A ++ c :: B) := hj
    have e2 := congrArg (fun z : Str => z.cps.toList) e
    simp only [Str.cps_append, Array.toList_append, hx] at e2
    have e3 : p.cps.toList ++ c :: (Str.join (tx [c]) (q :: r)).cps.toList = A ++ c :: B := by
      rw [← e2]; simp [tx]
    obtain ⟨f1, f2⟩ := cut_unique hA (hf p (.head _)) e3
    have hpA : p = tx A := by rw [← f1, back]
    cases r with
    | nil =>
      have hqB : q = tx B := by
        have f3 : q.cps.toList = B := f2
        rw [← f3, back]
      rw [hpA, hqB]
    | cons z r =>
      exfalso
      have e4 : (q ++ tx [c] ++ Str.join (tx [c]) (z :: r)).cps.toList = B := f2
      apply hB
      rw [← e4]
      simp [tx, Str.cps_append]
theorem find_none {c : Nat} {l : List Nat} (h : c ∉ l) : Txt.find (tx l) (tx [c]) = -1 := by
  have := StrLaws.found_one (tx l) c
  rw [show (tx l).cps.toList = l by simp [tx], decide_eq_false h] at this
  have he : (Builtin.Str.occurrences (tx l) ⟨#[c]⟩ 0 (tx l).length 1).isEmpty = true := by simpa using this
  have he2 := List.isEmpty_iff.mp he
  unfold Txt.find
  rw [show tx [c] = (⟨#[c]⟩ : Str) from rfl, he2]
theorem occ_none {c : Nat} {l : List Nat} (h : c ∉ l) : (Builtin.Str.occurrences (tx l) (tx [c]) 0 (tx l).length ((tx l).length + 1)).isEmpty = true := by
  have h1 := count_is (tx l) c
  have h2 : PyProof.Rows.cnt c (tx l).cps.toList = 0 := cnt_none c _ (by simpa [tx] using h)
  unfold PyProof.Rows.cnt at h2
  rw [h2] at h1
  unfold Txt.count at h1
  rw [show tx [c] = (⟨#[c]⟩ : Str) from rfl, List.isEmpty_iff]
  exact List.length_eq_zero_iff.mp (by omega)
theorem rs_free {c : Nat} {l : List Nat} (h : c ∉ l) : rs c l = l := by
  rcases List.eq_nil_or_concat l with e | ⟨l', z, e⟩
  · subst e; rfl
  · have e : l = l' ++ [z] := by simpa using e
    subst e
    rw [rs_snoc, if_neg]
    rintro rfl
    exact h (by simp)
/-- l, and noughts -/
theorem rs_noughts : ∀ (n : Nat) (l : List Nat), l.length = n → ∃ k, l = rs 48 l ++ zs k
  | 0, l, h => ⟨0, by rw [List.length_eq_zero_iff] at h; subst h; rfl⟩
  | n + 1, l, h => by
    rcases List.eq_nil_or_concat l with e | ⟨l', z, e⟩
    · subst e; simp at h
    · have e : l = l' ++ [z] := by simpa using e
      subst e
      rw [rs_snoc]
      by_cases hz : z = 48
      · rw [if_pos hz]
        obtain ⟨k, hk⟩ := rs_noughts n l' (by simpa using h)
        refine ⟨k + 1, ?_⟩
        have : zs (k + 1) = zs k ++ [48] := by unfold zs; rw [List.replicate_succ']
        rw [this, ← List.append_assoc, ← hk, hz]
      · rw [if_neg hz]
        exact ⟨0, by simp [zs]⟩
end Mine
end
section
open PySem PySem.W PySem.Calls PyProof.Rows
namespace Mine
theorem dg_range {b c : Nat} (h : isDg b c) : (48 ≤ c ∧ c ≤ 57) ∨ (97 ≤ c ∧ c < 87 + b) := by
  obtain ⟨d, hd, rfl⟩ := h
  unfold dc
  split <;> omega
theorem dgs_isDg {b : Nat} (hb : 0 < b) : ∀ (k x : Nat), ∀ c ∈ dgs b k x, isDg b c
  | 0, _, _, h => by cases h
  | k + 1, x, c, h => by
    cases h with
    | head => exact ⟨_, Nat.mod_lt _ hb, rfl⟩
    | tail _ h => exact dgs_isDg hb k x c h
theorem dec_isDg {n : Nat} (h : n < 1000) : ∀ c ∈ dec n, isDg 10 c := by
  intro c hc
  by_cases h1 : n < 10
  · rw [dec_eq 0 n (by simpa using h1) (.inl rfl)] at hc; exact dgs_isDg (by decide) _ _ c hc
  · by_cases h2 : n < 100
    · rw [dec_eq 1 n (by simpa using h2) (.inr (by omega))] at hc; exact dgs_isDg (by decide) _ _ c hc
    · rw [dec_eq 2 n (by simpa using h) (.inr (by omega))] at hc; exact dgs_isDg (by decide) _ _ c hc
theorem shw_chars {e : Int} (h : e.natAbs < 1000) : ∀ c ∈ shw e, c = 43 ∨ c = 45 ∨ (48 ≤ c ∧ c ≤ 57) := by
  intro c hc
  unfold shw at hc
  cases hc with
  | head => split <;> simp
  | tail _ hc =>
    have := dg_range (dec_isDg h c hc)
    omega
theorem int_shw {e : Int} (h1 : -100 ≤ e) (h2 : e ≤ 100) : PySem.intText? (tx (shw e)) = some e := by
  have : ∀ i : Fin 201, PySem.intText? (tx (shw ((i.val : Int) - 100))) = some ((i.val : Int) - 100) := by decide +kernel
  have h := this ⟨(e + 100).toNat, by omega⟩
  have e2 : (((e + 100).toNat : Nat) : Int) - 100 = e := by omega
  rw [show ((⟨(e + 100).toNat, by omega⟩ : Fin 201).val : Int) - 100 = e from e2] at h
  exact h
end Mine
end
section
open PySem PySem.W PySem.Calls PyProof.Rows
open PySem.AutoSeq1 (wpAny_loadPart')
open PySem.MeetsSeq PySem.MeetsSeq2
namespace Mine
def preOf (x : Str) : Value → Bool
  | .str y _ => Txt.startswith x y
  | _ => false
theorem meets_starts (x : Str) (t : Tok) (a : Addr) (items : Array Value) (n : Nat) (hi : ∀ v, v ∈ items → ∃ y u, v = .str y u) : Meets (Builtin.«str.startswith» ⟨[.str x t, .ref a], []⟩)
    (fun _ R s => s.heap.get? a = some { cls := .type "tuple", dict := none, data := .seq items n, slots := #[] } ∧ R (.ok (.ret (.bool (items.any (preOf x))))) s) := 
  .of_wp fun prog w A R s h => by
    obtain ⟨hp, g, d, tk, os⟩ := s; obtain ⟨hl, h⟩ := h
    wp_walk using wpAny_loadPart' hl, wpAny_forIn_array _ (fun rest b s' => b.1 = none ∧ s' = ⟨hp, g, d, tk, os⟩ ∧ (∀ y, y ∈ rest → y ∈ items) ∧ R (.ok (.ret (.bool (rest.any (preOf x))))) ⟨hp, g, d, tk, os⟩) _
    refine wpAny_of_eq AutoSeq1.sub_tuple_tuple ?_
    wp_walk using wpAny_loadPart' hl, wpAny_forIn_array _ (fun rest b s' => b.1 = none ∧ s' = ⟨hp, g, d, tk, os⟩ ∧ (∀ y, y ∈ rest → y ∈ items) ∧ R (.ok (.ret (.bool (rest.any (preOf x))))) ⟨hp, g, d, tk, os⟩) _
    case turn =>
      rintro v rest b s' ⟨hb, rfl, hmem, hR⟩
      obtain ⟨y, u, rfl⟩ := hi v (hmem v (List.mem_cons_self ..))
      rw [List.any_cons] at hR
      have e : preOf x (.str y u) = ((fun s lo hi (p : Str) => decide (lo + p.length ≤ hi) && Builtin.Str.subAt s p lo) x (Int.toNat 0) (min (↑x.length : Int).toNat x.length) y) := by
        show Txt.startswith x y = _
        unfold Txt.startswith
        simp
      rw [e] at hR
      refine wpAny_bind (wpAny_pure ?_)
      dsimp only
      dsimp only at hR
      by_cases hy : (decide (Int.toNat 0 + y.length ≤ min (↑x.length : Int).toNat x.length) && Builtin.Str.subAt x y (Int.toNat 0)) = true
      · rw [if_pos hy]
        rw [hy] at hR
        wp_walk
        exact ⟨_, rfl, by simpa using hR⟩
      · rw [if_neg hy]
        rw [Bool.not_eq_true] at hy
        rw [hy] at hR
        wp_walk
        exact ⟨rfl, rfl, fun z hz => hmem z (List.mem_cons_of_mem _ hz), by simpa using hR⟩
    case fin =>
      rintro ⟨b1, b2⟩ s' ⟨hb, rfl, -, hR⟩
      simp only at hb
      subst hb
      wp_walk
      exact ⟨_, rfl, by simpa using hR⟩
    case h =>
      exact ⟨rfl, rfl, fun y hy => by simpa using hy, by simpa using h⟩
section
variable {P : Prog} {S : Static P} {n k : Nat} {ns : Names} {vs vs' : Vals} {σ σ' : List PV} {μ : Option Addr} {L : Addr} {s s' : Shared}
section
variable {R : PV → List PV → Prop} {x : Str}
theorem any_preOf {fa : Nat → Addr} {h : Heap} {μ : Option Addr} {x : Str} : ∀ {ys : List Str} {xs : List Value}, RepL fa μ h (ys.map .str) xs → xs.any (preOf x) = ys.any (Txt.startswith x)
  | [], _, r => by cases r; rfl
  | y :: ys, _, ⟨_, _, e, ⟨t, h1⟩, h2⟩ => by
    subst e h1
    rw [List.any_cons, any_preOf h2, List.any_cons]; rfl
theorem ct_starts {ys : List Str} (h : R (.bool (ys.any (Txt.startswith x))) σ) : CallTo S n (.raw (.builtin "str.startswith")) [.str x, .tup (ys.map .str)] σ R := by
  intro k ns vs μ L s fv as F rf ras A Q E rm hQ
  cases rf; obtain ⟨_, _, rfl, ⟨_, rfl⟩, _, _, rfl, ⟨a, xs, nn, rfl, _, hg, hr⟩, rfl⟩ := ras
  refine call_meets PySem.F.slot_str_startswith (typeIs_str _ _ _) PySem.F.entry_str_startswith (PySem.F.args_str_startswith_2 _ _) (meets_starts x _ a xs.toArray nn ?_) ⟨hg, ?_⟩
  · intro v hv
    obtain ⟨y, t, e, _⟩ := repL_at_str hr v (by simpa using hv)
    exact ⟨y, t, e⟩
  · rw [List.any_toArray, any_preOf hr]
    exact hQ _ _ _ _ h F .refl rfl
end
section
variable {R : PV → Prop} {a1 a2 a3 a4 b1 b2 b3 b4 : Int}
theorem eq4_at {A : Around} {s : Shared} {t1 t2 t3 t4 u1 u2 u3 u4 : Tok} : ∀ j (h1 : j < #[Value.int a1 t1, .int a2 t2, .int a3 t3, .int a4 t4].size) (h2 : j < #[Value.int b1 u1, .int b2 u2, .int b3 u3, .int b4 u4].size),
    SeqAt.EqAt A s #[Value.int a1 t1, .int a2 t2, .int a3 t3, .int a4 t4][j] #[Value.int b1 u1, .int b2 u2, .int b3 u3, .int b4 u4][j] ([a1 == b1, a2 == b2, a3 == b3, a4 == b4].getD j true)
  | 0, _, _ => SeqAt.EqAt.int_int _ _ _ _
  | 1, _, _ => SeqAt.EqAt.int_int _ _ _ _
  | 2, _, _ => SeqAt.EqAt.int_int _ _ _ _
  | 3, _, _ => SeqAt.EqAt.int_int _ _ _ _
  | _ + 4, h, _ => absurd h (by simp)
theorem eq4_all : ((List.range (min #[a1, a2, a3, a4].size #[b1, b2, b3, b4].size)).all (fun j => [a1 == b1, a2 == b2, a3 == b3, a4 == b4].getD j true) && #[a1, a2, a3, a4].size == #[b1, b2, b3, b4].size) = (a1 == b1 && (a2 == b2 && (a3 == b3 && a4 == b4))) := by
  show (([0, 1, 2, 3] : List Nat).all _ && true) = _
  simp
theorem cmp_eq_tup4 (h : R (.bool (a1 == b1 && (a2 == b2 && (a3 == b3 && a4 == b4))))) : CmpTo S n .Eq (.tup [.int a1, .int a2, .int a3, .int a4]) (.tup [.int b1, .int b2, .int b3, .int b4]) R := fun k ns vs σ μ L s a b F ra rb A Q E rm hQ => by
  obtain ⟨ad, _, nn, rfl, _, hg, _, _, rfl, ⟨_, rfl⟩, _, _, rfl, ⟨_, rfl⟩, _, _, rfl, ⟨_, rfl⟩, _, _, rfl, ⟨_, rfl⟩, rfl⟩ := ra
  obtain ⟨bd, _, mm, rfl, _, hg2, _, _, rfl, ⟨_, rfl⟩, _, _, rfl, ⟨_, rfl⟩, _, _, rfl, ⟨_, rfl⟩, _, _, rfl, ⟨_, rfl⟩, rfl⟩ := rb
  refine SeqAt.eq_tupleAt ⟨_, hg, rfl, nn, rfl⟩ ⟨_, hg2, rfl, mm, rfl⟩ (by have := rm.units; omega) eq4_at ?_
  refine hQ _ _ (.bool _) ?_ F .refl rfl
  have := eq4_all (a1 := a1) (a2 := a2) (a3 := a3) (a4 := a4) (b1 := b1) (b2 := b2) (b3 := b3) (b4 := b4)
  exact this ▸ h
theorem cmp_ne_tup4 (h : R (.bool (!(a1 == b1 && (a2 == b2 && (a3 == b3 && a4 == b4)))))) : CmpTo S n .NotEq (.tup [.int a1, .int a2, .int a3, .int a4]) (.tup [.int b1, .int b2, .int b3, .int b4]) R := fun k ns vs σ μ L s a b F ra rb A Q E rm hQ => by
  obtain ⟨ad, _, nn, rfl, _, hg, _, _, rfl, ⟨_, rfl⟩, _, _, rfl, ⟨_, rfl⟩, _, _, rfl, ⟨_, rfl⟩, _, _, rfl, ⟨_, rfl⟩, rfl⟩ := ra
  obtain ⟨bd, _, mm, rfl, _, hg2, _, _, rfl, ⟨_, rfl⟩, _, _, rfl, ⟨_, rfl⟩, _, _, rfl, ⟨_, rfl⟩, _, _, rfl, ⟨_, rfl⟩, rfl⟩ := rb
  refine SeqAt.RcNeAt.tuples ⟨_, hg, rfl, nn, rfl⟩ ⟨_, hg2, rfl, mm, rfl⟩ (by have := rm.units; omega) eq4_at S.prog S.w E Q ?_
  refine hQ _ _ (.bool _) ?_ F .refl rfl
  have := eq4_all (a1 := a1) (a2 := a2) (a3 := a3) (a4 := a4) (b1 := b1) (b2 := b2) (b3 := b3) (b4 := b4)
  exact this ▸ h
end
end
end Mine
end
section
open PySem PySem.W PySem.Calls PyProof.Rows
namespace Mine
section
variable {P : Prog} {S : Static P} {n k : Nat} {ns : Names} {vs vs' : Vals} {σ σ' : List PV} {μ : Option Addr} {L : Addr} {s s' : Shared}
theorem repL_ints {fa : Nat → Addr} {h : Heap} {μ : Option Addr} : ∀ {ys : List Int} {xs : List Value}, RepL fa μ h (ys.map .int) xs → ∃ l : List (Int × Tok), l.map (·.1) = ys ∧ xs = l.map fun p => .int p.1 p.2
  | [], _, r => by cases r; exact ⟨[], rfl, rfl⟩
  | y :: ys, _, ⟨_, _, e, ⟨t, h1⟩, h2⟩ => by
    obtain ⟨l, e1, e2⟩ := repL_ints h2
    subst h1
    exact ⟨(y, t) :: l, by simp [e1], by rw [e, e2]; rfl⟩
section
variable {R : PV → List PV → Prop}
theorem ct_sum_ints {l : List Int} (h : R (.int l.sum) σ) : CallTo S n (.raw (.builtin "sum")) [.lst (l.map .int)] σ R := by
  intro k ns vs μ L s fv as F rf ras A Q E rm hQ
  cases rf; obtain ⟨_, _, rfl, ⟨a, xs, nn, rfl, _, hg, hr⟩, rfl⟩ := ras
  obtain ⟨ys, e1, e2⟩ := repL_ints hr
  subst e2
  have hl : s.heap.IsList a (intItems ys.toArray) := by
    refine ⟨_, hg, rfl, nn, ?_⟩
    show Data.seq _ _ = _
    congr 1
    simp [intItems]
  refine sum_intListG rm.handled hl fun h' tk t' hk => ?_
  have e3 : preSum (numAt ys.toArray) ys.toArray.size = l.sum := by
    rw [preSum_eq, List.take_of_length_le (by simp), ← e1]
  rw [e3]
  exact hQ _ _ _ _ h (F.grow hk) ⟨.of_keep hk, rfl⟩ ⟨_, rfl⟩
end
/-! the comprehension of _law_state -/
section
variable {N B : Vals → List PV → Prop} {T : PV → List PV → Prop}
theorem paired_mod {fa : Nat → Addr} {h : Heap} {μ : Option Addr} {M : Int} : ∀ {ys : List (Int × Tok)} {zs : List Value}, Paired (fun v y => ∃ i t u, v = .int i t ∧ y = .int (i.fmod M) u) (ys.map fun p => Value.int p.1 p.2) zs → RepL fa μ h ((ys.map (·.1)).map fun i => .int (i.fmod M)) zs
  | [], _, p => by cases p; rfl
  | y :: ys, _, p => by
    cases p with
    | cons h1 h2 =>
      obtain ⟨i, t, u, e1, rfl⟩ := h1
      injection e1 with e1 _
      subst e1
      exact ⟨_, _, rfl, ⟨_, rfl⟩, paired_mod h2⟩
theorem xt_comp_mod {x y : Str} {px py p1 p2 p3 pos spos : Pos} {kk : Nat} {M : Int} {iter : PySem.Expr} {scope : Scope} (hM : M ≠ 0) (hyl : (y, NameKind.local) ∈ ns)
    (h : EV S n k ns vs σ iter (fun p v q => ∃ l : List Int, p = .lst (l.map .int) ∧ l.length ≤ 1000 ∧ UP ns v y (.lst (l.map fun i => .int (i.fmod M))) (fun v' => N v' q)))
    (hsw : ∀ L, swapsWith (.ListComp (.BinOp (.Name x p1) .Mod (.Constant (.int M) kk p2) p3) [⟨.Name x px, iter, [], 0⟩] scope pos) (some (.Name y py)) spos.line (envK S k L) = pure true := by intro _; with_unfolding_all rfl)
    (hclos : ∀ L, closureFor scope (envK S k L) = pure [] := by intro _; with_unfolding_all rfl) (hcell : ∀ z ∈ scope.names, z.2 ≠ .cell := by decide) (hkind : scope.kind = .function := by rfl)
    (hnames : ∀ z ∈ scope.names, z.2 = .local → scope.names.lookup z.1 = some .local := by decide) (hx : scope.names.lookup x = some .local := by decide)
    (hxd : (x == ("__debug__" : Str)) = false := by decide)
    (hs : ∀ L x, foldedSetIterable iter (envK S k L) x = pure x := by intro _ _; with_unfolding_all rfl) :
    XT S n k ns vs σ (.Assign [.Name y py] (.ListComp (.BinOp (.Name x p1) .Mod (.Constant (.int M) kk p2) p3) [⟨.Name x px, iter, [], 0⟩] scope pos) spos) N T B := by
  intro μ L s F A Q E rm hQ
  have hy : (envK S k L).kindOf y = some .local := F.ok.kindOf (S := S) (L := L) hyl
  have hpk : ((envK S k L).scope.kind == .class || ((envK S k L).scope.kind == .module && (envK S k L).locals != (envK S k L).globals)) = false := by
    show ((FT k).scope.kind == .class || ((FT k).scope.kind == .module && L != mainGlobals)) = false
    rw [F.ok.kind]
    rfl
  refine wpAny_Assign_ListComp_free (p := fun _ => true) (F := fun v y => ∃ i t u, v = .int i t ∧ y = .int (i.fmod M) u) (hsw L) (hclos L) hcell hkind hnames hx hy hpk (h μ L s F A _ E rm fun s1 v p vs1 σ1 h1 F1 X1 r => ?_) (hs L)
  obtain ⟨l, rfl, hl, v', hU, hN⟩ := h1
  obtain ⟨a, xs, nn, rfl, hm, hg, hr⟩ := r
  refine wpAny_pyIter_list ⟨_, hg, rfl, nn, rfl⟩ ?_
  obtain ⟨m, fr, hv⟩ := F1.fr
  have hlt := Heap.lt_size hg
  have hne : a ≠ s1.heap.objs.size := Nat.ne_of_lt hlt
  have hlist : s1.heap.IsList a xs.toArray := ⟨_, hg, rfl, nn, rfl⟩
  have hxl : xs.length = l.length := by have := hr.length; simpa using this
  have hLlt : L < s1.heap.objs.size := by
    obtain ⟨o, _, _, ho, _⟩ := fr.ns
    exact Heap.lt_size ho
  obtain ⟨ys, e1, e2⟩ := repL_ints hr
  refine ⟨s1.heap.objs.size, [s1.heap.objs.size, a], [s1.heap.objs.size], xs.toArray.size, fun i v => xs.toArray[i]? = some v, _, m, rfl, Walks.list rm.handled _ a hne xs.toArray, by rw [List.size_toArray, hxl, sizeLine_eq]; omega,
    ⟨⟨_, Heap.get?_push_size _ rfl, rfl, rfl⟩, hlist.push _⟩, ?fp, ?Lwr, ?nss, ⟨?tests, ?elt⟩, ?fin⟩
  case fp =>
    intro b hb
    show b < (s1.heap.push _).objs.size
    rw [Heap.size_push]
    rcases List.mem_cons.mp hb with rfl | hb
    · exact Nat.lt_succ_self _
    · rw [List.mem_singleton.mp hb]; exact Nat.lt_succ_of_lt hlt
  case Lwr =>
    intro hb
    have := List.mem_singleton.mp hb
    exact Nat.ne_of_lt hLlt this
  case nss => exact fr.ns.push _
  case tests =>
    intro C i v s₃ m₃ E' hC hv3 hn hx3 hk htk
    show wpAny _ _ (pure true) _ _ _
    exact wpAny_pure ⟨rfl, s₃.heap, s₃.toks, rfl, fun _ _ e => e⟩
  case elt =>
    intro C i v s₃ m₃ E' hC hv3 _ hn hx3 hk htk
    obtain ⟨j, t, rfl⟩ : ∃ j t, v = .int j t := by
      have : v ∈ xs := List.mem_of_getElem? (by simpa using hv3)
      rw [e2] at this
      obtain ⟨p, _, rfl⟩ := List.mem_map.mp this
      exact ⟨_, _, rfl⟩
    have hkc : (compEnvC scope [] C (envK S k L)).scope.kind = .function := by simp [compEnvC, relabel, hkind]
    have hkx : (compEnvC scope [] C (envK S k L)).kindOf x = some .local := lookup_relabel_local hx
    refine wpAny_BinOp (wpAny_Name (wpAny_loadName_local hkc hkx hn hx3 (wpAny_Constant_int (mod_int' hM ?_))) hxd)
    exact ⟨⟨j, t, _, rfl, rfl⟩, s₃.heap, _, rfl, fun _ _ e => e⟩
  case fin =>
    intro D h' tk zs vs2 hD hlD hplD hlen hP hF hns hk
    have hvx : vs2 = xs := by
      apply List.ext_getElem? 
      intro j
      cases hj : vs2[j]? with
      | some v => have := hP j v hj; simpa using this.symm
      | none =>
        have h1 := List.getElem?_eq_none_iff.mp hj
        symm
        rw [List.getElem?_eq_none_iff]
        rw [hlen] at h1
        simpa using h1
    rw [List.filter_eq_self.mpr (fun _ _ => rfl), hvx, e2] at hF
    have hkB : KeepsBut (some L) μ s1.heap h' := fun b o hb _ e => hk b o (fun q => hb (congrArg some q)) (fun q => by
      have q := List.mem_singleton.mp q
      subst q
      exact Nat.lt_irrefl _ (Heap.lt_size e)) (Heap.get?_push_of_some _ e)
    have hLn := F1.notSeq
    obtain ⟨nD, hgD⟩ := hplD
    have hDμ : some D ≠ μ := fun e => by
      obtain ⟨_, _, ⟨o, ho, _⟩, _⟩ := F1.mu D e.symm
      have : (s1.heap.push { cls := .type "list_iterator", data := .fields #[.ref a, .int 0 0] }).get? D = some o := Heap.get?_push_of_some _ ho
      rw [hD] at this
      cases this
    have hrep : Rep S.fa μ h' (.lst (l.map fun i => .int (i.fmod M))) (.ref D) := by
      refine ⟨D, zs.toList, nD, rfl, hDμ, by simpa using hgD, ?_⟩
      have := paired_mod (fa := S.fa) (h := h') (μ := μ) hF
      rw [← e1]
      exact this
    refine hQ _ .next ⟨v', σ1, hN, F1.ok, ⟨_, ⟨hns, fun b o e => ?_, fr.above⟩, (hv.keeps hLn hkB).update hU F1.ok.nodup hrep⟩, F1.mu.keeps hLn hkB (fun a' e o ho => ?_), F1.ne⟩ (X1.trans ⟨hkB, rfl⟩)
    · have hb : b < S.g.objs.size := Heap.lt_size e
      have e' := fr.keep b o e
      exact hk b o (fun q => Nat.lt_irrefl _ (Nat.lt_of_lt_of_le hb (q ▸ fr.above))) (fun q => by
        have q := List.mem_singleton.mp q
        subst q
        exact Nat.lt_irrefl _ (Heap.lt_size e')) (Heap.get?_push_of_some _ e')
    · exact hk a' o (fun q => F1.ne (e.trans (congrArg some q))) (fun q => by
        have q := List.mem_singleton.mp q
        subst q
        exact Nat.lt_irrefl _ (Heap.lt_size ho)) (Heap.get?_push_of_some _ ho)
end
end
end Mine
end
section
open PySem PySem.W PySem.Calls PyProof.Rows
namespace Mine
section
variable {P : Prog} {S : Static P} {n k : Nat} {ns : Names} {vs vs' : Vals} {σ σ' : List PV} {μ : Option Addr} {L : Addr} {s s' : Shared}
theorem repL_of_ints {fa : Nat → Addr} {h : Heap} {μ : Option Addr} : ∀ {ws : List Value} {l : List Int}, IntsAre ws l → RepL fa μ h (l.map .int) ws
  | _, _, .nil => rfl
  | _, _, .cons _ _ h => ⟨_, _, rfl, ⟨_, rfl⟩, repL_of_ints h⟩
section
variable {R : PV → Prop}
/-- the start of the script -/
theorem sub_raw_take {a : Addr} {ws : List Value} {l : List Int} {j : Int} (hl : S.g.IsList a ws.toArray) (hI : IntsAre ws l) (hsz : l.length ≤ 1000) (hj : 0 ≤ j) (h : R (.lst ((l.take j.toNat).map .int))) :
    GetTo S n (.raw (.ref a)) (.sl none (some j) none) R := by
  intro k ns vs σ μ L s v w F ra ⟨ad, l', u', s', rb, _, e1, e2, e3, hg⟩
  cases ra
  subst rb
  have hl2 : s.heap.IsList a ws.toArray := by
    obtain ⟨o, e, r⟩ := hl
    exact ⟨o, F.hs.keep _ _ e, r⟩
  refine ⟨⟨"list", _, hl2.typeIs, slot_list_getitem.lookup⟩, fun A Q E rm hQ => ?_⟩
  cases l' with
  | some _ => cases e1
  | none =>
    cases s' with
    | some _ => cases e3
    | none =>
      cases u' with
      | none => cases e2
      | some q =>
        obtain ⟨i, t⟩ := q
        have e2 : i = j := by simpa using e2
        subst e2
        refine wpAny_getItem_list_slice hl2 ⟨_, hg, rfl, rfl⟩ .none (.int _ _) .none (by simp) ?_ (by rw [List.size_toArray, hI.length, sizeLine_eq]; omega)
        have hk : ∀ b o, s.heap.get? b = some o → (s.heap.push { cls := .type "list", data := .seq (slicePick ws.toArray none (some i) none) }).get? b = some o := fun _ _ e => Heap.get?_push_of_some _ e
        refine hQ _ _ (.lst _) h (F.grow hk) ⟨.of_keep hk, rfl⟩ ⟨_, (slicePick ws.toArray none (some i) none).toList, 0, rfl, F.fresh, ?_, repL_of_ints (kmk_upto hI hj)⟩
        exact Heap.get?_push_size _ rfl
end
section
variable {R : PV → Vals → List PV → Prop}
/-- a list display whose address is new -/
theorem ev_list_new {es : List PySem.Expr} {pos : Pos} (h : AV S n k ns vs σ es (fun xs vs1 σ1 => R (.nlst xs) vs1 σ1 ∧ xs.length ≤ 100)) : EV S n k ns vs σ (.List es pos) R := by
  intro μ L s F A Q E rm hQ
  refine List_ (h pos μ L s F A _ E rm fun s1 as xs vs1 σ1 h1 F1 X1 ras => ?_)
  refine wpAny_newObj_type ?_ (by show as.toArray.size ≤ sizeLine; rw [List.size_toArray, ras.length, sizeLine_eq]; have := h1.2; omega)
  have hk : ∀ b o, s1.heap.get? b = some o → (s1.heap.push (lstObj as 0)).get? b = some o := fun _ _ e => Heap.get?_push_of_some _ e
  have X2 : Ext (some L) μ s1 { s1 with heap := s1.heap.push (lstObj as 0) } := ⟨.of_keep hk, rfl⟩
  have hge : S.fa 999 ≤ s1.heap.objs.size := by
    obtain ⟨m, fr, _⟩ := F1.fr
    obtain ⟨o, _, _, ho, _⟩ := fr.ns
    rw [S.hlo]
    exact Nat.le_trans fr.above (Nat.le_of_lt (Heap.lt_size ho))
  exact hQ _ _ _ _ _ h1.1 (F1.grow hk) (X1.trans X2) ⟨_, as, 0, rfl, F1.fresh, hge, Heap.get?_push_size _ rfl, F1.upL X2 ras⟩
end
/-! a list taken on as the changed one -/
def flatR : PV → Bool
  | .none | .bool _ | .int _ | .str _ | .raw _ => true
  | _ => false
theorem Rep.flatR {fa : Nat → Addr} {h h' : Heap} {μ μ' : Option Addr} {p : PV} {v : Value} (hf : Mine.flatR p = true) (r : Rep fa μ h p v) : Rep fa μ' h' p v := by
  cases p <;> first | exact r | (simp [Mine.flatR] at hf)
theorem Holds.flatR {fa : Nat → Addr} {h h' : Heap} {μ μ' : Option Addr} {m : Str → Option Value} : ∀ (ns : Names) (vs : Vals), (∀ p, some p ∈ vs → Mine.flatR p = true) → Holds fa μ h m ns vs → Holds fa μ' h' m ns vs := by
  intro ns
  induction ns with
  | nil => intro vs hf H; cases vs with
    | nil => trivial
    | cons _ _ => exact H.elim
  | cons a ns ih => intro vs hf H; cases vs with
    | nil => exact H.elim
    | cons o vs =>
      have hf2 : ∀ p, some p ∈ vs → Mine.flatR p = true := fun p hp => hf p (List.mem_cons_of_mem _ hp)
      cases o with
      | none => exact ih vs hf2 H
      | some p =>
        obtain ⟨⟨v, e, r⟩, h2⟩ := H
        exact ⟨⟨v, e, Rep.flatR (hf p (List.mem_cons_self ..)) r⟩, ih vs hf2 h2⟩
/-- the state's list bears itself under its own mark -/
theorem repL_state {fa : Nat → Addr} {h : Heap} {μ : Option Addr} {a : Addr} {xs : List Value} {nn : Nat} {i seed : Int} {l : List Int} (hg : h.get? a = some (lstObj xs nn)) (r : RepL fa μ h [.int i, .lst (l.map .int), .int seed] xs) :
    RepL fa (some a) h [.int i, .lst (l.map .int), .int seed] xs := by
  obtain ⟨v0, _, rfl, r1, _, _, rfl, ⟨D, ys, mm, rfl, _, hD, ry⟩, v2, _, rfl, r3, rfl⟩ := r
  refine ⟨_, _, rfl, r1, _, _, rfl, ⟨D, ys, mm, rfl, ?_, hD, ?_⟩, _, _, rfl, r3, rfl⟩
  · intro e
    injection e with e
    subst e
    rw [hg] at hD
    injection hD with hD
    have hd : ([v0, .ref D, v2] : List Value) = ys := by
      have := congrArg Obj.data hD
      have h2 : ([v0, .ref D, v2] : List Value) = ys ∧ nn = mm := by simpa using this
      exact h2.1
    obtain ⟨zs, e1, e2⟩ := repL_ints ry
    have h1 : ys[1]? = some (.ref D) := by
      rw [← hd]; rfl
    rw [e2, List.getElem?_map] at h1
    cases hz : zs[1]? with
    | none => rw [hz] at h1; cases h1
    | some p => rw [hz] at h1; cases h1
  · obtain ⟨zs, e1, e2⟩ := repL_ints ry
    rw [e2, ← e1, List.map_map]
    clear e1 e2 ry hD hg
    induction zs with
    | nil => rfl
    | cons p zs ih => exact ⟨_, _, rfl, ⟨_, rfl⟩, ih⟩
/-- the law's first row and all behind it -/
theorem top_adopt {x : Str} {xp pos : Pos} {e : PySem.Expr} {rest : List Stmt} {T : PV → Prop}
    (h : EV S n k ns vs [] e (fun p v q => ∃ (i : Int) (l : List Int) (seed : Int), p = .nlst [.int i, .lst (l.map .int), .int seed] ∧ (∀ p, some p ∈ v → flatR p = true) ∧
      UP ns v x .mref (fun v' => XS S n k ns v' [.int i, .lst (l.map .int), .int seed] rest (fun _ _ => False) (fun p _ => flatR p = true ∧ T p) (fun _ _ => False))))
    (hp : plainValue e = true := by with_unfolding_all rfl) :
    ∀ L s, FS S none L k ns vs [] s → ∀ (A : Around) (Q : Flow → Shared → Prop) (E : Value → Shared → Prop), Room A n →
      (∀ s' p v, T p → Rep S.fa none s'.heap p v → (∀ b o, S.g.get? b = some o → s'.heap.get? b = some o) → s' = { s with heap := s'.heap, toks := s'.toks } → Q (.ret v) s') →
      wpAny (model S.prog S.w) A (execs (.Assign [.Name x xp] e pos :: rest) (envK S k L)) Q E s := by
  intro L s F A Q E rm hQ
  refine wpAny_execs_cons (wpAny_Assign_Name (h none L s F A _ E rm fun s1 v p vs1 σ1 h1 F1 X1 r => ?_) (swaps_plain hp))
  obtain ⟨i, l, seed, rfl, hfl, v', hU, h⟩ := h1
  obtain ⟨a, xs, nn, rfl, hm, hfa, hg, hr⟩ := r
  obtain ⟨m, fr, hv⟩ := F1.fr
  have hLa : some a ≠ some L := F1.notSeq.no hg (fun _ _ q => by cases q)
  have F2 : FS S (some a) L k ns vs1 [.int i, .lst (l.map .int), .int seed] s1 :=
    ⟨F1.ok, ⟨m, fr, hv.flatR _ _ hfl⟩, fun a' e => by
      cases e
      exact ⟨by rw [← S.hlo]; exact hfa, xs, ⟨_, hg, rfl, rfl, nn, rfl⟩, repL_state hg hr⟩, hLa⟩
  refine F2.store hU ⟨_, rfl, rfl⟩ fun s2 F3 X3 => ?_
  refine h _ L s2 F3 A Q E rm fun s3 f hf X4 => ?_
  have X5 := X3.trans X4
  cases f with
  | next => obtain ⟨_, _, h, _⟩ := hf; exact h.elim
  | brk => obtain ⟨_, _, h, _⟩ := hf; exact h.elim
  | cont => exact hf.elim
  | ret v =>
    obtain ⟨p, q, ⟨hp, hT⟩, ⟨vs2, F6⟩, r⟩ := hf
    refine hQ s3 p v hT (Rep.flatR hp r) F6.hs.keep ?_
    have h1 := X1.rest
    have h2 := X5.rest
    rw [h1] at h2
    exact h2
end
end Mine
end
section
open PySem PySem.W PyProof.Rows
set_option maxHeartbeats 8000000
namespace Mine
open_top hd for PySem.Challenge.rw_bw0033_01
end Mine
end
section
open PySem PySem.W PySem.Calls PyProof.Rows
namespace Mine
local macro_rules | `(tactic| ktf_call Msel) => `(tactic| with_reducible first | refine lk_here ?_ | (refine lk_there ?_; ktf_call Msel))
local macro_rules | `(tactic| ktf_call Mupd) => `(tactic| with_reducible first | refine up_here ?_ | (refine up_there ?_; ktf_call Mupd))
local macro_rules | `(tactic| ktf_call Mupt) => `(tactic| with_reducible first | refine upt_nil ?_ | (refine upt_cons ?_; ktf_call Mupd; ktf_call Mupt))
local macro_rules | `(tactic| ktf_call Mmem) => `(tactic| with_reducible first | exact Gl.here | (refine Gl.there ?_; ktf_call Mmem))
local macro_rules | `(tactic| ktf_call Mini) => `(tactic| first | exact Inits.nil | (apply Inits.cons; ktf_call Mini) | (apply Inits.pad; ktf_call Mini))
local macro_rules | `(tactic| ktf_call Mglo) => `(tactic| with_reducible first
  | refine g_MPZ_ZERO ?_ | refine g_MPZ_ONE ?_ | refine g_MPZ_FIVE ?_ | refine g_stddigits ?_ | refine g_round_nearest ?_ | refine g_round_floor ?_ | refine g_round_ceiling ?_ | refine g_round_up ?_ | refine g_round_down ?_ | refine g_round_fast ?_ | refine g_fzero ?_ | refine g_fnan ?_ | refine g_finf ?_ | refine g_fninf ?_ | refine g_blog2_10 ?_ | refine g_shifts_down ?_ | refine g_special_str ?_ | refine g_trailing ?_ | refine g_bin_to_radix ?_ | refine g_small_numeral ?_ | refine g_numeral ?_ | refine g_prec_to_dps ?_ | refine g_repr_dps ?_ | refine g_unormalize ?_ | refine g_normalize ?_ | refine g_from_man_exp ?_ | refine g_from_int ?_ | refine g_from_rational ?_ | refine g_to_fixed ?_ | refine g_mpf_neg ?_ | refine g_mpf_div ?_ | refine g_to_digits_exp ?_ | refine g_round_digits ?_ | refine g_to_str ?_ | refine g_str_to_man_exp ?_ | refine g_from_str ?_ | refine g_law_draw ?_ | refine g_law_state ?_ | refine g_law_rounded ?_ | refine g_law_power ?_ | refine g_law_tuple ?_ | refine g_law_place ?_ | refine g_law_laid ?_ | refine g_law_text ?_ | refine g_law_small_right ?_)
local macro_rules | `(tactic| ktf_call Mblt) => `(tactic| with_reducible first | refine b_int ?_ | refine b_len ?_ | refine b_max ?_ | refine b_min ?_ | refine b_abs ?_ | refine b_range ?_ | refine b_divmod ?_ | refine b_isinstance ?_ | refine b_pow ?_ | refine b_str ?_ | refine b_sum ?_)
local macro_rules | `(tactic| ktf_call Mnam) => `(tactic| first | (refine ev_local ?_; ktf_call Msel) | (refine ev_glob ?_ ?_; ktf_call Mmem; ktf_call Mglo) | (refine ev_builtin ?_ ?_; ktf_call Mmem; ktf_call Mblt))
local macro_rules | `(tactic| ktf_call Mcon) => `(tactic| first | refine ev_int ?_ | refine ev_str ?_ | refine ev_bool ?_ | refine ev_none ?_)
local macro_rules | `(tactic| ktf_call Mevs) => `(tactic| first | (show EV _ _ _ _ _ _ (PySem.Expr.Name _ _) _; ktf_call Mnam) | (show EV _ _ _ _ _ _ (PySem.Expr.Constant _ _ _) _; ktf_call Mcon) | refine ev_bin ?_ | refine ev_un ?_ | refine ev_ifexp ?_ | refine ev_cmp ?_ | refine ev_call ?_ | refine ev_tuple ?_ | refine ev_slice ?_ | refine ev_mrev ?_ | refine ev_dict4 ?_ | refine ev_sub ?_ | refine ev_append ?_ | refine ev_meth0 ?_ | refine ev_meth ?_ | refine ev_chain ?_ | refine ev_boolop ?_ | refine ev_list ?_ | refine ev_call_kw2 ?_)
local macro_rules | `(tactic| ktf_call Mlit) => `(tactic| with_reducible first | (show EV _ _ _ _ _ _ (PySem.Expr.Name _ _) _; ktf_call Mnam) | (show EV _ _ _ _ _ _ (PySem.Expr.Constant _ _ _) _; ktf_call Mcon))
local macro_rules | `(tactic| ktf_call Mxs) => `(tactic| first | refine xs_cons ?_ | refine xs_nil ?_)
local macro_rules | `(tactic| ktf_call Mxt) => `(tactic| first | refine xt_assign ?_ | refine xt_unpack ?_ | (refine xt_aug ?_; ktf_call Msel) | refine xt_return ?_ | refine xt_if ?_ | refine xt_assert ?_ | refine xt_break ?_)
local macro_rules | `(tactic| ktf_call Msta) => `(tactic| with_reducible first | (show XS _ _ _ _ _ _ _ _ _ _; ktf_call Mxs) | (show XT _ _ _ _ _ _ _ _ _ _; ktf_call Mxt))
local macro_rules | `(tactic| ktf_call Mcat) => `(tactic| first | (show EV _ _ _ _ _ _ _ _; ktf_call Mevs) | (show AV _ _ _ _ _ _ _ _; first | refine av_cons ?_ | refine av_nil ?_) | (show TV _ _ _ _ _ _ _ _; first | refine tv_cmp ?_ | refine tv_chain ?_ | refine tv_not ?_ | refine tv_boolop ?_ | refine tv_value ?_) | (show LV _ _ _ _ _ _ _ _ _; first | refine lv_and ?_ | refine lv_or ?_ | refine lv_and_nil ?_ | refine lv_or_nil ?_) | (show BV _ _ _ _ _ _ _ _ _; first | refine bv_one ?_ | refine bv_and ?_ | refine bv_or ?_) | (show PT _ _ _ _ _ _ _ _; first | refine pt_none ?_ | refine pt_some ?_) | (show UP _ _ _ _ _; ktf_call Mupd) | (show BinTo _ _ _ _ _ _; first | refine bin_add ?_ | refine bin_sub ?_ | refine bin_and ?_ | refine bin_xor ?_) | (show CmpTo _ _ _ _ _ _; first | refine cmp_eq ?_ | refine cmp_ne ?_ | refine cmp_lt ?_ | refine cmp_le ?_ | refine cmp_gt ?_ | refine cmp_ge ?_ | refine cmp_eq_str ?_ | refine cmp_ne_str ?_ | refine cmp_is_none ?_) | (show UnTo _ _ _ _ _; first | refine un_neg ?_ | refine un_not tru_int ?_ | refine un_not tru_bool ?_) | (show AugTo _ _ _ _ _ _; first | refine aug_add ?_ | refine aug_sub ?_) | (show CallTo _ _ _ _ _ _; first | refine ct_max ?_ | refine ct_min ?_ | refine ct_int_int ?_ | refine ct_abs ?_ | refine ct_bitlen ?_ | refine ct_range1 ?_ | refine ct_range2 ?_ | refine ct_isinst_int ?_ | refine ct_find ?_))
local macro_rules | `(tactic| ktf_call Mand) => `(tactic| first | refine cl_bi ?_ | refine cl_ty ?_ | refine cl_fn rfl ?_ | refine ⟨_, rfl, ?_⟩ | refine ⟨_, tru_int, ?_⟩ | refine ⟨_, tru_bool, ?_⟩ | refine ⟨_, gm_bitlen, ?_⟩ | refine ⟨_, gm_lower, ?_⟩ | refine ⟨_, gm_strip, ?_⟩ | refine ⟨_, gm_rstrip, ?_⟩ | refine ⟨_, gm_replace, ?_⟩ | refine ⟨_, gm_split, ?_⟩ | refine ⟨_, gm_find, ?_⟩ | refine ⟨_, gm_index, ?_⟩ | refine ⟨_, gm_join, ?_⟩ | refine ⟨_, gm_startswith, ?_⟩ | (refine unp_i ?_; ktf_call Mupt))
local macro_rules | `(tactic| ktf_call Mif) => `(tactic| first | (with_reducible refine iftt ?_ ?_; (decide +kernel)) | (with_reducible refine ifff ?_ ?_; (decide +kernel)) | (with_reducible refine ifft ?_ ?_; (decide +kernel)) | (with_reducible refine iftf ?_ ?_; (decide +kernel)) | fail "no step")
local macro_rules | `(tactic| ktf_call Mexp) => `(tactic| with_reducible ktf_call Mcat)
local macro_rules | `(tactic| ktf_call Mop) => `(tactic| with_reducible ktf_call Mand)
local macro_rules | `(tactic| ktf_call M1) => `(tactic| first | ktf_call Mexp | ktf_call Mop | ktf_call Msta | ktf_call Mif | fail "no step")
local macro_rules | `(tactic| ktf_call Me) => `(tactic| repeat1' (first | ktf_call Mexp | ktf_call Mop | ktf_call Mif | fail "no step"))
local macro_rules | `(tactic| ktf_call Ms) => `(tactic| (ktf_call Msta; ktf_call Msta; ktf_call Me))
local macro_rules | `(tactic| ktf_call M) => `(tactic| repeat1' (ktf_call M1))
/-- the two tables of the text that are asked -/
structure Dct (S : Static thePr) : Prop where
  down : ∀ (n : Nat) (r : Rnd) (R : PV → Prop), r ≠ .n → R (.tup [.int (if r.away 0 then 0 else 1), .int (if r.away 1 then 0 else 1)]) → GetTo S n (.fn 1000) (.str r.str) R
theorem trailing_c {S : Static thePr} {n : Nat} {m : Nat} {σ : List PV} {R : PV → List PV → Prop} (h0 : 0 < m) (hR : R (.int (tz m)) σ) :
    CallTo S (n + 1) (.fn 4) [.int (m : Int)] σ R := by
  refine call_fn rfl sok4 bind4_1 (by ktf_call Mini) ?_
  refine xs_cons ?_
  ktf_call M
  refine ifff (by simp; omega) ?_
  ktf_call M
  rw [bitAnd_neg m h0, intBits_nat, bl_two_pow]
  have : ((tz m + 1 : Nat) : Int) - 1 = tz m := by omega
  rw [this]
  exact hR
theorem fdiv_pow (m k : Nat) : (m : Int).fdiv (2 ^ k) = ((m / 2 ^ k : Nat) : Int) := by
  have : ((2 : Int) ^ k) = ((2 ^ k : Nat) : Int) := by simp
  rw [this, Int.fdiv_eq_ediv_of_nonneg _ (Int.natCast_nonneg _)]
  rfl
theorem fdiv_neg_pow (m k : Nat) : -((-(m : Int)).fdiv (2 ^ k)) = ((m / 2 ^ k + (if m % 2 ^ k > 0 then 1 else 0) : Nat) : Int) := by
  have h2 : ((2 : Int) ^ k) = ((2 ^ k : Nat) : Int) := by simp
  have hp := two_pow_pos' k
  rw [h2, Int.fdiv_eq_ediv_of_nonneg _ (Int.natCast_nonneg _)]
  generalize 2 ^ k = d at hp
  have e := Nat.div_add_mod m d
  have hr := Nat.mod_lt m hp
  generalize m / d = q at *
  generalize m % d = r at *
  subst e
  have hd : (0 : Int) < (d : Int) := by omega
  have hm : ((d * q + r : Nat) : Int) = (d : Int) * q + r := by simp
  rw [hm]
  split
  · have : (-((d : Int) * q + r)) / (d : Int) = -(q : Int) - 1 := by
      have e1 : -((d : Int) * q + r) = ((d : Int) - r) + (d : Int) * (-(q : Int) - 1) := by
        rw [Int.mul_sub, Int.mul_neg]; omega
      rw [e1, Int.add_mul_ediv_left _ _ (by omega), Int.ediv_eq_zero_of_lt (by omega) (by omega)]
      omega
    rw [this]; omega
  · have h0 : r = 0 := by omega
    subst h0
    have : (-((d : Int) * q + ((0 : Nat) : Int))) / (d : Int) = -(q : Int) := by
      have e1 : -((d : Int) * q + ((0 : Nat) : Int)) = (d : Int) * (-(q : Int)) := by rw [Int.mul_neg]; omega
      rw [e1, Int.mul_ediv_cancel_left _ (by omega)]
    rw [this]; omega
theorem ne0_nat (a : Nat) : ((a : Int) != 0) = decide (a ≠ 0) := by
  cases a <;> simp <;> omega
set_option maxHeartbeats 2000000 in
theorem normalize0_c {S : Static thePr} (D : Dct S) {n : Nat} {sgn : Int} {m : Nat} {e : Int} {prec : Nat} {r : Rnd} {σ : List PV} {R : PV → List PV → Prop} (h0 : 0 < m) (hs : sgn = 0 ∨ sgn = 1)
    (hp : 0 < prec) (hb : bl m < 9000) (hR : R (canon sgn (nrm sgn r m e prec).1 (nrm sgn r m e prec).2) σ) :
    CallTo S (n + 2) (.fn 26) [.int sgn, .int (m : Int), .int e, .int (bl m : Nat), .int (prec : Nat), .str r.str] σ R := by
  refine call_fn rfl sok26 bind26_6 (by ktf_call Mini) ?_
  refine xs_cons ?_
  ktf_call M
  refine ifff (by simp; omega) ?_
  ktf_call Msta
  ktf_call Ms
  refine xs_cons ?_
  refine XT.mono (N := fun v q => q = σ ∧ ∃ (b : Nat) (nn : Int) (ot : Option PV), v = [some (.int sgn), some (.int ((nrm sgn r m e prec).1 : Nat)), some (.int (nrm sgn r m e prec).2), some (.int (b : Nat)), some (.int (prec : Nat)), some (.str r.str), some (.int nn), ot, none, none, none, none, none] ∧
    (b = bl (nrm sgn r m e prec).1 ∨ od (nrm sgn r m e prec).1 = 1)) (T := R) (B := fun _ _ => False) ?A ?B (fun _ _ h => h) (fun _ _ h => h)
  case A =>
    ktf_call M
    refine ⟨fun h => ?_, fun h => ?_⟩
    · have hgt : prec < bl m := by simp at h; omega
      obtain ⟨k, hk, hk0⟩ : ∃ k : Nat, bl m = prec + k ∧ 0 < k := ⟨bl m - prec, by omega, by omega⟩
      have hnr : nrm sgn r m e prec = (rnd sgn r m (2 ^ k), e + k) := by
        unfold nrm; rw [if_neg (by omega)]; simp [hk]
      have hB : (prec : Nat) = bl (nrm sgn r m e prec).1 ∨ od (nrm sgn r m e prec).1 = 1 := by
        have := (rnd_bl sgn r h0 hp hgt).2
        have e5 : bl m - prec = k := by omega
        rw [e5] at this
        rw [hnr]
        rcases this with h | h
        · exact .inl h.symm
        · right; show od (rnd sgn r m (2 ^ k)) = 1; rw [h]; exact od_two_pow _
      have e1 : ((bl m : Nat) : Int) - (prec : Nat) = (k : Nat) := by omega
      have e2 : (((k : Nat) : Int) - 1).toNat = k - 1 := by omega
      have fin : ∀ (M : Int) (ot : Option PV), M = ((rnd sgn r m (2 ^ k) : Nat) : Int) → ∀ v, v = [some (.int sgn), some (.int M), some (.int (e + (k : Nat))), some (.int (prec : Nat)), some (.int (prec : Nat)), some (.str r.str), some (.int (k : Nat)), ot, none, none, none, none, none] →
          (σ = σ ∧ ∃ (b : Nat) (nn : Int) (ot : Option PV), v = [some (.int sgn), some (.int ((nrm sgn r m e prec).1 : Nat)), some (.int (nrm sgn r m e prec).2), some (.int (b : Nat)), some (.int (prec : Nat)), some (.str r.str), some (.int nn), ot, none, none, none, none, none] ∧
            (b = bl (nrm sgn r m e prec).1 ∨ od (nrm sgn r m e prec).1 = 1)) := by
        rintro M ot rfl v rfl
        refine ⟨rfl, prec, k, ot, ?_, hB⟩
        rw [hnr]
      rw [e1]
      ktf_call M
      refine ⟨fun h => ?_, fun h => ?_⟩
      · have hr : r = .n := by cases r <;> first | rfl | (exfalso; revert h; decide +kernel)
        subst hr
        ktf_call M
        refine bin_rshift (by omega) ?_
        rw [e2, fdiv_pow]
        have hrn := rnd_near (m := m) hk0 sgn
        have up : ∀ c : Nat, (if (m / 2 ^ (k - 1)) % 2 = 1 ∧ ((m / 2 ^ (k - 1)) / 2 % 2 = 1 ∨ m % 2 ^ (k - 1) ≠ 0) then 1 else 0) = c → ((m / 2 ^ (k - 1) : Nat) : Int).fdiv (2 ^ (1 : Int).toNat) + (c : Int) = ((rnd sgn .n m (2 ^ k) : Nat) : Int) := by
          intro c hc
          have e4 : ((1 : Int).toNat) = 1 := rfl
          rw [e4, fdiv_pow, hrn, hc]
          omega
        ktf_call M
        rw [bitAnd_one]
        refine ⟨fun h1 => ?_, fun h1 => ?_⟩
        · have h1' : m / 2 ^ (k - 1) % 2 = 1 := by rw [ne0_nat] at h1; simp at h1; omega
          ktf_call M
          rw [bitAnd_two]
          refine ⟨fun h2 => ?_, fun h2 => ?_⟩
          · have h2' : ¬ m / 2 ^ (k - 1) / 2 % 2 = 1 := by rw [ne0_nat] at h2; simp at h2; omega
            ktf_call M
            refine bin_lshift (Fit.of_lt (m := 1) (by decide) (by decide)) (by omega) (by omega) ?_
            ktf_call M
            rw [e2, bitAnd_mask]
            refine ⟨fun h3 => ?_, fun h3 => ?_⟩
            · have h3' : m % 2 ^ (k - 1) = 0 := by rw [ne0_nat] at h3; simpa using h3
              ktf_call M
              refine bin_rshift (by omega) ?_
              ktf_call M
              exact fin _ _ (by have := up 0 (if_neg (by omega)); simpa using this) _ rfl
            · have h3' : m % 2 ^ (k - 1) ≠ 0 := by rw [ne0_nat] at h3; simpa using h3
              ktf_call M
              refine bin_rshift (by omega) ?_
              ktf_call M
              exact fin _ _ (up 1 (if_pos ⟨h1', .inr h3'⟩)) _ rfl
          · have h2' : m / 2 ^ (k - 1) / 2 % 2 = 1 := by rw [ne0_nat] at h2; simp at h2; omega
            ktf_call M
            refine bin_rshift (by omega) ?_
            ktf_call M
            exact fin _ _ (up 1 (if_pos ⟨h1', .inl h2'⟩)) _ rfl
        · have h1' : ¬ m / 2 ^ (k - 1) % 2 = 1 := by rw [ne0_nat] at h1; simp at h1; omega
          ktf_call M
          refine bin_rshift (by omega) ?_
          ktf_call M
          exact fin _ _ (by have := up 0 (if_neg (fun h => h1' h.1)); simpa using this) _ rfl
      · have hr : r ≠ .n := by intro hr; subst hr; revert h; decide +kernel
        ktf_call M
        refine D.down _ _ _ hr ?_
        ktf_call M
        have hrd := rnd_far (m := m) (d := 2 ^ k) (sgn := sgn) hr
        have hdn : r.away sgn = false → (m : Int).fdiv (2 ^ ((k : Nat) : Int).toNat) = ((rnd sgn r m (2 ^ k) : Nat) : Int) := by
          intro h; rw [hrd, h, Int.toNat_natCast, fdiv_pow]; simp
        have hup : r.away sgn = true → -((-(m : Int)).fdiv (2 ^ ((k : Nat) : Int).toNat)) = ((rnd sgn r m (2 ^ k) : Nat) : Int) := by
          intro h; rw [hrd, h, Int.toNat_natCast, fdiv_neg_pow]; simp
        rcases hs with rfl | rfl
        all_goals
          refine sub_tup (j := _) (by decide) (by decide) rfl rfl ?_
          ktf_call M
          refine ⟨fun h => ?_, fun h => ?_⟩
          · refine xs_cons ?_
            ktf_call M
            refine aug_rshift (by omega) ?_
            ktf_call M
            refine fin _ _ (hdn ?_) _ rfl
            cases hh : r.away _ <;> simp [hh] at h ⊢
          · refine xs_cons ?_
            ktf_call M
            refine bin_rshift (by omega) ?_
            ktf_call M
            refine fin _ _ (hup ?_) _ rfl
            cases hh : r.away _ <;> simp [hh] at h ⊢
    · have hle : bl m ≤ prec := by simp at h; omega
      refine xs_nil ?_
      have hnr : nrm sgn r m e prec = (m, e) := by unfold nrm; rw [if_pos hle]
      rw [hnr]
      exact ⟨rfl, bl m, _, none, rfl, .inl rfl⟩
  case B =>
    rintro v q ⟨rfl, b, nn, ot, rfl, hbb⟩
    have hM : 0 < (nrm sgn r m e prec).1 := by
      unfold nrm
      split
      · exact h0
      · have := (rnd_bl sgn r h0 hp (by omega)).1
        have h2 := two_pow_pos' (prec - 1)
        exact Nat.lt_of_lt_of_le h2 this
    generalize (nrm sgn r m e prec).1 = M at *
    generalize (nrm sgn r m e prec).2 = E at *
    have hbl := bl_od hM
    have fin : ∀ (ot : Option PV) (b'' : Int), (od M ≠ 1 → b'' = (bl (od M) : Nat)) → ∀ vs', vs' = [some (.int sgn), some (.int (od M : Nat)), some (.int (E + (tz M : Nat))), some (.int b''), some (.int (prec : Nat)), some (.str r.str), some (.int nn), ot, none, none, none, none, none] →
        XS S (n + 1) 26 nm26 vs' q ((FT 26).body.drop 4) (fun _ σ' => R .none σ') R (fun _ _ => False) := by
      rintro ot b'' hb'' vs' rfl
      refine xs_cons ?_
      ktf_call M
      refine ⟨fun h => ?_, fun h => ?_⟩
      · have h1 : od M = 1 := by simp at h; omega
        ktf_call M
        have e : canon sgn M E = .tup [.int sgn, .int ((od M : Nat) : Int), .int (E + (tz M : Nat)), .int 1] := by unfold canon; rw [h1]; rfl
        rw [e] at hR
        exact ⟨hR, Nat.le_of_ble_eq_true rfl⟩
      · have h1 : od M ≠ 1 := by simp at h; omega
        ktf_call M
        rw [hb'' h1]
        exact ⟨hR, Nat.le_of_ble_eq_true rfl⟩
    ktf_call M
    rw [bitAnd_one]
    refine ⟨fun h => ?_, fun h => ?_⟩
    · have ht : M % 2 = 0 := by rw [ne0_nat] at h; simp at h; omega
      ktf_call Ms
      refine trailing_c hM ?_
      ktf_call Me
      ktf_call Ms
      refine aug_rshift (by omega) ?_
      ktf_call Me
      ktf_call Ms
      ktf_call Ms
      refine xs_nil ?_
      rw [Int.toNat_natCast, fdiv_pow]
      refine fin _ _ (fun h1 => ?_) _ rfl
      rcases hbb with rfl | hbb
      · omega
      · exact absurd hbb h1
    · have ht : M % 2 = 1 := by rw [ne0_nat] at h; simp at h; omega
      have e1 := od_of_odd ht
      have e2 := tz_odd ht
      rw [e1, e2] at fin hbl
      refine xs_nil (fin ot b (fun h1 => ?_) _ ?_)
      · rcases hbb with rfl | hbb
        · rfl
        · exact absurd (e1.symm.trans hbb) h1
      · simp
theorem normalize_c {S : Static thePr} (D : Dct S) {n : Nat} {sgn : Int} {m : Nat} {e : Int} {prec : Nat} {r : Rnd} {σ : List PV} {R : PV → List PV → Prop} (h0 : 0 < m) (hs : sgn = 0 ∨ sgn = 1)
    (hp : 0 < prec) (hb : bl m < 9000) (hR : R (canon sgn (nrm sgn r m e prec).1 (nrm sgn r m e prec).2) σ) :
    CallTo S (n + 3) (.fn 27) [.int sgn, .int (m : Int), .int e, .int (bl m : Nat), .int (prec : Nat), .str r.str] σ R := by
  refine call_fn rfl sok27 bind27_6 (by ktf_call Mini) ?_
  refine xs_cons ?_
  ktf_call M
  rw [intBits_nat]
  refine ⟨by simp, ?_⟩
  ktf_call M
  refine ⟨by simp, ?_⟩
  ktf_call M
  exact normalize0_c D h0 hs hp hb hR
def sg (z : Int) : Int := if z < 0 then 1 else 0
theorem sg_or (z : Int) : sg z = 0 ∨ sg z = 1 := by unfold sg; split <;> simp
/-- from_man_exp: exact (prec 0) or rounded -/
def fme (z : Int) (e : Int) (prec : Nat) (r : Rnd) : PV := if prec = 0 then canon (sg z) z.natAbs e else canon (sg z) (nrm (sg z) r z.natAbs e prec).1 (nrm (sg z) r z.natAbs e prec).2
theorem from_man_exp_c {S : Static thePr} (D : Dct S) {n : Nat} {z e : Int} {prec : Nat} {r : Rnd} {σ : List PV} {R : PV → List PV → Prop} (h0 : z ≠ 0) (hb : bl z.natAbs < 9000) (hR : R (fme z e prec r) σ) :
    CallTo S (n + 4) (.fn 28) [.int z, .int e, .int (prec : Nat), .str r.str] σ R := by
  refine call_fn rfl sok28 bind28_4 (by ktf_call Mini) ?_
  refine xs_cons (xt_if ?_)
  ktf_call Me
  refine xs_nil ?_
  ktf_call Ms
  refine xs_cons ?_
  have hm : 0 < z.natAbs := by omega
  refine XT.mono (N := fun v q => q = σ ∧ v = [some (.int (z.natAbs : Nat)), some (.int e), some (.int (prec : Nat)), some (.str r.str), some (.int (sg z)), none, none, none, none, none, none, none, none])
    (T := R) (B := fun _ _ => False) ?A ?B (fun _ _ h => h) (fun _ _ h => h)
  case A =>
    ktf_call M
    refine ⟨fun h => ?_, fun h => ?_⟩
    · have hz : z < 0 := by simpa using h
      ktf_call M
      have e1 : -z = (z.natAbs : Nat) := by omega
      have e2 : sg z = 1 := by unfold sg; rw [if_pos hz]
      rw [e1, e2]
      exact ⟨rfl, rfl⟩
    · have hz : ¬ z < 0 := by simpa using h
      refine xs_nil ?_
      have e1 : z = (z.natAbs : Nat) := by omega
      have e2 : sg z = 0 := by unfold sg; rw [if_neg hz]
      rw [← e1, e2]
      exact ⟨rfl, rfl⟩
  case B =>
    rintro v q ⟨rfl, rfl⟩
    unfold fme at hR
    generalize z.natAbs = m at *
    have hs := sg_or z
    generalize sg z = sgn at *
    ktf_call M
    rw [intBits_nat]
    refine ⟨fun h => ?_, fun h => ?_⟩
    · have hp : prec = 0 := by simp at h; omega
      rw [if_pos hp] at hR
      have hbl := bl_od hm
      ktf_call M
      refine ifff (by simp; omega) ?_
      ktf_call M
      rw [bitAnd_one]
      refine ⟨fun h => ?_, fun h => ?_⟩
      · have ht : m % 2 = 0 := by rw [ne0_nat] at h; simp at h; omega
        ktf_call M
        rw [bitAnd_two]
        refine ⟨fun h => ?_, fun h => ?_⟩
        · have ht2 : m / 2 % 2 = 1 := by rw [ne0_nat] at h; simp at h; omega
          ktf_call M
          refine bin_rshift (by omega) ?_
          ktf_call M
          have e1 : tz m = 1 := by
            have : m = 2 * (m / 2) := by omega
            rw [this, tz_even (by omega), tz_odd ht2]
          have e2 : od m = m / 2 := by unfold od; rw [e1]
          have e3 : ((m : Int)).fdiv (2 ^ (1 : Int).toNat) = ((od m : Nat) : Int) := by
            have e4 : ((1 : Int).toNat) = 1 := rfl
            rw [e4, fdiv_pow, e2]
          rw [e3]
          unfold canon at hR
          have e5 : ((bl m : Nat) : Int) - 1 = (bl (od m) : Nat) := by omega
          rw [e5]
          rw [e1] at hR
          exact ⟨hR, Nat.le_of_ble_eq_true rfl⟩
        · ktf_call M
          refine trailing_c hm ?_
          ktf_call M
          refine aug_rshift (by omega) ?_
          ktf_call M
          rw [Int.toNat_natCast, fdiv_pow]
          have e5 : ((bl m : Nat) : Int) - (tz m : Nat) = (bl (od m) : Nat) := by omega
          rw [e5]
          exact ⟨hR, Nat.le_of_ble_eq_true rfl⟩
      · have ht : m % 2 = 1 := by rw [ne0_nat] at h; simp at h; omega
        ktf_call M
        unfold canon at hR
        rw [od_of_odd ht, tz_odd ht] at hR
        simp at hR
        exact ⟨hR, Nat.le_of_ble_eq_true rfl⟩
    · have hp : prec ≠ 0 := by simp at h; omega
      rw [if_neg hp] at hR
      ktf_call M
      exact normalize_c D hm hs (by omega) hb hR
theorem from_int1_c {S : Static thePr} (D : Dct S) {n : Nat} {z : Int} {σ : List PV} {R : PV → List PV → Prop} (h0 : z ≠ 0) (hb : bl z.natAbs < 9000) (hR : R (canon (sg z) z.natAbs 0) σ) :
    CallTo S (n + 5) (.fn 29) [.int z] σ R := by
  refine call_fn rfl sok29 bind29_1 (by ktf_call Mini) ?_
  refine xs_cons ?_
  ktf_call M
  exact from_man_exp_c (prec := 0) (r := .d) D h0 hb (by unfold fme; rw [if_pos rfl]; exact hR)
theorem from_int3_c {S : Static thePr} (D : Dct S) {n : Nat} {z : Int} {prec : Nat} {r : Rnd} {σ : List PV} {R : PV → List PV → Prop} (h0 : z ≠ 0) (hb : bl z.natAbs < 9000) (hR : R (fme z 0 prec r) σ) :
    CallTo S (n + 5) (.fn 29) [.int z, .int (prec : Nat), .str r.str] σ R := by
  refine call_fn rfl sok29 bind29_3 (by ktf_call Mini) ?_
  refine xs_cons ?_
  ktf_call M
  exact from_man_exp_c D h0 hb hR
/-- the quotient that mpf_div rounds -/
def qt (N Q : Nat) : Nat := if N % Q = 0 then N / Q else 2 * (N / Q) + 1
theorem xor_sgn {s : Int} (h : s = 0 ∨ s = 1) : Builtin.bitXor s 0 = s := by rcases h with rfl | rfl <;> decide
theorem fdiv_nat (a b : Nat) : (a : Int).fdiv (b : Int) = ((a / b : Nat) : Int) := by rw [Int.fdiv_eq_ediv_of_nonneg _ (Int.natCast_nonneg _)]; rfl
theorem fmod_nat (a b : Nat) : (a : Int).fmod (b : Int) = ((a % b : Nat) : Int) := by rw [Int.fmod_eq_emod_of_nonneg _ (Int.natCast_nonneg _)]; rfl
theorem mpf_div_c {S : Static thePr} (D : Dct S) {n : Nat} {sgn : Int} {p q prec : Nat} {r : Rnd} {σ : List PV} {R : PV → List PV → Prop} (hs : sgn = 0 ∨ sgn = 1) (hp : 0 < p) (hq : 0 < q) (hq1 : od q ≠ 1) (hpr : 0 < prec)
    (hbp : bl p < 1000) (hbq : bl q < 1000) (hprec : prec < 1000)
    (hR : ∀ pv, RndOf sgn r prec p q 0 pv → R pv σ) :
    CallTo S (n + 4) (.fn 36) [canon sgn p 0, canon 0 q 0, .int (prec : Nat), .str r.str] σ R := by
  have hbp' := bl_od hp
  have hbq' := bl_od hq
  have hP := od_pos hp
  have hQ := od_pos hq
  have eP := od_mul p
  have eQ := od_mul q
  -- the end
  have key : ∀ E0 : Nat, prec + bl (od q) + 5 ≤ bl (od p) + E0 → E0 ≤ 4000 → ∀ (E : Nat), E = (if od p * 2 ^ E0 % od q = 0 then E0 else E0 + 1) →
      0 < qt (od p * 2 ^ E0) (od q) ∧ bl (qt (od p * 2 ^ E0) (od q)) < 9000 ∧
      R (canon sgn (nrm sgn r (qt (od p * 2 ^ E0) (od q)) ((tz p : Int) - (tz q : Nat) - E) prec).1 (nrm sgn r (qt (od p * 2 ^ E0) (od q)) ((tz p : Int) - (tz q : Nat) - E) prec).2) σ := by
    intro E0 hE0 hE1 E hE
    generalize hPg : od p = P at *
    generalize hQg : od q = Q at *
    have b1 := bl_le hP
    have b2 := bl_lt Q
    have b3 := bl_lt P
    have hq0 : 2 ^ (prec + 3) ≤ P * 2 ^ E0 / Q := by
      rw [Nat.le_div_iff_mul_le hQ]
      have c1 : 2 ^ (prec + 3) * Q ≤ 2 ^ (prec + 3) * 2 ^ bl Q := Nat.mul_le_mul_left _ (Nat.le_of_lt b2)
      have c2 : 2 ^ (bl P - 1) * 2 ^ E0 ≤ P * 2 ^ E0 := Nat.mul_le_mul_right _ b1
      have c3 : 2 ^ (prec + 3) * 2 ^ bl Q ≤ 2 ^ (bl P - 1) * 2 ^ E0 := by
        rw [← Nat.pow_add, ← Nat.pow_add]
        exact Nat.pow_le_pow_right (by decide) (by have := bl_pos hP; omega)
      omega
    have hq0' : P * 2 ^ E0 / Q < 2 ^ (bl P + E0) := by
      have c1 : P * 2 ^ E0 / Q ≤ P * 2 ^ E0 := Nat.div_le_self _ _
      have c2 : P * 2 ^ E0 < 2 ^ bl P * 2 ^ E0 := Nat.mul_lt_mul_of_pos_right b3 (two_pow_pos' _)
      rw [← Nat.pow_add] at c2
      omega
    have hqq : 2 ^ (prec + 3) ≤ qt (P * 2 ^ E0) Q ∧ qt (P * 2 ^ E0) Q < 2 ^ (bl P + E0 + 1) := by
      unfold qt
      have : 2 ^ (bl P + E0 + 1) = 2 * 2 ^ (bl P + E0) := by rw [Nat.pow_succ, Nat.mul_comm]
      split <;> omega
    have hpos : 0 < qt (P * 2 ^ E0) Q := Nat.lt_of_lt_of_le (two_pow_pos' _) hqq.1
    have hbl1 : bl (qt (P * 2 ^ E0) Q) ≤ bl P + E0 + 1 := by
      have := bl_le hpos
      have h2 := Nat.lt_of_le_of_lt this hqq.2
      rw [Nat.pow_lt_pow_iff_right (by decide)] at h2
      omega
    have hbl2 : prec + 4 ≤ bl (qt (P * 2 ^ E0) Q) := by
      have := bl_lt (qt (P * 2 ^ E0) Q)
      have h2 := Nat.lt_of_le_of_lt hqq.1 this
      rw [Nat.pow_lt_pow_iff_right (by decide)] at h2
      omega
    refine ⟨hpos, by omega, hR _ ?_⟩
    -- the number is p / q
    have main : RndOf sgn r prec (P * 2 ^ E) Q ((tz p : Int) - (tz q : Nat) - E) (canon sgn (nrm sgn r (qt (P * 2 ^ E0) Q) ((tz p : Int) - (tz q : Nat) - E) prec).1 (nrm sgn r (qt (P * 2 ^ E0) Q) ((tz p : Int) - (tz q : Nat) - E) prec).2) := by
      by_cases hrem : P * 2 ^ E0 % Q = 0
      · rw [if_pos hrem] at hE
        subst hE
        have hqt : qt (P * 2 ^ E) Q = P * 2 ^ E / Q := by unfold qt; rw [if_pos hrem]
        refine RndOf.ratio (A := qt (P * 2 ^ E) Q) (B := 1) (by decide) hQ ?_ (nrm_rnd hpos hpr)
        rw [hqt, Nat.mul_one]
        exact Nat.div_mul_cancel (Nat.dvd_of_mod_eq_zero hrem)
      · rw [if_neg hrem] at hE
        subst hE
        have hqt : qt (P * 2 ^ E0) Q = 2 * (P * 2 ^ E0 / Q) + 1 := by unfold qt; rw [if_neg hrem]
        have hk2 : 2 ≤ bl (qt (P * 2 ^ E0) Q) - prec := by omega
        have hst := sticky (sgn := sgn) (r := r) (N := P * 2 ^ E0) hQ hrem hk2
        have hdv : 2 * (P * 2 ^ E0) / (Q * 2 ^ (bl (qt (P * 2 ^ E0) Q) - prec)) = (2 * (P * 2 ^ E0 / Q) + 1) / 2 ^ (bl (qt (P * 2 ^ E0) Q) - prec) := by
          obtain ⟨k, hk⟩ : ∃ k, bl (qt (P * 2 ^ E0) Q) - prec = k + 1 := ⟨bl (qt (P * 2 ^ E0) Q) - prec - 1, by omega⟩
          rw [hk, ← Nat.div_div_eq_div_mul, Nat.pow_succ, Nat.mul_comm (2 ^ k) 2, ← Nat.div_div_eq_div_mul, ← Nat.div_div_eq_div_mul]
          congr 1
          have e1 : 2 * (P * 2 ^ E0) / Q / 2 = P * 2 ^ E0 / Q := by
            rw [Nat.div_div_eq_div_mul, Nat.mul_comm Q 2, Nat.mul_div_mul_left _ _ (by decide)]
          rw [e1]; omega
        have hb1 := bl_le hpos
        have hb2 := bl_lt (qt (P * 2 ^ E0) Q)
        rw [← hqt] at hst hdv
        have e2N : 2 * (P * 2 ^ E0) = P * 2 ^ (E0 + 1) := by rw [Nat.pow_succ]; ac_rfl
        rw [e2N] at hst hdv
        unfold nrm
        rw [if_neg (by omega)]
        refine ⟨_, _, ⟨bl (qt (P * 2 ^ E0) Q) - prec, 0, by omega, ?_, ?_, ?_⟩, rfl⟩
        · rw [Nat.pow_zero, Nat.mul_one, hdv, Nat.le_div_iff_mul_le (two_pow_pos' _), ← Nat.pow_add]
          have : prec - 1 + (bl (qt (P * 2 ^ E0) Q) - prec) = bl (qt (P * 2 ^ E0) Q) - 1 := by omega
          rw [this]; exact hb1
        · rw [Nat.pow_zero, Nat.mul_one, hdv, Nat.div_lt_iff_lt_mul (two_pow_pos' _), ← Nat.pow_add]
          have : prec + (bl (qt (P * 2 ^ E0) Q) - prec) = bl (qt (P * 2 ^ E0) Q) := by omega
          rw [this]; exact hb2
        · rw [Nat.pow_zero, Nat.mul_one]; exact hst
    have m2 := (RndOf.up' (x := tz p) hQ main.up)
    have m3 := RndOf.down' (x := tz q) hQ m2
    rw [eP, eQ] at m3
    have e0 : (tz p : Int) - (tz q : Nat) - E + E - (tz p : Nat) + (tz q : Nat) = 0 := by omega
    rw [e0] at m3
    exact m3
  refine call_fn rfl sok36 bind36_4 (by ktf_call Mini) ?_
  refine xs_cons ?_
  unfold canon
  ktf_call M
  refine ifft (by rw [ne0_nat]; simp; omega) ?_
  ktf_call M
  refine ifft (by rw [ne0_nat]; simp; omega) ?_
  ktf_call M
  rw [xor_sgn hs]
  refine ifff (by simp; omega) ?_
  ktf_call M
  refine ifff (by simp; omega) ?_
  ktf_call Ms
  refine xs_nil ?_
  refine xs_cons ?_
  refine XT.mono (N := fun v q' => q' = σ ∧ ∃ E0 : Nat, prec + bl (od q) + 5 ≤ bl (od p) + E0 ∧ E0 ≤ 4000 ∧ v = [some (canon sgn p 0), some (canon 0 q 0), some (.int (prec : Nat)), some (.str r.str), some (.int sgn), some (.int (od p : Nat)), some (.int (0 + (tz p : Nat))), some (.int (bl (od p) : Nat)), some (.int 0), some (.int (od q : Nat)), some (.int (0 + (tz q : Nat))), some (.int (bl (od q) : Nat)), none, none, some (.int sgn), some (.int (E0 : Nat)), none, none, none, none, none, none, none, none, none, none, none, none])
    (T := R) (B := fun _ _ => False) ?A ?B (fun _ _ h => h) (fun _ _ h => h)
  case A =>
    ktf_call M
    refine ⟨fun h => ?_, fun h => ?_⟩
    · simp at h
      ktf_call M
      exact ⟨rfl, 5, by omega, by omega, rfl⟩
    · simp at h
      refine xs_nil ?_
      refine ⟨rfl, (prec + bl (od q) + 5) - bl (od p), by omega, by omega, ?_⟩
      have : ((prec : Nat) : Int) - (bl (od p) : Nat) + (bl (od q) : Nat) + 5 = ((prec + bl (od q) + 5 - bl (od p) : Nat) : Int) := by omega
      rw [this]
      rfl
  case B =>
    rintro v q' ⟨rfl, E0, hE0, hE1, rfl⟩
    ktf_call M
    refine bin_lshift (Fit.of_lt (m := 1000) ?_ (by decide)) (by omega) (by omega) ?_
    · have h1 := bl_lt (od p)
      have h2 : 2 ^ bl (od p) ≤ 2 ^ 1000 := Nat.pow_le_pow_right (by decide) (by omega)
      simp only [Int.natAbs_natCast]
      omega
    ktf_call M
    refine ct_divmod (by omega) (Fit.of_lt (m := 1000) ?_ (by decide)) ?_
    · have h1 := bl_lt (od q)
      have h2 : 2 ^ bl (od q) ≤ 2 ^ 1000 := Nat.pow_le_pow_right (by decide) (by omega)
      simp only [Int.natAbs_natCast]
      omega
    have eN : ((od p : Nat) : Int) * 2 ^ ((E0 : Nat) : Int).toNat = ((od p * 2 ^ E0 : Nat) : Int) := by simp
    rw [eN, fdiv_nat, fmod_nat]
    ktf_call M
    have hE9 := key E0 hE0 hE1 _ rfl
    generalize od p * 2 ^ E0 = N at *
    have hfitq : N % od q ≠ 0 → Fit ((N / od q : Nat) : Int) := fun hrem => by
      refine Fit.of_lt (m := 9000) ?_ (Nat.le_refl _)
      have h1 := bl_lt (qt N (od q))
      have h2 : 2 ^ bl (qt N (od q)) ≤ 2 ^ 9000 := Nat.pow_le_pow_right (by decide) (by omega)
      have h3 : N / od q ≤ qt N (od q) := by unfold qt; split <;> omega
      simp only [Int.natAbs_natCast]
      omega
    refine ⟨fun h => ?_, fun h => ?_⟩
    · have hrem : N % od q ≠ 0 := by rw [ne0_nat] at h; simpa using h
      rw [if_neg hrem] at hE9
      ktf_call M
      refine bin_lshift (hfitq hrem) (by omega) (by omega) ?_
      ktf_call M
      have eqq : ((N / od q : Nat) : Int) * 2 ^ (1 : Int).toNat + 1 = ((qt N (od q) : Nat) : Int) := by
        have e1 : (1 : Int).toNat = 1 := rfl
        unfold qt
        rw [if_neg hrem, e1]
        omega
      rw [eqq, intBits_nat]
      refine iftf (by rw [ne0_nat]; simp; omega) ?_
      ktf_call M
      have ee : (0 + ((tz p : Nat) : Int)) - (0 + ((tz q : Nat) : Int)) - (((E0 : Nat) : Int) + 1) = (tz p : Int) - (tz q : Nat) - (E0 + 1 : Nat) := by omega
      rw [ee]
      exact normalize_c D hE9.1 hs hpr hE9.2.1 hE9.2.2
    · have hrem : N % od q = 0 := by rw [ne0_nat] at h; simpa using h
      rw [if_pos hrem] at hE9
      have eqq : ((N / od q : Nat) : Int) = ((qt N (od q) : Nat) : Int) := by unfold qt; rw [if_pos hrem]
      rw [eqq]
      refine xs_nil ?_
      ktf_call M
      rw [intBits_nat]
      refine iftf (by rw [ne0_nat]; simp; omega) ?_
      ktf_call M
      have ee : (0 + ((tz p : Nat) : Int)) - (0 + ((tz q : Nat) : Int)) - ((E0 : Nat) : Int) = (tz p : Int) - (tz q : Nat) - (E0 : Nat) := by omega
      rw [ee]
      exact normalize_c D hE9.1 hs hpr hE9.2.1 hE9.2.2
theorem from_rational_c {S : Static thePr} (D : Dct S) {n : Nat} {p : Int} {q prec : Nat} {r : Rnd} {σ : List PV} {R : PV → List PV → Prop} (hp : p ≠ 0) (hq : 0 < q) (hq1 : od q ≠ 1) (hpr : 0 < prec)
    (hbp : bl p.natAbs < 1000) (hbq : bl q < 1000) (hprec : prec < 1000)
    (hR : ∀ pv, RndOf (sg p) r prec p.natAbs q 0 pv → R pv σ) :
    CallTo S (n + 6) (.fn 30) [.int p, .int (q : Nat), .int (prec : Nat), .str r.str] σ R := by
  refine call_fn rfl sok30 bind30_4 (by ktf_call Mini) ?_
  refine xs_cons ?_
  ktf_call M
  refine from_int1_c D hp (by omega) ?_
  ktf_call M
  refine from_int1_c D (by omega) (by simp only [Int.natAbs_natCast]; omega) ?_
  ktf_call M
  have e1 : sg ((q : Nat) : Int) = 0 := by unfold sg; rw [if_neg (by omega)]
  rw [e1, Int.natAbs_natCast]
  exact mpf_div_c (n := n + 1) D (sg_or p) (by omega) hq hq1 hpr hbp hbq hprec hR
theorem pow_lt_fit {b : Nat} (hb : b ≤ 16) {k : Nat} (hk : k ≤ 1000) : Fit (((b : Nat) : Int) ^ k) := by
  refine Fit.of_lt (m := 4 * k + 1) ?_ (by omega)
  have e : (((b : Nat) : Int) ^ k) = ((b ^ k : Nat) : Int) := by simp
  rw [e, Int.natAbs_natCast]
  have h1 : b ^ k ≤ 16 ^ k := Nat.pow_le_pow_left hb k
  have h2 : 16 ^ k = 2 ^ (4 * k) := by rw [show (16 : Nat) = 2 ^ 4 from rfl, ← Nat.pow_mul]
  have h3 : 2 ^ (4 * k) < 2 ^ (4 * k + 1) := Nat.pow_lt_pow_right (by decide) (by omega)
  omega
theorem bin_to_radix_c {S : Static thePr} {n : Nat} {x xb b bd : Nat} {σ : List PV} {R : PV → List PV → Prop} (hx : bl x < 2000) (hb : b ≤ 16) (hbd : bd ≤ 1000) (hR : R (.int ((x * b ^ bd / 2 ^ xb : Nat) : Int)) σ) :
    CallTo S (n + 1) (.fn 5) [.int (x : Nat), .int (xb : Nat), .int (b : Nat), .int (bd : Nat)] σ R := by
  refine call_fn rfl sok5 bind5_4 (by ktf_call Mini) ?_
  refine xs_cons ?_
  ktf_call M
  refine bin_pow (by omega) (by simp; exact hb) (by omega) ?_
  rw [Int.toNat_natCast]
  refine bin_mul (Fit.of_lt (m := 2000) ?_ (by decide)) (pow_lt_fit hb hbd) ?_
  · have h1 := bl_lt x
    have h2 : 2 ^ bl x ≤ 2 ^ 2000 := Nat.pow_le_pow_right (by decide) (by omega)
    simp only [Int.natAbs_natCast]
    omega
  ktf_call M
  refine bin_rshift (by omega) ?_
  have e : ((x : Nat) : Int) * ((b : Nat) : Int) ^ bd = ((x * b ^ bd : Nat) : Int) := by simp
  rw [e, Int.toNat_natCast, fdiv_pow]
  exact hR
/-- to_fixed of a number that is not negative -/
def fixd (M : Nat) (E : Int) (prec : Nat) : Nat := if 0 ≤ E + prec then M * 2 ^ (E + prec).toNat else M / 2 ^ (-(E + prec)).toNat
theorem to_fixed_c {S : Static thePr} {n : Nat} {M prec : Nat} {E b : Int} {σ : List PV} {R : PV → List PV → Prop} (hM : bl M < 2000) (hE : E + prec ≤ 1000000) (hR : R (.int (fixd M E prec : Nat)) σ) :
    CallTo S (n + 1) (.fn 31) [.tup [.int 0, .int (M : Nat), .int E, .int b], .int (prec : Nat)] σ R := by
  refine call_fn rfl sok31 bind31_2 (by ktf_call Mini) ?_
  refine xs_cons ?_
  unfold fixd at hR
  ktf_call M
  refine ⟨fun h => ?_, fun h => ?_⟩
  · have h0 : 0 ≤ E + prec := by simpa using h
    rw [if_pos h0] at hR
    ktf_call M
    refine bin_lshift (Fit.of_lt (m := 2000) ?_ (by decide)) h0 hE ?_
    · have h1 := bl_lt M
      have h2 : 2 ^ bl M ≤ 2 ^ 2000 := Nat.pow_le_pow_right (by decide) (by omega)
      simp only [Int.natAbs_natCast]
      omega
    have e : ((M : Nat) : Int) * 2 ^ (E + (prec : Nat)).toNat = ((M * 2 ^ (E + (prec : Nat)).toNat : Nat) : Int) := by simp
    rw [e]
    exact hR
  · have h0 : ¬ 0 ≤ E + prec := by simpa using h
    rw [if_neg h0] at hR
    ktf_call M
    refine bin_rshift (by omega) ?_
    rw [fdiv_pow]
    exact hR
theorem mpf_neg_c {S : Static thePr} {n : Nat} {M : Nat} {s E b : Int} {σ : List PV} {R : PV → List PV → Prop} (hM : 0 < M) (hR : R (.tup [.int (1 - s), .int (M : Nat), .int E, .int b]) σ) :
    CallTo S (n + 1) (.fn 33) [.tup [.int s, .int (M : Nat), .int E, .int b]] σ R := by
  refine call_fn rfl sok33 bind33_1 (by ktf_call Mini) ?_
  refine xs_cons ?_
  ktf_call M
  refine ifff (by simp; omega) ?_
  ktf_call M
  exact ⟨hR, Nat.le_of_ble_eq_true rfl⟩
def pdps (n : Nat) : Nat := max 1 ((2 * n * 10 ^ 16 + 33219280948873626) / (2 * 33219280948873626) - 1)
def rdps (n : Nat) : Nat := if pdps n = 15 then 17 else pdps n + 3
theorem repr_dps_c {S : Static thePr} {n : Nat} {b : Nat} {σ : List PV} {R : PV → List PV → Prop} (h1 : b ≤ 60) (hR : R (.int (rdps b : Nat)) σ) :
    CallTo S (n + 2) (.fn 17) [.int (b : Nat)] σ R := by
  have h16 : Fit ((10 : Int) ^ (16 : Int).toNat) := Fit.of_lt (m := 64) (by decide) (by decide)
  have hdps : CallTo S (n + 1) (.fn 16) [.int (b : Nat)] σ (fun z q => z = .int (pdps b : Nat) ∧ q = σ) := by
    refine call_fn rfl sok16 bind16_1 (by ktf_call Mini) ?_
    refine xs_cons ?_
    ktf_call M
    refine bin_mul (Fit.of_lt (m := 64) (by decide) (by decide)) (Fit.of_lt (m := 64) (by simp; omega) (by decide)) ?_
    ktf_call M
    refine bin_pow (by decide) (by decide) (by decide) ?_
    refine bin_mul (Fit.of_lt (m := 64) (by simp; omega) (by decide)) h16 ?_
    ktf_call M
    refine bin_mul (Fit.of_lt (m := 64) (by decide) (by decide)) (Fit.of_lt (m := 64) (by decide) (by decide)) ?_
    refine bin_floordiv (by decide) (Fit.of_lt (m := 64) (by decide) (by decide)) ?_
    ktf_call M
    have e1 : (2 * ((b : Nat) : Int) * 10 ^ (16 : Int).toNat + 33219280948873626).fdiv (2 * 33219280948873626) = (((2 * b * 10 ^ 16 + 33219280948873626) / (2 * 33219280948873626) : Nat) : Int) := by
      have : (2 * ((b : Nat) : Int) * 10 ^ (16 : Int).toNat + 33219280948873626) = ((2 * b * 10 ^ 16 + 33219280948873626 : Nat) : Int) := by
        have : (10 : Int) ^ (16 : Int).toNat = 10000000000000000 := by decide
        rw [this]; omega
      rw [this]
      exact fdiv_nat _ _
    rw [e1]
    refine ⟨?_, rfl⟩
    unfold pdps
    congr 1
    generalize (2 * b * 10 ^ 16 + 33219280948873626) / (2 * 33219280948873626) = t
    split <;> omega
  refine call_fn rfl sok17 bind17_1 (by ktf_call Mini) ?_
  refine xs_cons ?_
  ktf_call M
  refine CallTo.mono hdps ?_
  rintro z q ⟨rfl, rfl⟩
  ktf_call M
  unfold rdps at hR
  refine ⟨fun h => ?_, fun h => ?_⟩
  · have h2 : pdps b = 15 := by simp at h; omega
    rw [if_pos h2] at hR
    ktf_call M
    exact hR
  · have h2 : pdps b ≠ 15 := by simp at h; omega
    rw [if_neg h2] at hR
    ktf_call M
    exact hR
theorem iter_nat {S : Static thePr} {k : Nat} (hk : k < 2 ^ 60) : IterTo S (.range 0 (k : Nat)) (fun i => if i < k then some (.int (i : Nat)) else none) := by
  have h := iter_range (S := S) (a := 0) (b := (k : Nat)) (by decide) (by decide) (by omega) (by omega)
  have e : (fun i : Nat => if (0 : Int) + i < (k : Nat) then some (PV.int (0 + i)) else none) = (fun i : Nat => if i < k then some (.int (i : Nat)) else none) := by
    funext i
    have : ((0 : Int) + (i : Nat) < (k : Nat)) ↔ i < k := by omega
    by_cases hh : i < k
    · rw [if_pos hh, if_pos (this.mpr hh), Int.zero_add]
    · rw [if_neg hh, if_neg (fun x => hh (this.mp x))]
  rw [e] at h
  exact h
theorem law_power_c {S : Static thePr} {n : Nat} {b k : Nat} {σ : List PV} {R : PV → List PV → Prop} (hb : b ≤ 16) (hk : k ≤ 900) (hR : R (.int ((b ^ k : Nat) : Int)) σ) :
    CallTo S (n + 1) (.fn 49) [.int (b : Nat), .int (k : Nat)] σ R := by
  refine call_fn rfl sok49 bind49_2 (by ktf_call Mini) ?_
  refine xs_cons ?_
  ktf_call Msta
  ktf_call Me
  refine xs_cons ?_
  refine xt_for (items := fun i => if i < k then some (.int (i : Nat)) else none) (len := k)
    (fun i v q => q = σ ∧ ∃ ot, v = [some (.int (b : Nat)), some (.int (k : Nat)), some (.int ((b ^ i : Nat) : Int)), ot, none]) ?_ ?_ ?_ ?_
  · ktf_call M
    exact ⟨iter_nat (by omega), rfl, none, by simp⟩
  · intro i; by_cases h : i < k <;> simp [h] <;> omega
  · rintro i p v q hi ⟨rfl, ot, rfl⟩
    by_cases h : i < k
    · simp [h] at hi
      subst hi
      ktf_call Mupd
      ktf_call M
      refine bin_mul ?_ (Fit.of_lt (m := 5) (by simp; omega) (by decide)) ?_
      · have e : ((b ^ i : Nat) : Int) = ((b : Nat) : Int) ^ i := by simp
        rw [e]; exact pow_lt_fit hb (by omega)
      ktf_call Me
      have e : ((b ^ i : Nat) : Int) * (b : Nat) = ((b ^ (i + 1) : Nat) : Int) := by rw [Nat.pow_succ]; simp
      rw [e]
      exact xs_nil ⟨rfl, _, rfl⟩
    · simp [h] at hi
  · rintro v q ⟨rfl, ot, rfl⟩
    ktf_call M
    exact hR
theorem two_mod {w : Nat} : (((w : Nat) : Int).fmod 2 == 0) = decide (w % 2 = 0) := by
  have := fmod_nat w 2
  simp only [show ((2 : Nat) : Int) = 2 from rfl] at this
  rw [this]
  by_cases h : w % 2 = 0
  · rw [h]; rfl
  · have : w % 2 = 1 := by omega
    rw [this]; rfl
theorem two_div {w : Nat} : ((w : Nat) : Int).fdiv 2 = ((w / 2 : Nat) : Int) := fdiv_nat w 2
theorem law_tuple_c {S : Static thePr} {n : Nat} {z e : Int} {σ : List PV} {R : PV → List PV → Prop} (h0 : z ≠ 0) (hb : bl z.natAbs < 9000) (hR : R (canon (sg z) z.natAbs e) σ) :
    CallTo S (n + 1) (.fn 50) [.int z, .int e] σ R := by
  refine call_fn rfl sok50 bind50_2 (by ktf_call Mini) ?_
  refine xs_cons ?_
  have hm : 0 < z.natAbs := by omega
  have habs : (if z < 0 then -z else z) = ((z.natAbs : Nat) : Int) := by split <;> omega
  refine XT.mono (N := fun v q => q = σ ∧ v = [some (.int (z.natAbs : Nat)), some (.int e), some (.int (sg z)), some (.int 0), none]) (T := R) (B := fun _ _ => False) ?A ?B (fun _ _ h => h) (fun _ _ h => h)
  case A =>
    ktf_call M
    refine ⟨fun h => ?_, fun h => ?_⟩
    · have hz : z < 0 := by simpa using h
      ktf_call M
      rw [habs]
      have e2 : sg z = 1 := by unfold sg; rw [if_pos hz]
      rw [e2]
      refine ⟨?_, Nat.le_of_ble_eq_true rfl⟩
      ktf_call M
      exact ⟨rfl, rfl⟩
    · have hz : ¬ z < 0 := by simpa using h
      ktf_call M
      rw [habs]
      have e2 : sg z = 0 := by unfold sg; rw [if_neg hz]
      rw [e2]
      refine ⟨?_, Nat.le_of_ble_eq_true rfl⟩
      ktf_call M
      exact ⟨rfl, rfl⟩
  case B =>
    rintro v q ⟨rfl, rfl⟩
    generalize z.natAbs = m at *
    generalize sg z = s at *
    refine xs_cons ?_
    refine xt_while (fun k v q' => q' = q ∧ ∃ (w : Nat) (d : Int), w = k ∧ 0 < w ∧ bl w < 9000 ∧ canon s w d = canon s m e ∧ v = [some (.int (w : Nat)), some (.int d), some (.int s), some (.int 0), none]) m ⟨rfl, m, e, rfl, hm, hb, rfl, rfl⟩ ?_
    rintro k v q' ⟨rfl, w, d, rfl, hw, hbw, hc, rfl⟩
    ktf_call M
    refine bin_mod (by decide) ?_
    ktf_call M
    rw [two_mod]
    refine ⟨fun h => ?_, fun h => ?_⟩
    · have he : w % 2 = 0 := by simpa using h
      ktf_call M
      refine bin_floordiv (by decide) (Fit.of_lt (m := 3) (by decide) (by decide)) ?_
      ktf_call M
      refine ⟨?_, Nat.le_of_ble_eq_true rfl⟩
      ktf_call M
      rw [two_div]
      refine ⟨w / 2, by omega, rfl, w / 2, d + 1, rfl, by omega, ?_, ?_, rfl⟩
      · have : bl w = bl (w / 2) + 1 := by
          have := bl_mul_pow (n := w / 2) (by omega) 1
          rwa [show w / 2 * 2 ^ 1 = w by omega] at this
        omega
      · rw [← hc, canon_half s hw he]
    · have he : w % 2 = 1 := by simp at h; omega
      rw [canon_odd s he] at hc
      refine xs_cons ?_
      refine xt_while (fun k v q'' => q'' = q' ∧ ∃ (j : Nat), j ≤ bl w ∧ bl w - j = k ∧ v = [some (.int (w : Nat)), some (.int d), some (.int s), some (.int (j : Nat)), none]) (bl w) ⟨rfl, 0, by omega, by omega, rfl⟩ ?_
      rintro k v q'' ⟨rfl, j, hj, rfl, rfl⟩
      ktf_call M
      refine bin_rshift (by omega) ?_
      rw [Int.toNat_natCast, fdiv_pow]
      ktf_call M
      have hsp := shift_pos hw j
      refine ⟨fun h => ?_, fun h => ?_⟩
      · have hjl : j < bl w := by
          apply hsp.mp
          have := of_decide_eq_true h
          omega
        ktf_call M
        exact ⟨bl w - (j + 1), by omega, rfl, j + 1, by omega, rfl, rfl⟩
      · have hjl : j = bl w := by
          have := of_decide_eq_false h
          have : ¬ 0 < w / 2 ^ j := by omega
          rw [hsp] at this
          omega
        subst hjl
        ktf_call M
        rw [← hc] at hR
        exact ⟨hR, Nat.le_of_ble_eq_true rfl⟩
theorem bl_le_of_lt {n k : Nat} (h : n < 2 ^ k) : bl n ≤ k := by
  by_cases h0 : n = 0
  · subst h0; unfold bl; simp
  · have h1 := bl_le (n := n) (by omega)
    have h2 : 2 ^ (bl n - 1) < 2 ^ k := Nat.lt_of_le_of_lt h1 h
    rw [Nat.pow_lt_pow_iff_right (by decide)] at h2
    omega
theorem one_shl (b : Nat) : (1 : Int) * 2 ^ b = ((2 ^ b : Nat) : Int) := by simp
theorem fit_nat {a m : Nat} (h : a < 2 ^ m) (hm : m ≤ 9000) : Fit ((a : Nat) : Int) := Fit.of_lt (m := m) (by simpa using h) hm
theorem law_rounded_c {S : Static thePr} {n : Nat} {z : Int} {U bits : Nat} {r : Rnd} {σ : List PV} {R : PV → List PV → Prop} (h0 : z ≠ 0) (hU : 0 < U) (hz : z.natAbs < 2 ^ 1000) (hU2 : U < 2 ^ 1000) (hb0 : 0 < bits) (hb1 : bits ≤ 60)
    (hR : ∀ pv, RndOf (sg z) r bits z.natAbs U 0 pv → R pv σ) :
    CallTo S (n + 1) (.fn 48) [.int z, .int (U : Nat), .int (bits : Nat), .str r.str] σ R := by
  refine call_fn rfl sok48 bind48_4 (by ktf_call Mini) ?_
  refine xs_cons ?_
  have hm : 0 < z.natAbs := by omega
  have habs : (if z < 0 then -z else z) = ((z.natAbs : Nat) : Int) := by split <;> omega
  ktf_call M
  refine ifff (by simpa using h0) ?_
  refine xs_nil ?_
  refine xs_cons ?_
  refine XT.mono (N := fun v q => q = σ ∧ v = [some (.int z), some (.int (U : Nat)), some (.int (bits : Nat)), some (.str r.str), some (.int (sg z)), some (.int (z.natAbs : Nat)), some (.int 0), none, none, none, none, none]) (T := R) (B := fun _ _ => False) ?A ?B (fun _ _ h => h) (fun _ _ h => h)
  case A =>
    ktf_call M
    refine ⟨fun h => ?_, fun h => ?_⟩
    · have hz : z < 0 := by simpa using h
      ktf_call M
      rw [habs]
      have e2 : sg z = 1 := by unfold sg; rw [if_pos hz]
      rw [e2]
      refine ⟨?_, Nat.le_of_ble_eq_true rfl⟩
      ktf_call M
      exact ⟨rfl, rfl⟩
    · have hz : ¬ z < 0 := by simpa using h
      ktf_call M
      rw [habs]
      have e2 : sg z = 0 := by unfold sg; rw [if_neg hz]
      rw [e2]
      refine ⟨?_, Nat.le_of_ble_eq_true rfl⟩
      ktf_call M
      exact ⟨rfl, rfl⟩
  case B =>
    rintro v q ⟨rfl, rfl⟩
    generalize z.natAbs = W at *
    have hs := sg_or z
    generalize sg z = s at *
    -- the first loop
    refine xs_cons ?_
    refine xt_while (fun k v q' => q' = q ∧ ∃ i : Nat, W - i = k ∧ (i = 0 ∨ U * 2 ^ i ≤ 2 * W) ∧ v = [some (.int z), some (.int ((U * 2 ^ i : Nat) : Int)), some (.int (bits : Nat)), some (.str r.str), some (.int s), some (.int (W : Nat)), some (.int (i : Nat)), none, none, none, none, none]) W ⟨rfl, 0, by omega, .inl rfl, by simp⟩ ?_
    rintro k v q' ⟨rfl, i, rfl, hi, rfl⟩
    have hUi : 0 < U * 2 ^ i := Nat.mul_pos hU (two_pow_pos' i)
    have hUf : U * 2 ^ i < 2 ^ 1001 := by
      have : (2 : Nat) ^ 1001 = 2 * 2 ^ 1000 := by rw [Nat.pow_succ, Nat.mul_comm]
      rcases hi with rfl | hi
      · simp; omega
      · omega
    generalize hUg : U * 2 ^ i = Ui at *
    ktf_call M
    refine bin_floordiv (by omega) (fit_nat hUf (by decide)) ?_
    rw [fdiv_nat]
    ktf_call M
    refine bin_lshift (Fit.of_lt (m := 1) (by decide) (by decide)) (by omega) (by omega) ?_
    rw [Int.toNat_natCast, one_shl]
    ktf_call M
    refine ⟨fun h => ?_, fun h => ?_⟩
    · have hc : 2 ^ bits ≤ W / Ui := by have := of_decide_eq_true h; omega
      ktf_call M
      refine bin_mul (fit_nat hUf (by decide)) (Fit.of_lt (m := 3) (by decide) (by decide)) ?_
      ktf_call M
      refine ⟨?_, Nat.le_of_ble_eq_true rfl⟩
      ktf_call M
      have hle : 2 ^ bits * Ui ≤ W := (Nat.le_div_iff_mul_le hUi).mp hc
      have h2b : 2 ≤ 2 ^ bits := by
        have := Nat.pow_le_pow_right (n := 2) (by decide) hb0
        simpa using this
      have hiW : i < W := by
        have h1 : 2 ^ i ≤ Ui := by rw [← hUg]; exact Nat.le_mul_of_pos_left _ hU
        have h2 : i < 2 ^ i := Nat.lt_two_pow_self
        have h3 : Ui ≤ 2 ^ bits * Ui := Nat.le_mul_of_pos_left _ (two_pow_pos' _)
        omega
      refine ⟨W - (i + 1), by omega, rfl, i + 1, rfl, .inr ?_, ?_⟩
      · have e1 : U * 2 ^ (i + 1) = 2 * Ui := by rw [Nat.pow_succ, ← Nat.mul_assoc, hUg, Nat.mul_comm]
        have h3 : 2 * Ui ≤ 2 ^ bits * Ui := Nat.mul_le_mul_right _ h2b
        omega
      · have e1 : ((Ui : Nat) : Int) * 2 = ((U * 2 ^ (i + 1) : Nat) : Int) := by
          have : U * 2 ^ (i + 1) = Ui * 2 := by rw [Nat.pow_succ, ← Nat.mul_assoc, hUg]
          rw [this]; omega
        rw [e1]
        rfl
    · have hc : W / Ui < 2 ^ bits := by have := of_decide_eq_false h; omega
      -- the second loop
      refine xs_cons ?_
      refine xt_while (fun k v q'' => q'' = q' ∧ ∃ j : Nat, bl Ui + bits - j = k ∧ W * 2 ^ j / Ui < 2 ^ bits ∧ (j = 0 ∨ W * 2 ^ j < 2 * (Ui * 2 ^ bits)) ∧
        v = [some (.int z), some (.int ((Ui : Nat) : Int)), some (.int (bits : Nat)), some (.str r.str), some (.int s), some (.int ((W * 2 ^ j : Nat) : Int)), some (.int ((i : Nat) - (j : Nat))), none, none, none, none, none]) (bl Ui + bits) ⟨rfl, 0, by omega, by simpa using hc, .inl rfl, by simp⟩ ?_
      rintro k v q'' ⟨rfl, j, rfl, hj, hj2, rfl⟩
      have hWj : 0 < W * 2 ^ j := Nat.mul_pos hm (two_pow_pos' j)
      have hWf : W * 2 ^ j < 2 ^ 1100 := by
        rcases hj2 with rfl | hj2
        · have : (2 : Nat) ^ 1000 ≤ 2 ^ 1100 := Nat.pow_le_pow_right (by decide) (by decide)
          simp; omega
        · have h1 : Ui * 2 ^ bits ≤ 2 ^ 1001 * 2 ^ 60 := Nat.mul_le_mul (Nat.le_of_lt hUf) (Nat.pow_le_pow_right (by decide) hb1)
          rw [← Nat.pow_add] at h1
          have h2 : 2 * 2 ^ (1001 + 60) < 2 ^ 1100 := by
            have : 2 * 2 ^ (1001 + 60) = 2 ^ 1062 := by rw [Nat.mul_comm, ← Nat.pow_succ]
            rw [this]; exact Nat.pow_lt_pow_right (by decide) (by decide)
          omega
      generalize hWg : W * 2 ^ j = Wj at *
      ktf_call M
      refine bin_floordiv (by omega) (fit_nat hUf (by decide)) ?_
      rw [fdiv_nat]
      ktf_call M
      have eb : ((bits : Nat) : Int) - 1 = ((bits - 1 : Nat) : Int) := by omega
      rw [eb]
      refine bin_lshift (Fit.of_lt (m := 1) (by decide) (by decide)) (by omega) (by omega) ?_
      rw [Int.toNat_natCast, one_shl]
      ktf_call M
      have e2b : 2 ^ bits = 2 * 2 ^ (bits - 1) := by
        have h9 : 2 ^ (bits - 1 + 1) = 2 * 2 ^ (bits - 1) := by rw [Nat.pow_succ, Nat.mul_comm]
        rwa [show bits - 1 + 1 = bits by omega] at h9
      refine ⟨fun h => ?_, fun h => ?_⟩
      · have hc2 : Wj / Ui < 2 ^ (bits - 1) := by have := of_decide_eq_true h; omega
        ktf_call M
        refine bin_mul (fit_nat hWf (by decide)) (Fit.of_lt (m := 3) (by decide) (by decide)) ?_
        ktf_call M
        refine ⟨?_, Nat.le_of_ble_eq_true rfl⟩
        ktf_call M
        have hlt : Wj < 2 ^ (bits - 1) * Ui := (Nat.div_lt_iff_lt_mul hUi).mp hc2
        have hjlt : j < bl Ui + bits := by
          have h1 : 2 ^ j ≤ Wj := by rw [← hWg]; exact Nat.le_mul_of_pos_left _ hm
          have h2 := bl_lt Ui
          have h3 : 2 ^ (bits - 1) * Ui ≤ 2 ^ (bits - 1) * 2 ^ bl Ui := Nat.mul_le_mul_left _ (Nat.le_of_lt h2)
          rw [← Nat.pow_add] at h3
          have h4 : 2 ^ j < 2 ^ (bits - 1 + bl Ui) := by omega
          rw [Nat.pow_lt_pow_iff_right (by decide)] at h4
          omega
        have e1 : W * 2 ^ (j + 1) = 2 * Wj := by rw [Nat.pow_succ, ← Nat.mul_assoc, hWg, Nat.mul_comm]
        refine ⟨bl Ui + bits - (j + 1), by omega, rfl, j + 1, rfl, ?_, .inr ?_, ?_⟩
        · rw [e1, e2b, Nat.div_lt_iff_lt_mul hUi, Nat.mul_assoc]
          omega
        · rw [e1]
          have : Ui * 2 ^ bits = 2 * (2 ^ (bits - 1) * Ui) := by rw [e2b]; ac_rfl
          omega
        · have e3 : ((Wj : Nat) : Int) * 2 = ((W * 2 ^ (j + 1) : Nat) : Int) := by rw [e1]; omega
          have e4 : ((i : Nat) : Int) - (j : Nat) - 1 = ((i : Nat) : Int) - ((j + 1 : Nat) : Int) := by omega
          rw [e3, e4]
      · have hc2 : 2 ^ (bits - 1) ≤ Wj / Ui := by have := of_decide_eq_false h; omega
        have hX : IsRnd s r bits W U 0 (rnd s r Wj Ui) ((i : Nat) - (j : Nat)) := ⟨i, j, by omega, by rw [hUg, hWg]; exact hc2, by rw [hUg, hWg]; exact hj, by rw [hUg, hWg]⟩
        have hRR := hR _ ⟨_, _, hX, rfl⟩
        have hpos := hX.pos
        generalize hMg : rnd s r Wj Ui = M at *
        ktf_call Ms
        refine bin_floordiv (by omega) (fit_nat hUf (by decide)) ?_
        rw [fdiv_nat]
        ktf_call Me
        refine bin_mod (by omega) ?_
        rw [fmod_nat]
        ktf_call Me
        refine ⟨?_, Nat.le_of_ble_eq_true rfl⟩
        ktf_call Me
        refine xs_cons ?_
        refine XT.mono (N := fun v q => q = q'' ∧ ∃ b, isMore s r (Wj / Ui) (Wj % Ui) Ui = b ∧ v = [some (.int z), some (.int ((Ui : Nat) : Int)), some (.int (bits : Nat)), some (.str r.str), some (.int s), some (.int ((Wj : Nat) : Int)), some (.int ((i : Nat) - (j : Nat))), some (.int ((Wj / Ui : Nat) : Int)), some (.int ((Wj % Ui : Nat) : Int)), some (.bool b), none, none]) (T := R) (B := fun _ _ => False) ?A ?B (fun _ _ h => h) (fun _ _ h => h)
        case A =>
          have htU : Wj % Ui < Ui := Nat.mod_lt _ hUi
          have hqU : Wj / Ui < 2 ^ 60 := Nat.lt_of_lt_of_le hj (Nat.pow_le_pow_right (by decide) hb1)
          generalize Wj / Ui = qq at *
          generalize Wj % Ui = tt at *
          clear hR hRR hX hU2 hz hWg hUg hj2 hj
          by_cases hrn : r = .n
          · subst hrn
            have f2 : Fit 2 := Fit.of_lt (i := 2) (m := 3) (by decide) (by decide)
            have ft : Fit ((tt : Nat) : Int) := fit_nat (Nat.lt_trans htU hUf) (by decide)
            have em : ((qq : Nat) : Int).fmod 2 = ((qq % 2 : Nat) : Int) := fmod_nat qq 2
            ktf_call M
            refine bin_mul f2 ft ?_
            ktf_call M
            refine ⟨fun h => ?_, fun h => ?_⟩
            · ktf_call M
              refine bin_mul f2 ft ?_
              ktf_call M
              refine ⟨fun h1 => ?_, fun h1 => ?_⟩
              · ktf_call M
                refine bin_mod (by decide) ?_
                ktf_call M
                refine ⟨rfl, _, ?_, rfl⟩
                have := of_decide_eq_false h
                have := of_decide_eq_true h1
                rw [em]
                simp only [isMore]
                rw [Bool.eq_iff_iff]
                simp
                omega
              · ktf_call M
                refine ⟨rfl, _, ?_, rfl⟩
                have := of_decide_eq_false h
                have := of_decide_eq_false h1
                rw [Bool.eq_iff_iff]
                simp [isMore]
                omega
            · ktf_call M
              refine ⟨rfl, _, ?_, rfl⟩
              have := of_decide_eq_true h
              rw [Bool.eq_iff_iff]
              simp [isMore]
              omega
          · rcases hs with rfl | rfl <;> cases r <;> first | exact absurd rfl hrn | skip
            all_goals ktf_call M
            all_goals refine ⟨fun h => ?_, fun h => ?_⟩
            all_goals ktf_call M
            all_goals refine ⟨rfl, _, ?_, rfl⟩
            all_goals simp at h
            all_goals simp [isMore, Rnd.away, h]
            all_goals first | rfl | decide +kernel
        case B =>
          rintro v q ⟨rfl, b, hb, rfl⟩
          have hbl : bl M < 9000 := by
            have h1 := (rnd_le s r Wj Ui).2
            rw [hMg] at h1
            have h2 : 2 ^ bits ≤ 2 ^ 60 := Nat.pow_le_pow_right (by decide) hb1
            have h3 : M < 2 ^ 61 := by omega
            have := bl_le_of_lt h3
            omega
          refine xs_cons ?_
          refine XT.mono (N := fun v q' => q' = q ∧ v = [some (.int z), some (.int ((Ui : Nat) : Int)), some (.int (bits : Nat)), some (.str r.str), some (.int s), some (.int ((Wj : Nat) : Int)), some (.int ((i : Nat) - (j : Nat))), some (.int ((M : Nat) : Int)), some (.int ((Wj % Ui : Nat) : Int)), some (.bool b), none, none]) (T := R) (B := fun _ _ => False) ?A ?B (fun _ _ h => h) (fun _ _ h => h)
          case A =>
            ktf_call M
            refine ⟨fun h => ?_, fun h => ?_⟩
            · ktf_call M
              have e : ((Wj / Ui : Nat) : Int) + 1 = ((M : Nat) : Int) := by
                rw [← hMg]; unfold rnd; rw [hb, h]; simp
              rw [e]
              exact ⟨rfl, rfl⟩
            · ktf_call M
              have e : ((Wj / Ui : Nat) : Int) = ((M : Nat) : Int) := by
                rw [← hMg]; unfold rnd; rw [hb, h]; simp
              rw [e]
              exact ⟨rfl, rfl⟩
          case B =>
            rintro v q ⟨rfl, rfl⟩
            generalize ((i : Nat) : Int) - ((j : Nat) : Int) = e at *
            refine xs_cons ?_
            refine xt_while (fun k v q' => q' = q ∧ ∃ (w : Nat) (d : Int), w = k ∧ 0 < w ∧ bl w < 9000 ∧ canon s w d = canon s M e ∧ v = [some (.int z), some (.int ((Ui : Nat) : Int)), some (.int (bits : Nat)), some (.str r.str), some (.int s), some (.int ((Wj : Nat) : Int)), some (.int d), some (.int ((w : Nat) : Int)), some (.int ((Wj % Ui : Nat) : Int)), some (.bool b), none, none]) M ⟨rfl, M, e, rfl, hpos, hbl, rfl, rfl⟩ ?_
            rintro k v q' ⟨rfl, w, d, rfl, hw, hbw, hc, rfl⟩
            ktf_call M
            refine bin_mod (by decide) ?_
            ktf_call M
            rw [two_mod]
            refine ⟨fun h => ?_, fun h => ?_⟩
            · have he : w % 2 = 0 := by simpa using h
              ktf_call M
              refine bin_floordiv (by decide) (Fit.of_lt (m := 3) (by decide) (by decide)) ?_
              ktf_call M
              refine ⟨?_, Nat.le_of_ble_eq_true rfl⟩
              ktf_call M
              rw [two_div]
              refine ⟨w / 2, by omega, rfl, w / 2, d + 1, rfl, by omega, ?_, ?_, rfl⟩
              · have : bl w = bl (w / 2) + 1 := by
                  have := bl_mul_pow (n := w / 2) (by omega) 1
                  rwa [show w / 2 * 2 ^ 1 = w by omega] at this
                omega
              · rw [← hc, canon_half s hw he]
            · have he : w % 2 = 1 := by simp at h; omega
              rw [canon_odd s he] at hc
              ktf_call Ms
              refine xs_cons ?_
              refine xt_while (fun k v q'' => q'' = q' ∧ ∃ (j' : Nat), j' ≤ bl w ∧ bl w - j' = k ∧ v = [some (.int z), some (.int ((Ui : Nat) : Int)), some (.int (bits : Nat)), some (.str r.str), some (.int s), some (.int ((Wj : Nat) : Int)), some (.int d), some (.int ((w : Nat) : Int)), some (.int ((Wj % Ui : Nat) : Int)), some (.bool b), some (.int (j' : Nat)), none]) (bl w) ⟨rfl, 0, by omega, by omega, rfl⟩ ?_
              rintro k v q'' ⟨rfl, j', hj', rfl, rfl⟩
              ktf_call M
              refine bin_rshift (by omega) ?_
              rw [Int.toNat_natCast, fdiv_pow]
              ktf_call M
              have hsp := shift_pos hw j'
              refine ⟨fun h => ?_, fun h => ?_⟩
              · have hjl : j' < bl w := by
                  apply hsp.mp
                  have := of_decide_eq_true h
                  omega
                ktf_call M
                exact ⟨bl w - (j' + 1), by omega, rfl, j' + 1, by omega, rfl, rfl⟩
              · have hjl : j' = bl w := by
                  have := of_decide_eq_false h
                  have : ¬ 0 < w / 2 ^ j' := by omega
                  rw [hsp] at this
                  omega
                subst hjl
                ktf_call M
                rw [← hc] at hRR
                exact ⟨hRR, Nat.le_of_ble_eq_true rfl⟩
theorem pow16 {b k : Nat} (hb : b ≤ 16) : b ^ k ≤ 2 ^ (4 * k) := by
  rw [Nat.pow_mul]
  exact Nat.pow_le_pow_left hb k
theorem lt_two_pow_mul {a x m n : Nat} (h1 : a < 2 ^ m) (h2 : x ≤ 2 ^ n) : a * x < 2 ^ (m + n) := by
  rw [Nat.pow_add]
  exact Nat.mul_lt_mul_of_lt_of_le h1 h2 (two_pow_pos' n)
theorem max0 (x : Int) : (if x > 0 then x else 0) = ((x.toNat : Nat) : Int) := by split <;> omega
/-- base ^ p ≤ A / B < base ^ (p + 1) -/
def IsPlace (A B b : Nat) (p : Int) : Prop := B * b ^ p.toNat ≤ A * b ^ (-p).toNat ∧ A * b ^ (-p).toNat < B * b ^ (p.toNat + 1)
theorem lt_bpow {b : Nat} (hb : 2 ≤ b) (i : Nat) : i < b ^ i := Nat.lt_of_lt_of_le Nat.lt_two_pow_self (Nat.pow_le_pow_left hb i)
theorem law_place_c {S : Static thePr} {n : Nat} {A B b : Nat} {σ : List PV} {R : PV → List PV → Prop} (hA : 0 < A) (hB : 0 < B) (hA2 : A < 2 ^ 1000) (hB2 : B < 2 ^ 1000) (hb : 2 ≤ b) (hb2 : b ≤ 16)
    (hR : ∀ p, IsPlace A B b p → R (.int p) σ) :
    CallTo S (n + 1) (.fn 51) [.int (A : Nat), .int (B : Nat), .int (b : Nat)] σ R := by
  have hbf : Fit ((b : Nat) : Int) := Fit.of_lt (m := 5) (by simp; omega) (by decide)
  refine call_fn rfl sok51 bind51_3 (by ktf_call Mini) ?_
  refine xs_cons ?_
  ktf_call Msta
  ktf_call Me
  refine xs_cons ?_
  refine xt_while (fun k v q' => q' = σ ∧ ∃ i : Nat, A - i = k ∧ (i = 0 ∨ B * b ^ i ≤ A) ∧ v = [some (.int (A : Nat)), some (.int ((B * b ^ i : Nat) : Int)), some (.int (b : Nat)), some (.int (i : Nat))]) A ⟨rfl, 0, by omega, .inl rfl, by simp⟩ ?_
  rintro k v q' ⟨rfl, i, rfl, hi, rfl⟩
  have hBi : 0 < B * b ^ i := Nat.mul_pos hB (Nat.pow_pos (by omega))
  have hBf : B * b ^ i < 2 ^ 1000 := by
    rcases hi with rfl | hi
    · simpa using hB2
    · omega
  generalize hBg : B * b ^ i = Bi at *
  ktf_call M
  refine bin_mul (fit_nat hBf (by decide)) hbf ?_
  ktf_call M
  have em : ((Bi : Nat) : Int) * ((b : Nat) : Int) = ((B * b ^ (i + 1) : Nat) : Int) := by
    rw [Nat.pow_succ, ← Nat.mul_assoc, hBg]; simp
  rw [em]
  refine ⟨fun h => ?_, fun h => ?_⟩
  · have hc : B * b ^ (i + 1) ≤ A := by have := of_decide_eq_true h; omega
    ktf_call M
    refine bin_mul (fit_nat hBf (by decide)) hbf ?_
    ktf_call M
    refine ⟨?_, Nat.le_of_ble_eq_true rfl⟩
    ktf_call M
    rw [em]
    have h1 := lt_bpow hb (i + 1)
    have h2 : b ^ (i + 1) ≤ B * b ^ (i + 1) := Nat.le_mul_of_pos_left _ hB
    exact ⟨A - (i + 1), by omega, rfl, i + 1, rfl, .inr hc, rfl⟩
  · have hc : A < B * b ^ (i + 1) := by have := of_decide_eq_false h; omega
    refine xs_cons ?_
    refine xt_while (fun k v q'' => q'' = q' ∧ ∃ j : Nat, Bi - j = k ∧ (j = 0 ∨ (i = 0 ∧ A * b ^ j < B * b)) ∧ v = [some (.int ((A * b ^ j : Nat) : Int)), some (.int (Bi : Nat)), some (.int (b : Nat)), some (.int ((i : Nat) - (j : Nat)))]) Bi ⟨rfl, 0, by omega, .inl rfl, by simp⟩ ?_
    rintro k v q'' ⟨rfl, j, rfl, hj, rfl⟩
    have hAj : 0 < A * b ^ j := Nat.mul_pos hA (Nat.pow_pos (by omega))
    have hAf : A * b ^ j < 2 ^ 1010 := by
      rcases hj with rfl | ⟨_, hj⟩
      · have : (2 : Nat) ^ 1000 ≤ 2 ^ 1010 := Nat.pow_le_pow_right (by decide) (by decide)
        simp; omega
      · have := lt_two_pow_mul (n := 4) hB2 (x := b) (by simpa using hb2)
        have h2 : (2 : Nat) ^ (1000 + 4) ≤ 2 ^ 1010 := Nat.pow_le_pow_right (by decide) (by decide)
        omega
    generalize hAg : A * b ^ j = Aj at *
    ktf_call M
    refine ⟨fun h => ?_, fun h => ?_⟩
    · have hlt : Aj < Bi := by have := of_decide_eq_true h; omega
      ktf_call M
      refine bin_mul (fit_nat hAf (by decide)) hbf ?_
      ktf_call M
      refine ⟨?_, Nat.le_of_ble_eq_true rfl⟩
      ktf_call M
      have hi0 : i = 0 := by
        rcases hi with hi | hi
        · exact hi
        · rcases hj with hj | hj
          · subst hj; simp at hAg; omega
          · exact hj.1
      have hjA : j < Bi := by
        have h1 := lt_bpow hb j
        have h2 : b ^ j ≤ A * b ^ j := Nat.le_mul_of_pos_left _ hA
        omega
      have e1 : A * b ^ (j + 1) = Aj * b := by rw [Nat.pow_succ, ← Nat.mul_assoc, hAg]
      refine ⟨Bi - (j + 1), by omega, rfl, j + 1, rfl, .inr ⟨hi0, ?_⟩, ?_⟩
      · rw [e1]
        subst hi0
        have : Bi = B := by rw [← hBg]; simp
        rw [← this]
        exact Nat.mul_lt_mul_of_pos_right hlt (by omega)
      · have e2 : ((i : Nat) : Int) - (j : Nat) - 1 = ((i : Nat) : Int) - ((j + 1 : Nat) : Int) := by omega
        rw [e1, e2]; simp
    · have hge : Bi ≤ Aj := by have := of_decide_eq_false h; omega
      ktf_call M
      refine hR _ ?_
      rcases hj with rfl | ⟨rfl, hj⟩
      · have e1 : ((i : Nat) : Int) - ((0 : Nat) : Int) = (i : Nat) := by omega
        have e2 : (-((i : Nat) : Int)).toNat = 0 := by omega
        rw [e1]
        unfold IsPlace
        rw [e2, Int.toNat_natCast, Nat.pow_zero, Nat.mul_one, hBg]
        simp at hAg
        exact ⟨by omega, hc⟩
      · have e1 : ((0 : Nat) : Int) - (j : Nat) = -((j : Nat) : Int) := by omega
        have e2 : (-((j : Nat) : Int)).toNat = 0 := by omega
        rw [e1]
        unfold IsPlace
        rw [e2, Int.neg_neg, Int.toNat_natCast, hAg]
        simp at hBg hj ⊢
        omega
def laidF (sgn : Int) (r : Rnd) (A B b many : Nat) (p : Int) : Nat := rnd sgn r (A * b ^ ((many : Int) - 1 - p).toNat) (B * b ^ (-((many : Int) - 1 - p)).toNat)
theorem hex_at (d : Nat) (h : d < 16) : (seqIndex? ((d : Nat) : Int) (Str.ofString "0123456789abcdef").length).bind ((Str.ofString "0123456789abcdef").cps[·]?) = some (dc d) := by
  have : ∀ d : Fin 16, (seqIndex? (((d : Nat) : Nat) : Int) (Str.ofString "0123456789abcdef").length).bind ((Str.ofString "0123456789abcdef").cps[·]?) = some (dc d) := by decide +kernel
  exact this ⟨d, h⟩
/-- law_laid's number and place -/
def laid (sgn : Int) (r : Rnd) (A B b many : Nat) (p : Int) : Nat × Int :=
  if laidF sgn r A B b many p = b ^ many then (laidF sgn r A B b many p / b, p + 1) else (laidF sgn r A B b many p, p)
theorem law_laid_c {S : Static thePr} {n : Nat} {A B b many : Nat} {minus : Bool} {r : Rnd} {σ : List PV} {R : PV → List PV → Prop} (hA : 0 < A) (hB : 0 < B) (hA2 : A < 2 ^ 400) (hB2 : B < 2 ^ 400) (hb : 2 ≤ b) (hb2 : b ≤ 16) (hm : many ≤ 30)
    (hR : ∀ p, IsPlace A B b p → R (.tup [.str (tx (dgs b many (laid (if minus then 1 else 0) r A B b many p).1)), .int (laid (if minus then 1 else 0) r A B b many p).2]) σ) :
    CallTo S (n + 2) (.fn 52) [.int (A : Nat), .int (B : Nat), .bool minus, .int (many : Nat), .int (b : Nat), .str r.str] σ R := by
  have hbf : Fit ((b : Nat) : Int) := Fit.of_lt (m := 5) (by simp; omega) (by decide)
  have h1000 : (2 : Nat) ^ 400 ≤ 2 ^ 1000 := Nat.pow_le_pow_right (by decide) (by decide)
  refine call_fn rfl sok52 bind52_6 (by ktf_call Mini) ?_
  refine xs_cons ?_
  ktf_call Msta
  ktf_call Me
  refine law_place_c (n := n) hA hB (by omega) (by omega) hb hb2 fun p hp => ?_
  ktf_call Mupd
  have hpb : -404 ≤ p ∧ p ≤ 400 := by
    obtain ⟨h1, h2⟩ := hp
    constructor
    · by_cases hn : p < -404
      · exfalso
        have e1 : b ^ (p.toNat + 1) = b := by rw [show p.toNat = 0 by omega]; simp
        rw [e1] at h2
        have h3 : B * b < 2 ^ (400 + 4) := lt_two_pow_mul hB2 (by simpa using hb2)
        have h4 : (2 : Nat) ^ (-p).toNat ≤ b ^ (-p).toNat := Nat.pow_le_pow_left hb _
        have h5 : b ^ (-p).toNat ≤ A * b ^ (-p).toNat := Nat.le_mul_of_pos_left _ hA
        have h6 : (2 : Nat) ^ (-p).toNat < 2 ^ (400 + 4) := by omega
        rw [Nat.pow_lt_pow_iff_right (by decide)] at h6
        omega
      · omega
    · by_cases hn : 400 < p
      · exfalso
        have e1 : b ^ (-p).toNat = 1 := by rw [show (-p).toNat = 0 by omega]; simp
        rw [e1, Nat.mul_one] at h1
        have h4 : (2 : Nat) ^ p.toNat ≤ b ^ p.toNat := Nat.pow_le_pow_left hb _
        have h5 : b ^ p.toNat ≤ B * b ^ p.toNat := Nat.le_mul_of_pos_left _ hB
        have h6 : (2 : Nat) ^ p.toNat < 2 ^ 400 := by omega
        rw [Nat.pow_lt_pow_iff_right (by decide)] at h6
        omega
      · omega
  ktf_call Ms
  refine xs_cons ?_
  ktf_call Msta
  ktf_call Me
  rw [max0]
  refine law_power_c hb2 (by omega) ?_
  refine bin_mul (fit_nat hA2 (by decide)) (fit_nat (m := 3000) (Nat.lt_of_le_of_lt (pow16 hb2) (Nat.pow_lt_pow_right (by decide) (by omega))) (by decide)) ?_
  ktf_call Me
  rw [max0]
  refine law_power_c hb2 (by omega) ?_
  refine bin_mul (fit_nat hB2 (by decide)) (fit_nat (m := 3000) (Nat.lt_of_le_of_lt (pow16 hb2) (Nat.pow_lt_pow_right (by decide) (by omega))) (by decide)) ?_
  have hsg : (if minus then (1 : Int) else 0) = 0 ∨ (if minus then (1 : Int) else 0) = 1 := by cases minus <;> simp
  have hRR := hR p hp
  have hAf : A * b ^ ((many : Int) - 1 - p).toNat < 2 ^ (400 + 3000) := lt_two_pow_mul hA2 (Nat.le_trans (pow16 hb2) (Nat.pow_le_pow_right (by decide) (by omega)))
  have hBf : B * b ^ (-((many : Int) - 1 - p)).toNat < 2 ^ (400 + 3000) := lt_two_pow_mul hB2 (Nat.le_trans (pow16 hb2) (Nat.pow_le_pow_right (by decide) (by omega)))
  have hB0 : 0 < B * b ^ (-((many : Int) - 1 - p)).toNat := Nat.mul_pos hB (Nat.pow_pos (by omega))
  rw [← Int.natCast_mul, ← Int.natCast_mul]
  have hL : rnd (if minus then (1 : Int) else 0) r (A * b ^ ((many : Int) - 1 - p).toNat) (B * b ^ (-((many : Int) - 1 - p)).toNat) = laidF (if minus then (1 : Int) else 0) r A B b many p := rfl
  unfold laid at hRR
  rw [← hL] at hRR
  clear hL
  generalize A * b ^ ((many : Int) - 1 - p).toNat = Aj at *
  generalize B * b ^ (-((many : Int) - 1 - p)).toNat = Bi at *
  generalize (many : Int) - 1 - p = shift at *
  ktf_call Me
  refine ⟨?_, Nat.le_of_ble_eq_true rfl⟩
  ktf_call Me
  ktf_call Ms
  refine bin_floordiv (by omega) (fit_nat hBf (by decide)) ?_
  rw [fdiv_nat]
  ktf_call Me
  refine bin_mod (by omega) ?_
  rw [fmod_nat]
  ktf_call Me
  refine ⟨?_, Nat.le_of_ble_eq_true rfl⟩
  ktf_call Me
  refine xs_cons ?_
  refine XT.mono (N := fun v q => q = σ ∧ ∃ c, isMore (if minus then (1 : Int) else 0) r (Aj / Bi) (Aj % Bi) Bi = c ∧ v = [some (.int (Aj : Nat)), some (.int (Bi : Nat)), some (.bool minus), some (.int (many : Nat)), some (.int (b : Nat)), some (.str r.str), some (.int p), some (.int shift), some (.int ((Aj / Bi : Nat) : Int)), some (.int ((Aj % Bi : Nat) : Int)), some (.bool c), none, none, none, none, none, none]) (T := R) (B := fun _ _ => False) ?A ?B (fun _ _ h => h) (fun _ _ h => h)
  case A =>
    have htU : Aj % Bi < Bi := Nat.mod_lt _ hB0
    generalize Aj / Bi = qq at *
    generalize Aj % Bi = tt at *
    clear hR hRR hp hA2 hB2 h1000
    by_cases hrn : r = .n
    · subst hrn
      have f2 : Fit 2 := Fit.of_lt (i := 2) (m := 3) (by decide) (by decide)
      have ft : Fit ((tt : Nat) : Int) := fit_nat (Nat.lt_trans htU hBf) (by decide)
      have em : ((qq : Nat) : Int).fmod 2 = ((qq % 2 : Nat) : Int) := fmod_nat qq 2
      ktf_call M
      refine bin_mul f2 ft ?_
      ktf_call M
      refine ⟨fun h => ?_, fun h => ?_⟩
      · ktf_call M
        refine bin_mul f2 ft ?_
        ktf_call M
        refine ⟨fun h1 => ?_, fun h1 => ?_⟩
        · ktf_call M
          refine bin_mod (by decide) ?_
          ktf_call M
          refine ⟨rfl, _, ?_, rfl⟩
          have := of_decide_eq_false h
          have := of_decide_eq_true h1
          rw [em]
          simp only [isMore]
          rw [Bool.eq_iff_iff]
          simp
          omega
        · ktf_call M
          refine ⟨rfl, _, ?_, rfl⟩
          have := of_decide_eq_false h
          have := of_decide_eq_false h1
          rw [Bool.eq_iff_iff]
          simp [isMore]
          omega
      · ktf_call M
        refine ⟨rfl, _, ?_, rfl⟩
        have := of_decide_eq_true h
        rw [Bool.eq_iff_iff]
        simp [isMore]
        omega
    · cases minus <;> cases r <;> first | exact absurd rfl hrn | skip
      all_goals ktf_call M
      all_goals refine ⟨fun h => ?_, fun h => ?_⟩
      all_goals ktf_call M
      all_goals refine ⟨rfl, _, ?_, rfl⟩
      all_goals simp at h
      all_goals simp [isMore, Rnd.away, h]
      all_goals first | rfl | decide +kernel
  case B =>
    rintro v q ⟨rfl, c, hc, rfl⟩
    generalize hMg : rnd (if minus then (1 : Int) else 0) r Aj Bi = M at *
    refine xs_cons ?_
    refine XT.mono (N := fun v q' => q' = q ∧ v = [some (.int (Aj : Nat)), some (.int (Bi : Nat)), some (.bool minus), some (.int (many : Nat)), some (.int (b : Nat)), some (.str r.str), some (.int p), some (.int shift), some (.int (M : Nat)), some (.int ((Aj % Bi : Nat) : Int)), some (.bool c), none, none, none, none, none, none]) (T := R) (B := fun _ _ => False) ?A ?B (fun _ _ h => h) (fun _ _ h => h)
    case A =>
      ktf_call M
      refine ⟨fun h => ?_, fun h => ?_⟩
      · ktf_call M
        have e : ((Aj / Bi : Nat) : Int) + 1 = ((M : Nat) : Int) := by
          rw [← hMg]; unfold rnd; rw [hc, h]; simp
        rw [e]
        exact ⟨rfl, rfl⟩
      · ktf_call M
        have e : ((Aj / Bi : Nat) : Int) = ((M : Nat) : Int) := by
          rw [← hMg]; unfold rnd; rw [hc, h]; simp
        rw [e]
        exact ⟨rfl, rfl⟩
    case B =>
      rintro v q' ⟨rfl, rfl⟩
      refine xs_cons ?_
      refine XT.mono (N := fun v q'' => q'' = q' ∧ ∃ (F : Nat) (p' : Int), (if M = b ^ many then (M / b, p + 1) else (M, p)) = (F, p') ∧ v = [some (.int (Aj : Nat)), some (.int (Bi : Nat)), some (.bool minus), some (.int (many : Nat)), some (.int (b : Nat)), some (.str r.str), some (.int p'), some (.int shift), some (.int (F : Nat)), some (.int ((Aj % Bi : Nat) : Int)), some (.bool c), none, none, none, none, none, none]) (T := R) (B := fun _ _ => False) ?A ?B (fun _ _ h => h) (fun _ _ h => h)
      case A =>
        ktf_call M
        refine law_power_c hb2 (by omega) ?_
        ktf_call M
        refine ⟨fun h => ?_, fun h => ?_⟩
        · have e : M = b ^ many := by have := eq_of_beq h; omega
          ktf_call M
          refine bin_floordiv (by omega) hbf ?_
          rw [fdiv_nat]
          ktf_call M
          refine ⟨?_, Nat.le_of_ble_eq_true rfl⟩
          ktf_call M
          exact ⟨rfl, M / b, p + 1, by rw [if_pos e], rfl⟩
        · have e : M ≠ b ^ many := by
            intro e; rw [e] at h; simp at h
          ktf_call M
          exact ⟨rfl, M, p, by rw [if_neg e], rfl⟩
      case B =>
        rintro v q'' ⟨rfl, F, p', hF, rfl⟩
        rw [hF] at hRR
        ktf_call Ms
        refine xs_cons ?_
        refine xt_for (items := fun i => if i < many then some (.int (i : Nat)) else none) (len := many)
          (fun i v q => q = q'' ∧ ∃ ot, v = [some (.int (Aj : Nat)), some (.int (Bi : Nat)), some (.bool minus), some (.int (many : Nat)), some (.int (b : Nat)), some (.str r.str), some (.int p'), some (.int shift), some (.int ((F / b ^ i : Nat) : Int)), some (.int ((Aj % Bi : Nat) : Int)), some (.bool c), some (.str (tx (dgs b i F))), ot, none, none, none, none]) ?_ ?_ ?_ ?_
        · ktf_call M
          exact ⟨iter_nat (by omega), rfl, none, by simp; rfl⟩
        · intro i; by_cases h : i < many <;> simp [h] <;> omega
        · rintro i x v q hi ⟨rfl, ot, rfl⟩
          by_cases h : i < many
          · simp [h] at hi
            subst hi
            ktf_call Mupd
            ktf_call M
            refine bin_mod (by omega) ?_
            rw [fmod_nat]
            have hd : F / b ^ i % b < 16 := Nat.lt_of_lt_of_le (Nat.mod_lt _ (by omega)) hb2
            refine sub_str (by omega) (by omega) (hex_at _ hd) ?_
            ktf_call M
            refine bin_cat (by show (tx [_]).length ≤ _; rw [tx_length]; simp) (by rw [tx_length, dgs_len]; omega) ?_
            ktf_call M
            refine bin_floordiv (by omega) hbf ?_
            rw [fdiv_nat]
            ktf_call M
            refine ⟨?_, Nat.le_of_ble_eq_true rfl⟩
            ktf_call M
            have e1 : (⟨#[dc (F / b ^ i % b)]⟩ : Str) ++ tx (dgs b i F) = tx (dgs b (i + 1) F) := by
              show tx [_] ++ _ = _
              rw [tx_append]; rfl
            have e2 : F / b ^ i / b = F / b ^ (i + 1) := by rw [Nat.div_div_eq_div_mul, Nat.pow_succ]
            rw [e1, e2]
            exact ⟨rfl, _, rfl⟩
          · simp [h] at hi
        · rintro v q ⟨rfl, ot, rfl⟩
          ktf_call M
          exact ⟨hRR, Nat.le_of_ble_eq_true rfl⟩
theorem dot_txt : Str.ofString "." = tx [46] := by decide +kernel
theorem nought_dot : Str.ofString "0." = tx [48, 46] := by decide +kernel
theorem zero_txt : Str.ofString "0" = tx [48] := by decide +kernel
theorem one_eq (z c : Nat) : ((⟨#[z]⟩ : Str) == tx [c]) = decide (z = c) := by
  rw [Bool.eq_iff_iff]
  simp [tx]
theorem last_at (l : List Nat) (z : Nat) : (seqIndex? (-1) (tx (l ++ [z])).length).bind ((tx (l ++ [z])).cps[·]?) = some z := by
  rw [tx_length]
  unfold seqIndex?
  have e : ((-1 : Int) + ((l ++ [z]).length : Nat)) = (l.length : Nat) := by simp; omega
  simp only [show (-1 : Int) < 0 by decide, if_true, e]
  have h2 : (decide ((0 : Int) ≤ (l.length : Nat)) && decide (((l.length : Nat) : Int) < ((l ++ [z]).length : Nat))) = true := by simp; omega
  rw [if_pos h2]
  simp [tx]
theorem body_dot {ds : List Nat} {place low high : Int} {many : Nat} : 46 ∈ body ds place many low high := by
  unfold body; split
  · split <;> simp
  · simp
theorem body_len {ds : List Nat} {place low high : Int} {many : Nat} (hl : ds.length = many) (hm : many ≤ 30) (h1 : -500 ≤ place) (h2 : place ≤ 500) : (body ds place many low high).length ≤ 1200 := by
  unfold body; split
  · split
    · simp [zs]; omega
    · simp [zs]; omega
  · simp; omega
theorem rs_len (c : Nat) (l : List Nat) : (rs c l).length ≤ l.length := by
  rw [rs_eq_take, List.length_take]; omega
theorem struck_len (t : List Nat) : (struck t).length ≤ t.length + 1 := by
  have := rs_len 48 t
  unfold struck
  split <;> simp <;> omega
theorem shw_len {x : Int} (h1 : -500 ≤ x) (h2 : x ≤ 500) : (shw x).length ≤ 4 := by
  have := dec_len_le (n := x.natAbs) (k := 3) (by decide) (by omega)
  unfold shw
  simp; omega
theorem str_int_txt (x : Int) : Str.ofString (toString x) = tx (if x ≥ 0 then dec x.natAbs else 45 :: dec x.natAbs) := by
  by_cases h : x ≥ 0
  · rw [if_pos h]
    have e : x = ((x.natAbs : Nat) : Int) := by omega
    rw [e, str_nat, Int.natAbs_natCast]
  · rw [if_neg h]
    obtain ⟨m, e⟩ : ∃ m : Nat, x = -((m + 1 : Nat) : Int) := ⟨x.natAbs - 1, by omega⟩
    have e2 : x.natAbs = m + 1 := by omega
    rw [e2, e, str_neg]
theorem pre_len (b : Nat) : (pre b).length ≤ 2 := by
  unfold pre; split
  · decide
  · split
    · decide
    · split <;> decide
theorem law_text_c {S : Static thePr} {n : Nat} {ds : List Nat} {place low high : Int} {many b : Nat} {minus strk shown : Bool} {σ : List PV} {R : PV → List PV → Prop}
    (hl : ds.length = many) (hm : 1 ≤ many) (hm2 : many ≤ 30) (hp : -500 ≤ place) (hp2 : place ≤ 500) (hb : b = 10 ∨ b = 2 ∨ b = 8 ∨ b = 16)
    (hR : R (.str (tx (textP ds place many low high strk shown minus b))) σ) :
    CallTo S (n + 1) (.fn 53) [.str (tx ds), .int place, .bool minus, .int (many : Nat), .int (b : Nat), .int low, .int high, .bool strk, .bool shown] σ R := by
  refine call_fn rfl sok53 bind53_9 (by ktf_call Mini) ?_
  refine xs_cons ?_
  refine XT.mono (N := fun v q => q = σ ∧ ∃ c, decide (low < place ∧ place < high) = c ∧ v = [some (.str (tx ds)), some (.int place), some (.bool minus), some (.int (many : Nat)), some (.int (b : Nat)), some (.int low), some (.int high), some (.bool strk), some (.bool shown), some (.bool c), none, none, none, none, none]) (T := R) (B := fun _ _ => False) ?A ?B (fun _ _ h => h) (fun _ _ h => h)
  case A =>
    ktf_call M
    refine ⟨fun h => ?_, fun h => ?_⟩
    · ktf_call M
      refine ⟨rfl, _, ?_, rfl⟩
      have h := of_decide_eq_true h
      simp [h]
    · ktf_call M
      refine ⟨rfl, _, ?_, rfl⟩
      have h := of_decide_eq_false h
      simp [h]
  case B =>
    rintro v q ⟨rfl, c, hc, rfl⟩
    refine xs_cons ?_
    refine XT.mono (N := fun v q' => q' = q ∧ ∃ d, v = [some (.str d), some (.int place), some (.bool minus), some (.int (many : Nat)), some (.int (b : Nat)), some (.int low), some (.int high), some (.bool strk), some (.bool shown), some (.bool c), some (.str (tx (body ds place many low high))), none, none, none, none]) (T := R) (B := fun _ _ => False) ?A ?B (fun _ _ h => h) (fun _ _ h => h)
    case A =>
      cases c with
      | false =>
        have hc := of_decide_eq_false hc
        have hbd : body ds place many low high = ds.take 1 ++ ([46] ++ ds.drop 1) := by unfold body; rw [if_neg hc]
        ktf_call M
        refine sub_cut1 (by rw [tx_length]; omega) ?_
        rw [tx_take ds (by decide) (by omega)]
        ktf_call M
        refine bin_cat (by rw [tx_length, List.length_take]; omega) (by decide) ?_
        rw [dot_txt, tx_append]
        ktf_call M
        refine sub_cut1 (by rw [tx_length]; omega) ?_
        rw [tx_drop ds (by decide) (by omega)]
        refine bin_cat (by rw [tx_length]; simp; omega) (by rw [tx_length]; simp; omega) ?_
        rw [tx_append, List.append_assoc]
        ktf_call M
        rw [hbd]
        exact ⟨rfl, _, rfl⟩
      | true =>
        have hc := of_decide_eq_true hc
        ktf_call M
        refine ⟨fun h => ?_, fun h => ?_⟩
        · have hneg : place < 0 := of_decide_eq_true h
          have hbd : body ds place many low high = [48, 46] ++ (zs (-place - 1).toNat ++ ds) := by unfold body; rw [if_pos hc, if_pos hneg]
          ktf_call M
          refine bin_rep (by decide) (by omega) (by omega) ?_
          rw [mul_zero_txt, nought_dot]
          refine bin_cat (by rw [tx_length]; simp) (by rw [tx_length]; simp [zs]; omega) ?_
          rw [tx_append]
          ktf_call M
          refine bin_cat (by rw [tx_length]; simp [zs]; omega) (by rw [tx_length]; omega) ?_
          rw [tx_append, List.append_assoc]
          ktf_call M
          rw [hbd]
          exact ⟨rfl, _, rfl⟩
        · have hneg : ¬ place < 0 := of_decide_eq_false h
          have hbd : body ds place many low high = (ds ++ zs (place + 1 - many).toNat).take (place + 1).toNat ++ ([46] ++ (ds ++ zs (place + 1 - many).toNat).drop (place + 1).toNat) := by unfold body; rw [if_pos hc, if_neg hneg]
          ktf_call M
          rw [max0]
          refine bin_rep (by decide) (by omega) (by omega) ?_
          rw [mul_zero_txt]
          refine bin_cat (by rw [tx_length]; omega) (by rw [tx_length]; simp [zs]; omega) ?_
          rw [tx_append, Int.toNat_natCast]
          have hdl : (ds ++ zs (place + 1 - many).toNat).length = many + (place + 1 - many).toNat := by simp [zs, hl]
          generalize hdd : ds ++ zs (place + 1 - many).toNat = dd at *
          ktf_call M
          refine sub_cut1 (by rw [tx_length]; omega) ?_
          rw [tx_take dd (by omega) (by omega)]
          ktf_call M
          refine bin_cat (by rw [tx_length, List.length_take]; omega) (by decide) ?_
          rw [dot_txt, tx_append]
          ktf_call M
          refine sub_cut1 (by rw [tx_length]; omega) ?_
          rw [tx_drop dd (by omega) (by omega)]
          refine bin_cat (by rw [tx_length]; simp; omega) (by rw [tx_length]; simp; omega) ?_
          rw [tx_append, List.append_assoc]
          ktf_call M
          rw [hbd]
          exact ⟨rfl, _, rfl⟩
    case B =>
      rintro v q' ⟨rfl, d, rfl⟩
      have htl : (body ds place many low high).length ≤ 1200 := body_len hl (by omega) hp hp2
      have ht46 : 46 ∈ body ds place many low high := body_dot
      unfold textP at hR
      generalize body ds place many low high = t at *
      refine xs_cons ?_
      refine XT.mono (N := fun v q => q = q' ∧ v = [some (.str d), some (.int place), some (.bool minus), some (.int (many : Nat)), some (.int (b : Nat)), some (.int low), some (.int high), some (.bool strk), some (.bool shown), some (.bool c), some (.str (tx (if strk then struck t else t))), none, none, none, none]) (T := R) (B := fun _ _ => False) ?A ?B (fun _ _ h => h) (fun _ _ h => h)
      case A =>
        cases strk with
        | false =>
          ktf_call M
          exact ⟨rfl, rfl⟩
        | true =>
          ktf_call M
          refine xt_while (fun k v q => q = q' ∧ ∃ l, l.length = k ∧ rs 48 l = rs 48 t ∧ 46 ∈ l ∧ l.length ≤ 1200 ∧ v = [some (.str d), some (.int place), some (.bool minus), some (.int (many : Nat)), some (.int (b : Nat)), some (.int low), some (.int high), some (.bool true), some (.bool shown), some (.bool c), some (.str (tx l)), none, none, none, none]) t.length ⟨rfl, t, rfl, rfl, ht46, htl, rfl⟩ ?_
          rintro k v q ⟨rfl, l, rfl, hrs, h46, hll, rfl⟩
          obtain ⟨l', z, rfl⟩ : ∃ l' z, l = l' ++ [z] := by
            rcases List.eq_nil_or_concat l with e | ⟨l', z, e⟩
            · subst e; simp at h46
            · exact ⟨l', z, by simpa using e⟩
          ktf_call M
          refine sub_str (by decide) (by decide) (last_at l' z) ?_
          ktf_call M
          refine ⟨fun h => ?_, fun h => ?_⟩
          · have hz : z = 48 := by rw [zero_txt, one_eq] at h; exact of_decide_eq_true h
            subst hz
            ktf_call M
            refine sub_cut1 (by rw [tx_length]; omega) ?_
            rw [tx_dropLast _ (by simp), List.dropLast_concat]
            ktf_call M
            refine ⟨l'.length, by simp, rfl, l', rfl, ?_, ?_, by simp at hll; omega, rfl⟩
            · rw [← hrs, rs_snoc, if_pos rfl]
            · simpa using h46
          · have hz : z ≠ 48 := by rw [zero_txt, one_eq] at h; exact of_decide_eq_false h
            ktf_call M
            refine sub_str (by decide) (by decide) (last_at l' z) ?_
            ktf_call M
            rw [rs_snoc, if_neg hz] at hrs
            refine ⟨fun h => ?_, fun h => ?_⟩
            · have hz : z = 46 := by rw [dot_txt, one_eq] at h; exact of_decide_eq_true h
              ktf_call M
              refine bin_cat (by rw [tx_length]; omega) (by decide) ?_
              rw [zero_txt, tx_append]
              ktf_call M
              refine ⟨rfl, ?_⟩
              have : struck t = l' ++ [z] ++ [48] := by
                unfold struck
                rw [← hrs, List.getLast?_concat, hz, if_pos rfl]
              rw [← this]; rfl
            · have hz : z ≠ 46 := by rw [dot_txt, one_eq] at h; exact of_decide_eq_false h
              ktf_call M
              refine ⟨rfl, ?_⟩
              have : struck t = l' ++ [z] := by
                unfold struck
                rw [← hrs, List.getLast?_concat, if_neg (by simpa using hz)]
              rw [← this]; rfl
      case B =>
        rintro v q ⟨rfl, rfl⟩
        generalize htt : (if strk = true then struck t else t) = tt at *
        have httl : tt.length ≤ 1300 := by
          rw [← htt]
          split
          · have := struck_len t; omega
          · omega
        refine xs_cons ?_
        refine XT.mono (N := fun v q' => q' = q ∧ v = [some (.str d), some (.int place), some (.bool minus), some (.int (many : Nat)), some (.int (b : Nat)), some (.int low), some (.int high), some (.bool strk), some (.bool shown), some (.bool c), some (.str (tx tt)), some (.int (shownP place low high)), none, none, none]) (T := R) (B := fun _ _ => False) ?A ?B (fun _ _ h => h) (fun _ _ h => h)
        case A =>
          unfold shownP
          cases c with
          | true => have hc := of_decide_eq_true hc; rw [if_pos hc]; ktf_call M; exact ⟨rfl, rfl⟩
          | false => have hc := of_decide_eq_false hc; rw [if_neg hc]; ktf_call M; exact ⟨rfl, rfl⟩
        case B =>
          rintro v q' ⟨rfl, rfl⟩
          have hs1 : -500 ≤ shownP place low high ∧ shownP place low high ≤ 500 := by unfold shownP; split <;> omega
          generalize shownP place low high = sh at *
          have hsl := shw_len hs1.1 hs1.2
          refine xs_cons ?_
          refine XT.mono (N := fun v q => q = q' ∧ v = [some (.str d), some (.int place), some (.bool minus), some (.int (many : Nat)), some (.int (b : Nat)), some (.int low), some (.int high), some (.bool strk), some (.bool shown), some (.bool c), some (.str (tx tt)), some (.int sh), some (.str (tx ((if b > 10 then [64] else [101]) ++ shw sh))), none, none]) (T := R) (B := fun _ _ => False) ?A ?B (fun _ _ h => h) (fun _ _ h => h)
          case A =>
            have hst := str_int_txt sh
            have hsn : sh.natAbs < 2 ^ 1900 := Nat.lt_of_lt_of_le (m := 2 ^ 10) (by omega) (Nat.pow_le_pow_right (by decide) (by decide))
            have hat : Str.ofString "@" = tx [64] := by decide +kernel
            have hee : Str.ofString "e" = tx [101] := by decide +kernel
            have hpl : Str.ofString "+" = tx [43] := by decide +kernel
            have hem : Str.ofString "" = tx [] := by decide +kernel
            have hdl := dec_len_le (n := sh.natAbs) (k := 3) (by decide) (by omega)
            by_cases hsh : sh ≥ 0
            · have e2 : shw sh = 43 :: dec sh.natAbs := by unfold shw; rw [if_pos hsh]
              rw [if_pos hsh] at hst
              rcases hb with rfl | rfl | rfl | rfl
              all_goals ktf_call M
              all_goals refine iftt (decide_eq_true hsh) ?_
              all_goals ktf_call M
              all_goals refine bin_cat (by decide) (by decide) ?_
              all_goals simp only [hat, hee, hpl, tx_append]
              all_goals ktf_call M
              all_goals refine ct_str_int hsn ?_
              all_goals rw [hst]
              all_goals refine bin_cat (by rw [tx_length]; decide) (by rw [tx_length]; omega) ?_
              all_goals simp only [tx_append]
              all_goals ktf_call M
              all_goals rw [e2]
              all_goals exact ⟨trivial, rfl⟩
            · have e2 : shw sh = 45 :: dec sh.natAbs := by unfold shw; rw [if_neg hsh]
              rw [if_neg hsh] at hst
              rcases hb with rfl | rfl | rfl | rfl
              all_goals ktf_call M
              all_goals refine ifff (decide_eq_false hsh) ?_
              all_goals ktf_call M
              all_goals refine bin_cat (by decide) (by decide) ?_
              all_goals simp only [hat, hee, hem, tx_append]
              all_goals ktf_call M
              all_goals refine ct_str_int hsn ?_
              all_goals rw [hst]
              all_goals refine bin_cat (by rw [tx_length]; decide) (by rw [tx_length, List.length_cons]; omega) ?_
              all_goals simp only [tx_append]
              all_goals ktf_call M
              all_goals rw [e2]
              all_goals exact ⟨trivial, rfl⟩
          case B =>
            rintro v q ⟨rfl, rfl⟩
            have hpre := pre_len b
            refine xs_cons ?_
            refine XT.mono (N := fun v q' => q' = q ∧ ∃ v5 v6, v = [some (.str d), some (.int place), some (.bool minus), some (.int (many : Nat)), some (.int (b : Nat)), some (.int low), some (.int high), some (.bool strk), some (.bool shown), some (.bool c), some (.str (tx ((if minus then [45] else []) ++ pre b ++ tt))), some (.int sh), some (.str (tx ((if b > 10 then [64] else [101]) ++ shw sh))), v5, v6]) (T := R) (B := fun _ _ => False) ?A ?B (fun _ _ h => h) (fun _ _ h => h)
            case A =>
              have hmi : Str.ofString "-" = tx [45] := by decide +kernel
              have hem : Str.ofString "" = tx [] := by decide +kernel
              have h2 : Str.ofString "0b" = tx (pre 2) := by decide +kernel
              have h8 : Str.ofString "0o" = tx (pre 8) := by decide +kernel
              have h16 : Str.ofString "0x" = tx (pre 16) := by decide +kernel
              rcases hb with rfl | rfl | rfl | rfl <;> cases minus
              all_goals ktf_call M
              all_goals refine ⟨_, _, rfl, rfl, ?_⟩
              all_goals refine bin_cat (by decide) (by decide) ?_
              all_goals simp only [hmi, hem, h2, h8, h16, tx_append]
              all_goals ktf_call M
              all_goals refine bin_cat (by rw [tx_length]; decide) (by rw [tx_length]; omega) ?_
              all_goals simp only [tx_append]
              all_goals ktf_call M
              all_goals exact ⟨trivial, _, _, rfl⟩
            case B =>
              rintro v q' ⟨rfl, v5, v6, rfl⟩
              have hR2 : R (.str (tx ((if minus then [45] else []) ++ pre b ++ tt ++ tailP b sh shown))) q' := hR
              have hlen : ((if minus then [45] else []) ++ pre b ++ tt).length ≤ 1400 := by
                have : (if minus then [45] else []).length ≤ 1 := by cases minus <;> simp
                simp only [List.length_append]; omega
              have htl2 : ((if b > 10 then [64] else [101]) ++ shw sh).length ≤ 10 := by
                have : (if b > 10 then [64] else [101]).length = 1 := by split <;> rfl
                simp only [List.length_append]; omega
              generalize (if minus then [45] else []) ++ pre b ++ tt = ft at *
              unfold tailP at hR2
              by_cases hz : sh = 0
              · subst hz
                cases shown with
                | true =>
                  rw [if_pos (.inr rfl)] at hR2
                  ktf_call M
                  refine bin_cat (by rw [tx_length]; omega) (by rw [tx_length]; omega) ?_
                  rw [tx_append]
                  exact hR2
                | false =>
                  rw [if_neg (by simp), List.append_nil] at hR2
                  ktf_call M
                  exact hR2
              · rw [if_pos (.inl hz)] at hR2
                ktf_call M
                refine iftf (by simpa using hz) ?_
                ktf_call M
                refine bin_cat (by rw [tx_length]; omega) (by rw [tx_length]; omega) ?_
                rw [tx_append]
                exact hR2
theorem std_at (d : Nat) (h : d < 16) : (seqIndex? ((d : Nat) : Int) (Str.ofString "0123456789abcdefghijklmnopqrstuvwxyz").length).bind ((Str.ofString "0123456789abcdefghijklmnopqrstuvwxyz").cps[·]?) = some (dc d) := by
  have : ∀ d : Fin 16, (seqIndex? (((d : Nat) : Nat) : Int) (Str.ofString "0123456789abcdefghijklmnopqrstuvwxyz").length).bind ((Str.ofString "0123456789abcdefghijklmnopqrstuvwxyz").cps[·]?) = some (dc d) := by decide +kernel
  exact this ⟨d, h⟩
theorem join_ones_txt : ∀ l : List Nat, Txt.join (Str.ofString "") (l.map fun c => tx [c]) = tx l := by
  intro l
  have he : Str.ofString "" = Str.empty := by decide +kernel
  show Builtin.Str.glued _ _ = _
  rw [StrLaws.glued_eq_join, he]
  induction l with
  | nil => rfl
  | cons c l ih =>
    cases l with
    | nil => rfl
    | cons d l =>
      show tx [c] ++ Str.empty ++ Str.join Str.empty ((d :: l).map fun c => tx [c]) = _
      rw [ih, Str.append_empty, tx_append]
      rfl
theorem small_numeral_c {S : Static thePr} {n : Nat} {N k b : Nat} {σ : List PV} {R : PV → List PV → Prop} (hb : b = 10 ∨ b = 2 ∨ b = 8 ∨ b = 16) (h1 : b ^ k ≤ N) (h2 : N < b ^ (k + 1)) (hk : k ≤ 400)
    (hR : R (.str (tx (dgs b (k + 1) N))) σ) :
    CallTo S (n + 1) (.fn 7) [.int (N : Nat), .int (b : Nat), .str (Str.ofString "0123456789abcdefghijklmnopqrstuvwxyz")] σ R := by
  have hb2 : 2 ≤ b := by omega
  have hb16 : b ≤ 16 := by omega
  have hNf : N < 2 ^ 1900 := Nat.lt_of_lt_of_le h2 (Nat.le_trans (pow16 hb16) (Nat.pow_le_pow_right (by decide) (by omega)))
  have hN0 : 0 < N := Nat.lt_of_lt_of_le (Nat.pow_pos (by omega)) h1
  refine call_fn rfl sok7 bind7_3 (by ktf_call Mini) ?_
  refine xs_cons ?_
  ktf_call M
  refine ⟨fun h => ?_, fun h => ?_⟩
  · have hb10 : b = 10 := by have := eq_of_beq h; omega
    subst hb10
    ktf_call M
    refine ct_str_int ?_ ?_
    · rw [Int.natAbs_natCast]
      refine hNf
    · rw [str_nat, dec_eq k N h2 (.inr h1)]
      exact hR
  · refine xs_nil ?_
    refine xs_newlist ?_ ?_
    · intro p hp; simp at hp; rcases hp with rfl | rfl | rfl <;> rfl
    ktf_call Mupd
    refine xs_cons ?_
    refine xt_while (fun m v q => ∃ j, N / b ^ j = m ∧ (j = 0 ∨ b ^ (j - 1) ≤ N) ∧ q = (dgs b j N).reverse.map (fun c => PV.str (tx [c])) ∧ ∃ v4 v5 v6, v = [some (.int ((N / b ^ j : Nat) : Int)), some (.int (b : Nat)), some (.str (Str.ofString "0123456789abcdefghijklmnopqrstuvwxyz")), some .mref, v4, v5, v6]) N ⟨0, by simp, .inl rfl, rfl, none, none, none, by simp⟩ ?_
    rintro m v q ⟨j, rfl, hj, rfl, v4, v5, v6, rfl⟩
    have hjk : j ≤ k + 1 := by
      rcases hj with rfl | hj
      · omega
      · have := Nat.lt_of_le_of_lt hj h2
        rw [Nat.pow_lt_pow_iff_right (by omega)] at this
        omega
    ktf_call M
    refine ⟨fun h => ?_, fun h => ?_⟩
    · have hpos : 0 < N / b ^ j := by
        cases hq : N / b ^ j with
        | zero => rw [hq] at h; exact absurd h (by decide)
        | succ _ => omega
      ktf_call M
      refine ct_divmod (by omega) (Fit.of_lt (m := 5) (by simp; omega) (by decide)) ?_
      rw [fdiv_nat, fmod_nat]
      ktf_call M
      refine xt_expr ?_
      ktf_call M
      refine ⟨rfl, ?_⟩
      ktf_call M
      have hd : N / b ^ j % b < 16 := Nat.lt_of_lt_of_le (Nat.mod_lt _ (by omega)) hb16
      refine sub_str (by omega) (by omega) (std_at _ hd) ?_
      refine ⟨by simp [dgs_len]; omega, ?_⟩
      ktf_call M
      have e1 : N / b ^ j / b = N / b ^ (j + 1) := by rw [Nat.div_div_eq_div_mul, Nat.pow_succ]
      rw [e1]
      refine ⟨N / b ^ (j + 1), ?_, j + 1, rfl, .inr ?_, ?_, _, _, _, rfl⟩
      · rw [← e1]; exact Nat.div_lt_self hpos (by omega)
      · rw [Nat.add_sub_cancel]
        exact (Nat.div_pos_iff.mp hpos).2
      · show _ = ((dc (N / b ^ j % b) :: dgs b j N).reverse).map _
        rw [List.reverse_cons, List.map_append]
        rfl
    · have hz : N / b ^ j = 0 := by
        cases hq : N / b ^ j with
        | zero => rfl
        | succ _ => rw [hq] at h; simp at h; omega
      have hlt : N < b ^ j := by
        rw [Nat.div_eq_zero_iff] at hz
        rcases hz with hz | hz
        · have := Nat.pow_pos (n := j) (show 0 < b by omega); omega
        · exact hz
      have hjk2 : j = k + 1 := by
        have := Nat.lt_of_le_of_lt h1 hlt
        rw [Nat.pow_lt_pow_iff_right (by omega)] at this
        omega
      subst hjk2
      have hll : ((dgs b (k + 1) N).reverse.map (fun c => PV.str (tx [c]))).length < 1000 := by simp [dgs_len]; omega
      ktf_call M
      refine ⟨rfl, hll, ?_⟩
      ktf_call M
      have e2 : ((dgs b (k + 1) N).reverse.map (fun c => PV.str (tx [c]))).reverse = ((dgs b (k + 1) N).map (fun c => tx [c])).map PV.str := by
        rw [List.map_reverse, List.reverse_reverse, List.map_map]; rfl
      rw [e2]
      refine ct_join (by decide) ?_ ?_ ?_
      · intro y hy
        rw [List.mem_map] at hy
        obtain ⟨c, _, rfl⟩ := hy
        rw [tx_length]; simp
      · rw [List.length_map, dgs_len]; omega
      · rw [join_ones_txt]
        exact ⟨rfl, hR⟩
theorem numeral_c {S : Static thePr} {n : Nat} {N k b d : Nat} {σ : List PV} {R : PV → List PV → Prop} (hb : b = 10 ∨ b = 2 ∨ b = 8 ∨ b = 16) (h1 : b ^ k ≤ N) (h2 : N < b ^ (k + 1)) (hk : k ≤ 400) (hd : d < 250)
    (hR : R (.str (tx (dgs b (k + 1) N))) σ) :
    CallKw S (n + 2) (.fn 8) [.int (N : Nat)] [Str.ofString "base", Str.ofString "size"] [.int (b : Nat), .int (d : Nat)] σ R := by
  have hN0 : 0 < N := Nat.lt_of_lt_of_le (Nat.pow_pos (by omega)) h1
  refine call_fn_kw (d := 2) rfl sok8 (by decide) bind8_kw (by ktf_call Mini) ?_
  refine xs_cons ?_
  ktf_call M
  refine ifff (by simp; omega) ?_
  ktf_call M
  refine iftt (by simp; omega) ?_
  ktf_call M
  exact small_numeral_c hb h1 h2 hk hR
def lg (b : Nat) : Nat := if b = 10 then 33219280948873626 else if b = 2 then 1 else if b = 8 then 3 else 4
def un (b : Nat) : Nat := if b = 10 then 10 ^ 16 else 1
def bitp (b D : Nat) : Nat := D * lg b / un b + 10
def fixp (b D : Nat) (x : Int) : Nat := ((bitp b D : Int) - x).toNat
def fixdps (b fp : Nat) : Nat := (2 * fp * un b + lg b) / (2 * lg b)
def sbN (b D M : Nat) (E : Int) : Nat := fixd M E (fixp b D (E + bl M)) * b ^ fixdps b (fixp b D (E + bl M)) / 2 ^ fixp b D (E + bl M)
theorem to_digits_c {S : Static thePr} {n : Nat} {M b D k : Nat} {s E : Int} {σ : List PV} {R : PV → List PV → Prop} (hb : b = 10 ∨ b = 2 ∨ b = 8 ∨ b = 16) (hs : s = 0 ∨ s = 1) (hM : 0 < M) (hbl : bl M ≤ 60) (hD : D ≤ 40) (hE : -400 ≤ E) (hE2 : E ≤ 400)
    (h1 : b ^ k ≤ sbN b D M E) (h2 : sbN b D M E < b ^ (k + 1)) (hk : k ≤ 400)
    (hR : R (.tup [.str (if s = 1 then Str.ofString "-" else Str.ofString ""), .str (tx (dgs b (k + 1) (sbN b D M E))), .int ((k : Nat) - (fixdps b (fixp b D (E + bl M)) : Nat))]) σ) :
    CallTo S (n + 3) (.fn 39) [.tup [.int s, .int (M : Nat), .int E, .int (bl M : Nat)], .int (D : Nat), .int (b : Nat)] σ R := by
  refine call_fn rfl sok39 bind39_3 (by ktf_call Mini) ?_
  refine xs_cons ?_
  refine XT.mono (N := fun v q => q = σ ∧ v = [some (.tup [.int 0, .int (M : Nat), .int E, .int (bl M : Nat)]), some (.int (D : Nat)), some (.int (b : Nat)), some (.str (if s = 1 then Str.ofString "-" else Str.ofString "")), none, none, none, none, none, none, none, none, none, none, none, none, none, none, none, none, none, none, none, none, none, none, none, none, none]) (T := R) (B := fun _ _ => False) ?A ?B (fun _ _ h => h) (fun _ _ h => h)
  case A =>
    rcases hs with rfl | rfl
    · ktf_call M
      refine sub_tup (by decide) (by decide) rfl rfl ?_
      refine ⟨_, tru_int, ?_⟩
      ktf_call M
      exact ⟨rfl, rfl⟩
    · ktf_call M
      refine sub_tup (by decide) (by decide) rfl rfl ?_
      refine ⟨_, tru_int, ?_⟩
      ktf_call M
      refine mpf_neg_c hM ?_
      ktf_call M
      exact ⟨rfl, rfl⟩
  case B =>
    rintro v q ⟨rfl, rfl⟩
    ktf_call M
    refine ifff (by simp; omega) ?_
    refine xs_nil ?_
    refine xs_cons ?_
    refine XT.mono (N := fun v q' => q' = q ∧ v = [some (.tup [.int 0, .int (M : Nat), .int E, .int (bl M : Nat)]), some (.int (D : Nat)), some (.int (b : Nat)), some (.str (if s = 1 then Str.ofString "-" else Str.ofString "")), some (.int 0), some (.int (M : Nat)), some (.int E), some (.int (bl M : Nat)), some (.int (lg b : Nat)), some (.int (un b : Nat)), none, none, none, none, none, none, none, none, none, none, none, none, none, none, none, none, none, none, none]) (T := R) (B := fun _ _ => False) ?A ?B (fun _ _ h => h) (fun _ _ h => h)
    case A =>
      rcases hb with rfl | rfl | rfl | rfl
      · ktf_call M
        refine bin_pow (by decide) (by decide) (by decide) ?_
        ktf_call M
        refine ⟨?_, Nat.le_of_ble_eq_true rfl⟩
        ktf_call M
        refine ⟨rfl, ?_⟩
        have e1 : (10 : Int) ^ (16 : Int).toNat = ((un 10 : Nat) : Int) := by decide
        rw [e1]; rfl
      · ktf_call M
        refine ev_walrus ?_
        ktf_call M
        rw [show (Builtin.Int.intBits ((2 : Nat) : Int) : Int) - 1 = ((lg 2 : Nat) : Int) from by decide +kernel]
        refine ct_pow (by decide) (by decide) (by decide) ?_
        ktf_call M
        exact ⟨rfl, rfl⟩
      · ktf_call M
        refine ev_walrus ?_
        ktf_call M
        rw [show (Builtin.Int.intBits ((8 : Nat) : Int) : Int) - 1 = ((lg 8 : Nat) : Int) from by decide +kernel]
        refine ct_pow (by decide) (by decide) (by decide) ?_
        ktf_call M
        exact ⟨rfl, rfl⟩
      · ktf_call M
        refine ev_walrus ?_
        ktf_call M
        rw [show (Builtin.Int.intBits ((16 : Nat) : Int) : Int) - 1 = ((lg 16 : Nat) : Int) from by decide +kernel]
        refine ct_pow (by decide) (by decide) (by decide) ?_
        ktf_call M
        exact ⟨rfl, rfl⟩
    case B =>
      rintro v q' ⟨rfl, rfl⟩
      have hlg : 0 < lg b := by rcases hb with rfl | rfl | rfl | rfl <;> decide
      have hlg2 : lg b < 2 ^ 60 := by rcases hb with rfl | rfl | rfl | rfl <;> decide
      have hun : 0 < un b := by rcases hb with rfl | rfl | rfl | rfl <;> decide
      have hun2 : un b < 2 ^ 60 := by rcases hb with rfl | rfl | rfl | rfl <;> decide
      have hbt : bitp b D ≤ 200 := by
        unfold bitp
        rcases hb with rfl | rfl | rfl | rfl
        · show D * 33219280948873626 / 10 ^ 16 + 10 ≤ 200
          omega
        · show D * 1 / 1 + 10 ≤ 200
          omega
        · show D * 3 / 1 + 10 ≤ 200
          omega
        · show D * 4 / 1 + 10 ≤ 200
          omega
      have hfp : fixp b D (E + bl M) ≤ 700 := by unfold fixp; omega
      have hfd : fixdps b (fixp b D (E + bl M)) ≤ 800 := by
        unfold fixdps
        rcases hb with rfl | rfl | rfl | rfl
        · show (2 * _ * 10 ^ 16 + 33219280948873626) / (2 * 33219280948873626) ≤ 800
          omega
        · show (2 * _ * 1 + 1) / (2 * 1) ≤ 800
          omega
        · show (2 * _ * 1 + 3) / (2 * 3) ≤ 800
          omega
        · show (2 * _ * 1 + 4) / (2 * 4) ≤ 800
          omega
      ktf_call Ms
      refine bin_mul (fit_nat (m := 10) (by omega) (by decide)) (fit_nat hlg2 (by decide)) ?_
      ktf_call Me
      refine bin_floordiv (by omega) (fit_nat hun2 (by decide)) ?_
      rw [← Int.natCast_mul, fdiv_nat]
      ktf_call Me
      rw [show ((D * lg b / un b : Nat) : Int) + 10 = ((bitp b D : Nat) : Int) from rfl]
      ktf_call Ms
      refine xs_cons ?_
      refine XT.mono (N := fun v q'' => q'' = q' ∧ v = [some (.tup [.int 0, .int (M : Nat), .int E, .int (bl M : Nat)]), some (.int (D : Nat)), some (.int (b : Nat)), some (.str (if s = 1 then Str.ofString "-" else Str.ofString "")), some (.int 0), some (.int (M : Nat)), some (.int E), some (.int (bl M : Nat)), some (.int (lg b : Nat)), some (.int (un b : Nat)), some (.int (bitp b D : Nat)), some (.int (E + (bl M : Nat))), some (.int 0), none, none, none, none, none, none, none, none, none, none, none, none, none, none, none, none]) (T := R) (B := fun _ _ => False) ?A ?B (fun _ _ h => h) (fun _ _ h => h)
      case A =>
        have hab : (if E + (bl M : Nat) < 0 then -(E + (bl M : Nat)) else E + (bl M : Nat)) ≤ 3500 := by split <;> omega
        rcases hb with rfl | rfl | rfl | rfl
        · ktf_call M
          refine ifff (decide_eq_false (by omega)) ?_
          ktf_call M
          exact ⟨rfl, rfl⟩
        · ktf_call M
          exact ⟨rfl, rfl⟩
        · ktf_call M
          exact ⟨rfl, rfl⟩
        · ktf_call M
          exact ⟨rfl, rfl⟩
      case B =>
        rintro v q'' ⟨rfl, rfl⟩
        have efp : (if (0 : Int) > ((bitp b D : Nat) : Int) - E - (bl M : Nat) then 0 else ((bitp b D : Nat) : Int) - E - (bl M : Nat)) = ((fixp b D (E + bl M) : Nat) : Int) := by unfold fixp; split <;> omega
        ktf_call Ms
        rw [efp]
        have hsb : sbN b D M E = fixd M E (fixp b D (E + bl M)) * b ^ fixdps b (fixp b D (E + bl M)) / 2 ^ fixp b D (E + bl M) := rfl
        have hfE : E + ((fixp b D (E + bl M) : Nat) : Int) ≤ 1000 := by omega
        have hfdx : bl (fixd M E (fixp b D (E + bl M))) < 2000 := by
          unfold fixd
          split
          · rw [bl_mul_pow hM]; omega
          · have := bl_le_of_lt (n := M / 2 ^ (-(E + ((fixp b D (E + bl M) : Nat) : Int))).toNat) (k := 60) (Nat.lt_of_le_of_lt (Nat.div_le_self _ _) (Nat.lt_of_lt_of_le (bl_lt M) (Nat.pow_le_pow_right (by decide) hbl)))
            omega
        generalize sbN b D M E = sb at *
        generalize hfpg : fixp b D (E + bl M) = fp at *
        ktf_call Ms
        refine bin_mul (Fit.of_lt (m := 3) (by decide) (by decide)) (fit_nat (m := 20) (by omega) (by decide)) ?_
        ktf_call Me
        refine bin_mul (Fit.of_lt (m := 30) (by omega) (by decide)) (fit_nat hun2 (by decide)) ?_
        ktf_call Me
        refine bin_mul (Fit.of_lt (m := 3) (by decide) (by decide)) (fit_nat hlg2 (by decide)) ?_
        refine bin_floordiv (by omega) (Fit.of_lt (m := 70) (by omega) (by decide)) ?_
        have efd : (2 * ((fp : Nat) : Int) * (un b : Nat) + (lg b : Nat)).fdiv (2 * ((lg b : Nat) : Int)) = ((fixdps b fp : Nat) : Int) := by
          have e1 : 2 * ((fp : Nat) : Int) * (un b : Nat) + (lg b : Nat) = ((2 * fp * un b + lg b : Nat) : Int) := by simp
          have e2 : 2 * ((lg b : Nat) : Int) = ((2 * lg b : Nat) : Int) := by simp
          rw [e1, e2, fdiv_nat]; rfl
        rw [efd]
        generalize hfdg : fixdps b fp = fd at *
        ktf_call Me
        ktf_call Ms
        refine to_fixed_c (n := n + 1) (by omega) (by omega) ?_
        ktf_call Me
        ktf_call Ms
        refine bin_to_radix_c (n := n + 1) hfdx (by rcases hb with rfl | rfl | rfl | rfl <;> decide) (by omega) ?_
        rw [← hsb]
        ktf_call Me
        ktf_call Ms
        refine ⟨rfl, ?_⟩
        ktf_call Me
        refine numeral_c (n := n) hb h1 h2 hk (by omega) ?_
        ktf_call Me
        refine xs_cons ?_
        ktf_call M
        refine ct_len_str (by rw [tx_length, dgs_len]; omega) ?_
        rw [tx_length, dgs_len]
        ktf_call M
        refine ⟨?_, Nat.le_of_ble_eq_true rfl⟩
        have e3 : (0 : Int) + (((k + 1 : Nat) : Int) - ((fd : Nat) : Int) - 1) = ((k : Nat) : Int) - ((fd : Nat) : Int) := by omega
        rw [e3]
        exact hR
def stdd : Str := Str.ofString "0123456789abcdefghijklmnopqrstuvwxyz"
/-- the digits from h on -/
def rdg (b h : Nat) : List Nat := (List.range (b - h)).map fun i => dc (h + i)
theorem dgs_take {b d L : Nat} (h : d < L) (N : Nat) : (dgs b L N).take d = dgs b d (N / b ^ (L - d)) := by
  have e : dgs b L N = dgs b d (N / b ^ (L - d)) ++ dgs b (L - d) N := by
    rw [← dgs_add]; congr 1; omega
  rw [e]
  have := dgs_len b d (N / b ^ (L - d))
  rw [List.take_append_of_le_length (by omega), List.take_of_length_le (by omega)]
theorem slice_half {b : Nat} (hb : b = 10 ∨ b = 2 ∨ b = 8 ∨ b = 16) : Txt.slice (Str.ofString "0123456789abcdefghijklmnopqrstuvwxyz") (some (((b : Nat) : Int).fdiv 2 + ((b : Nat) : Int).fmod 2)) (some ((b : Nat) : Int)) = tx (rdg b (b / 2)) := by
  rcases hb with rfl | rfl | rfl | rfl <;> decide +kernel
theorem slice_one {b : Nat} (hb : b = 10 ∨ b = 2 ∨ b = 8 ∨ b = 16) : Txt.slice (Str.ofString "0123456789abcdefghijklmnopqrstuvwxyz") (some 1) (some ((b : Nat) : Int)) = tx (rdg b 1) := by
  rcases hb with rfl | rfl | rfl | rfl <;> decide +kernel
theorem tx_at {l : List Nat} {i c : Nat} (h : l[i]? = some c) : (seqIndex? ((i : Nat) : Int) (tx l).length).bind ((tx l).cps[·]?) = some c := by
  have hi : i < l.length := by
    rcases Nat.lt_or_ge i l.length with h1 | h1
    · exact h1
    · rw [List.getElem?_eq_none h1] at h; cases h
  rw [tx_length]
  unfold seqIndex?
  have h1 : ¬ ((i : Nat) : Int) < 0 := by omega
  simp only [h1, if_false]
  have h2 : (decide ((0 : Int) ≤ (i : Nat)) && decide (((i : Nat) : Int) < (l.length : Nat))) = true := by simp; omega
  rw [if_pos h2]
  simp [tx, h]
theorem rdg_zero {b : Nat} (hb : b = 10 ∨ b = 2 ∨ b = 8 ∨ b = 16) : (seqIndex? 0 (tx (rdg b (b / 2))).length).bind ((tx (rdg b (b / 2))).cps[·]?) = some (dc (b / 2)) := by
  rcases hb with rfl | rfl | rfl | rfl <;> decide +kernel
theorem dgs_all_zero {b : Nat} : ∀ {k N : Nat}, (∀ i, i < k → N / b ^ i % b = 0) → dgs b k N = List.replicate k 48
  | 0, _, _ => rfl
  | k + 1, N, h => by
    show dc (N / b ^ k % b) :: dgs b k N = _
    rw [h k (by omega), dgs_all_zero fun i hi => h i (by omega)]; rfl
theorem dc_eq {a b : Nat} (h : ((⟨#[dc a]⟩ : Str) == ⟨#[dc b]⟩) = true) : a = b := by
  have h : ((⟨#[dc a]⟩ : Str) == tx [dc b]) = true := h
  rw [one_eq] at h
  have := congrArg dv (of_decide_eq_true h)
  rwa [dv_dc, dv_dc] at this
theorem dc_ne {a b : Nat} (h : ((⟨#[dc a]⟩ : Str) == ⟨#[dc b]⟩) = false) : a ≠ b := by
  rintro rfl; simp at h
def odds (b : Nat) : List Nat := (List.range (b / 2)).map fun i => dc (2 * i + 1)
theorem slice_odd {b : Nat} (hb : b = 10 ∨ b = 2 ∨ b = 8 ∨ b = 16) : (if ((some (2 : Int)).getD 1 == 1 && (Builtin.Str.strSliceIndices (some 1) (some ((b : Nat) : Int)) ((some (2 : Int)).getD 1) (Str.ofString "0123456789abcdefghijklmnopqrstuvwxyz").length).length == (Str.ofString "0123456789abcdefghijklmnopqrstuvwxyz").length) = true then Str.ofString "0123456789abcdefghijklmnopqrstuvwxyz" else sliceBy (Str.ofString "0123456789abcdefghijklmnopqrstuvwxyz") (some 1) (some ((b : Nat) : Int)) ((some (2 : Int)).getD 1)) = tx (odds b) := by
  rcases hb with rfl | rfl | rfl | rfl <;> decide +kernel
theorem slice_odd_len {b : Nat} (hb : b = 10 ∨ b = 2 ∨ b = 8 ∨ b = 16) : (Builtin.Str.strSliceIndices (some 1) (some ((b : Nat) : Int)) ((some (2 : Int)).getD 1) (Str.ofString "0123456789abcdefghijklmnopqrstuvwxyz").length).length ≤ (Str.ofString "0123456789abcdefghijklmnopqrstuvwxyz").length := by
  rcases hb with rfl | rfl | rfl | rfl <;> decide +kernel
theorem odd_mem {b q : Nat} (hb : b = 10 ∨ b = 2 ∨ b = 8 ∨ b = 16) (hq : q < b) : decide (dc q ∈ (tx (odds b)).cps.toList) = decide (q % 2 = 1) := by
  have h10 : ∀ q : Fin 10, decide (dc q.val ∈ (tx (odds 10)).cps.toList) = decide (q.val % 2 = 1) := by decide +kernel
  have h2 : ∀ q : Fin 2, decide (dc q.val ∈ (tx (odds 2)).cps.toList) = decide (q.val % 2 = 1) := by decide +kernel
  have h8 : ∀ q : Fin 8, decide (dc q.val ∈ (tx (odds 8)).cps.toList) = decide (q.val % 2 = 1) := by decide +kernel
  have h16 : ∀ q : Fin 16, decide (dc q.val ∈ (tx (odds 16)).cps.toList) = decide (q.val % 2 = 1) := by decide +kernel
  rcases hb with rfl | rfl | rfl | rfl
  · exact h10 ⟨q, hq⟩
  · exact h2 ⟨q, hq⟩
  · exact h8 ⟨q, hq⟩
  · exact h16 ⟨q, hq⟩
theorem rdg_mem {b h t : Nat} (hb : b = 10 ∨ b = 2 ∨ b = 8 ∨ b = 16) (ht : t < b) (h1 : 1 ≤ h) : decide (dc t ∈ (tx (rdg b h)).cps.toList) = decide (h ≤ t) := by
  rw [Bool.eq_iff_iff, decide_eq_true_eq, decide_eq_true_eq]
  show dc t ∈ (rdg b h).toArray.toList ↔ _
  rw [List.toList_toArray]
  unfold rdg
  rw [List.mem_map]
  constructor
  · rintro ⟨i, hi, e⟩
    have := congrArg dv e
    rw [dv_dc, dv_dc] at this
    omega
  · intro hh
    exact ⟨t - h, List.mem_range.mpr (by omega), by congr 1; omega⟩
theorem one_txt {b d : Nat} (hb : 2 ≤ b) (hd : 1 ≤ d) : [49] ++ zs (d - 1) = dgs b d (b ^ (d - 1)) := by
  have := dgs_pad (b := b) (by omega) 1 (d - 1) 1
  rw [Nat.one_mul, show 1 + (d - 1) = d by omega] at this
  rw [this]
  show _ = [dc (1 / b ^ 0 % b)] ++ _
  rw [Nat.pow_zero, Nat.div_one, Nat.mod_eq_of_lt (by omega)]; rfl
theorem carry_txt {b d j Q : Nat} (hb : 2 ≤ b) (hj : j ≤ d) (hjd : j < d) (hmod : Q % b ^ j = b ^ j - 1) (hQd : Q / b ^ j % b + 1 < b) :
    (dgs b d Q).take (d - 1 - j) ++ [dc (Q / b ^ j % b + 1)] ++ zs j = dgs b d (Q + 1) := by
  have hP : 0 < b ^ j := Nat.pow_pos (by omega)
  have e1 : Q + 1 = (Q / b ^ j + 1) * b ^ j := by
    have := Nat.div_add_mod Q (b ^ j)
    rw [Nat.add_mul, Nat.one_mul, Nat.mul_comm]; omega
  have e2 := dgs_pad (b := b) (by omega) (d - j) j (Q / b ^ j + 1)
  rw [← e1, show d - j + j = d by omega] at e2
  rw [e2]
  have e3 : dgs b (d - j) (Q / b ^ j + 1) = dgs b (d - 1 - j) (Q / b ^ j / b) ++ [dc (Q / b ^ j % b + 1)] := by
    rw [show d - j = d - 1 - j + 1 by omega, dgs_snoc]
    have h1 : (Q / b ^ j + 1) / b = Q / b ^ j / b := by
      have := Nat.div_add_mod (Q / b ^ j) b
      apply Nat.div_eq_of_lt_le
      · rw [Nat.mul_comm]; omega
      · rw [Nat.add_mul, Nat.one_mul, Nat.mul_comm]; omega
    have h2 : (Q / b ^ j + 1) % b = Q / b ^ j % b + 1 := by
      rw [Nat.add_mod, Nat.mod_eq_of_lt (show 1 < b by omega), Nat.mod_eq_of_lt hQd]
    rw [h1, h2]
  rw [e3]
  have e4 : (dgs b d Q).take (d - 1 - j) = dgs b (d - 1 - j) (Q / b ^ j / b) := by
    have := dgs_take (b := b) (d := d - 1 - j) (L := d) (by omega) Q
    rw [this, show d - (d - 1 - j) = j + 1 by omega, Nat.pow_succ, Nat.div_div_eq_div_mul]
  rw [e4]; rfl
theorem round_digits_c {S : Static thePr} {n : Nat} {N b L d : Nat} {s : Int} {r : Rnd} {σ : List PV} {R : PV → List PV → Prop} (hb : b = 10 ∨ b = 2 ∨ b = 8 ∨ b = 16) (hs : s = 0 ∨ s = 1) (hd : 1 ≤ d) (hdL : d < L) (hL : L ≤ 500) (hN : N < b ^ L)
    (hR : R (if rnd s r N (b ^ (L - d)) = b ^ d then .tup [.str (tx (dgs b d (b ^ (d - 1)))), .int 1] else .tup [.str (tx (dgs b d (rnd s r N (b ^ (L - d))))), .int 0]) σ) :
    CallTo S (n + 1) (.fn 40) [.int s, .str (tx (dgs b L N)), .int (d : Nat), .int (b : Nat), .str r.str] σ R := by
  have hll : (dgs b L N).length = L := dgs_len _ _ _
  refine call_fn rfl sok40 bind40_5 (by ktf_call Mini) ?_
  refine xs_cons ?_
  ktf_call M
  refine ct_len_str (by rw [tx_length, dgs_len]; omega) ?_
  rw [tx_length, hll]
  ktf_call M
  refine ⟨decide_eq_true (by omega), ?_⟩
  ktf_call Ms
  refine ⟨?_, Nat.le_of_ble_eq_true rfl⟩
  refine cmp_in_tup (ys := [Str.ofString "n", Str.ofString "u", Str.ofString "d", Str.ofString "c", Str.ofString "f"]) ?_
  refine ⟨_, rfl, by cases r <;> decide +kernel, ?_⟩
  refine xs_cons ?_
  refine XT.mono (N := fun v q => q = σ ∧ ∃ r2 : Rnd, (r2 = .n ∨ r2 = .u ∨ r2 = .d) ∧ (∀ x y z, isMore s r x y z = isMore s r2 x y z) ∧ v = [some (.int s), some (.str (tx (dgs b L N))), some (.int (d : Nat)), some (.int (b : Nat)), some (.str r2.str), some (.bool false), none, none, none, none, none, none, none, none, none, none, none, none, none, none, none]) (T := R) (B := fun _ _ => False) ?A ?B (fun _ _ h => h) (fun _ _ h => h)
  case A =>
    rcases hs with rfl | rfl <;> cases r
    all_goals ktf_call M
    all_goals try (refine ⟨_, tru_int, ?_⟩; ktf_call M)
    all_goals first
      | exact ⟨rfl, .n, .inl rfl, fun _ _ _ => rfl, rfl⟩
      | exact ⟨rfl, .u, .inr (.inl rfl), fun _ _ _ => rfl, rfl⟩
      | exact ⟨rfl, .d, .inr (.inr rfl), fun _ _ _ => rfl, rfl⟩
  case B =>
    rintro v q ⟨rfl, r2, hr2, hmore, rfl⟩
    have hrr : rnd s r N (b ^ (L - d)) = rnd s r2 N (b ^ (L - d)) := by unfold rnd; rw [hmore]
    rw [hrr] at hR
    clear hrr hmore
    have hb2 : 2 ≤ b := by omega
    have htk : (dgs b L N).take d = dgs b d (N / b ^ (L - d)) := dgs_take hdL N
    have hQ : N / b ^ (L - d) < b ^ d := by
      rw [Nat.div_lt_iff_lt_mul (Nat.pow_pos (by omega)), ← Nat.pow_add, show d + (L - d) = L by omega]; exact hN
    ktf_call Ms
    refine xs_cons ?_
    refine XT.mono (N := fun v q' => q' = q ∧ ∃ h, (r2 = .n ∧ h = b / 2 ∨ r2 = .u ∧ h = 1) ∧ v = [some (.int s), some (.str (tx (dgs b L N))), some (.int (d : Nat)), some (.int (b : Nat)), some (.str r2.str), some (.bool false), some (.int 0), some (.str (tx (rdg b h))), none, none, none, none, none, none, none, none, none, none, none, none, none]) (T := R) (B := fun _ _ => False) ?A ?B (fun _ _ h => h) (fun _ _ h => h)
    case A =>
      rcases hr2 with rfl | rfl | rfl
      · ktf_call M
        refine bin_floordiv (by decide) (Fit.of_lt (m := 3) (by decide) (by decide)) ?_
        ktf_call M
        refine bin_mod (by decide) ?_
        ktf_call M
        refine sub_cut1 (by decide) ?_
        rw [slice_half hb]
        ktf_call M
        exact ⟨rfl, _, .inl ⟨rfl, rfl⟩, rfl⟩
      · ktf_call M
        refine sub_cut1 (by decide) ?_
        rw [slice_one hb]
        ktf_call M
        exact ⟨rfl, _, .inr ⟨rfl, rfl⟩, rfl⟩
      · ktf_call M
        refine sub_cut1 (by rw [tx_length]; omega) ?_
        rw [tx_take _ (by omega) (by omega), Int.toNat_natCast, htk]
        ktf_call M
        have e : rnd s .d N (b ^ (L - d)) = N / b ^ (L - d) := by
          unfold rnd isMore Rnd.away; simp
        rw [e, if_neg (by omega)] at hR
        exact ⟨hR, Nat.le_of_ble_eq_true rfl⟩
    case B =>
      rintro v q' ⟨rfl, h, hrh, rfl⟩
      clear hr2
      -- the digit behind
      have hbp : 0 < b := by omega
      have hat : ∀ i, i < L → (dgs b L N)[i]? = some (dc (N / b ^ (L - 1 - i) % b)) := fun i hi => dgs_get b hi N
      have hdg : ∀ i, i < L → (seqIndex? ((i : Nat) : Int) (tx (dgs b L N)).length).bind ((tx (dgs b L N)).cps[·]?) = some (dc (N / b ^ (L - 1 - i) % b)) := fun i hi => tx_at (hat i hi)
      have hlow : ∀ i, i < L → d < i → N / b ^ (L - 1 - i) % b ≠ 0 → N % b ^ (L - 1 - d) ≠ 0 := fun i hi hdi hne e => by
        apply hne
        rw [← mod_digit b (k := L - 1 - i) (j := L - 1 - d) (by omega), e]; simp
      have hzero : (∀ i, i < L → d < i → N / b ^ (L - 1 - i) % b = 0) → N % b ^ (L - 1 - d) = 0 := fun hall => by
        rw [← vl_dgs hbp, dgs_all_zero (b := b) (k := L - 1 - d) (N := N), vl_zeros]
        intro k hk
        have := hall (L - 1 - k) (by omega) (by omega)
        rwa [show L - 1 - (L - 1 - k) = k by omega] at this
      have htb : N / b ^ (L - 1 - d) % b < b := Nat.mod_lt _ hbp
      ktf_call Ms
      ktf_call Ms
      refine xs_cons ?_
      refine XT.mono (N := fun v q => q = q' ∧ ∃ (td tu : Bool) (vi : Option PV), (r2 = .n → tu = false ∧ (td = true ↔ (N / b ^ (L - 1 - d) % b = h ∧ N % b ^ (L - 1 - d) = 0 ∧ (N / b ^ (L - d)) % 2 = 0))) ∧ (r2 = .u → td = false ∧ (tu = true ↔ (N / b ^ (L - 1 - d) % b = 0 ∧ N % b ^ (L - 1 - d) ≠ 0))) ∧
        v = [some (.int s), some (.str (tx (dgs b L N))), some (.int (d : Nat)), some (.int (b : Nat)), some (.str r2.str), some (.bool false), some (.int 0), some (.str (tx (rdg b h))), some (.bool td), some (.bool tu), vi, none, none, none, none, none, none, none, none, none, none]) (T := R) (B := fun _ _ => False) ?A ?B (fun _ _ h => h) (fun _ _ h => h)
      case A =>
        rcases hrh with ⟨rfl, rfl⟩ | ⟨rfl, rfl⟩
        · ktf_call M
          refine sub_str (by omega) (by omega) (hdg d hdL) ?_
          ktf_call M
          refine sub_str (by omega) (by omega) (rdg_zero hb) ?_
          ktf_call M
          refine ⟨fun ht => ?_, fun ht => ?_⟩
          · have hth : N / b ^ (L - 1 - d) % b = b / 2 := dc_eq ht
            ktf_call Ms
            refine xs_cons ?_
            refine XT.mono (N := fun v q => q = q' ∧ ∃ (td : Bool) (vi : Option PV), (td = true ↔ N % b ^ (L - 1 - d) = 0) ∧ v = [some (.int s), some (.str (tx (dgs b L N))), some (.int (d : Nat)), some (.int (b : Nat)), some (.str (Rnd.str .n)), some (.bool false), some (.int 0), some (.str (tx (rdg b (b / 2)))), some (.bool td), some (.bool false), vi, none, none, none, none, none, none, none, none, none, none]) (T := R) (B := fun _ _ => False) ?A2 ?B2 (fun _ _ h => h) (fun _ _ h => h.elim)
            case A2 =>
              refine xt_for (items := fun i => if ((d : Nat) : Int) + 1 + (i : Nat) < (L : Nat) then some (.int (((d : Nat) : Int) + 1 + (i : Nat))) else none) (len := L - (d + 1)) (fun j v q => q = q' ∧ (∀ i, i < L → d < i → i < d + 1 + j → N / b ^ (L - 1 - i) % b = 0) ∧ ∃ vi : Option PV, v = [some (.int s), some (.str (tx (dgs b L N))), some (.int (d : Nat)), some (.int (b : Nat)), some (.str (Rnd.str .n)), some (.bool false), some (.int 0), some (.str (tx (rdg b (b / 2)))), some (.bool true), some (.bool false), vi, none, none, none, none, none, none, none, none, none, none]) ?_ ?_ ?_ ?_
              · ktf_call M
                refine ct_len_str (by rw [tx_length, hll]; omega) ?_
                rw [tx_length, hll]
                ktf_call M
                exact ⟨iter_range (by omega) (by omega) (by omega) (by omega), rfl, fun i _ h1 h2 => absurd h2 (by omega), none, rfl⟩
              · intro i
                by_cases h : ((d : Nat) : Int) + 1 + (i : Nat) < (L : Nat)
                · rw [if_pos h]; simp; omega
                · rw [if_neg h]; simp; omega
              · rintro i x v q hi ⟨rfl, hz, vi, rfl⟩
                by_cases h : ((d : Nat) : Int) + 1 + (i : Nat) < (L : Nat)
                · rw [if_pos h] at hi
                  cases hi
                  have hlt : d + 1 + i < L := by omega
                  have ei : ((d : Nat) : Int) + 1 + (i : Nat) = ((d + 1 + i : Nat) : Int) := by omega
                  rw [ei]
                  ktf_call Mupd
                  ktf_call M
                  refine sub_str (by omega) (by omega) (hdg _ hlt) ?_
                  ktf_call M
                  refine ⟨fun h => ?_, fun h => ?_⟩
                  · have hne : N / b ^ (L - 1 - (d + 1 + i)) % b ≠ 0 := fun e => by
                      rw [e] at h; exact absurd h (by decide +kernel)
                    have hl := hlow _ hlt (by omega) hne
                    ktf_call M
                    exact ⟨rfl, _, _, by simpa using hl, rfl⟩
                  · have he : N / b ^ (L - 1 - (d + 1 + i)) % b = 0 := by
                      rw [zero_txt, bne, one_eq] at h
                      have h := of_decide_eq_true (by simpa using h)
                      have := congrArg dv h
                      rw [dv_dc] at this
                      exact this
                    ktf_call M
                    refine ⟨rfl, fun j hj h1 h2 => ?_, _, rfl⟩
                    by_cases hj2 : j = d + 1 + i
                    · subst hj2; exact he
                    · exact hz j hj h1 (by omega)
                · rw [if_neg h] at hi; cases hi
              · rintro v q ⟨rfl, hz, vi, rfl⟩
                have hl := hzero fun i hi hdi => hz i hi hdi (by omega)
                exact ⟨rfl, _, vi, by simpa using hl, rfl⟩
            case B2 =>
              rintro v q ⟨rfl, td, vi, htd, rfl⟩
              ktf_call M
              rw [show ((d : Nat) : Int) - 1 = ((d - 1 : Nat) : Int) by omega]
              refine sub_str (by omega) (by omega) (hdg (d - 1) (by omega)) ?_
              rw [show L - 1 - (d - 1) = L - d by omega]
              ktf_call M
              refine sub_cut (by decide) (by decide) ?_ (slice_odd_len hb)
              rw [slice_odd hb]
              refine cmp_in_str ?_
              rw [odd_mem hb (Nat.mod_lt _ hbp)]
              have hpar : N / b ^ (L - d) % b % 2 = N / b ^ (L - d) % 2 := Nat.mod_mod_of_dvd _ (by rcases hb with rfl | rfl | rfl | rfl <;> decide)
              rw [hpar]
              ktf_call M
              refine ⟨fun hp => ?_, fun hp => ?_⟩
              · have hp := of_decide_eq_true hp
                ktf_call M
                exact ⟨rfl, _, _, _, fun _ => ⟨rfl, by simp [hp]⟩, (fun e => by cases e), rfl⟩
              · have hp := of_decide_eq_false hp
                ktf_call M
                exact ⟨rfl, _, _, _, fun _ => ⟨rfl, by rw [htd, hth]; constructor <;> intro h <;> simp_all⟩, (fun e => by cases e), rfl⟩
          · have hth : N / b ^ (L - 1 - d) % b ≠ b / 2 := dc_ne ht
            ktf_call M
            exact ⟨rfl, _, _, _, fun _ => ⟨rfl, by simp [hth]⟩, (fun e => by cases e), rfl⟩
        · ktf_call M
          refine sub_str (by omega) (by omega) (hdg d hdL) ?_
          ktf_call M
          refine ⟨fun ht => ?_, fun ht => ?_⟩
          · have hth : N / b ^ (L - 1 - d) % b = 0 := dc_eq (b := 0) (by rw [zero_txt] at ht; exact ht)
            refine xs_cons ?_
            refine XT.mono (N := fun v q => q = q' ∧ ∃ (tu : Bool) (vi : Option PV), (tu = true ↔ N % b ^ (L - 1 - d) ≠ 0) ∧ v = [some (.int s), some (.str (tx (dgs b L N))), some (.int (d : Nat)), some (.int (b : Nat)), some (.str (Rnd.str .u)), some (.bool false), some (.int 0), some (.str (tx (rdg b (1)))), some (.bool false), some (.bool tu), vi, none, none, none, none, none, none, none, none, none, none]) (T := R) (B := fun _ _ => False) ?A2 ?B2 (fun _ _ h => h) (fun _ _ h => h.elim)
            case A2 =>
              refine xt_for (items := fun i => if ((d : Nat) : Int) + 1 + (i : Nat) < (L : Nat) then some (.int (((d : Nat) : Int) + 1 + (i : Nat))) else none) (len := L - (d + 1)) (fun j v q => q = q' ∧ (∀ i, i < L → d < i → i < d + 1 + j → N / b ^ (L - 1 - i) % b = 0) ∧ ∃ vi : Option PV, v = [some (.int s), some (.str (tx (dgs b L N))), some (.int (d : Nat)), some (.int (b : Nat)), some (.str (Rnd.str .u)), some (.bool false), some (.int 0), some (.str (tx (rdg b (1)))), some (.bool false), some (.bool false), vi, none, none, none, none, none, none, none, none, none, none]) ?_ ?_ ?_ ?_
              · ktf_call M
                refine ct_len_str (by rw [tx_length, hll]; omega) ?_
                rw [tx_length, hll]
                ktf_call M
                exact ⟨iter_range (by omega) (by omega) (by omega) (by omega), rfl, fun i _ h1 h2 => absurd h2 (by omega), none, rfl⟩
              · intro i
                by_cases h : ((d : Nat) : Int) + 1 + (i : Nat) < (L : Nat)
                · rw [if_pos h]; simp; omega
                · rw [if_neg h]; simp; omega
              · rintro i x v q hi ⟨rfl, hz, vi, rfl⟩
                by_cases h : ((d : Nat) : Int) + 1 + (i : Nat) < (L : Nat)
                · rw [if_pos h] at hi
                  cases hi
                  have hlt : d + 1 + i < L := by omega
                  have ei : ((d : Nat) : Int) + 1 + (i : Nat) = ((d + 1 + i : Nat) : Int) := by omega
                  rw [ei]
                  ktf_call Mupd
                  ktf_call M
                  refine sub_str (by omega) (by omega) (hdg _ hlt) ?_
                  ktf_call M
                  refine ⟨fun h => ?_, fun h => ?_⟩
                  · have hne : N / b ^ (L - 1 - (d + 1 + i)) % b ≠ 0 := fun e => by
                      rw [e] at h; exact absurd h (by decide +kernel)
                    have hl := hlow _ hlt (by omega) hne
                    ktf_call M
                    exact ⟨rfl, _, _, by simpa using hl, rfl⟩
                  · have he : N / b ^ (L - 1 - (d + 1 + i)) % b = 0 := by
                      rw [zero_txt, bne, one_eq] at h
                      have h := of_decide_eq_true (by simpa using h)
                      have := congrArg dv h
                      rw [dv_dc] at this
                      exact this
                    ktf_call M
                    refine ⟨rfl, fun j hj h1 h2 => ?_, _, rfl⟩
                    by_cases hj2 : j = d + 1 + i
                    · subst hj2; exact he
                    · exact hz j hj h1 (by omega)
                · rw [if_neg h] at hi; cases hi
              · rintro v q ⟨rfl, hz, vi, rfl⟩
                have hl := hzero fun i hi hdi => hz i hi hdi (by omega)
                exact ⟨rfl, _, vi, by simpa using hl, rfl⟩
            case B2 =>
              rintro v q ⟨rfl, tu, vi, htu, rfl⟩
              ktf_call M
              exact ⟨rfl, _, _, _, (fun e => by cases e), fun _ => ⟨rfl, by simp [hth, htu]⟩, rfl⟩
          · have hth : N / b ^ (L - 1 - d) % b ≠ 0 := dc_ne (b := 0) (by rw [zero_txt] at ht; exact ht)
            ktf_call M
            exact ⟨rfl, _, _, _, (fun e => by cases e), fun _ => ⟨rfl, by simp [hth]⟩, rfl⟩
      case B =>
        rintro v q ⟨rfl, td, tu, vi, hn, hu, rfl⟩
        have hkL : L - d = (L - 1 - d) + 1 := by omega
        have hsplit : dgs b L N = dgs b d (N / b ^ (L - d)) ++ dc (N / b ^ (L - 1 - d) % b) :: dgs b (L - 1 - d) N := by
          have e : dgs b L N = dgs b d (N / b ^ (L - d)) ++ dgs b (L - d) N := by
            rw [← dgs_add]; congr 1; omega
          rw [e, hkL]; rfl
        have hrest : N % b ^ (L - d) = (N / b ^ (L - 1 - d) % b) * b ^ (L - 1 - d) + N % b ^ (L - 1 - d) := by
          rw [hkL, Nat.pow_succ, Nat.mod_mul, Nat.add_comm, Nat.mul_comm]
        have hPP : 0 < b ^ (L - 1 - d) := Nat.pow_pos hbp
        have hlowP : N % b ^ (L - 1 - d) < b ^ (L - 1 - d) := Nat.mod_lt _ hPP
        have hden : b ^ (L - d) = b * b ^ (L - 1 - d) := by rw [hkL, Nat.pow_succ, Nat.mul_comm]
        have hb22 : 2 * (b / 2) = b := by rcases hb with rfl | rfl | rfl | rfl <;> rfl
        have hh1 : 1 ≤ h ∧ h < b + 1 := by
          rcases hrh with ⟨_, rfl⟩ | ⟨_, rfl⟩ <;> omega
        have hmoreiff : isMore s r2 (N / b ^ (L - d)) (N % b ^ (L - d)) (b ^ (L - d)) = true ↔ (if td = true then False else if tu = true then True else h ≤ N / b ^ (L - 1 - d) % b) := by
          rcases hrh with ⟨rfl, rfl⟩ | ⟨rfl, rfl⟩
          · obtain ⟨htu, htd⟩ := hn rfl
            have e1 := more_n (s := s) (Q := N / b ^ (L - d)) (t := N / b ^ (L - 1 - d) % b) (h := b / 2) hPP hlowP
            rw [hb22, ← hden, ← hrest] at e1
            rw [e1, htu]
            cases td with
            | true =>
              obtain ⟨h1, h2, h3⟩ := htd.mp rfl
              simp only [if_true]
              constructor
              · intro h; omega
              · intro h; exact h.elim
            | false =>
              simp only [Bool.false_eq_true, if_false]
              have h4 : ¬ (N / b ^ (L - 1 - d) % b = b / 2 ∧ N % b ^ (L - 1 - d) = 0 ∧ N / b ^ (L - d) % 2 = 0) := fun hc => by
                have := htd.mpr hc; cases this
              omega
          · obtain ⟨htd, htu⟩ := hu rfl
            have e1 := more_u (s := s) (Q := N / b ^ (L - d)) (t := N / b ^ (L - 1 - d) % b) (low := N % b ^ (L - 1 - d)) (X := b ^ (L - d)) hPP
            rw [← hrest] at e1
            rw [e1, htd]
            cases tu with
            | true =>
              obtain ⟨h1, h2⟩ := htu.mp rfl
              simp [h2]
            | false =>
              simp only [Bool.false_eq_true, if_false]
              have h4 : ¬ (N / b ^ (L - 1 - d) % b = 0 ∧ N % b ^ (L - 1 - d) ≠ 0) := fun hc => by
                have := htu.mpr hc; cases this
              omega
        refine xs_cons ?_
        refine XT.mono (N := fun v q' => q' = q ∧ ∃ (t' : Nat) (tl : List Nat), t' < b ∧ tl.length ≤ 500 ∧ (h ≤ t' ↔ isMore s r2 (N / b ^ (L - d)) (N % b ^ (L - d)) (b ^ (L - d)) = true) ∧ v = [some (.int s), some (.str (tx (dgs b d (N / b ^ (L - d)) ++ dc t' :: tl))), some (.int (d : Nat)), some (.int (b : Nat)), some (.str r2.str), some (.bool false), some (.int 0), some (.str (tx (rdg b h))), some (.bool td), some (.bool tu), vi, none, none, none, none, none, none, none, none, none, none]) (T := R) (B := fun _ _ => False) ?A3 ?B3 (fun _ _ h => h) (fun _ _ h => h)
        case A3 =>
          rw [hmoreiff]
          cases td with
          | true =>
            have hth : N / b ^ (L - 1 - d) % b = h := by
              rcases hrh with ⟨rfl, rfl⟩ | ⟨rfl, rfl⟩
              · exact ((hn rfl).2.mp rfl).1
              · have := (hu rfl).1; cases this
            ktf_call M
            refine sub_cut1 (by rw [tx_length]; omega) ?_
            rw [tx_take _ (by omega) (by omega), Int.toNat_natCast, htk]
            ktf_call M
            refine sub_str (by omega) (by omega) (hdg d hdL) ?_
            ktf_call M
            refine ct_int_digit hb htb ?_
            ktf_call M
            rw [hth, show ((h : Nat) : Int) - 1 = ((h - 1 : Nat) : Int) by omega]
            refine sub_str (by omega) (by omega) (std_at _ (by omega)) ?_
            refine bin_cat (by rw [tx_length, dgs_len]; omega) (by show (tx [_]).length ≤ _; rw [tx_length]; simp) ?_
            rw [show (⟨#[dc (h - 1)]⟩ : Str) = tx [dc (h - 1)] from rfl, tx_append]
            ktf_call M
            exact ⟨rfl, h - 1, [], by omega, by simp, by simp; omega, rfl⟩
          | false =>
            cases tu with
            | true =>
              have hh : h = 1 := by
                rcases hrh with ⟨rfl, rfl⟩ | ⟨rfl, rfl⟩
                · have := (hn rfl).1; cases this
                · rfl
              ktf_call M
              refine sub_cut1 (by rw [tx_length]; omega) ?_
              rw [tx_take _ (by omega) (by omega), Int.toNat_natCast, htk]
              ktf_call M
              refine bin_cat (by rw [tx_length, dgs_len]; omega) (by decide) ?_
              rw [show Str.ofString "1" = tx [dc 1] from by decide +kernel, tx_append]
              ktf_call M
              exact ⟨rfl, 1, [], by omega, by simp, by simp; omega, rfl⟩
            | false =>
              ktf_call M
              refine ⟨rfl, N / b ^ (L - 1 - d) % b, dgs b (L - 1 - d) N, htb, by rw [dgs_len]; omega, by simp, ?_⟩
              rw [hsplit]
        case B3 =>
          rintro v q' ⟨rfl, t', tl, ht', htl, hiff, rfl⟩
          have hrn : rnd s r2 N (b ^ (L - d)) = N / b ^ (L - d) + (if h ≤ t' then 1 else 0) := by
            unfold rnd
            by_cases hc : h ≤ t'
            · rw [if_pos hc, hiff.mp hc]; rfl
            · rw [if_neg hc]
              cases hm : isMore s r2 (N / b ^ (L - d)) (N % b ^ (L - d)) (b ^ (L - d)) with
              | true => exact absurd (hiff.mpr hm) hc
              | false => rfl
          rw [hrn] at hR
          clear hrn hmoreiff hn hu hiff hsplit hrest hden hdg hat hlow hzero htk
          generalize N / b ^ (L - d) = Q at *
          have hdl : (dgs b d Q).length = d := dgs_len _ _ _
          have hda : (dgs b d Q ++ dc t' :: tl)[d]? = some (dc t') := by
            rw [List.getElem?_append_right (by omega), hdl, Nat.sub_self]; rfl
          have hlen2 : (dgs b d Q ++ dc t' :: tl).length ≤ 2000 := by simp [hdl]; omega
          have htk2 : (dgs b d Q ++ dc t' :: tl).take d = dgs b d Q := by
            rw [List.take_append_of_le_length (by omega), List.take_of_length_le (by omega)]
          have hdle : d ≤ (dgs b d Q ++ dc t' :: tl).length := by simp [hdl]
          generalize dgs b d Q ++ dc t' :: tl = dd at *
          ktf_call M
          refine sub_str (by omega) (by omega) (tx_at hda) ?_
          ktf_call M
          refine cmp_in_str ?_
          rw [rdg_mem hb ht' hh1.1]
          ktf_call M
          refine ⟨fun hc => ?_, fun hc => ?_⟩
          · have hc := of_decide_eq_true hc
            rw [if_pos hc] at hR
            ktf_call M
            refine sub_cut1 (by rw [tx_length]; omega) ?_
            rw [tx_take _ (by omega) (by omega), Int.toNat_natCast, htk2]
            ktf_call M
            rw [show ((b : Nat) : Int) - 1 = ((b - 1 : Nat) : Int) by omega]
            refine sub_str (by omega) (by omega) (std_at _ (by omega)) ?_
            ktf_call M
            refine xt_while (fun m v q => q = q' ∧ ∃ j : Nat, d - j = m ∧ j ≤ d ∧ Q % b ^ j = b ^ j - 1 ∧ v = [some (.int s), some (.str (tx (dgs b d Q))), some (.int (d : Nat)), some (.int (b : Nat)), some (.str r2.str), some (.bool false), some (.int 0), some (.str (tx (rdg b h))), some (.bool td), some (.bool tu), some (.int (((d : Nat) : Int) - 1 - (j : Nat))), some (.str ⟨#[dc (b - 1)]⟩), none, none, none, none, none, none, none, none, none]) d ⟨rfl, 0, by omega, by omega, by simp [Nat.mod_one], by simp⟩ ?_
            rintro m v q ⟨rfl, j, rfl, hj, hmod, rfl⟩
            have hQb : Q / b ^ j % b < b := Nat.mod_lt _ hbp
            ktf_call M
            refine ⟨fun h1 => ?_, fun h1 => ?_⟩
            · have hjd : j < d := by have := of_decide_eq_true h1; omega
              rw [show ((d : Nat) : Int) - 1 - (j : Nat) = ((d - 1 - j : Nat) : Int) by omega]
              ktf_call M
              refine sub_str (by omega) (by omega) (tx_at (c := dc (Q / b ^ j % b)) (by rw [dgs_get b (by omega), show d - 1 - (d - 1 - j) = j by omega])) ?_
              ktf_call M
              refine ⟨fun h2 => ?_, fun h2 => ?_⟩
              · have h2 := dc_eq h2
                ktf_call M
                refine ⟨d - (j + 1), by omega, rfl, j + 1, rfl, by omega, ?_, ?_⟩
                · rw [Nat.pow_succ, Nat.mod_mul, h2, hmod]
                  have hP := Nat.pow_pos (n := j) hbp
                  have : b ^ j * (b - 1) + b ^ j = b ^ j * b := by
                    rw [← Nat.mul_succ]; congr 1; omega
                  omega
                · rw [show ((d - 1 - j : Nat) : Int) - 1 = ((d : Nat) : Int) - 1 - ((j + 1 : Nat) : Int) by omega]
              · have h2 := dc_ne h2
                have hQd : Q / b ^ j % b + 1 < b := by omega
                ktf_call M
                refine iftt (decide_eq_true (by omega)) ?_
                ktf_call M
                refine sub_cut1 (by rw [tx_length]; omega) ?_
                rw [tx_take _ (by omega) (by omega), Int.toNat_natCast]
                ktf_call M
                refine sub_str (by omega) (by omega) (tx_at (c := dc (Q / b ^ j % b)) (by rw [dgs_get b (by omega), show d - 1 - (d - 1 - j) = j by omega])) ?_
                ktf_call M
                refine ct_int_digit hb hQb ?_
                ktf_call M
                rw [show ((Q / b ^ j % b : Nat) : Int) + 1 = ((Q / b ^ j % b + 1 : Nat) : Int) by omega]
                refine sub_str (by omega) (by omega) (std_at _ (by omega)) ?_
                refine bin_cat (by rw [tx_length, List.length_take]; omega) (by show (tx [_]).length ≤ _; rw [tx_length]; simp) ?_
                rw [show (⟨#[dc (Q / b ^ j % b + 1)]⟩ : Str) = tx [dc (Q / b ^ j % b + 1)] from rfl, tx_append]
                ktf_call M
                refine bin_rep (by decide) (by omega) (by omega) ?_
                rw [mul_zero_txt, show (((d : Nat) : Int) - ((d - 1 - j : Nat) : Int) - 1).toNat = j by omega]
                have hxl : ((dgs b d Q).take (d - 1 - j) ++ [dc (Q / b ^ j % b + 1)]).length ≤ 600 := by simp; omega
                have hzl : (zs j).length ≤ 600 := by simp [zs]; omega
                refine bin_cat (by rw [tx_length]; exact Nat.le_trans hxl (by decide)) (by rw [tx_length]; exact Nat.le_trans hzl (by decide)) ?_
                rw [tx_append]
                ktf_call M
                have hQF : Q + 1 ≠ b ^ d := fun e => by
                  have e1 : Q / b ^ j % b = b - 1 := by
                    have e2 : Q = b ^ d - 1 := by omega
                    have hP := Nat.pow_pos (n := j) hbp
                    have e3 : b ^ d = b ^ j * (b * b ^ (d - 1 - j)) := by
                      rw [← Nat.mul_assoc, ← Nat.pow_succ, ← Nat.pow_add]; congr 1; omega
                    have hX : 0 < b ^ (d - 1 - j) := Nat.pow_pos hbp
                    have e4 : Q / b ^ j = b * b ^ (d - 1 - j) - 1 := by
                      apply Nat.div_eq_of_lt_le
                      · rw [e2, e3, Nat.sub_mul, Nat.one_mul, Nat.mul_comm (b * b ^ (d - 1 - j))]; omega
                      · rw [e2, e3]
                        have : b * b ^ (d - 1 - j) - 1 + 1 = b * b ^ (d - 1 - j) := by
                          have := Nat.mul_pos hbp hX; omega
                        rw [this, Nat.mul_comm (b * b ^ (d - 1 - j))]
                        have := Nat.mul_pos hP (Nat.mul_pos hbp hX)
                        omega
                    rw [e4]
                    have e5 : b * b ^ (d - 1 - j) - 1 = (b - 1) + b * (b ^ (d - 1 - j) - 1) := by
                      rw [Nat.mul_sub, Nat.mul_one]
                      have : b ≤ b * b ^ (d - 1 - j) := Nat.le_mul_of_pos_right _ hX
                      omega
                    rw [e5, Nat.add_mul_mod_self_left, Nat.mod_eq_of_lt (by omega)]
                  exact h2 e1
                rw [if_neg hQF] at hR
                have etx : (dgs b d Q).take (d - 1 - j) ++ [dc (Q / b ^ j % b + 1)] ++ zs j = dgs b d (Q + 1) := carry_txt hb2 hj hjd hmod hQd
                rw [etx]
                exact ⟨hR, Nat.le_of_ble_eq_true rfl⟩
            · have hjd : j = d := by have := of_decide_eq_false h1; omega
              subst hjd
              ktf_call M
              refine ifff (by simpa using h1) ?_
              ktf_call M
              refine bin_rep (by decide) (by omega) (by omega) ?_
              rw [mul_zero_txt, show Str.ofString "1" = tx [49] from by decide +kernel]
              refine bin_cat (by rw [tx_length]; decide) (by rw [tx_length]; simp [zs]; omega) ?_
              rw [tx_append, show (((j : Nat) : Int) - 1).toNat = j - 1 by omega]
              ktf_call M
              rw [Nat.mod_eq_of_lt hQ] at hmod
              rw [if_pos (by have := Nat.pow_pos (n := j) hbp; omega)] at hR
              have etx : [49] ++ zs (j - 1) = dgs b j (b ^ (j - 1)) := one_txt hb2 hd
              rw [etx]
              exact ⟨hR, Nat.le_of_ble_eq_true rfl⟩
          · have hc := of_decide_eq_false hc
            rw [if_neg hc, Nat.add_zero, if_neg (by omega)] at hR
            ktf_call M
            refine sub_cut1 (by rw [tx_length]; omega) ?_
            rw [tx_take _ (by omega) (by omega), Int.toNat_natCast, htk2]
            ktf_call M
            exact ⟨hR, Nat.le_of_ble_eq_true rfl⟩
def oint : Option Int → PV
  | none => .none
  | some i => .int i
def loP (d : Nat) : Option Int → Int
  | none => if -5 < -(((d / 3 : Nat) : Int)) then -5 else -(((d / 3 : Nat) : Int))
  | some i => i
def hiP (d : Nat) : Option Int → Int
  | none => d
  | some i => i
theorem mem_dropWhile48 : ∀ {l : List Nat}, 46 ∈ l → 46 ∈ l.dropWhile (· == 48)
  | [], h => h
  | c :: l, h => by
    rw [List.dropWhile_cons]
    by_cases hc : c = 48
    · subst hc
      exact mem_dropWhile48 (by simpa using h)
    · rw [show (c == 48) = false by simpa using hc]; exact h
theorem rs_mem {l : List Nat} (h : 46 ∈ l) : 46 ∈ rs 48 l := by
  unfold rs
  rw [List.mem_reverse]
  exact mem_dropWhile48 (List.mem_reverse.mpr h)
theorem to_str_x {S : Static thePr} {n : Nat} {M b d k : Nat} {s E : Int} {r : Rnd} {low high : Option Int} {strk shown : Bool} {σ : List PV} {R : PV → List PV → Prop} (hb : b = 10 ∨ b = 2 ∨ b = 8 ∨ b = 16) (hs : s = 0 ∨ s = 1) (hM : 0 < M) (hbl : bl M ≤ 60)
    (hd : 1 ≤ d) (hd2 : d ≤ 30) (hE : -400 ≤ E) (hE2 : E ≤ 400)
    (h1 : b ^ k ≤ sbN b (d + 10) M E) (h2 : sbN b (d + 10) M E < b ^ (k + 1)) (hk : k ≤ 400) (hdk : d ≤ k) (hkx : -450 ≤ (k : Int) - (fixdps b (fixp b (d + 10) (E + bl M)) : Nat)) (hkx2 : (k : Int) - (fixdps b (fixp b (d + 10) (E + bl M)) : Nat) ≤ 450)
    (hR : R (.str (tx (textP (if rnd s r (sbN b (d + 10) M E) (b ^ (k + 1 - d)) = b ^ d then dgs b d (b ^ (d - 1)) else dgs b d (rnd s r (sbN b (d + 10) M E) (b ^ (k + 1 - d))))
      (if rnd s r (sbN b (d + 10) M E) (b ^ (k + 1 - d)) = b ^ d then (k : Int) - (fixdps b (fixp b (d + 10) (E + bl M)) : Nat) + 1 else (k : Int) - (fixdps b (fixp b (d + 10) (E + bl M)) : Nat)) d (loP d low) (hiP d high) strk shown (decide (s = 1)) b))) σ) :
    XS S (n + 3) 41 nm41 (some (.tup [.int s, .int (M : Nat), .int E, .int (bl M : Nat)]) :: some (.int (d : Nat)) :: some (.bool strk) :: some (oint low) :: some (oint high) :: some (.bool shown) :: some (.int (b : Nat)) :: some (.bool false) :: some (.str r.str) :: none :: none :: none :: none :: none :: none :: none :: none :: none :: none :: none :: none :: none :: none :: none :: none :: none :: none :: none :: none :: none :: none :: none :: none :: none :: none :: none :: []) σ (FT 41).body (fun _ σ' => R .none σ') R (fun _ _ => False) := by
  refine xs_cons ?_
  refine XT.mono (N := fun v q => q = σ ∧ v = (some (.tup [.int s, .int (M : Nat), .int E, .int (bl M : Nat)]) :: some (.int (d : Nat)) :: some (.bool strk) :: some (oint low) :: some (oint high) :: some (.bool shown) :: some (.int (b : Nat)) :: some (.bool false) :: some (.str r.str) :: some (.str (tx (if b > 10 then [64] else [101]))) :: none :: none :: none :: none :: none :: none :: none :: none :: none :: none :: none :: none :: none :: none :: none :: none :: none :: none :: none :: none :: none :: none :: none :: none :: none :: none :: [])) (T := R) (B := fun _ _ => False) ?A ?B (fun _ _ h => h) (fun _ _ h => h)
  case A =>
    have hat : Str.ofString "@" = tx [64] := by decide +kernel
    have hee : Str.ofString "e" = tx [101] := by decide +kernel
    rcases hb with rfl | rfl | rfl | rfl
    all_goals ktf_call M
    all_goals first | rw [hat] | rw [hee]
    all_goals exact ⟨rfl, rfl⟩
  case B =>
    rintro v q ⟨rfl, rfl⟩
    ktf_call M
    refine ⟨?_, Nat.le_of_ble_eq_true rfl⟩
    refine cmp_notin_tup (ys := [Str.ofString "n", Str.ofString "f", Str.ofString "c", Str.ofString "u", Str.ofString "d"]) ?_
    refine ⟨_, rfl, ?_⟩
    refine ifff (by cases r <;> decide +kernel) ?_
    refine xs_nil ?_
    refine xs_cons ?_
    refine XT.mono (N := fun v q' => q' = q ∧ v = (some (.tup [.int s, .int (M : Nat), .int E, .int (bl M : Nat)]) :: some (.int (d : Nat)) :: some (.bool strk) :: some (oint low) :: some (oint high) :: some (.bool shown) :: some (.int (b : Nat)) :: some (.bool false) :: some (.str r.str) :: some (.str (tx (if b > 10 then [64] else [101]))) :: some (.str (tx (pre b))) :: none :: none :: none :: none :: none :: none :: none :: none :: none :: none :: none :: none :: none :: none :: none :: none :: none :: none :: none :: none :: none :: none :: none :: none :: none :: [])) (T := R) (B := fun _ _ => False) ?A ?B (fun _ _ h => h) (fun _ _ h => h)
    case A =>
      have hem : Str.ofString "" = tx (pre 10) := by decide +kernel
      have g2 : Str.ofString "0b" = tx (pre 2) := by decide +kernel
      have h8 : Str.ofString "0o" = tx (pre 8) := by decide +kernel
      have h16 : Str.ofString "0x" = tx (pre 16) := by decide +kernel
      rcases hb with rfl | rfl | rfl | rfl
      all_goals ktf_call M
      all_goals refine ⟨rfl, ?_⟩
      · rw [← hem]
      · rw [← g2]
      · rw [← h8]
      · rw [← h16]
    case B =>
      rintro v q' ⟨rfl, rfl⟩
      ktf_call M
      refine sub_tup (by decide) (by decide) rfl rfl ?_
      ktf_call M
      refine ifff (by simp; omega) ?_
      refine xs_nil ?_
      refine xs_cons ?_
      refine XT.mono (N := fun v q'' => q'' = q' ∧ v = (some (.tup [.int s, .int (M : Nat), .int E, .int (bl M : Nat)]) :: some (.int (d : Nat)) :: some (.bool strk) :: some (.int (loP d low)) :: some (oint high) :: some (.bool shown) :: some (.int (b : Nat)) :: some (.bool false) :: some (.str r.str) :: some (.str (tx (if b > 10 then [64] else [101]))) :: some (.str (tx (pre b))) :: none :: none :: none :: none :: none :: none :: none :: none :: none :: none :: none :: none :: none :: none :: none :: none :: none :: none :: none :: none :: none :: none :: none :: none :: none :: [])) (T := R) (B := fun _ _ => False) ?A ?B (fun _ _ h => h) (fun _ _ h => h)
      case A =>
        cases low with
        | none =>
          unfold oint
          ktf_call M
          refine bin_floordiv (by decide) (Fit.of_lt (m := 3) (by decide) (by decide)) ?_
          rw [show ((d : Nat) : Int).fdiv 3 = ((d / 3 : Nat) : Int) from fdiv_nat d 3]
          ktf_call M
          exact ⟨rfl, rfl⟩
        | some i =>
          unfold oint
          ktf_call M
          refine ifff rfl ?_
          exact xs_nil ⟨rfl, rfl⟩
      case B =>
        rintro v q'' ⟨rfl, rfl⟩
        refine xs_cons ?_
        refine XT.mono (N := fun v q' => q' = q'' ∧ v = (some (.tup [.int s, .int (M : Nat), .int E, .int (bl M : Nat)]) :: some (.int (d : Nat)) :: some (.bool strk) :: some (.int (loP d low)) :: some (.int (hiP d high)) :: some (.bool shown) :: some (.int (b : Nat)) :: some (.bool false) :: some (.str r.str) :: some (.str (tx (if b > 10 then [64] else [101]))) :: some (.str (tx (pre b))) :: none :: none :: none :: none :: none :: none :: none :: none :: none :: none :: none :: none :: none :: none :: none :: none :: none :: none :: none :: none :: none :: none :: none :: none :: none :: [])) (T := R) (B := fun _ _ => False) ?A ?B (fun _ _ h => h) (fun _ _ h => h)
        case A =>
          cases high with
          | none =>
            unfold oint
            ktf_call M
            exact ⟨rfl, rfl⟩
          | some i =>
            unfold oint
            ktf_call M
            refine ifff rfl ?_
            exact xs_nil ⟨rfl, rfl⟩
        case B =>
          rintro v q' ⟨rfl, rfl⟩
          generalize loP d low = lo at *
          generalize hiP d high = hi at *
          ktf_call Ms
          rw [show ((d : Nat) : Int) + 10 = ((d + 10 : Nat) : Int) by omega]
          refine to_digits_c (n := n) hb hs hM hbl (by omega) hE hE2 h1 h2 hk ?_
          generalize (k : Int) - (fixdps b (fixp b (d + 10) (E + bl M)) : Nat) = ex at *
          generalize sbN b (d + 10) M E = sb at *
          ktf_call Me
          ktf_call Ms
          refine bin_floordiv (by decide) (Fit.of_lt (m := 3) (by decide) (by decide)) ?_
          ktf_call Me
          refine bin_mod (by decide) ?_
          ktf_call Me
          refine sub_cut1 (by decide) ?_
          rw [slice_half hb]
          ktf_call Me
          refine xs_cons ?_
          ktf_call M
          refine ifff (by simp; omega) ?_
          ktf_call M
          refine sub_tup (by decide) (by decide) rfl rfl ?_
          ktf_call M
          refine round_digits_c (n := n + 2) hb hs hd (L := k + 1) (by omega) (by omega) h2 ?_
          obtain ⟨ds, e, heq, hds, he, hR2⟩ : ∃ (ds : List Nat) (e : Int), (if rnd s r sb (b ^ (k + 1 - d)) = b ^ d then PV.tup [.str (tx (dgs b d (b ^ (d - 1)))), .int 1] else PV.tup [.str (tx (dgs b d (rnd s r sb (b ^ (k + 1 - d))))), .int 0]) = PV.tup [.str (tx ds), .int e] ∧
              ds.length = d ∧ (e = 0 ∨ e = 1) ∧ R (.str (tx (textP ds (ex + e) d lo hi strk shown (decide (s = 1)) b))) q' := by
            by_cases hF : rnd s r sb (b ^ (k + 1 - d)) = b ^ d
            · rw [if_pos hF, if_pos hF] at hR
              exact ⟨_, 1, by rw [if_pos hF], dgs_len _ _ _, .inr rfl, hR⟩
            · rw [if_neg hF, if_neg hF] at hR
              exact ⟨_, 0, by rw [if_neg hF], dgs_len _ _ _, .inl rfl, by rw [Int.add_zero]; exact hR⟩
          rw [heq]
          clear hR heq h1 h2
          ktf_call Me
          ktf_call Ms
          have hpl : -450 ≤ ex + e ∧ ex + e ≤ 451 := by omega
          generalize ex + e = pl at *
          refine xs_cons ?_
          refine XT.mono (N := fun v q => q = q' ∧ ∃ (DD : List Nat) (sp : Nat), body ds pl d lo hi = DD.take sp ++ ([46] ++ DD.drop sp) ∧ sp ≤ DD.length ∧ DD.length ≤ 1000 ∧ v = (some (.tup [.int s, .int (M : Nat), .int E, .int (bl M : Nat)]) :: some (.int (d : Nat)) :: some (.bool strk) :: some (.int lo) :: some (.int hi) :: some (.bool shown) :: some (.int (b : Nat)) :: some (.bool false) :: some (.str r.str) :: some (.str (tx (if b > 10 then [64] else [101]))) :: some (.str (tx (pre b))) :: none :: some (.str (if s = 1 then Str.ofString "-" else Str.ofString "")) :: some (.str (tx DD)) :: some (.int (shownP pl lo hi)) :: some (.str (tx (rdg b (b / 2)))) :: none :: none :: some (.int e) :: some (.int (sp : Nat)) :: none :: none :: none :: none :: none :: none :: none :: none :: none :: none :: none :: none :: none :: none :: none :: none :: [])) (T := R) (B := fun _ _ => False) ?A2 ?B2 (fun _ _ h => h) (fun _ _ h => h)
          case A2 =>
            by_cases hp : lo < pl ∧ pl < hi
            · have hsh : shownP pl lo hi = 0 := by unfold shownP; rw [if_pos hp]
              rw [hsh]
              by_cases hneg : pl < 0
              · have hbd : body ds pl d lo hi = [48, 46] ++ (zs (-pl - 1).toNat ++ ds) := by unfold body; rw [if_pos hp, if_pos hneg]
                ktf_call M
                refine iftt (decide_eq_true hp.1) ?_
                ktf_call M
                refine iftt (decide_eq_true hp.2) ?_
                ktf_call M
                refine iftt (decide_eq_true hneg) ?_
                ktf_call M
                refine bin_rep (by decide) (by omega) (by omega) ?_
                rw [mul_zero_txt]
                ktf_call M
                refine bin_cat (by rw [tx_length]; simp [zs]; omega) (by rw [tx_length]; omega) ?_
                rw [tx_append]
                ktf_call M
                refine ⟨rfl, zs (-pl).toNat ++ ds, 1, ?_, by simp [zs]; omega, by simp [zs]; omega, rfl⟩
                rw [hbd]
                have : (-pl).toNat = (-pl - 1).toNat + 1 := by omega
                rw [this]
                rfl
              · have hbd : body ds pl d lo hi = (ds ++ zs (pl + 1 - d).toNat).take (pl + 1).toNat ++ ([46] ++ (ds ++ zs (pl + 1 - d).toNat).drop (pl + 1).toNat) := by unfold body; rw [if_pos hp, if_neg hneg]
                ktf_call M
                refine iftt (decide_eq_true hp.1) ?_
                ktf_call M
                refine iftt (decide_eq_true hp.2) ?_
                ktf_call M
                refine ifff (decide_eq_false hneg) ?_
                ktf_call M
                rw [show pl + 1 = (((pl + 1).toNat : Nat) : Int) by omega]
                refine ⟨fun h => ?_, fun h => ?_⟩
                · have h := of_decide_eq_true h
                  ktf_call M
                  refine bin_rep (by decide) (by omega) (by omega) ?_
                  rw [mul_zero_txt]
                  refine aug_cat (by rw [tx_length]; omega) (by rw [tx_length]; simp [zs]; omega) ?_
                  rw [tx_append]
                  ktf_call M
                  refine ⟨rfl, _, _, ?_, ?_, ?_, rfl⟩
                  · rw [hbd, show ((((pl + 1).toNat : Nat) : Int) - (d : Nat)).toNat = (pl + 1 - d).toNat by omega]
                  · simp [zs]; omega
                  · simp [zs]; omega
                · have h := of_decide_eq_false h
                  ktf_call M
                  refine ⟨rfl, _, _, ?_, ?_, ?_, rfl⟩
                  · rw [hbd, show (pl + 1 - d).toNat = 0 by omega]
                    simp [zs]
                  · omega
                  · omega
            · have hsh : shownP pl lo hi = pl := by unfold shownP; rw [if_neg hp]
              have hbd : body ds pl d lo hi = ds.take 1 ++ ([46] ++ ds.drop 1) := by unfold body; rw [if_neg hp]
              rw [hsh]
              ktf_call M
              refine ⟨fun h => ?_, fun h => ?_⟩
              · have h := of_decide_eq_true h
                ktf_call M
                refine ifff (decide_eq_false (fun h2 => hp ⟨h, h2⟩)) ?_
                ktf_call M
                exact ⟨rfl, ds, 1, hbd, by omega, by omega, rfl⟩
              · ktf_call M
                exact ⟨rfl, ds, 1, hbd, by omega, by omega, rfl⟩
          case B2 =>
            rintro v q ⟨rfl, DD, sp, hbd, hsp, hDD, rfl⟩
            have htl : (body ds pl d lo hi).length ≤ 1100 := by rw [hbd]; simp; omega
            have htd : 46 ∈ body ds pl d lo hi := body_dot
            ktf_call Ms
            refine sub_cut1 (by rw [tx_length]; omega) ?_
            rw [tx_take _ (by omega) (by omega), Int.toNat_natCast]
            ktf_call Me
            refine bin_cat (by rw [tx_length, List.length_take]; omega) (by decide) ?_
            rw [dot_txt, tx_append]
            ktf_call Me
            refine sub_cut1 (by rw [tx_length]; omega) ?_
            rw [tx_drop _ (by omega) (by omega), Int.toNat_natCast]
            refine bin_cat (by rw [tx_length]; simp; omega) (by rw [tx_length]; simp; omega) ?_
            rw [tx_append, List.append_assoc, ← hbd]
            ktf_call Me
            unfold textP at hR2
            generalize body ds pl d lo hi = t at *
            refine xs_cons ?_
            refine XT.mono (N := fun v q' => q' = q ∧ v = (some (.tup [.int s, .int (M : Nat), .int E, .int (bl M : Nat)]) :: some (.int (d : Nat)) :: some (.bool strk) :: some (.int lo) :: some (.int hi) :: some (.bool shown) :: some (.int (b : Nat)) :: some (.bool false) :: some (.str r.str) :: some (.str (tx (if b > 10 then [64] else [101]))) :: some (.str (tx (pre b))) :: none :: some (.str (if s = 1 then Str.ofString "-" else Str.ofString "")) :: some (.str (tx (if strk then struck t else t))) :: some (.int (shownP pl lo hi)) :: some (.str (tx (rdg b (b / 2)))) :: none :: none :: some (.int e) :: some (.int (sp : Nat)) :: none :: none :: none :: none :: none :: none :: none :: none :: none :: none :: none :: none :: none :: none :: none :: none :: [])) (T := R) (B := fun _ _ => False) ?A3 ?B3 (fun _ _ h => h) (fun _ _ h => h)
            case A3 =>
              cases strk with
              | false =>
                ktf_call M
                exact ⟨rfl, rfl⟩
              | true =>
                have h46 := rs_mem htd
                obtain ⟨l', z, hz⟩ : ∃ l' z, rs 48 t = l' ++ [z] := by
                  rcases List.eq_nil_or_concat (rs 48 t) with e | ⟨l', z, e⟩
                  · rw [e] at h46; simp at h46
                  · exact ⟨l', z, by simpa using e⟩
                have hrl : (rs 48 t).length ≤ 1100 := Nat.le_trans (rs_len _ _) htl
                ktf_call M
                refine ct_rstrip (by rw [tx_length]; omega) ?_
                rw [zero_txt, tx_rstrip, hz]
                ktf_call M
                refine sub_str (by decide) (by decide) (last_at l' z) ?_
                ktf_call M
                refine ⟨fun h => ?_, fun h => ?_⟩
                · have h3 : z = 46 := by rw [one_eq] at h; exact of_decide_eq_true h
                  ktf_call M
                  refine aug_cat (by rw [tx_length, ← hz]; omega) (by decide) ?_
                  rw [tx_append]
                  ktf_call M
                  refine ⟨rfl, ?_⟩
                  have : struck t = l' ++ [z] ++ [48] := by
                    unfold struck
                    rw [hz, List.getLast?_concat, h3, if_pos rfl]
                  rw [← this]; rfl
                · have h3 : z ≠ 46 := by rw [one_eq] at h; exact of_decide_eq_false h
                  ktf_call M
                  refine ⟨rfl, ?_⟩
                  have : struck t = l' ++ [z] := by
                    unfold struck
                    rw [hz, List.getLast?_concat, if_neg (by simpa using h3)]
                  rw [← this]; rfl
            case B3 =>
              rintro v q' ⟨rfl, rfl⟩
              generalize htt : (if strk = true then struck t else t) = tt at *
              have httl : tt.length ≤ 1200 := by
                rw [← htt]
                split
                · have := struck_len t; omega
                · omega
              have hs1 : -451 ≤ shownP pl lo hi ∧ shownP pl lo hi ≤ 451 := by unfold shownP; split <;> omega
              generalize shownP pl lo hi = sh at *
              have hsl := shw_len (x := sh) (by omega) (by omega)
              have hpre := pre_len b
              have hsg : (if s = 1 then Str.ofString "-" else Str.ofString "") = tx (if decide (s = 1) = true then [45] else []) := by
                rcases hs with rfl | rfl <;> decide +kernel
              rw [hsg]
              have hsgl : (if decide (s = 1) = true then [45] else []).length ≤ 1 := by rcases hs with rfl | rfl <;> decide
              generalize (if decide (s = 1) = true then [45] else []) = sg at *
              refine xs_nil ?_
              ktf_call Ms
              refine aug_cat (by rw [tx_length]; omega) (by rw [tx_length]; omega) ?_
              rw [tx_append]
              ktf_call M
              have htl2 : ((if b > 10 then [64] else [101]) : List Nat).length = 1 := by split <;> rfl
              have longer : ∀ X : PV → Prop, X (.str (tx (sg ++ pre b ++ tt ++ ((if b > 10 then [64] else [101]) ++ shw sh)))) → X (.str (tx (sg ++ pre b ++ tt ++ (if b > 10 then [64] else [101]) ++ shw sh))) := by
                intro X hX; rw [List.append_assoc (sg ++ pre b ++ tt)]; exact hX
              unfold tailP at hR2
              by_cases hz : sh = 0
              · subst hz
                refine iftt (by decide) ?_
                ktf_call M
                refine iftt (by simp; omega) ?_
                cases shown with
                | false =>
                  rw [if_neg (by simp), List.append_nil] at hR2
                  ktf_call M
                  refine bin_cat (by rw [tx_length, List.length_append]; omega) (by rw [tx_length]; omega) ?_
                  rw [tx_append]
                  exact hR2
                | true =>
                  rw [if_pos (.inr rfl)] at hR2
                  ktf_call M
                  refine bin_cat (by rw [tx_length, List.length_append]; omega) (by rw [tx_length]; omega) ?_
                  rw [tx_append]
                  ktf_call M
                  refine bin_cat (by rw [tx_length, List.length_append, List.length_append]; omega) (by rw [tx_length]; omega) ?_
                  rw [tx_append]
                  refine ev_plus ?_
                  ktf_call M
                  refine ⟨by decide, ?_⟩
                  refine bin_cat (by rw [tx_length, List.length_append, List.length_append, List.length_append]; omega) (by rw [tx_length]; omega) ?_
                  rw [tx_append]
                  exact longer (fun p => R p q') hR2
              · rw [if_pos (.inl hz)] at hR2
                refine ifff (by simpa using hz) ?_
                ktf_call M
                refine bin_cat (by rw [tx_length, List.length_append]; omega) (by rw [tx_length]; omega) ?_
                rw [tx_append]
                ktf_call M
                refine bin_cat (by rw [tx_length, List.length_append, List.length_append]; omega) (by rw [tx_length]; omega) ?_
                rw [tx_append]
                refine ev_plus ?_
                ktf_call M
                refine ⟨by omega, ?_⟩
                refine bin_cat (by rw [tx_length, List.length_append, List.length_append, List.length_append]; omega) (by rw [tx_length]; omega) ?_
                rw [tx_append]
                exact longer (fun p => R p q') hR2
theorem to_str_c {S : Static thePr} {n : Nat} {M b d k : Nat} {s E : Int} {r : Rnd} {low high : Option Int} {strk shown : Bool} {σ : List PV} {R : PV → List PV → Prop} (hb : b = 10 ∨ b = 2 ∨ b = 8 ∨ b = 16) (hs : s = 0 ∨ s = 1) (hM : 0 < M) (hbl : bl M ≤ 60)
    (hd : 1 ≤ d) (hd2 : d ≤ 30) (hE : -400 ≤ E) (hE2 : E ≤ 400)
    (h1 : b ^ k ≤ sbN b (d + 10) M E) (h2 : sbN b (d + 10) M E < b ^ (k + 1)) (hk : k ≤ 400) (hdk : d ≤ k) (hkx : -450 ≤ (k : Int) - (fixdps b (fixp b (d + 10) (E + bl M)) : Nat)) (hkx2 : (k : Int) - (fixdps b (fixp b (d + 10) (E + bl M)) : Nat) ≤ 450)
    (hR : R (.str (tx (textP (if rnd s r (sbN b (d + 10) M E) (b ^ (k + 1 - d)) = b ^ d then dgs b d (b ^ (d - 1)) else dgs b d (rnd s r (sbN b (d + 10) M E) (b ^ (k + 1 - d))))
      (if rnd s r (sbN b (d + 10) M E) (b ^ (k + 1 - d)) = b ^ d then (k : Int) - (fixdps b (fixp b (d + 10) (E + bl M)) : Nat) + 1 else (k : Int) - (fixdps b (fixp b (d + 10) (E + bl M)) : Nat)) d (loP d low) (hiP d high) strk shown (decide (s = 1)) b))) σ) :
    CallTo S (n + 4) (.fn 41) [.tup [.int s, .int (M : Nat), .int E, .int (bl M : Nat)], .int (d : Nat), .bool strk, oint low, oint high, .bool shown, .int (b : Nat), .bool false, .str r.str] σ R :=
  call_fn rfl sok41 bind41_9 (by ktf_call Mini) (to_str_x hb hs hM hbl hd hd2 hE hE2 h1 h2 hk hdk hkx hkx2 hR)
theorem to_str2_c {S : Static thePr} {n : Nat} {M d k : Nat} {s E : Int}  {σ : List PV} {R : PV → List PV → Prop}  (hs : s = 0 ∨ s = 1) (hM : 0 < M) (hbl : bl M ≤ 60)
    (hd : 1 ≤ d) (hd2 : d ≤ 30) (hE : -400 ≤ E) (hE2 : E ≤ 400)
    (h1 : 10 ^ k ≤ sbN 10 (d + 10) M E) (h2 : sbN 10 (d + 10) M E < 10 ^ (k + 1)) (hk : k ≤ 400) (hdk : d ≤ k) (hkx : -450 ≤ (k : Int) - (fixdps 10 (fixp 10 (d + 10) (E + bl M)) : Nat)) (hkx2 : (k : Int) - (fixdps 10 (fixp 10 (d + 10) (E + bl M)) : Nat) ≤ 450)
    (hR : R (.str (tx (textP (if rnd s .n (sbN 10 (d + 10) M E) (10 ^ (k + 1 - d)) = 10 ^ d then dgs 10 d (10 ^ (d - 1)) else dgs 10 d (rnd s .n (sbN 10 (d + 10) M E) (10 ^ (k + 1 - d))))
      (if rnd s .n (sbN 10 (d + 10) M E) (10 ^ (k + 1 - d)) = 10 ^ d then (k : Int) - (fixdps 10 (fixp 10 (d + 10) (E + bl M)) : Nat) + 1 else (k : Int) - (fixdps 10 (fixp 10 (d + 10) (E + bl M)) : Nat)) d (loP d none) (hiP d none) true false (decide (s = 1)) 10))) σ) :
    CallTo S (n + 4) (.fn 41) [.tup [.int s, .int (M : Nat), .int E, .int (bl M : Nat)], .int (d : Nat)] σ R :=
  call_fn rfl sok41 bind41_2 (by ktf_call Mini) (to_str_x (b := 10) (r := .n) (low := none) (high := none) (strk := true) (shown := false) (.inl rfl) hs hM hbl hd hd2 hE hE2 h1 h2 hk hdk hkx hkx2 hR)
/-- the letter ahead of the exponent -/
def sepc (b : Nat) : Nat := if b > 10 then 64 else 101
def tailO (b : Nat) : Option Int → List Nat
  | none => []
  | some e => sepc b :: shw e
def told (b : Nat) (neg : Bool) (P Q : List Nat) (e : Option Int) : List Nat := ((if neg then [45] else []) ++ pre b ++ P) ++ 46 :: (Q ++ tailO b e)
structure Toldy (b : Nat) (P Q : List Nat) (e : Option Int) : Prop where
  hb : b = 10 ∨ b = 2 ∨ b = 8 ∨ b = 16
  p0 : P ≠ []
  p : ∀ c ∈ P, isDg b c
  q : ∀ c ∈ Q, isDg b c
  len : P.length + Q.length ≤ 560
  e : ∀ i, e = some i → -100 ≤ i ∧ i ≤ 100
theorem sg_chars (neg : Bool) {c : Nat} (h : c ∈ (if neg then [45] else [])) : c = 45 := by
  cases neg
  · cases h
  · simpa using h
theorem pre_chars {b c : Nat} (h : c ∈ pre b) : (c = 48) ∨ (c = 98 ∧ b = 2) ∨ (c = 111 ∧ b = 8) ∨ (c = 120 ∧ b = 16) := by
  unfold pre at h
  split at h
  · simp at h; omega
  · split at h
    · simp at h; omega
    · split at h
      · simp at h; omega
      · cases h
theorem Toldy.front {b : Nat} {P Q : List Nat} {e : Option Int} (T : Toldy b P Q e) (neg : Bool) {c : Nat} (h : c ∈ (if neg then [45] else []) ++ pre b ++ P) :
    c = 45 ∨ (48 ≤ c ∧ c ≤ 57) ∨ (97 ≤ c ∧ c < 87 + b) ∨ (c = 98 ∧ b = 2) ∨ (c = 111 ∧ b = 8) ∨ (c = 120 ∧ b = 16) := by
  rw [List.mem_append, List.mem_append] at h
  rcases h with (h | h) | h
  · exact .inl (sg_chars neg h)
  · have := pre_chars h; omega
  · have := dg_range (T.p c h); omega
theorem Toldy.tail {b : Nat} {P Q : List Nat} {e : Option Int} (T : Toldy b P Q e) {c : Nat} (h : c ∈ tailO b e) : c = sepc b ∨ c = 43 ∨ c = 45 ∨ (48 ≤ c ∧ c ≤ 57) := by
  cases e with
  | none => cases h
  | some i =>
    have hi := T.e i rfl
    cases h with
    | head => exact .inl rfl
    | tail _ h => exact .inr (shw_chars (by omega) c h)
theorem Toldy.chars {b : Nat} {P Q : List Nat} {e : Option Int} (T : Toldy b P Q e) (neg : Bool) {c : Nat} (h : c ∈ told b neg P Q e) :
    c = 43 ∨ c = 45 ∨ c = 46 ∨ (48 ≤ c ∧ c ≤ 57) ∨ (97 ≤ c ∧ c < 87 + b) ∨ (c = 98 ∧ b = 2) ∨ (c = 111 ∧ b = 8) ∨ (c = 120 ∧ b = 16) ∨ c = sepc b := by
  unfold told at h
  rw [List.mem_append] at h
  rcases h with h | h
  · have := T.front neg h; omega
  · cases h with
    | head => omega
    | tail _ h =>
      rcases List.mem_append.mp h with h | h
      · have := dg_range (T.q c h); omega
      · have := T.tail h; omega
theorem sepc_val {b : Nat} (hb : b = 10 ∨ b = 2 ∨ b = 8 ∨ b = 16) : (b ≤ 10 ∧ sepc b = 101) ∨ (b = 16 ∧ sepc b = 64) := by
  rcases hb with rfl | rfl | rfl | rfl <;> decide
theorem Toldy.length {b : Nat} {P Q : List Nat} {e : Option Int} (T : Toldy b P Q e) (neg : Bool) : (told b neg P Q e).length ≤ 580 := by
  unfold told
  have h1 := T.len
  have h2 : (if neg then [45] else []).length ≤ 1 := by cases neg <;> decide
  have h3 := pre_len b
  have h4 : (tailO b e).length ≤ 5 := by
    cases e with
    | none => exact Nat.zero_le _
    | some i => have := T.e i rfl; have := shw_len (x := i) (by omega) (by omega); simp [tailO]; omega
  simp only [List.length_append, List.length_cons]
  omega
theorem Toldy.still {b : Nat} {P Q : List Nat} {e : Option Int} (T : Toldy b P Q e) (neg : Bool) : KXs.Still (tx (told b neg P Q e)) := by
  intro c hc
  have hc : c ∈ told b neg P Q e := by simpa [tx] using hc
  have := T.chars neg hc
  have := sepc_val T.hb
  have hb := T.hb
  omega
theorem Toldy.free {b : Nat} {P Q : List Nat} {e : Option Int} (T : Toldy b P Q e) (neg : Bool) {c : Nat} (hc : c = 95 ∨ c = 112 ∨ c = 108 ∨ c = 47) : c ∉ told b neg P Q e := by
  intro h
  have := T.chars neg h
  have := sepc_val T.hb
  have hb := T.hb
  omega
theorem exists_k {b : Nat} (hb : 2 ≤ b) : ∀ {N : Nat}, 0 < N → ∃ k, b ^ k ≤ N ∧ N < b ^ (k + 1) := by
  intro N
  induction N using Nat.strongRecOn with
  | _ N ih =>
    intro h
    by_cases hlt : N < b
    · exact ⟨0, by rw [Nat.pow_zero]; exact h, by simpa using hlt⟩
    · have h1 : 0 < N / b := Nat.div_pos (by omega) (by omega)
      obtain ⟨k, h2, h3⟩ := ih (N / b) (Nat.div_lt_self h (by omega)) h1
      refine ⟨k + 1, ?_, ?_⟩
      · rw [Nat.pow_succ]
        exact (Nat.le_div_iff_mul_le (by omega)).mp h2
      · rw [Nat.pow_succ]
        exact (Nat.div_lt_iff_lt_mul (by omega)).mp h3
theorem tab_bitp {b D : Nat} (hb : b = 10 ∨ b = 2 ∨ b = 8 ∨ b = 16) (hD : D ≤ 40) : b ^ D * 2 ^ 9 ≤ 2 ^ bitp b D ∧ bitp b D ≤ 170 := by
  have h : ∀ D : Fin 41, (10 ^ D.val * 2 ^ 9 ≤ 2 ^ bitp 10 D.val ∧ bitp 10 D.val ≤ 170) ∧ (2 ^ D.val * 2 ^ 9 ≤ 2 ^ bitp 2 D.val ∧ bitp 2 D.val ≤ 170) ∧ (8 ^ D.val * 2 ^ 9 ≤ 2 ^ bitp 8 D.val ∧ bitp 8 D.val ≤ 170) ∧ (16 ^ D.val * 2 ^ 9 ≤ 2 ^ bitp 16 D.val ∧ bitp 16 D.val ≤ 170) := by decide +kernel
  have h := h ⟨D, by omega⟩
  rcases hb with rfl | rfl | rfl | rfl
  · exact h.1
  · exact h.2.1
  · exact h.2.2.1
  · exact h.2.2.2
theorem tab_fd {b fp : Nat} (hb : b = 10 ∨ b = 2 ∨ b = 8 ∨ b = 16) (hf : fp ≤ 420) : 2 ^ fp ≤ 4 * b ^ fixdps b fp ∧ b ^ fixdps b fp ≤ 4 * 2 ^ fp ∧ fixdps b fp ≤ fp := by
  have h10 : ∀ D : Fin 421, 2 ^ D.val ≤ 4 * 10 ^ fixdps 10 D.val ∧ 10 ^ fixdps 10 D.val ≤ 4 * 2 ^ D.val ∧ fixdps 10 D.val ≤ D.val := by decide +kernel
  have h2 : ∀ D : Fin 421, 2 ^ D.val ≤ 4 * 2 ^ fixdps 2 D.val ∧ 2 ^ fixdps 2 D.val ≤ 4 * 2 ^ D.val ∧ fixdps 2 D.val ≤ D.val := by decide +kernel
  have h8 : ∀ D : Fin 421, 2 ^ D.val ≤ 4 * 8 ^ fixdps 8 D.val ∧ 8 ^ fixdps 8 D.val ≤ 4 * 2 ^ D.val ∧ fixdps 8 D.val ≤ D.val := by decide +kernel
  have h16 : ∀ D : Fin 421, 2 ^ D.val ≤ 4 * 16 ^ fixdps 16 D.val ∧ 16 ^ fixdps 16 D.val ≤ 4 * 2 ^ D.val ∧ fixdps 16 D.val ≤ D.val := by decide +kernel
  rcases hb with rfl | rfl | rfl | rfl
  · exact h10 ⟨fp, by omega⟩
  · exact h2 ⟨fp, by omega⟩
  · exact h8 ⟨fp, by omega⟩
  · exact h16 ⟨fp, by omega⟩
/-- the sizes at which to_digits keeps the whole number -/
structure SbOk (b D M : Nat) (E : Int) : Prop where
  hb : b = 10 ∨ b = 2 ∨ b = 8 ∨ b = 16
  hD : D ≤ 40
  hM : 0 < M
  hbl : bl M ≤ bitp b D
  hx : -250 ≤ E + bl M
  hx2 : E + bl M ≤ 300
/-- the bits and the digits behind the point -/
def fpO (b D M : Nat) (E : Int) : Nat := fixp b D (E + bl M)
def fdO (b D M : Nat) (E : Int) : Nat := fixdps b (fpO b D M E)
theorem SbOk.fp {b D M : Nat} {E : Int} (h : SbOk b D M E) : 0 ≤ E + fpO b D M E ∧ fpO b D M E ≤ 420 ∧ bitp b D ≤ (E + fpO b D M E).toNat + bl M ∧ (E + fpO b D M E).toNat + bl M ≤ 300 := by
  have h1 := (tab_bitp h.hb h.hD).2
  have h2 := h.hbl
  have h3 := h.hx
  have h4 := h.hx2
  unfold fpO fixp
  omega
theorem SbOk.sb {b D M : Nat} {E : Int} (h : SbOk b D M E) : sbN b D M E = M * 2 ^ (E + fpO b D M E).toNat * b ^ fdO b D M E / 2 ^ fpO b D M E := by
  have h1 := h.fp.1
  unfold sbN fixd
  rw [if_pos (by exact h1)]
  rfl
theorem SbOk.bounds {b D M : Nat} {E : Int} (h : SbOk b D M E) : b ^ D * 64 ≤ sbN b D M E ∧ sbN b D M E < 2 ^ 303 := by
  rw [h.sb]
  obtain ⟨h1, h2, h3, h4⟩ := h.fp
  obtain ⟨t1, t2⟩ := tab_bitp h.hb h.hD
  obtain ⟨u1, u2, u3⟩ := tab_fd h.hb h2
  have hM := h.hM
  have m1 := bl_le hM
  have m2 := bl_lt M
  have m3 := bl_pos hM
  have e : fdO b D M E = fixdps b (fpO b D M E) := rfl
  rw [← e] at u1 u2 u3
  generalize fpO b D M E = fp at *
  generalize fdO b D M E = fd at *
  generalize (E + fp).toNat = y at *
  generalize bl M = l at *
  have p1 : 2 ^ bitp b D ≤ 2 ^ (y + l) := Nat.pow_le_pow_right (by decide) h3
  have p2 : 2 ^ (y + l) = 2 * 2 ^ (l - 1) * 2 ^ y := by
    have : y + l = 1 + (l - 1) + y := by omega
    rw [this, Nat.pow_add, Nat.pow_add]
  have p3 : 2 ^ (l - 1) * 2 ^ y ≤ M * 2 ^ y := Nat.mul_le_mul_right _ m1
  have p4 : b ^ D * 2 ^ 8 ≤ M * 2 ^ y := by
    rw [Nat.mul_assoc] at p2
    have : b ^ D * 2 ^ 9 = 2 * (b ^ D * 2 ^ 8) := by omega
    omega
  have p5 : M * 2 ^ y < 2 ^ (y + l) := by
    rw [Nat.add_comm y l, Nat.pow_add]
    exact Nat.mul_lt_mul_of_pos_right m2 (two_pow_pos' y)
  have p6 : 2 ^ (y + l) ≤ 2 ^ 300 := Nat.pow_le_pow_right (by decide) h4
  refine ⟨?_, ?_⟩
  · rw [Nat.le_div_iff_mul_le (two_pow_pos' fp)]
    calc b ^ D * 64 * 2 ^ fp ≤ b ^ D * 64 * (4 * b ^ fd) := Nat.mul_le_mul_left _ u1
      _ = b ^ D * 2 ^ 8 * b ^ fd := by rw [← Nat.mul_assoc, Nat.mul_assoc _ 64 4]
      _ ≤ M * 2 ^ y * b ^ fd := Nat.mul_le_mul_right _ p4
  · rw [Nat.div_lt_iff_lt_mul (two_pow_pos' fp)]
    have hq : M * 2 ^ y ≤ 2 ^ 300 := by omega
    calc M * 2 ^ y * b ^ fd ≤ 2 ^ 300 * (4 * 2 ^ fp) := Nat.mul_le_mul hq u2
      _ = 2 ^ (300 + 2) * 2 ^ fp := by rw [← Nat.mul_assoc, Nat.pow_add 2 300 2]
      _ < 2 ^ 303 * 2 ^ fp := Nat.mul_lt_mul_of_pos_right (Nat.pow_lt_pow_right (by decide) (by decide)) (two_pow_pos' fp)
theorem two_le {b : Nat} (hb : b = 10 ∨ b = 2 ∨ b = 8 ∨ b = 16) : 2 ≤ b := by omega
/-- the digits' places -/
theorem SbOk.place {b D M : Nat} {E : Int} (h : SbOk b D M E) : ∃ k, b ^ k ≤ sbN b D M E ∧ sbN b D M E < b ^ (k + 1) ∧ D ≤ k ∧ k ≤ 303 ∧ (fdO b D M E : Nat) ≤ 420 := by
  obtain ⟨h1, h2⟩ := h.bounds
  have hb := two_le h.hb
  have hp : 0 < b ^ D := Nat.pow_pos (by omega)
  obtain ⟨k, k1, k2⟩ := exists_k hb (N := sbN b D M E) (by omega)
  refine ⟨k, k1, k2, ?_, ?_, ?_⟩
  · have : b ^ D < b ^ (k + 1) := by omega
    rw [Nat.pow_lt_pow_iff_right (by omega)] at this
    omega
  · have : 2 ^ k ≤ b ^ k := Nat.pow_le_pow_left hb k
    have : 2 ^ k < 2 ^ 303 := Nat.lt_of_le_of_lt this (Nat.lt_of_le_of_lt k1 h2)
    rw [Nat.pow_lt_pow_iff_right (by decide)] at this
    omega
  · have := (tab_fd h.hb h.fp.2.1).2.2
    have := h.fp.2.1
    have e : fdO b D M E = fixdps b (fpO b D M E) := rfl
    omega
/-- where no bit is lost -/
theorem SbOk.exact {b D M : Nat} {E : Int} (h : SbOk b D M E) (he : (-E).toNat ≤ fdO b D M E) : sbN b D M E * 2 ^ fpO b D M E = M * 2 ^ (E + fpO b D M E).toNat * b ^ fdO b D M E := by
  rw [h.sb]
  apply Nat.div_mul_cancel
  have h1 := h.fp.1
  obtain ⟨c, hc⟩ : ∃ c, b = 2 * c := ⟨b / 2, by have := h.hb; omega⟩
  have e1 : M * 2 ^ (E + fpO b D M E).toNat * b ^ fdO b D M E = 2 ^ ((E + fpO b D M E).toNat + fdO b D M E) * (M * c ^ fdO b D M E) := by
    rw [hc, Nat.mul_pow, Nat.pow_add]; ac_rfl
  rw [e1]
  exact Nat.dvd_trans (Nat.pow_dvd_pow 2 (by omega)) (Nat.dvd_mul_right _ _)
/-- the small number: a few bits behind the point -/
theorem small_fd {b d w : Nat} {deep : Int} (hb : b = 10 ∨ b = 2 ∨ b = 8 ∨ b = 16) (hd : 1 ≤ d) (hd2 : d ≤ 12) (hw : 0 < w) (hw2 : w < 4096) (h1 : -10 ≤ deep) (h2 : deep ≤ 40) :
    SbOk b (d + 10) (od w) (deep + tz w) ∧ (-(deep + tz w)).toNat ≤ fdO b (d + 10) (od w) (deep + tz w) := by
  have e1 := bl_od hw
  have e2 : bl w ≤ 12 := bl_le_of_lt (k := 12) hw2
  have e3 := bl_pos (od_pos hw)
  have hbit : 21 ≤ bitp b (d + 10) ∧ (b = 10 → 46 ≤ bitp b (d + 10)) ∧ (b = 8 → 43 ≤ bitp b (d + 10)) ∧ (b = 16 → 54 ≤ bitp b (d + 10)) := by
    unfold bitp lg un
    rcases hb with rfl | rfl | rfl | rfl <;> simp <;> omega
  refine ⟨⟨hb, by omega, od_pos hw, by omega, by omega, by omega⟩, ?_⟩
  unfold fdO fpO fixp
  have hx : deep + tz w + bl (od w) = deep + bl w := by omega
  rw [hx]
  by_cases hE : 0 ≤ deep + tz w
  · have : (-(deep + tz w)).toNat = 0 := by omega
    omega
  · have hf : bitp b (d + 10) - 12 + (-(deep + tz w)).toNat ≤ (((bitp b (d + 10) : Nat) : Int) - (deep + bl w)).toNat := by omega
    have he : (-(deep + tz w)).toNat ≤ 10 := by omega
    generalize (((bitp b (d + 10) : Nat) : Int) - (deep + bl w)).toNat = fp at *
    generalize (-(deep + tz w)).toNat = e at *
    generalize bitp b (d + 10) = bp at *
    unfold fixdps lg un
    rcases hb with rfl | rfl | rfl | rfl
    · have := hbit.2.1 rfl
      rw [Nat.le_div_iff_mul_le (by decide)]
      simp
      omega
    · rw [Nat.le_div_iff_mul_le (by decide)]
      simp
      omega
    · have := hbit.2.2.1 rfl
      rw [Nat.le_div_iff_mul_le (by decide)]
      simp
      omega
    · have := hbit.2.2.2 rfl
      rw [Nat.le_div_iff_mul_le (by decide)]
      simp
      omega
theorem rs_split {c x : Nat} (hx : x ≠ c) (A : List Nat) : ∀ (n : Nat) (B : List Nat), B.length = n → rs c (A ++ x :: B) = A ++ x :: rs c B
  | 0, B, h => by
    rw [List.length_eq_zero_iff] at h; subst h
    show rs c (A ++ [x]) = _
    rw [rs_snoc, if_neg hx]; rfl
  | n + 1, B, h => by
    rcases List.eq_nil_or_concat B with e | ⟨B', z, e⟩
    · subst e; simp at h
    · have e : B = B' ++ [z] := by simpa using e
      subst e
      have ih := rs_split hx A n B' (by simpa using h)
      have e2 : A ++ x :: (B' ++ [z]) = (A ++ x :: B') ++ [z] := by simp
      rw [e2, rs_snoc, rs_snoc]
      by_cases hz : z = c
      · rw [if_pos hz, if_pos hz, ih]
      · rw [if_neg hz, if_neg hz]; simp
theorem rs_rs (c : Nat) : ∀ (n : Nat) (B : List Nat), B.length = n → rs c (rs c B) = rs c B
  | 0, B, h => by rw [List.length_eq_zero_iff] at h; subst h; rfl
  | n + 1, B, h => by
    rcases List.eq_nil_or_concat B with e | ⟨B', z, e⟩
    · subst e; simp at h
    · have e : B = B' ++ [z] := by simpa using e
      subst e
      rw [rs_snoc]
      by_cases hz : z = c
      · rw [if_pos hz]; exact rs_rs c n B' (by simpa using h)
      · rw [if_neg hz, rs_snoc, if_neg hz]
theorem rs_sub (c : Nat) {l : List Nat} {d : Nat} (h : d ∈ rs c l) : d ∈ l := by
  unfold rs at h
  rw [List.mem_reverse] at h
  exact List.mem_reverse.mp (List.dropWhile_sublist _ |>.subset h)
/-- the struck rest behind the point -/
def strQ (Q : List Nat) : List Nat := if rs 48 Q = [] then [48] else rs 48 Q
theorem struck_split (P : List Nat) {Q : List Nat} (hQ : 46 ∉ Q) : struck (P ++ 46 :: Q) = P ++ 46 :: strQ Q := by
  unfold struck strQ
  rw [rs_split (by decide) P _ Q rfl]
  by_cases h : rs 48 Q = []
  · rw [if_pos h, h, if_pos (by simp)]; simp
  · rw [if_neg h, if_neg]
    intro h2
    obtain ⟨l, z, e⟩ : ∃ l z, rs 48 Q = l ++ [z] := by
      rcases List.eq_nil_or_concat (rs 48 Q) with e | ⟨l', z, e⟩
      · exact absurd e h
      · exact ⟨l', z, by simpa using e⟩
    have e2 : P ++ 46 :: rs 48 Q = (P ++ 46 :: l) ++ [z] := by rw [e]; simp
    rw [e2, List.getLast?_concat] at h2
    injection h2 with h2
    exact hQ (rs_sub 48 (by rw [e, ← h2]; simp))
theorem rs_strQ (Q : List Nat) : rs 48 (strQ Q) = rs 48 Q := by
  unfold strQ
  by_cases h : rs 48 Q = []
  · rw [if_pos h, h]; rfl
  · rw [if_neg h]; exact rs_rs 48 _ Q rfl
theorem strQ_dg {b : Nat} (hb : 2 ≤ b) {Q : List Nat} (h : ∀ c ∈ Q, isDg b c) : ∀ c ∈ strQ Q, isDg b c := by
  unfold strQ
  intro c hc
  split at hc
  · exact ⟨0, by omega, List.mem_singleton.mp hc⟩
  · exact h c (rs_sub 48 hc)
theorem strQ_len (Q : List Nat) : (strQ Q).length ≤ Q.length + 1 := by
  unfold strQ
  split
  · simp
  · have := rs_len 48 Q; omega
theorem body_split {b d : Nat} {ds : List Nat} {place low high : Int} (hb : 2 ≤ b) (hl : ds.length = d) (hd : 1 ≤ d) (hd2 : d ≤ 30) (hdg : ∀ c ∈ ds, isDg b c) (h1 : -100 ≤ place) (h2 : place ≤ 100) :
    ∃ P Q, ∃ j : Nat, body ds place d low high = P ++ 46 :: Q ∧ P ≠ [] ∧ (∀ c ∈ P, isDg b c) ∧ (∀ c ∈ Q, isDg b c) ∧ P.length + Q.length ≤ 150 ∧ vl b (P ++ Q) = vl b ds * b ^ j ∧ shownP place low high - Q.length + j = place - d + 1 := by
  have z48 : isDg b 48 := ⟨0, by omega, rfl⟩
  have hz : ∀ k, ∀ c ∈ zs k, isDg b c := fun k c hc => by
    have := List.eq_of_mem_replicate hc
    rw [this]; exact z48
  unfold body shownP
  by_cases hp : low < place ∧ place < high
  · rw [if_pos hp, if_pos hp]
    by_cases hn : place < 0
    · rw [if_pos hn]
      refine ⟨[48], zs (-place - 1).toNat ++ ds, 0, rfl, by simp, ?_, ?_, ?_, ?_, ?_⟩
      · intro c hc; rw [List.mem_singleton] at hc; rw [hc]; exact z48
      · intro c hc
        rcases List.mem_append.mp hc with h | h
        · exact hz _ c h
        · exact hdg c h
      · simp [zs, hl]; omega
      · have e : [48] ++ (zs (-place - 1).toNat ++ ds) = zs ((-place - 1).toNat + 1) ++ ds := rfl
        rw [e, vl_append, show vl b (zs ((-place - 1).toNat + 1)) = 0 from vl_zeros b _]
        simp
      · simp [zs, hl]; omega
    · rw [if_neg hn]
      refine ⟨(ds ++ zs (place + 1 - d).toNat).take (place + 1).toNat, (ds ++ zs (place + 1 - d).toNat).drop (place + 1).toNat, (place + 1 - d).toNat, rfl, ?_, ?_, ?_, ?_, ?_, ?_⟩
      · intro h
        have := congrArg List.length h
        simp [zs, hl] at this
        omega
      · intro c hc
        rcases List.mem_append.mp (List.mem_of_mem_take hc) with h | h
        · exact hdg c h
        · exact hz _ c h
      · intro c hc
        rcases List.mem_append.mp (List.mem_of_mem_drop hc) with h | h
        · exact hdg c h
        · exact hz _ c h
      · simp [zs, hl]; omega
      · rw [List.take_append_drop, vl_append, show vl b (zs (place + 1 - d).toNat) = 0 from vl_zeros b _]
        simp [zs]
      · simp [zs, hl]; omega
  · rw [if_neg hp, if_neg hp]
    refine ⟨ds.take 1, ds.drop 1, 0, rfl, ?_, ?_, ?_, ?_, ?_, ?_⟩
    · intro h
      have := congrArg List.length h
      simp [hl] at this
      omega
    · exact fun c hc => hdg c (List.mem_of_mem_take hc)
    · exact fun c hc => hdg c (List.mem_of_mem_drop hc)
    · simp [hl]; omega
    · rw [List.take_append_drop]; simp
    · simp [hl]; omega
/-- the text is one that can be read -/
theorem textP_told {b d : Nat} {ds : List Nat} {place low high : Int} {strk shown minus : Bool} (hb : b = 10 ∨ b = 2 ∨ b = 8 ∨ b = 16) (hl : ds.length = d) (hd : 1 ≤ d) (hd2 : d ≤ 30) (hdg : ∀ c ∈ ds, isDg b c) (h1 : -100 ≤ place) (h2 : place ≤ 100) :
    ∃ P Q e, ∃ j t : Nat, P.length + Q.length ≤ 160 ∧ (-100 ≤ e.getD 0 ∧ e.getD 0 ≤ 100) ∧ textP ds place d low high strk shown minus b = told b minus P Q e ∧ Toldy b P Q e ∧ vl b (P ++ rs 48 Q) * b ^ t = vl b ds * b ^ j ∧ e.getD 0 - ((rs 48 Q).length : Nat) - t + j = place - d + 1 := by
  have hb2 := two_le hb
  obtain ⟨P, Q, j, e1, p0, pd, qd, pl, v1, v2⟩ := body_split (low := low) (high := high) hb2 hl hd hd2 hdg h1 h2
  obtain ⟨t, ht⟩ := rs_noughts _ Q rfl
  have hv : vl b (P ++ rs 48 Q) * b ^ t = vl b ds * b ^ j := by
    rw [← v1]
    conv => rhs; rw [ht, ← List.append_assoc, vl_append, show vl b (zs t) = 0 from vl_zeros b _]
    simp [zs]
  have hq : (rs 48 Q).length + t = Q.length := by
    have := congrArg List.length ht
    simp [zs] at this
    omega
  have hs : -100 ≤ shownP place low high ∧ shownP place low high ≤ 100 := by unfold shownP; split <;> omega
  have htail : tailP b (shownP place low high) shown = tailO b (if shownP place low high ≠ 0 ∨ shown = true then some (shownP place low high) else none) := by
    unfold tailP
    split
    · show _ = sepc b :: shw _
      unfold sepc
      split <;> rfl
    · rfl
  have hg : (if shownP place low high ≠ 0 ∨ shown = true then some (shownP place low high) else none).getD 0 = shownP place low high := by
    split
    · rfl
    · rename_i h
      show (0 : Int) = _
      have := fun h2 => h (.inl h2)
      omega
  have he : ∀ i, (if shownP place low high ≠ 0 ∨ shown = true then some (shownP place low high) else none) = some i → -100 ≤ i ∧ i ≤ 100 := by
    intro i h
    split at h
    · injection h with h; omega
    · cases h
  refine ⟨P, if strk then strQ Q else Q, _, j, t, by have := strQ_len Q; cases strk <;> simp <;> omega, by rw [hg]; exact hs, ?_, ⟨hb, p0, pd, ?_, ?_, he⟩, ?_, ?_⟩
  · unfold textP told
    rw [htail, e1, struck_split P (fun h => by have := dg_range (qd _ h); omega)]
    cases strk <;> simp
  · cases strk
    · exact qd
    · exact strQ_dg hb2 qd
  · have := strQ_len Q
    cases strk <;> simp <;> omega
  · cases strk
    · exact hv
    · simp only [if_true]; rw [rs_strQ]; exact hv
  · rw [hg]
    have : (rs 48 (if strk = true then strQ Q else Q)).length = (rs 48 Q).length := by
      cases strk
      · rfl
      · simp only [if_true]; rw [rs_strQ]
    rw [this]
    omega
theorem str_man_c {S : Static thePr} {n : Nat} {b : Nat} {neg : Bool} {P Q : List Nat} {e : Option Int} {σ : List PV} {R : PV → List PV → Prop} (T : Toldy b P Q e)
    (hR : R (.tup [.int (if neg then -((vl b (P ++ rs 48 Q) : Nat) : Int) else ((vl b (P ++ rs 48 Q) : Nat) : Int)), .int (e.getD 0 - ((rs 48 Q).length : Nat))]) σ) :
    CallTo S (n + 1) (.fn 42) [.str (tx (told b neg P Q e)), .int (b : Nat)] σ R := by
  have hlen := T.length neg
  refine call_fn rfl sok42 bind42_2 (by ktf_call Mini) ?_
  refine xs_cons ?_
  ktf_call Msta
  ktf_call Me
  refine ct_lower (by rw [tx_length]; omega) ?_
  rw [KXs.lower_still (T.still neg)]
  ktf_call Me
  refine ct_rstrip (by rw [tx_length]; omega) ?_
  rw [show Str.ofString "l" = tx [108] from by decide +kernel, tx_rstrip, rs_free (T.free neg (by decide))]
  ktf_call Me
  refine ct_replace_none ?_ ?_
  · rw [show Str.ofString "_" = tx [95] from by decide +kernel]
    exact occ_none (T.free neg (by decide))
  ktf_call Me
  refine xs_cons ?_
  refine XT.mono (N := fun v q => q = σ ∧ v = [some (.str (tx (told b neg P Q e))), some (.int (b : Nat)), some (.str (tx [sepc b])), none, none, none, none, none, none, none, none, none]) (T := R) (B := fun _ _ => False) ?A ?B (fun _ _ h => h) (fun _ _ h => h)
  case A =>
    have h1 : Str.ofString "e" = tx [101] := by decide +kernel
    have h2 : Str.ofString "@" = tx [64] := by decide +kernel
    rcases T.hb with rfl | rfl | rfl | rfl
    all_goals ktf_call M
    all_goals first | rw [h1] | rw [h2]
    all_goals exact ⟨rfl, rfl⟩
  case B =>
    rintro v q ⟨rfl, rfl⟩
    refine xs_cons ?_
    refine XT.mono (N := fun v q' => q' = q ∧ ∃ v3, v = [some (.str (tx (told b neg P Q e))), some (.int (b : Nat)), some (.str (tx [sepc b])), some v3, none, none, none, none, none, none, none, none]) (T := R) (B := fun _ _ => False) ?A ?B (fun _ _ h => h) (fun _ _ h => h)
    case A =>
      have hp : Str.ofString "p" = tx [112] := by decide +kernel
      rcases T.hb with rfl | rfl | rfl | rfl
      · ktf_call M
        refine ev_walrus ?_
        ktf_call M
        rw [show (Builtin.Int.intBits ((10 : Nat) : Int) : Int) - 1 = (3 : Int) from by decide +kernel]
        refine ct_pow (by decide) (by decide) (by decide) ?_
        ktf_call M
        exact ⟨rfl, _, rfl⟩
      · ktf_call M
        refine ev_walrus ?_
        ktf_call M
        rw [show (Builtin.Int.intBits ((2 : Nat) : Int) : Int) - 1 = (1 : Int) from by decide +kernel]
        refine ct_pow (by decide) (by decide) (by decide) ?_
        ktf_call M
        refine ⟨?_, Nat.le_of_ble_eq_true rfl⟩
        refine cmp_in_ints (ys := [1, 4]) ?_
        refine ⟨_, rfl, ?_⟩
        refine iftt (by decide) ?_
        ktf_call M
        rw [hp, find_none (T.free neg (by decide))]
        ktf_call M
        exact ⟨rfl, _, rfl⟩
      · ktf_call M
        refine ev_walrus ?_
        ktf_call M
        rw [show (Builtin.Int.intBits ((8 : Nat) : Int) : Int) - 1 = (3 : Int) from by decide +kernel]
        refine ct_pow (by decide) (by decide) (by decide) ?_
        ktf_call M
        refine ⟨?_, Nat.le_of_ble_eq_true rfl⟩
        refine cmp_in_ints (ys := [1, 4]) ?_
        refine ⟨_, rfl, ?_⟩
        refine ifff (by decide) ?_
        ktf_call M
        exact ⟨rfl, _, rfl⟩
      · ktf_call M
        refine ev_walrus ?_
        ktf_call M
        rw [show (Builtin.Int.intBits ((16 : Nat) : Int) : Int) - 1 = (4 : Int) from by decide +kernel]
        refine ct_pow (by decide) (by decide) (by decide) ?_
        ktf_call M
        refine ⟨?_, Nat.le_of_ble_eq_true rfl⟩
        refine cmp_in_ints (ys := [1, 4]) ?_
        refine ⟨_, rfl, ?_⟩
        refine iftt (by decide) ?_
        ktf_call M
        rw [hp, find_none (T.free neg (by decide))]
        ktf_call M
        exact ⟨rfl, _, rfl⟩
    case B =>
      rintro v q' ⟨rfl, v3, rfl⟩
      have hA : sepc b ∉ (if neg then [45] else []) ++ pre b ++ P ++ 46 :: Q := fun h => by
        have hv := sepc_val T.hb
        rcases List.mem_append.mp h with h | h
        · have := T.front neg h; omega
        · rcases List.mem_cons.mp h with h | h
          · omega
          · have := dg_range (T.q _ h)
            have hb := T.hb
            omega
      have hF : 46 ∉ (if neg then [45] else []) ++ pre b ++ P := fun h => by
        have := T.front neg h; omega
      have hQ : 46 ∉ Q := fun h => by have := dg_range (T.q _ h); omega
      generalize hfr : (if neg then [45] else []) ++ pre b ++ P = fr at *
      have htd : told b neg P Q e = fr ++ 46 :: (Q ++ tailO b e) := by unfold told; rw [hfr]
      have hfl : fr.length + Q.length ≤ 580 := by rw [htd] at hlen; simp at hlen; omega
      have hB : ∀ i, e = some i → sepc b ∉ shw i := fun i hi h => by
        have h1 := T.e i hi
        have := shw_chars (e := i) (by omega) _ h
        have hv := sepc_val T.hb
        omega
      obtain ⟨l, hl, hcase⟩ : ∃ l, Txt.split (tx (told b neg P Q e)) (tx [sepc b]) = l ∧ ((e = none ∧ l = [tx (fr ++ 46 :: Q)] ∧ told b neg P Q e = fr ++ 46 :: Q) ∨ ∃ i, e = some i ∧ l = [tx (fr ++ 46 :: Q), tx (shw i)]) := by
        cases e with
        | none =>
          have e1 : told b neg P Q none = fr ++ 46 :: Q := by rw [htd]; simp [tailO]
          exact ⟨_, rfl, .inl ⟨rfl, by rw [e1, split_none hA], e1⟩⟩
        | some i =>
          have e1 : told b neg P Q (some i) = (fr ++ 46 :: Q) ++ sepc b :: shw i := by rw [htd]; simp [tailO]
          exact ⟨_, rfl, .inr ⟨i, rfl, by rw [e1, split_one hA (hB i rfl)]⟩⟩
      ktf_call Ms
      refine ct_split (by rw [tx_length]; omega) (by rw [tx_length]; rfl) ?_
      rw [hl]
      ktf_call Me
      refine xs_cons ?_
      refine XT.mono (N := fun v q => q = q' ∧ ∃ v5, v = [some (.str (tx (fr ++ 46 :: Q))), some (.int (b : Nat)), some (.str (tx [sepc b])), some v3, some v5, some (.int (e.getD 0)), none, none, none, none, none, none]) (T := R) (B := fun _ _ => False) ?A3 ?B3 (fun _ _ h => h) (fun _ _ h => h)
      case A3 =>
        rcases hcase with ⟨rfl, rfl, e2⟩ | ⟨i, rfl, rfl⟩
        · rw [e2]
          ktf_call M
          refine ct_len_lst (by simp) ?_
          ktf_call M
          refine iftt (by simp) ?_
          ktf_call M
          exact ⟨rfl, _, rfl⟩
        · ktf_call M
          refine ct_len_lst (by simp) ?_
          ktf_call M
          refine ifff (by simp) ?_
          ktf_call M
          refine ct_len_lst (by simp) ?_
          ktf_call M
          refine iftt (by simp) ?_
          ktf_call M
          refine sub_lst (by decide) (by decide) rfl ?_
          ktf_call M
          refine sub_lst (by decide) (by decide) rfl ?_
          have h1 := T.e i rfl
          ktf_call M
          have h2 := shw_len (x := i) (by omega) (by omega)
          refine ct_int_text (int_shw (e := i) (by omega) (by omega)) (by rw [tx_length]; omega) ?_
          ktf_call M
          exact ⟨rfl, _, rfl⟩
      case B3 =>
        rintro v q ⟨rfl, v5, rfl⟩
        have hd : Str.ofString "." = tx [46] := dot_txt
        ktf_call Ms
        rw [hd]
        refine ct_split (by rw [tx_length]; simp; omega) (by rw [tx_length]; rfl) ?_
        rw [split_one hF hQ]
        ktf_call Me
        refine xs_cons ?_
        refine XT.mono (N := fun v q' => q' = q ∧ ∃ v6 v7 v8, v = [some (.str (tx (fr ++ rs 48 Q))), some (.int (b : Nat)), some (.str (tx [sepc b])), some v3, some v6, some (.int (e.getD 0 - ((rs 48 Q).length : Nat))), some v7, some v8, none, none, none, none]) (T := R) (B := fun _ _ => False) ?A4 ?B4 (fun _ _ h => h) (fun _ _ h => h)
        case A4 =>
          ktf_call M
          refine ct_len_lst (by simp) ?_
          ktf_call M
          refine iftt (by simp) ?_
          ktf_call M
          refine sub_lst (by decide) (by decide) rfl ?_
          ktf_call M
          refine sub_lst (by decide) (by decide) rfl ?_
          ktf_call M
          refine ct_rstrip (by rw [tx_length]; omega) ?_
          rw [zero_txt, tx_rstrip]
          ktf_call M
          refine ⟨?_, Nat.le_of_ble_eq_true rfl⟩
          ktf_call M
          have hp : Str.ofString "p" = tx [112] := by decide +kernel
          rw [hp]
          refine iftt (by have := sepc_val T.hb; rcases this with ⟨_, h⟩ | ⟨_, h⟩ <;> rw [h] <;> decide +kernel) ?_
          ktf_call M
          refine ct_len_str (by rw [tx_length]; have := rs_len 48 Q; omega) ?_
          rw [tx_length]
          ktf_call M
          have hem : Str.ofString "" = tx [] := by decide +kernel
          rw [hem]
          have hfn : fr ≠ [] := by
            intro h
            rw [h] at hfr
            have := congrArg List.length hfr
            simp at this
            exact T.p0 this.2.2
          have hne : (tx fr == tx []) = false := by
            rw [beq_eq_false_iff_ne]
            intro h
            exact hfn (tx_inj.mp h)
          refine ifff hne ?_
          ktf_call M
          refine bin_cat (by rw [tx_length]; omega) (by rw [tx_length]; have := rs_len 48 Q; omega) ?_
          rw [tx_append]
          ktf_call M
          exact ⟨rfl, _, _, _, rfl⟩
        case B4 =>
          rintro v q' ⟨rfl, v6, v7, v8, rfl⟩
          ktf_call Ms
          have hds : ∀ c ∈ P ++ rs 48 Q, isDg b c := fun c hc => by
            rcases List.mem_append.mp hc with h | h
            · exact T.p c h
            · exact T.q c (rs_sub 48 h)
          have hne : P ++ rs 48 Q ≠ [] := fun h => T.p0 (List.append_eq_nil_iff.mp h).1
          have hrl := rs_len 48 Q
          have hL := T.len
          have hread := read_based T.hb neg hne hds (by rw [List.length_append]; omega)
          have hbb := T.hb
          have hfe : fr ++ rs 48 Q = (if neg then [45] else []) ++ pre b ++ (P ++ rs 48 Q) := by rw [← hfr, List.append_assoc]
          have hall : ∀ c ∈ fr ++ rs 48 Q, c < 128 ∧ c ≠ 0 := fun c hc => by
            rcases List.mem_append.mp hc with h | h
            · rw [← hfr] at h
              have := T.front neg h
              omega
            · have := dg_range (T.q _ (rs_sub 48 h)); omega
          refine ct_int_base (i := if neg then -((vl b (P ++ rs 48 Q) : Nat) : Int) else ((vl b (P ++ rs 48 Q) : Nat) : Int)) (by omega) (by omega) (by rw [numSeen_tx hall, List.length_append]; omega) (by rw [numSeen_tx hall, hfe]; exact hread) (by rw [numSeen_tx hall, numText_tx fun c hc => (hall c hc).1]; simp) ?_
          ktf_call Me
          ktf_call Ms
          exact ⟨hR, Nat.le_of_ble_eq_true rfl⟩
theorem isPlace_le {A B b : Nat} (hb : 2 ≤ b) (hB : 0 < B) {p q : Int} (h : IsPlace A B b p) (h' : IsPlace A B b q) : q ≤ p := by
  have x := Nat.mul_le_mul_right (b ^ (-p).toNat) h'.1
  have y := Nat.mul_lt_mul_of_pos_right h.2 (Nat.pow_pos (n := (-q).toNat) (by omega : 0 < b))
  have e : A * b ^ (-q).toNat * b ^ (-p).toNat = A * b ^ (-p).toNat * b ^ (-q).toNat := by ac_rfl
  rw [e] at x
  have z := Nat.lt_of_le_of_lt x y
  have e1 : B * b ^ q.toNat * b ^ (-p).toNat = B * b ^ (q.toNat + (-p).toNat) := by rw [Nat.pow_add]; ac_rfl
  have e2 : B * b ^ (p.toNat + 1) * b ^ (-q).toNat = B * b ^ (p.toNat + 1 + (-q).toNat) := by rw [Nat.pow_add b (p.toNat + 1)]; ac_rfl
  rw [e1, e2, Nat.mul_lt_mul_left hB, Nat.pow_lt_pow_iff_right (by omega)] at z
  omega
theorem isPlace_unique {A B b : Nat} (hb : 2 ≤ b) (hB : 0 < B) {p q : Int} (h : IsPlace A B b p) (h' : IsPlace A B b q) : p = q := by
  have := isPlace_le hb hB h h'
  have := isPlace_le hb hB h' h
  omega
theorem place_of {A B b N k fd : Nat} (hb : 2 ≤ b) (hB : 0 < B) (hN1 : N * B ≤ A * b ^ fd) (hN2 : A * b ^ fd < (N + 1) * B) (h1 : b ^ k ≤ N) (h2 : N < b ^ (k + 1)) : IsPlace A B b ((k : Int) - fd) := by
  have hp : ∀ n, 0 < b ^ n := fun n => Nat.pow_pos (by omega)
  have e0 : ((k : Int) - fd).toNat + fd = k + (-((k : Int) - fd)).toNat := by omega
  generalize ((k : Int) - fd) = p at *
  unfold IsPlace
  constructor
  · apply Nat.le_of_mul_le_mul_right _ (hp fd)
    have e1 : B * b ^ p.toNat * b ^ fd = b ^ k * B * b ^ (-p).toNat := by
      rw [Nat.mul_assoc, ← Nat.pow_add, e0, Nat.pow_add]; ac_rfl
    rw [e1, Nat.mul_right_comm A]
    exact Nat.mul_le_mul_right _ (Nat.le_trans (Nat.mul_le_mul_right _ h1) hN1)
  · apply Nat.lt_of_mul_lt_mul_right (a := b ^ fd)
    have e1 : B * b ^ (p.toNat + 1) * b ^ fd = b ^ (k + 1) * B * b ^ (-p).toNat := by
      rw [Nat.mul_assoc, ← Nat.pow_add, show p.toNat + 1 + fd = (k + 1) + (-p).toNat by omega, Nat.pow_add]; ac_rfl
    rw [e1, Nat.mul_right_comm A]
    exact Nat.mul_lt_mul_of_pos_right (Nat.lt_of_lt_of_le hN2 (Nat.mul_le_mul_right _ h2)) (hp _)
theorem place_bound {A B b m m' : Nat} {p : Int} (hb : 2 ≤ b) (hA : 0 < A) (hB : 0 < B) (h : IsPlace A B b p) (hA2 : A < b ^ m) (hB2 : B ≤ b ^ m') : -(m' : Int) - 1 ≤ p ∧ p < m := by
  obtain ⟨h1, h2⟩ := h
  constructor
  · apply Int.not_lt.mp
    intro hp
    have e : (-p).toNat = (-p).toNat - 1 + 1 := by omega
    have e2 : p.toNat = 0 := by omega
    rw [e, e2, Nat.zero_add, Nat.pow_succ, Nat.pow_one, ← Nat.mul_assoc] at h2
    have h3 := Nat.lt_of_mul_lt_mul_right h2
    have h4 : b ^ ((-p).toNat - 1) ≤ A * b ^ ((-p).toNat - 1) := Nat.le_mul_of_pos_left _ hA
    have h5 : b ^ ((-p).toNat - 1) < b ^ m' := by omega
    rw [Nat.pow_lt_pow_iff_right (by omega)] at h5
    omega
  · apply Int.not_le.mp
    intro hp
    have e2 : (-p).toNat = 0 ∨ 0 ≤ p := by omega
    by_cases h0 : 0 ≤ p
    · rw [show (-p).toNat = 0 by omega, Nat.pow_zero, Nat.mul_one] at h1
      have h4 : b ^ p.toNat ≤ B * b ^ p.toNat := Nat.le_mul_of_pos_left _ hB
      have h5 : b ^ p.toNat < b ^ m := by omega
      rw [Nat.pow_lt_pow_iff_right (by omega)] at h5
      omega
    · omega
theorem laidF_of {A B b N k fd d : Nat} {s : Int} {r : Rnd} (hb : 2 ≤ b) (hB : 0 < B) (hN : N * B = A * b ^ fd) (hd : d ≤ k) : laidF s r A B b d ((k : Int) - fd) = rnd s r N (b ^ (k + 1 - d)) := by
  have hp : ∀ n, 0 < b ^ n := fun n => Nat.pow_pos (by omega)
  unfold laidF
  refine rnd_ratio s r (Nat.mul_pos hB (hp _)) (hp _) ?_
  have e0 : ((d : Int) - 1 - ((k : Int) - fd)).toNat + (k + 1 - d) = fd + (-((d : Int) - 1 - ((k : Int) - fd))).toNat := by omega
  generalize ((d : Int) - 1 - ((k : Int) - fd)) = z at *
  rw [Nat.mul_assoc, ← Nat.pow_add, e0, Nat.pow_add, ← Nat.mul_assoc, ← hN]
  ac_rfl
/-- what the small number is as a whole over a whole -/
theorem small_N {b d w : Nat} {deep : Int} (hb : b = 10 ∨ b = 2 ∨ b = 8 ∨ b = 16) (hd : 1 ≤ d) (hd2 : d ≤ 12) (hw : 0 < w) (hw2 : w < 4096) (h1 : -10 ≤ deep) (h2 : deep ≤ 40) :
    sbN b (d + 10) (od w) (deep + tz w) * 2 ^ (-deep).toNat = w * 2 ^ deep.toNat * b ^ fdO b (d + 10) (od w) (deep + tz w) := by
  obtain ⟨hS, he⟩ := small_fd hb hd hd2 hw hw2 h1 h2
  have h := hS.exact he
  have h0 := hS.fp.1
  generalize fpO b (d + 10) (od w) (deep + tz w) = fp at *
  generalize fdO b (d + 10) (od w) (deep + tz w) = fd at *
  generalize sbN b (d + 10) (od w) (deep + tz w) = N at *
  apply Nat.mul_right_cancel (two_pow_pos' fp)
  have e0 : (deep + tz w + fp).toNat + (-deep).toNat = tz w + deep.toNat + fp := by omega
  calc N * 2 ^ (-deep).toNat * 2 ^ fp = N * 2 ^ fp * 2 ^ (-deep).toNat := by ac_rfl
    _ = od w * b ^ fd * (2 ^ (deep + tz w + fp).toNat * 2 ^ (-deep).toNat) := by rw [h]; ac_rfl
    _ = od w * b ^ fd * (2 ^ tz w * 2 ^ deep.toNat * 2 ^ fp) := by rw [← Nat.pow_add, e0, Nat.pow_add, Nat.pow_add]
    _ = od w * 2 ^ tz w * 2 ^ deep.toNat * b ^ fd * 2 ^ fp := by ac_rfl
    _ = w * 2 ^ deep.toNat * b ^ fd * 2 ^ fp := by rw [od_mul]
/-! the great number -/
theorem rnd_half (s : Int) (N : Nat) {P : Nat} (hP : 0 < P) : 2 * (rnd s .n N P * P) ≤ 2 * N + P ∧ 2 * N ≤ 2 * (rnd s .n N P * P) + P := by
  have h1 := Nat.div_add_mod N P
  have h2 := Nat.mod_lt N hP
  unfold rnd
  have e : isMore s .n (N / P) (N % P) P = (decide (2 * (N % P) > P) || (decide (2 * (N % P) = P) && decide ((N / P) % 2 = 1))) := rfl
  rw [e]
  generalize N / P = q at *
  generalize N % P = r at *
  rw [Nat.mul_comm] at h1
  by_cases c1 : 2 * r > P
  · simp only [c1, decide_true, Bool.true_or, if_true]
    rw [Nat.add_mul, Nat.one_mul]; omega
  · simp only [c1, decide_false, Bool.false_or]
    by_cases c2 : (2 * r = P)
    · by_cases c3 : q % 2 = 1
      · simp only [c2, c3, decide_true, Bool.true_and, if_true]
        rw [Nat.add_mul, Nat.one_mul]; omega
      · simp only [c2, c3, decide_true, decide_false, Bool.and_false, Bool.false_eq_true, if_false]
        rw [Nat.add_zero]; omega
    · simp only [c2, decide_false, Bool.false_and, Bool.false_eq_true, if_false]
      rw [Nat.add_zero]; omega
theorem rnd_down {s : Int} {N P q x : Nat} (hP : 0 < P) (h : N = q * P + x) (hx : 2 * x < P) : N / P = q ∧ rnd s .n N P = q := by
  have e1 : N / P = q := by rw [h, Nat.mul_comm, Nat.mul_add_div hP, Nat.div_eq_of_lt (by omega), Nat.add_zero]
  have e2 : N % P = x := by rw [h, Nat.mul_comm, Nat.mul_add_mod, Nat.mod_eq_of_lt (by omega)]
  refine ⟨e1, ?_⟩
  unfold rnd isMore
  rw [e1, e2]
  simp only [show ¬ (2 * x > P) by omega, show ¬ (2 * x = P) by omega, decide_false, Bool.false_and, Bool.false_or, Bool.false_eq_true, if_false, Nat.add_zero]
theorem rnd_up {s : Int} {N P q x : Nat} (hP : 0 < P) (h : N = q * P + x) (hx : P < 2 * x) (hx2 : x < P) : N / P = q ∧ rnd s .n N P = q + 1 := by
  have e1 : N / P = q := by rw [h, Nat.mul_comm, Nat.mul_add_div hP, Nat.div_eq_of_lt (by omega), Nat.add_zero]
  have e2 : N % P = x := by rw [h, Nat.mul_comm, Nat.mul_add_mod, Nat.mod_eq_of_lt (by omega)]
  refine ⟨e1, ?_⟩
  unfold rnd isMore
  rw [e1, e2]
  simp only [show (2 * x > P) by omega, decide_true, Bool.true_or, if_true]
theorem near_core {s : Int} {bits A B M t i j : Nat} {E : Int} (hb : 0 < bits) (hM : 0 < M) (hB : 0 < B) (hlo : 2 ^ (bits - 1) ≤ M * 2 ^ t) (hhi : M * 2 ^ t < 2 ^ bits) (hij : E - t = (i : Int) - j)
    (h1 : 2 ^ (bits + 1) * (A * 2 ^ j - M * 2 ^ t * (B * 2 ^ i)) < M * 2 ^ t * (B * 2 ^ i)) (h2 : 2 ^ (bits + 1) * (M * 2 ^ t * (B * 2 ^ i) - A * 2 ^ j) < M * 2 ^ t * (B * 2 ^ i)) : RndOf s .n bits A B 0 (canon s M E) := by
  have hc : canon s M E = canon s (M * 2 ^ t) (E - t) := by
    rw [canon_shift s hM]; congr 1; omega
  have hβ : 0 < B * 2 ^ i := Nat.mul_pos hB (two_pow_pos' i)
  have hp1 : 2 ^ (bits + 1) = 2 * 2 ^ bits := by rw [Nat.pow_succ]; omega
  have hp2 : 2 ^ bits = 2 * 2 ^ (bits - 1) := by
    have : bits = (bits - 1) + 1 := by omega
    rw [this, Nat.pow_succ]; simp; omega
  have hpos := two_pow_pos' (bits - 1)
  rw [hc]
  generalize hα : A * 2 ^ j = α at *
  generalize hβe : B * 2 ^ i = β at *
  generalize hMe : M * 2 ^ t = m at *
  have key : ∀ x : Nat, 2 ^ (bits + 1) * x < m * β → 2 * x < β := by
    intro x hx
    have h3 : m * β < 2 ^ bits * β := Nat.mul_lt_mul_of_pos_right hhi hβ
    have h4 : 2 ^ bits * (2 * x) < 2 ^ bits * β := by
      rw [hp1] at hx
      have : 2 ^ bits * (2 * x) = 2 * 2 ^ bits * x := by ac_rfl
      omega
    exact Nat.lt_of_mul_lt_mul_left h4
  by_cases hge : m * β ≤ α
  · obtain ⟨x, hx⟩ : ∃ x, α = m * β + x := ⟨α - m * β, by omega⟩
    have hx2 := key x (by rw [hx] at h1; simpa using h1)
    obtain ⟨r1, r2⟩ := rnd_down (s := s) hβ hx hx2
    exact ⟨m, E - t, ⟨i, j, by omega, by rw [hα, hβe, r1]; exact hlo, by rw [hα, hβe, r1]; exact hhi, by rw [hα, hβe, r2]⟩, rfl⟩
  · obtain ⟨x, hx⟩ : ∃ x, m * β = α + x := ⟨m * β - α, by omega⟩
    have hx0 : 0 < x := by omega
    have h2' : 2 ^ (bits + 1) * x < m * β := by
      have : m * β - α = x := by omega
      rw [this] at h2; exact h2
    have hx2 := key x h2'
    by_cases hm : m = 2 ^ (bits - 1)
    · have h4 : 4 * x < β := by
        rw [hp1, hp2, hm] at h2'
        have : 2 ^ (bits - 1) * (4 * x) < 2 ^ (bits - 1) * β := by
          have : 2 ^ (bits - 1) * (4 * x) = 2 * (2 * 2 ^ (bits - 1)) * x := by
            have : 4 * x = 2 * 2 * x := by omega
            rw [this]; ac_rfl
          omega
        exact Nat.lt_of_mul_lt_mul_left this
      have hA2 : A * 2 ^ (j + 1) = (2 ^ bits - 1) * β + (β - 2 * x) := by
        have e1 : A * 2 ^ (j + 1) = 2 * α := by rw [Nat.pow_succ, ← hα]; ac_rfl
        have e2 : 2 ^ bits * β = 2 * (m * β) := by rw [hp2, hm]; ac_rfl
        rw [e1, Nat.sub_mul, Nat.one_mul, e2]
        have : β ≤ m * β := Nat.le_mul_of_pos_left _ (by omega)
        omega
      obtain ⟨r1, r2⟩ := rnd_up (s := s) hβ hA2 (by omega) (by omega)
      refine ⟨2 ^ bits, E - t - 1, ⟨i, j + 1, by omega, by rw [hβe, r1]; omega, by rw [hβe, r1]; omega, by rw [hβe, r2]; omega⟩, ?_⟩
      rw [hm]
      have := canon_shift s (m := 2 ^ (bits - 1)) hpos (E - t - 1) 1
      have e1 : 2 ^ (bits - 1) * 2 ^ 1 = 2 ^ bits := by omega
      rw [e1] at this
      rw [this]; congr 1; omega
    · obtain ⟨q, hq⟩ : ∃ q, m = q + 1 := ⟨m - 1, by omega⟩
      have hA2 : α = q * β + (β - x) := by
        rw [hq, Nat.add_mul, Nat.one_mul] at hx
        omega
      obtain ⟨r1, r2⟩ := rnd_up (s := s) hβ hA2 (by omega) (by omega)
      exact ⟨m, E - t, ⟨i, j, by omega, by rw [hα, hβe, r1]; omega, by rw [hα, hβe, r1]; omega, by rw [hα, hβe, r2, hq]⟩, rfl⟩
theorem near {s : Int} {bits A B M : Nat} {E : Int} (hb : 0 < bits) (hM : 0 < M) (hbl : bl M ≤ bits) (hB : 0 < B)
    (h1 : 2 ^ (bits + 1) * (A * 2 ^ (-E).toNat - M * 2 ^ E.toNat * B) < M * 2 ^ E.toNat * B) (h2 : 2 ^ (bits + 1) * (M * 2 ^ E.toNat * B - A * 2 ^ (-E).toNat) < M * 2 ^ E.toNat * B) : RndOf s .n bits A B 0 (canon s M E) := by
  have m1 := bl_le hM
  have m2 := bl_lt M
  have m3 := bl_pos hM
  have q1 : 2 ^ (bits - 1) ≤ M * 2 ^ (bits - bl M) := by
    have : bits - 1 = (bl M - 1) + (bits - bl M) := by omega
    rw [this, Nat.pow_add]
    exact Nat.mul_le_mul_right _ m1
  have q2 : M * 2 ^ (bits - bl M) < 2 ^ bits := by
    have e : bits = bl M + (bits - bl M) := by omega
    have : 2 ^ bits = 2 ^ bl M * 2 ^ (bits - bl M) := by rw [← Nat.pow_add, ← e]
    rw [this]
    exact Nat.mul_lt_mul_of_pos_right m2 (two_pow_pos' _)
  have hij : E - (bits - bl M : Nat) = ((E - (bits - bl M : Nat)).toNat : Int) - ((-(E - (bits - bl M : Nat))).toNat : Int) := by omega
  generalize hie : (E - (bits - bl M : Nat)).toNat = i at hij
  generalize hje : (-(E - (bits - bl M : Nat))).toNat = j at hij
  generalize bits - bl M = t at *
  have c1 : M * 2 ^ t * (B * 2 ^ i) * 2 ^ E.toNat = M * 2 ^ E.toNat * B * 2 ^ (t + i) := by rw [Nat.pow_add]; ac_rfl
  have c2 : A * 2 ^ j * 2 ^ E.toNat = A * 2 ^ (-E).toNat * 2 ^ (t + i) := by
    rw [Nat.mul_assoc, ← Nat.pow_add, Nat.mul_assoc, ← Nat.pow_add]
    congr 2; omega
  refine near_core (i := i) (j := j) hb hM hB q1 q2 hij ?_ ?_
  · apply Nat.lt_of_mul_lt_mul_right (a := 2 ^ E.toNat)
    rw [Nat.mul_assoc, Nat.sub_mul, c1, c2, ← Nat.sub_mul, ← Nat.mul_assoc]
    exact Nat.mul_lt_mul_of_pos_right h1 (two_pow_pos' _)
  · apply Nat.lt_of_mul_lt_mul_right (a := 2 ^ E.toNat)
    rw [Nat.mul_assoc, Nat.sub_mul, c1, c2, ← Nat.sub_mul, ← Nat.mul_assoc]
    exact Nat.mul_lt_mul_of_pos_right h2 (two_pow_pos' _)
theorem tab_rdps {bits : Nat} (h : 1 ≤ bits) (h2 : bits ≤ 53) : 11 * 2 ^ bits ≤ 10 * 10 ^ (rdps bits - 1) ∧ 1 ≤ rdps bits ∧ rdps bits ≤ 20 ∧ bits ≤ bitp 10 (rdps bits + 10) := by
  have : ∀ b : Fin 54, 1 ≤ b.val → 11 * 2 ^ b.val ≤ 10 * 10 ^ (rdps b.val - 1) ∧ 1 ≤ rdps b.val ∧ rdps b.val ≤ 20 ∧ b.val ≤ bitp 10 (rdps b.val + 10) := by decide +kernel
  exact this ⟨bits, by omega⟩ h
theorem great_near {s : Int} {bits d k N fd A0 B0 : Nat} (hB0 : 0 < B0) (hN1 : N * B0 ≤ A0 * 10 ^ fd) (hN2 : A0 * 10 ^ fd < (N + 1) * B0) (hk : 10 ^ k ≤ N) (hdk : d + 10 ≤ k) (hd : 1 ≤ d) (hdb : 11 * 2 ^ bits ≤ 10 * 10 ^ (d - 1)) :
    2 ^ (bits + 1) * (rnd s .n N (10 ^ (k + 1 - d)) * 10 ^ (k + 1 - d) * B0 - A0 * 10 ^ fd) < A0 * 10 ^ fd ∧ 2 ^ (bits + 1) * (A0 * 10 ^ fd - rnd s .n N (10 ^ (k + 1 - d)) * 10 ^ (k + 1 - d) * B0) < A0 * 10 ^ fd := by
  have hP : 100 ≤ 10 ^ (k + 1 - d) := by
    have : 10 ^ 2 ≤ 10 ^ (k + 1 - d) := Nat.pow_le_pow_right (by decide) (by omega)
    omega
  have hkP : 10 ^ k = 10 ^ (d - 1) * 10 ^ (k + 1 - d) := by rw [← Nat.pow_add]; congr 1; omega
  obtain ⟨r1, r2⟩ := rnd_half s N (P := 10 ^ (k + 1 - d)) (by omega)
  generalize 10 ^ (k + 1 - d) = P at *
  generalize rnd s .n N P * P = FP at *
  generalize 10 ^ (d - 1) = T at *
  have hp1 : 2 ^ (bits + 1) = 2 ^ bits * 2 := by rw [Nat.pow_succ]
  rw [hp1]
  have hpos := two_pow_pos' bits
  generalize 2 ^ bits = Z at *
  generalize A0 * 10 ^ fd = V at *
  -- V is at least T P B0
  have hV : T * P * B0 ≤ V := Nat.le_trans (Nat.mul_le_mul_right _ (by rw [← hkP]; exact hk)) hN1
  have hZ : Z * (P + 2) < T * P := by
    have a1 : 11 * (Z * P) ≤ 10 * (T * P) := by
      have := Nat.mul_le_mul_right P hdb
      rw [Nat.mul_assoc, Nat.mul_assoc] at this
      exact this
    have a2 : Z * 100 ≤ Z * P := Nat.mul_le_mul_left _ hP
    rw [Nat.mul_add]
    omega
  have hZB : Z * ((P + 2) * B0) < V := by
    have := Nat.mul_lt_mul_of_pos_right hZ hB0
    rw [Nat.mul_assoc] at this
    omega
  have b1 : 2 * (FP * B0) ≤ 2 * (N * B0) + P * B0 := by
    have := Nat.mul_le_mul_right B0 r1
    rw [Nat.add_mul, Nat.mul_assoc, Nat.mul_assoc] at this
    exact this
  have b2 : 2 * (N * B0) ≤ 2 * (FP * B0) + P * B0 := by
    have := Nat.mul_le_mul_right B0 r2
    rw [Nat.add_mul, Nat.mul_assoc, Nat.mul_assoc] at this
    exact this
  rw [Nat.add_mul, Nat.one_mul] at hN2
  rw [Nat.add_mul] at hZB
  constructor
  · refine Nat.lt_of_le_of_lt ?_ hZB
    rw [Nat.mul_assoc]
    exact Nat.mul_le_mul_left _ (by omega)
  · refine Nat.lt_of_le_of_lt ?_ hZB
    rw [Nat.mul_assoc]
    exact Nat.mul_le_mul_left _ (by omega)
theorem SbOk.cut {b D M : Nat} {E : Int} (h : SbOk b D M E) : sbN b D M E * 2 ^ (-E).toNat ≤ M * 2 ^ E.toNat * b ^ fdO b D M E ∧ M * 2 ^ E.toNat * b ^ fdO b D M E < (sbN b D M E + 1) * 2 ^ (-E).toNat := by
  rw [h.sb]
  have h1 := h.fp.1
  generalize fdO b D M E = fd
  have e0 : (E + fpO b D M E).toNat + (-E).toNat = E.toNat + fpO b D M E := by omega
  generalize fpO b D M E = fp at *
  have hp := two_pow_pos' fp
  have hd := Nat.div_add_mod (M * 2 ^ (E + fp).toNat * b ^ fd) (2 ^ fp)
  have hm := Nat.mod_lt (M * 2 ^ (E + fp).toNat * b ^ fd) hp
  have e1 : M * 2 ^ E.toNat * b ^ fd * 2 ^ fp = M * 2 ^ (E + fp).toNat * b ^ fd * 2 ^ (-E).toNat := by
    have : M * 2 ^ E.toNat * b ^ fd * 2 ^ fp = M * b ^ fd * (2 ^ E.toNat * 2 ^ fp) := by ac_rfl
    rw [this, ← Nat.pow_add, ← e0, Nat.pow_add]; ac_rfl
  generalize M * 2 ^ (E + fp).toNat * b ^ fd = V at *
  generalize V / 2 ^ fp = N at *
  constructor
  · apply Nat.le_of_mul_le_mul_right _ hp
    rw [e1, Nat.mul_right_comm]
    exact Nat.mul_le_mul_right _ (by rw [Nat.mul_comm]; omega)
  · apply Nat.lt_of_mul_lt_mul_right (a := 2 ^ fp)
    rw [e1, Nat.mul_right_comm]
    exact Nat.mul_lt_mul_of_pos_right (by rw [Nat.add_mul, Nat.mul_comm N]; omega) (two_pow_pos' _)
/-- the number and the place that are written -/
def Dg (b d X : Nat) : Nat := if X = b ^ d then b ^ (d - 1) else X
def Pl (b d X : Nat) (p : Int) : Int := if X = b ^ d then p + 1 else p
theorem dgs_Dg (b d X : Nat) : (if X = b ^ d then dgs b d (b ^ (d - 1)) else dgs b d X) = dgs b d (Dg b d X) := by unfold Dg; split <;> rfl
theorem rnd_range {b d k N : Nat} {s : Int} {r : Rnd} (hb : 2 ≤ b) (hd : 1 ≤ d) (hdk : d ≤ k) (h1 : b ^ k ≤ N) (h2 : N < b ^ (k + 1)) : b ^ (d - 1) ≤ rnd s r N (b ^ (k + 1 - d)) ∧ rnd s r N (b ^ (k + 1 - d)) ≤ b ^ d := by
  have hP : 0 < b ^ (k + 1 - d) := Nat.pow_pos (by omega)
  have h := rnd_le s r N (b ^ (k + 1 - d))
  have e1 : b ^ (d - 1) ≤ N / b ^ (k + 1 - d) := by
    rw [Nat.le_div_iff_mul_le hP, ← Nat.pow_add, show d - 1 + (k + 1 - d) = k by omega]; exact h1
  have e2 : N / b ^ (k + 1 - d) < b ^ d := by
    rw [Nat.div_lt_iff_lt_mul hP, ← Nat.pow_add, show d + (k + 1 - d) = k + 1 by omega]; exact h2
  omega
theorem Dg_range {b d X : Nat} (hb : 2 ≤ b) (hd : 1 ≤ d) (h1 : b ^ (d - 1) ≤ X) (h2 : X ≤ b ^ d) : b ^ (d - 1) ≤ Dg b d X ∧ Dg b d X < b ^ d := by
  unfold Dg
  have : b ^ (d - 1) < b ^ d := Nat.pow_lt_pow_right (by omega) (by omega)
  split <;> omega
/-- what the small number gives -/
theorem small_facts {b d w : Nat} {deep s : Int} {r : Rnd} (hb : b = 10 ∨ b = 2 ∨ b = 8 ∨ b = 16) (hd : 1 ≤ d) (hd2 : d ≤ 12) (hw : 0 < w) (hw2 : w < 4096) (h1 : -10 ≤ deep) (h2 : deep ≤ 40) :
    ∃ k X p, b ^ k ≤ sbN b (d + 10) (od w) (deep + tz w) ∧ sbN b (d + 10) (od w) (deep + tz w) < b ^ (k + 1) ∧ d ≤ k ∧ k ≤ 303 ∧ p = (k : Int) - (fixdps b (fixp b (d + 10) (deep + tz w + bl (od w))) : Nat) ∧ -420 ≤ p ∧ p ≤ 303 ∧
      X = rnd s r (sbN b (d + 10) (od w) (deep + tz w)) (b ^ (k + 1 - d)) ∧ IsPlace (w * 2 ^ deep.toNat) (2 ^ (-deep).toNat) b p ∧
      laid s r (w * 2 ^ deep.toNat) (2 ^ (-deep).toNat) b d p = (Dg b d X, Pl b d X p) ∧ 0 < Dg b d X ∧ Dg b d X < b ^ d ∧ -100 ≤ Pl b d X p ∧ Pl b d X p ≤ 99 := by
  obtain ⟨hS, he⟩ := small_fd hb hd hd2 hw hw2 h1 h2
  have hN := small_N hb hd hd2 hw hw2 h1 h2
  obtain ⟨k, k1, k2, k3, k4, k5⟩ := hS.place
  have hb2 := two_le hb
  have hB := two_pow_pos' (-deep).toNat
  have hfd : fdO b (d + 10) (od w) (deep + tz w) = fixdps b (fixp b (d + 10) (deep + tz w + bl (od w))) := rfl
  rw [← hfd]
  generalize fdO b (d + 10) (od w) (deep + tz w) = fd at *
  generalize sbN b (d + 10) (od w) (deep + tz w) = N at *
  have hpl := place_of hb2 hB (Nat.le_of_eq hN) (by rw [← hN, Nat.add_mul, Nat.one_mul]; omega) k1 k2
  have hlF := laidF_of (s := s) (r := r) (d := d) hb2 hB hN (show d ≤ k by omega)
  have hA : w * 2 ^ deep.toNat < b ^ 52 := by
    have e1 : w * 2 ^ deep.toNat < 2 ^ (12 + 40) := lt_two_pow_mul hw2 (Nat.pow_le_pow_right (by decide) (by omega))
    exact Nat.lt_of_lt_of_le e1 (Nat.pow_le_pow_left hb2 52)
  have hBb : 2 ^ (-deep).toNat ≤ b ^ 10 := Nat.le_trans (Nat.pow_le_pow_right (by decide) (by omega)) (Nat.pow_le_pow_left hb2 10)
  have hbd := place_bound hb2 (Nat.mul_pos hw (two_pow_pos' _)) hB hpl hA hBb
  have hr := rnd_range (s := s) (r := r) hb2 hd (show d ≤ k by omega) k1 k2
  have hD := Dg_range hb2 hd hr.1 hr.2
  have hp0 : 0 < b ^ (d - 1) := Nat.pow_pos (by omega)
  refine ⟨k, _, _, k1, k2, by omega, k4, rfl, by omega, by omega, rfl, hpl, ?_, by omega, hD.2, ?_, ?_⟩
  · unfold laid Dg Pl
    rw [hlF]
    by_cases hX : rnd s r N (b ^ (k + 1 - d)) = b ^ d
    · rw [if_pos hX, if_pos hX, if_pos hX, hX]
      congr 1
      have : b ^ d = b ^ (d - 1) * b := by rw [← Nat.pow_succ]; congr 1; omega
      rw [this, Nat.mul_div_cancel _ (by omega)]
    · rw [if_neg hX, if_neg hX, if_neg hX]
  · unfold Pl; split <;> omega
  · unfold Pl; split <;> omega
/-- reading back: the ratio -/
theorem read_ratio {b m V j t : Nat} {x sh : Int} (hb : 0 < b) (h : m * b ^ t = V * b ^ j) (hx : x - t + j = sh) : m * b ^ x.toNat * b ^ (-sh).toNat = V * b ^ sh.toNat * b ^ (-x).toNat := by
  apply Nat.mul_right_cancel (Nat.pow_pos (n := t) hb)
  calc m * b ^ x.toNat * b ^ (-sh).toNat * b ^ t = m * b ^ t * (b ^ x.toNat * b ^ (-sh).toNat) := by ac_rfl
    _ = V * (b ^ j * (b ^ x.toNat * b ^ (-sh).toNat)) := by rw [h]; ac_rfl
    _ = V * (b ^ sh.toNat * (b ^ (-x).toNat * b ^ t)) := by
      congr 1
      rw [← Nat.pow_add, ← Nat.pow_add, ← Nat.pow_add, ← Nat.pow_add]; congr 1; omega
    _ = V * b ^ sh.toNat * b ^ (-x).toNat * b ^ t := by ac_rfl
theorem Dg_scale {d k fd X : Nat} (hd : 1 ≤ d) (hdk : d ≤ k) : X * 10 ^ (k + 1 - d) * 10 ^ (-(Pl 10 d X ((k : Int) - fd) - d + 1)).toNat = Dg 10 d X * 10 ^ (Pl 10 d X ((k : Int) - fd) - d + 1).toNat * 10 ^ fd := by
  unfold Dg Pl
  by_cases hX : X = 10 ^ d
  · rw [if_pos hX, if_pos hX, hX, ← Nat.pow_add, ← Nat.pow_add, ← Nat.pow_add, ← Nat.pow_add]
    congr 1; omega
  · rw [if_neg hX, if_neg hX, Nat.mul_assoc, ← Nat.pow_add, Nat.mul_assoc, ← Nat.pow_add]
    congr 2; omega
theorem great_read {s : Int} {bits d k N fd M m j t : Nat} {E x : Int} (hb : 0 < bits) (hM : 0 < M) (hbl : bl M ≤ bits) (hN1 : N * 2 ^ (-E).toNat ≤ M * 2 ^ E.toNat * 10 ^ fd) (hN2 : M * 2 ^ E.toNat * 10 ^ fd < (N + 1) * 2 ^ (-E).toNat) (hk : 10 ^ k ≤ N) (hdk : d + 10 ≤ k) (hd : 1 ≤ d) (hdb : 11 * 2 ^ bits ≤ 10 * 10 ^ (d - 1))
    (h : m * 10 ^ t = Dg 10 d (rnd s .n N (10 ^ (k + 1 - d))) * 10 ^ j) (hx : x - t + j = Pl 10 d (rnd s .n N (10 ^ (k + 1 - d))) ((k : Int) - fd) - d + 1) :
    RndOf s .n bits (m * 10 ^ x.toNat) (10 ^ (-x).toNat) 0 (canon s M E) := by
  have hp : ∀ n, 0 < 10 ^ n := fun n => Nat.pow_pos (by decide)
  obtain ⟨g1, g2⟩ := great_near (s := s) (two_pow_pos' _) hN1 hN2 hk hdk hd hdb
  have hr := read_ratio (b := 10) (by decide) h hx
  have hs := Dg_scale (fd := fd) (X := rnd s .n N (10 ^ (k + 1 - d))) hd (show d ≤ k by omega)
  generalize rnd s .n N (10 ^ (k + 1 - d)) = X at *
  generalize hsh : Pl 10 d X ((k : Int) - fd) - d + 1 = sh at *
  have key : m * 10 ^ x.toNat * 10 ^ fd = X * 10 ^ (k + 1 - d) * 10 ^ (-x).toNat := by
    apply Nat.mul_right_cancel (hp (-sh).toNat)
    calc m * 10 ^ x.toNat * 10 ^ fd * 10 ^ (-sh).toNat = m * 10 ^ x.toNat * 10 ^ (-sh).toNat * 10 ^ fd := by ac_rfl
      _ = Dg 10 d X * 10 ^ sh.toNat * 10 ^ fd * 10 ^ (-x).toNat := by rw [hr]; ac_rfl
      _ = X * 10 ^ (k + 1 - d) * 10 ^ (-x).toNat * 10 ^ (-sh).toNat := by rw [← hs]; ac_rfl
  refine near hb hM hbl (hp _) ?_ ?_
  · apply Nat.lt_of_mul_lt_mul_right (a := 10 ^ fd)
    have e1 : (m * 10 ^ x.toNat * 2 ^ (-E).toNat - M * 2 ^ E.toNat * 10 ^ (-x).toNat) * 10 ^ fd = (X * 10 ^ (k + 1 - d) * 2 ^ (-E).toNat - M * 2 ^ E.toNat * 10 ^ fd) * 10 ^ (-x).toNat := by
      rw [Nat.sub_mul, Nat.sub_mul]
      congr 1
      · rw [Nat.mul_right_comm, key]; ac_rfl
      · ac_rfl
    rw [Nat.mul_assoc, e1, ← Nat.mul_assoc, Nat.mul_right_comm (M * 2 ^ E.toNat) (10 ^ (-x).toNat) (10 ^ fd)]
    exact Nat.mul_lt_mul_of_pos_right g1 (hp _)
  · apply Nat.lt_of_mul_lt_mul_right (a := 10 ^ fd)
    have e1 : (M * 2 ^ E.toNat * 10 ^ (-x).toNat - m * 10 ^ x.toNat * 2 ^ (-E).toNat) * 10 ^ fd = (M * 2 ^ E.toNat * 10 ^ fd - X * 10 ^ (k + 1 - d) * 2 ^ (-E).toNat) * 10 ^ (-x).toNat := by
      rw [Nat.sub_mul, Nat.sub_mul]
      congr 1
      · ac_rfl
      · rw [Nat.mul_right_comm, key]; ac_rfl
    rw [Nat.mul_assoc, e1, ← Nat.mul_assoc, Nat.mul_right_comm (M * 2 ^ E.toNat) (10 ^ (-x).toNat) (10 ^ fd)]
    exact Nat.mul_lt_mul_of_pos_right g2 (hp _)
theorem two253 : (2 : Nat) ^ 253 < 10 ^ 90 ∧ (2 : Nat) ^ 200 ≤ 10 ^ 90 := by decide +kernel
/-- what the great number gives -/
theorem great_facts {bits w : Nat} {deep s : Int} (hb : 1 ≤ bits) (hb2 : bits ≤ 53) (hw : 2 ^ (bits - 1) ≤ w) (hw2 : w < 2 ^ bits) (h1 : -200 ≤ deep) (h2 : deep ≤ 200) :
    ∃ k X p, 10 ^ k ≤ sbN 10 (rdps bits + 10) (od w) (deep + tz w) ∧ sbN 10 (rdps bits + 10) (od w) (deep + tz w) < 10 ^ (k + 1) ∧ rdps bits ≤ k ∧ k ≤ 303 ∧ p = (k : Int) - (fixdps 10 (fixp 10 (rdps bits + 10) (deep + tz w + bl (od w))) : Nat) ∧ -420 ≤ p ∧ p ≤ 303 ∧
      X = rnd s .n (sbN 10 (rdps bits + 10) (od w) (deep + tz w)) (10 ^ (k + 1 - rdps bits)) ∧ 0 < Dg 10 (rdps bits) X ∧ Dg 10 (rdps bits) X < 10 ^ rdps bits ∧ -100 ≤ Pl 10 (rdps bits) X p ∧ Pl 10 (rdps bits) X p ≤ 99 ∧
      ∀ (m j t : Nat) (x : Int), m * 10 ^ t = Dg 10 (rdps bits) X * 10 ^ j → x - t + j = Pl 10 (rdps bits) X p - rdps bits + 1 → RndOf s .n bits (m * 10 ^ x.toNat) (10 ^ (-x).toNat) 0 (canon s w deep) := by
  have hw0 : 0 < w := Nat.lt_of_lt_of_le (two_pow_pos' _) hw
  have hblw : bl w = bits := by
    have e : bits = bits - 1 + 1 := by omega
    rw [e]
    exact bl_unique hw (by rw [← e]; exact hw2)
  have e1 := bl_od hw0
  have e3 := bl_pos (od_pos hw0)
  obtain ⟨t1, t2, t3, t4⟩ := tab_rdps hb hb2
  have hS : SbOk 10 (rdps bits + 10) (od w) (deep + tz w) := ⟨.inl rfl, by omega, od_pos hw0, by omega, by omega, by omega⟩
  obtain ⟨k, k1, k2, k3, k4, k5⟩ := hS.place
  obtain ⟨c1, c2⟩ := hS.cut
  have hfd : fdO 10 (rdps bits + 10) (od w) (deep + tz w) = fixdps 10 (fixp 10 (rdps bits + 10) (deep + tz w + bl (od w))) := rfl
  rw [← hfd]
  have hB := two_pow_pos' (-(deep + tz w)).toNat
  have hpl := place_of (by decide) hB c1 c2 k1 k2
  have hA : od w * 2 ^ (deep + tz w).toNat < 10 ^ 90 := by
    have q := Nat.mul_lt_mul_of_pos_right (bl_lt (od w)) (two_pow_pos' (deep + tz w).toNat)
    rw [← Nat.pow_add] at q
    have q2 : 2 ^ (bl (od w) + (deep + tz w).toNat) ≤ 2 ^ 253 := Nat.pow_le_pow_right (by decide) (by omega)
    exact Nat.lt_trans (Nat.lt_of_lt_of_le q q2) two253.1
  have hBb : 2 ^ (-(deep + tz w)).toNat ≤ 10 ^ 90 := Nat.le_trans (Nat.pow_le_pow_right (by decide) (by omega)) two253.2
  have hbd := place_bound (by decide) (Nat.mul_pos (od_pos hw0) (two_pow_pos' _)) hB hpl hA hBb
  have hr := rnd_range (s := s) (r := .n) (b := 10) (by decide) t2 (show rdps bits ≤ k by omega) k1 k2
  have hD := Dg_range (b := 10) (by decide) t2 hr.1 hr.2
  have hp0 : 0 < 10 ^ (rdps bits - 1) := Nat.pow_pos (by decide)
  have hcan : canon s w deep = canon s (od w) (deep + tz w) := by
    have := canon_shift s (od_pos hw0) deep (tz w)
    rw [od_mul] at this
    exact this
  refine ⟨k, _, _, k1, k2, by omega, k4, rfl, by omega, by omega, rfl, by omega, hD.2, ?_, ?_, ?_⟩
  · unfold Pl; split <;> omega
  · unfold Pl; split <;> omega
  · intro m j t x h hx
    rw [hcan]
    exact great_read (by omega) (od_pos hw0) (by omega) c1 c2 k1 (by omega) t2 t1 h hx
/-- the table of words: no text with a point is in it -/
structure Spc (S : Static thePr) : Prop where
  no : ∀ (n : Nat) (x : Str) (R : PV → Prop), 46 ∈ x.cps.toList → R (.bool false) → CmpTo S n .In (.str x) (.fn 1001) R
theorem starts_tx (l p : List Nat) : Txt.startswith (tx l) (tx p) = (decide (p.length ≤ l.length) && (l.take p.length == p)) := by
  unfold Txt.startswith
  rw [StrLaws.subAt_eq, tx_length, tx_length, Nat.zero_add]
  simp [tx]
theorem starts_no {l p : List Nat} {c : Nat} (hp : c ∈ p) (hl : c ∉ l) : Txt.startswith (tx l) (tx p) = false := by
  rw [starts_tx, Bool.and_eq_false_iff]
  right
  rw [beq_eq_false_iff_ne]
  intro h
  apply hl
  rw [← h] at hp
  exact List.mem_of_mem_take hp
theorem vl_lt {b : Nat} (hb : 0 < b) : ∀ {l : List Nat}, (∀ c ∈ l, isDg b c) → vl b l < b ^ l.length
  | [], _ => by simp [vl]
  | c :: l, h => by
    obtain ⟨d, hd, rfl⟩ := h c (.head _)
    have ih := vl_lt hb (l := l) fun c hc => h c (.tail _ hc)
    rw [vl_cons, dv_dc, List.length_cons, Nat.pow_succ]
    have := Nat.mul_le_mul_right (b ^ l.length) (show d + 1 ≤ b from hd)
    rw [Nat.add_mul, Nat.one_mul, Nat.mul_comm b] at this
    omega
theorem bl_lt_of {n k : Nat} (h : n < 2 ^ k) : bl n < k + 1 := Nat.lt_succ_of_le (bl_le_of_lt h)
theorem told_pre {b : Nat} {neg : Bool} {P Q : List Nat} {e : Option Int} : told b neg P Q e = (if neg then [45] else []) ++ pre b ++ (P ++ 46 :: (Q ++ tailO b e)) := by
  unfold told; simp only [List.append_assoc]
theorem st_txt : Str.ofString "0b" = tx [48, 98] ∧ Str.ofString "-0b" = tx [45, 48, 98] ∧ Str.ofString "0B" = tx [48, 66] ∧ Str.ofString "-0B" = tx [45, 48, 66] ∧ Str.ofString "0x" = tx [48, 120] ∧ Str.ofString "-0x" = tx [45, 48, 120] ∧ Str.ofString "0X" = tx [48, 88] ∧ Str.ofString "-0X" = tx [45, 48, 88] ∧ Str.ofString "0o" = tx [48, 111] ∧ Str.ofString "-0o" = tx [45, 48, 111] := by decide +kernel
theorem st_b {b : Nat} {neg : Bool} {P Q : List Nat} {e : Option Int} (T : Toldy b P Q e) : [Str.ofString "0b", Str.ofString "-0b", Str.ofString "0B", Str.ofString "-0B"].any (Txt.startswith (tx (told b neg P Q e))) = decide (b = 2) := by
  obtain ⟨h1, h2, h3, h4, _⟩ := st_txt
  rw [h1, h2, h3, h4]
  simp only [List.any_cons, List.any_nil, Bool.or_false]
  rcases T.hb with rfl | rfl | rfl | rfl
  · have n1 : 98 ∉ told 10 neg P Q e := fun h => by have := T.chars neg h; have := sepc_val T.hb; omega
    have n2 : 66 ∉ told 10 neg P Q e := fun h => by have := T.chars neg h; have := sepc_val T.hb; omega
    rw [starts_no (c := 98) (by simp) n1, starts_no (c := 98) (by simp) n1, starts_no (c := 66) (by simp) n2, starts_no (c := 66) (by simp) n2]
    rfl
  all_goals
    rw [told_pre]
    cases neg <;> simp [starts_tx, pre]
theorem st_x {b : Nat} {neg : Bool} {P Q : List Nat} {e : Option Int} (T : Toldy b P Q e) : [Str.ofString "0x", Str.ofString "-0x", Str.ofString "0X", Str.ofString "-0X"].any (Txt.startswith (tx (told b neg P Q e))) = decide (b = 16) := by
  obtain ⟨_, _, _, _, h1, h2, h3, h4, _⟩ := st_txt
  rw [h1, h2, h3, h4]
  simp only [List.any_cons, List.any_nil, Bool.or_false]
  rcases T.hb with rfl | rfl | rfl | rfl
  · have n1 : 120 ∉ told 10 neg P Q e := fun h => by have := T.chars neg h; have := sepc_val T.hb; omega
    have n2 : 88 ∉ told 10 neg P Q e := fun h => by have := T.chars neg h; have := sepc_val T.hb; omega
    rw [starts_no (c := 120) (by simp) n1, starts_no (c := 120) (by simp) n1, starts_no (c := 88) (by simp) n2, starts_no (c := 88) (by simp) n2]
    rfl
  all_goals
    rw [told_pre]
    cases neg <;> simp [starts_tx, pre]
theorem st_o {b : Nat} {neg : Bool} {P Q : List Nat} {e : Option Int} (T : Toldy b P Q e) : [Str.ofString "0o", Str.ofString "-0o"].any (Txt.startswith (tx (told b neg P Q e))) = decide (b = 8) := by
  obtain ⟨_, _, _, _, _, _, _, _, h1, h2⟩ := st_txt
  rw [h1, h2]
  simp only [List.any_cons, List.any_nil, Bool.or_false]
  rcases T.hb with rfl | rfl | rfl | rfl
  · have n1 : 111 ∉ told 10 neg P Q e := fun h => by have := T.chars neg h; have := sepc_val T.hb; omega
    rw [starts_no (c := 111) (by simp) n1, starts_no (c := 111) (by simp) n1]
    rfl
  all_goals
    rw [told_pre]
    cases neg <;> simp [starts_tx, pre]
theorem sg_mul {z c : Int} (hc : 0 < c) : sg (z * c) = sg z := by
  unfold sg
  by_cases h : z < 0
  · rw [if_pos h, if_pos (Int.mul_neg_of_neg_of_pos h hc)]
  · rw [if_neg h, if_neg (Int.not_lt.mpr (Int.mul_nonneg (by omega) (by omega)))]
theorem od_ten {k : Nat} (hk : 0 < k) : od (10 ^ k) ≠ 1 := by
  have e : 10 ^ k = 5 ^ k * 2 ^ k := by rw [← Nat.mul_pow]
  rw [e, od_mul_pow (Nat.pow_pos (by decide)), od_of_odd (by rw [Nat.pow_mod]; simp)]
  have : 5 ^ 1 ≤ 5 ^ k := Nat.pow_le_pow_right (by decide) hk
  omega
theorem ten_lt {k : Nat} (hk : k ≤ 270) : 10 ^ k < 2 ^ 900 := Nat.lt_of_le_of_lt (Nat.pow_le_pow_right (by decide) hk) (by decide +kernel)
theorem fme_two {m prec k : Nat} {z x sgn : Int} {r : Rnd} (hz : z.natAbs = m) (hsg : sg z = sgn) (h0 : 0 < m) (hp : 0 < prec) :
    RndOf sgn r prec (m * (2 ^ k) ^ x.toNat) ((2 ^ k) ^ (-x).toNat) 0 (fme z (x * k) prec r) := by
  unfold fme
  rw [if_neg (by omega), hz, hsg]
  have H := nrm_rnd (sgn := sgn) (r := r) (e := x * k) h0 hp
  rw [← Nat.pow_mul, ← Nat.pow_mul]
  by_cases hx : 0 ≤ x
  · have H2 := RndOf.up' (x := k * x.toNat) Nat.one_pos H
    rw [show (-x).toNat = 0 by omega, Nat.mul_zero, Nat.pow_zero]
    have e : x * k - ((k * x.toNat : Nat) : Int) = 0 := by
      rw [Int.natCast_mul, show ((x.toNat : Nat) : Int) = x by omega, Int.mul_comm]; omega
    rw [e] at H2
    exact H2
  · have H2 := RndOf.down' (x := k * (-x).toNat) Nat.one_pos H
    rw [show x.toNat = 0 by omega, Nat.mul_zero, Nat.pow_zero, Nat.mul_one]
    have e : x * k + ((k * (-x).toNat : Nat) : Int) = 0 := by
      rw [Int.natCast_mul, show (((-x).toNat : Nat) : Int) = -x by omega, Int.mul_neg, Int.mul_comm]; omega
    rw [e, Nat.one_mul] at H2
    exact H2
/-- the value that a text tells, rounded -/
theorem from_str_c {S : Static thePr} (D : Dct S) (C : Spc S) {n b prec : Nat} {neg : Bool} {P Q : List Nat} {e : Option Int} {r : Rnd} {σ : List PV} {R : PV → List PV → Prop} (T : Toldy b P Q e)
    (hlen : P.length + Q.length ≤ 160) (he : -100 ≤ e.getD 0 ∧ e.getD 0 ≤ 100) (h0 : 0 < vl b (P ++ rs 48 Q)) (hp : 0 < prec) (hp2 : prec < 1000)
    (hR : ∀ pv, RndOf (if neg then 1 else 0) r prec (vl b (P ++ rs 48 Q) * b ^ (e.getD 0 - ((rs 48 Q).length : Nat)).toNat) (b ^ (-(e.getD 0 - ((rs 48 Q).length : Nat))).toNat) 0 pv → R pv σ) :
    CallTo S (n + 7) (.fn 44) [.str (tx (told b neg P Q e)), .int (prec : Nat), .str r.str] σ R := by
  have hlen1 := T.length neg
  have hbb := T.hb
  refine call_fn rfl sok44 bind44_3 (by ktf_call Mini) ?_
  refine xs_cons ?_
  ktf_call Msta
  ktf_call Me
  refine ct_lower (by rw [tx_length]; omega) ?_
  rw [KXs.lower_still (T.still neg)]
  ktf_call Me
  refine ct_strip (by rw [tx_length]; omega) ?_
  rw [KXs.strip_still (T.still neg)]
  ktf_call Me
  refine xs_cons ?_
  ktf_call Msta
  ktf_call Me
  refine C.no _ _ _ (by unfold told; simp [tx]) ?_
  refine ⟨_, rfl, ?_⟩
  refine ifff rfl ?_
  refine xs_nil ?_
  refine xs_cons ?_
  refine XT.mono (N := fun v q => q = σ ∧ v = [some (.str (tx (told b neg P Q e))), some (.int (prec : Nat)), some (.str r.str), some (.int (b : Nat)), none, none, none, none, none, none, none, none, none, none, none, none, none, none, none, none, none, none]) (T := R) (B := fun _ _ => False) ?A ?B (fun _ _ h => h) (fun _ _ h => h)
  case A =>
    ktf_call M
    refine ⟨?_, Nat.le_of_ble_eq_true rfl⟩
    ktf_call M
    refine ct_starts (ys := [Str.ofString "0b", Str.ofString "-0b", Str.ofString "0B", Str.ofString "-0B"]) ?_
    rw [st_b T]
    ktf_call M
    refine ⟨fun h => ?_, fun h => ?_⟩
    · have h := of_decide_eq_true h
      subst h
      ktf_call M
      exact ⟨rfl, rfl⟩
    · have h := of_decide_eq_false h
      ktf_call M
      refine ⟨?_, Nat.le_of_ble_eq_true rfl⟩
      ktf_call M
      refine ct_starts (ys := [Str.ofString "0x", Str.ofString "-0x", Str.ofString "0X", Str.ofString "-0X"]) ?_
      rw [st_x T]
      ktf_call M
      refine ⟨fun h => ?_, fun h => ?_⟩
      · have h := of_decide_eq_true h
        subst h
        ktf_call M
        exact ⟨rfl, rfl⟩
      · have h2 := of_decide_eq_false h
        ktf_call M
        refine ⟨?_, Nat.le_of_ble_eq_true rfl⟩
        ktf_call M
        refine ct_starts (ys := [Str.ofString "0o", Str.ofString "-0o"]) ?_
        rw [st_o T]
        ktf_call M
        refine ⟨fun h => ?_, fun h => ?_⟩
        · have h := of_decide_eq_true h
          subst h
          ktf_call M
          exact ⟨rfl, rfl⟩
        · have h3 := of_decide_eq_false h
          ktf_call M
          have : b = 10 := by omega
          subst this
          exact ⟨rfl, rfl⟩
  case B =>
    rintro v q ⟨rfl, rfl⟩
    ktf_call M
    rw [show Str.ofString "/" = (⟨#[47]⟩ : Str) from by decide +kernel]
    refine cmp_in_str ?_
    refine ⟨_, rfl, ?_⟩
    refine ifff (decide_eq_false (by rw [show (tx (told b neg P Q e)).cps.toList = told b neg P Q e by simp [tx]]; exact T.free neg (by decide))) ?_
    refine xs_nil ?_
    ktf_call Ms
    refine str_man_c T ?_
    have hrl := rs_len 48 Q
    have hml : vl b (P ++ rs 48 Q) < 2 ^ 640 := by
      have h1 := vl_lt (b := b) (by omega) (l := P ++ rs 48 Q) fun c hc => by
        rcases List.mem_append.mp hc with h | h
        · exact T.p c h
        · exact T.q c (rs_sub 48 h)
      have h2 : b ^ (P ++ rs 48 Q).length ≤ 2 ^ (4 * (P ++ rs 48 Q).length) := pow16 (by omega)
      have h3 : 2 ^ (4 * (P ++ rs 48 Q).length) ≤ 2 ^ 640 := Nat.pow_le_pow_right (by decide) (by rw [List.length_append]; omega)
      exact Nat.lt_of_lt_of_le h1 (Nat.le_trans h2 h3)
    have hx : -270 ≤ e.getD 0 - ((rs 48 Q).length : Nat) ∧ e.getD 0 - ((rs 48 Q).length : Nat) ≤ 100 := by omega
    generalize e.getD 0 - ((rs 48 Q).length : Nat) = x at *
    generalize vl b (P ++ rs 48 Q) = m at *
    have hz : (if neg then -((m : Nat) : Int) else ((m : Nat) : Int)).natAbs = m := by cases neg <;> simp
    have hz0 : (if neg then -((m : Nat) : Int) else ((m : Nat) : Int)) ≠ 0 := by intro h; rw [h] at hz; simp at hz; omega
    have hsg : sg (if neg then -((m : Nat) : Int) else ((m : Nat) : Int)) = if neg then 1 else 0 := by
      unfold sg; cases neg <;> simp <;> omega
    generalize (if neg then -((m : Nat) : Int) else ((m : Nat) : Int)) = z at *
    generalize (if neg = true then (1 : Int) else 0) = sgn at *
    ktf_call Me
    refine xs_cons ?_
    refine XT.mono (N := fun v q' => ∃ pv, R pv q' ∧ ∃ v9, v = [some (.str (tx (told b neg P Q e))), some (.int (prec : Nat)), some (.str r.str), some (.int (b : Nat)), none, none, some (.int z), some (.int x), some pv, v9, none, none, none, none, none, none, none, none, none, none, none, none]) (T := R) (B := fun _ _ => False) ?A2 ?B2 (fun _ _ h => h) (fun _ _ h => h)
    case A2 =>
      by_cases h10 : b = 10
      · subst h10
        ktf_call M
        refine ifff (decide_eq_false (by split <;> omega)) ?_
        ktf_call M
        refine ⟨fun h => ?_, fun h => ?_⟩
        · have h := of_decide_eq_true h
          have hq : (z * 10 ^ x.toNat).natAbs = m * 10 ^ x.toNat := by rw [Int.natAbs_mul, Int.natAbs_pow, hz]; rfl
          have hmq : m * 10 ^ x.toNat < 2 ^ (640 + 4 * 100) := lt_two_pow_mul hml (Nat.le_trans (pow16 (b := 10) (by decide)) (Nat.pow_le_pow_right (by decide) (by omega)))
          have hpos : 0 < m * 10 ^ x.toNat := Nat.mul_pos h0 (Nat.pow_pos (by decide))
          ktf_call M
          refine bin_pow (by omega) (by decide) (by omega) ?_
          refine bin_mul (Fit.of_lt (m := 640) (by rw [hz]; exact hml) (by decide)) (pow_lt_fit (b := 10) (by decide) (by omega)) ?_
          ktf_call M
          refine from_int3_c (n := n + 1) D (by intro h2; rw [h2] at hq; simp at hq; omega) (by rw [hq]; have := bl_lt_of hmq; omega) ?_
          ktf_call M
          refine ⟨_, hR _ ?_, _, rfl⟩
          unfold fme
          rw [if_neg (by omega), hq]
          have hs2 : sg (z * 10 ^ x.toNat) = sgn := by rw [sg_mul (Int.pow_pos (by decide)), hsg]
          rw [hs2, show (-x).toNat = 0 by omega, Nat.pow_zero]
          exact nrm_rnd hpos hp
        · have h := of_decide_eq_false h
          ktf_call M
          refine bin_pow (by omega) (by decide) (by omega) ?_
          ktf_call M
          have hk : (10 : Int) ^ (-x).toNat = ((10 ^ (-x).toNat : Nat) : Int) := by simp
          rw [hk]
          have hq1 : od (10 ^ (-x).toNat) ≠ 1 := od_ten (by omega)
          have hqb : 10 ^ (-x).toNat < 2 ^ 900 := ten_lt (by omega)
          refine from_rational_c (n := n) D hz0 (Nat.pow_pos (by decide)) hq1 hp (by rw [hz]; have := bl_lt_of hml; omega) (by have := bl_lt_of hqb; omega) hp2 ?_
          intro pv hpv
          ktf_call M
          refine ⟨_, hR _ ?_, _, rfl⟩
          rw [hz, hsg] at hpv
          rw [show x.toNat = 0 by omega, Nat.pow_zero, Nat.mul_one]
          exact hpv
      · ktf_call M
        refine ifff (by simp; omega) ?_
        have hp2 : Str.ofString "p" = tx [112] := by decide +kernel
        have hxF : Fit x := Fit.of_lt (m := 10) (by omega) (by decide)
        rcases hbb with rfl | rfl | rfl | rfl
        · exact absurd rfl h10
        · ktf_call M
          refine ev_walrus ?_
          ktf_call M
          rw [show (Builtin.Int.intBits ((2 : Nat) : Int) : Int) - 1 = (1 : Int) from by decide +kernel]
          refine ct_pow (by decide) (by decide) (by decide) ?_
          ktf_call M
          rw [hp2, find_none (T.free neg (by decide))]
          ktf_call M
          refine bin_mul hxF (Fit.of_lt (m := 10) (by decide) (by decide)) ?_
          ktf_call M
          refine from_man_exp_c (n := n + 2) D hz0 (by rw [hz]; have := bl_lt_of hml; omega) ?_
          ktf_call M
          exact ⟨_, hR _ (fme_two (k := 1) hz hsg h0 hp), _, rfl⟩
        · ktf_call M
          refine ev_walrus ?_
          ktf_call M
          rw [show (Builtin.Int.intBits ((8 : Nat) : Int) : Int) - 1 = (3 : Int) from by decide +kernel]
          refine ct_pow (by decide) (by decide) (by decide) ?_
          ktf_call M
          rw [hp2, find_none (T.free neg (by decide))]
          ktf_call M
          refine bin_mul hxF (Fit.of_lt (m := 10) (by decide) (by decide)) ?_
          ktf_call M
          refine from_man_exp_c (n := n + 2) D hz0 (by rw [hz]; have := bl_lt_of hml; omega) ?_
          ktf_call M
          exact ⟨_, hR _ (fme_two (k := 3) hz hsg h0 hp), _, rfl⟩
        · ktf_call M
          refine ev_walrus ?_
          ktf_call M
          rw [show (Builtin.Int.intBits ((16 : Nat) : Int) : Int) - 1 = (4 : Int) from by decide +kernel]
          refine ct_pow (by decide) (by decide) (by decide) ?_
          ktf_call M
          rw [hp2, find_none (T.free neg (by decide))]
          ktf_call M
          refine bin_mul hxF (Fit.of_lt (m := 10) (by decide) (by decide)) ?_
          ktf_call M
          refine from_man_exp_c (n := n + 2) D hz0 (by rw [hz]; have := bl_lt_of hml; omega) ?_
          ktf_call M
          exact ⟨_, hR _ (fme_two (k := 4) hz hsg h0 hp), _, rfl⟩
    case B2 =>
      rintro v q' ⟨pv, hpv, v9, rfl⟩
      ktf_call M
      exact hpv
theorem to_str_zero {S : Static thePr} {n d : Nat} {σ : List PV} {R : PV → List PV → Prop} (hd : 1 ≤ d) (hR : R (.str (Str.ofString "0.0")) σ) :
    CallTo S (n + 1) (.fn 41) [.tup [.int 0, .int 0, .int 0, .int 0], .int (d : Nat)] σ R := by
  refine call_fn rfl sok41 bind41_2 (by ktf_call Mini) ?_
  refine xs_cons ?_
  ktf_call M
  refine ⟨?_, Nat.le_of_ble_eq_true rfl⟩
  refine cmp_notin_tup (ys := [Str.ofString "n", Str.ofString "f", Str.ofString "c", Str.ofString "u", Str.ofString "d"]) ?_
  refine ⟨_, rfl, ?_⟩
  refine ifff (by decide +kernel) ?_
  ktf_call M
  refine sub_tup (by decide) (by decide) rfl rfl ?_
  ktf_call M
  refine cmp_eq_tup4 ?_
  ktf_call M
  refine iftt (by simp; omega) ?_
  ktf_call M
  refine bin_cat (by decide +kernel) (by decide +kernel) ?_
  have e : Str.ofString "" ++ Str.ofString "0.0" = Str.ofString "0.0" := by decide +kernel
  rw [e]
  exact hR
theorem to_str_inf {S : Static thePr} {n d : Nat} {σ : List PV} {R : PV → List PV → Prop} (hR : R (.str (Str.ofString "inf")) σ) :
    CallTo S (n + 1) (.fn 41) [.tup [.int 0, .int 0, .int (-456), .int (-2)], .int (d : Nat)] σ R := by
  refine call_fn rfl sok41 bind41_2 (by ktf_call Mini) ?_
  refine xs_cons ?_
  ktf_call M
  refine ⟨?_, Nat.le_of_ble_eq_true rfl⟩
  refine cmp_notin_tup (ys := [Str.ofString "n", Str.ofString "f", Str.ofString "c", Str.ofString "u", Str.ofString "d"]) ?_
  refine ⟨_, rfl, ?_⟩
  refine ifff (by decide +kernel) ?_
  ktf_call M
  refine sub_tup (by decide) (by decide) rfl rfl ?_
  ktf_call M
  refine cmp_eq_tup4 ?_
  ktf_call M
  refine cmp_eq_tup4 ?_
  ktf_call M
  exact hR
theorem to_str_ninf {S : Static thePr} {n d : Nat} {σ : List PV} {R : PV → List PV → Prop} (hR : R (.str (Str.ofString "-inf")) σ) :
    CallTo S (n + 1) (.fn 41) [.tup [.int 1, .int 0, .int (-789), .int (-3)], .int (d : Nat)] σ R := by
  refine call_fn rfl sok41 bind41_2 (by ktf_call Mini) ?_
  refine xs_cons ?_
  ktf_call M
  refine ⟨?_, Nat.le_of_ble_eq_true rfl⟩
  refine cmp_notin_tup (ys := [Str.ofString "n", Str.ofString "f", Str.ofString "c", Str.ofString "u", Str.ofString "d"]) ?_
  refine ⟨_, rfl, ?_⟩
  refine ifff (by decide +kernel) ?_
  ktf_call M
  refine sub_tup (by decide) (by decide) rfl rfl ?_
  ktf_call M
  refine cmp_eq_tup4 ?_
  ktf_call M
  refine cmp_eq_tup4 ?_
  ktf_call M
  refine cmp_eq_tup4 ?_
  ktf_call M
  exact hR
theorem to_str_nan {S : Static thePr} {n d : Nat} {σ : List PV} {R : PV → List PV → Prop} (hR : R (.str (Str.ofString "nan")) σ) :
    CallTo S (n + 1) (.fn 41) [.tup [.int 0, .int 0, .int (-123), .int (-1)], .int (d : Nat)] σ R := by
  refine call_fn rfl sok41 bind41_2 (by ktf_call Mini) ?_
  refine xs_cons ?_
  ktf_call M
  refine ⟨?_, Nat.le_of_ble_eq_true rfl⟩
  refine cmp_notin_tup (ys := [Str.ofString "n", Str.ofString "f", Str.ofString "c", Str.ofString "u", Str.ofString "d"]) ?_
  refine ⟨_, rfl, ?_⟩
  refine ifff (by decide +kernel) ?_
  ktf_call M
  refine sub_tup (by decide) (by decide) rfl rfl ?_
  ktf_call M
  refine cmp_eq_tup4 ?_
  ktf_call M
  refine cmp_eq_tup4 ?_
  ktf_call M
  refine cmp_eq_tup4 ?_
  ktf_call M
  refine cmp_eq_tup4 ?_
  ktf_call M
  exact hR
/-- the law's state -/
def StOk (σ : List PV) : Prop := ∃ (i : Int) (ns : List Int) (seed : Int), σ = [.int i, .lst (ns.map .int), .int seed] ∧ 0 ≤ i ∧ ns.length ≤ 24 ∧ 0 ≤ seed ∧ seed < 7877
theorem fmod_range {a m : Int} (h : 0 < m) : 0 ≤ a.fmod m ∧ a.fmod m < m := by
  rw [Int.fmod_eq_emod_of_nonneg _ (by omega)]
  exact ⟨Int.emod_nonneg _ (by omega), Int.emod_lt_of_pos _ h⟩
theorem law_draw_c {S : Static thePr} {n : Nat} {m : Int} {σ : List PV} {R : PV → List PV → Prop} (hm : 0 < m) (hs : StOk σ) (hR : ∀ i q, 0 ≤ i → i < m → StOk q → R (.int i) q) :
    CallTo S (n + 1) (.fn 47) [.mref, .int m] σ R := by
  obtain ⟨i, l, seed, rfl, h0, hl, hs1, hs2⟩ := hs
  refine call_fn rfl sok47 bind47_2 (by ktf_call Mini) ?_
  refine xs_cons ?_
  refine xt_assign ?_
  refine ev_subm ?_
  ktf_call Me
  refine ⟨rfl, ?_⟩
  ktf_call Me
  refine ⟨_, _, rfl, by decide, by decide, rfl, ?_⟩
  ktf_call Me
  refine xs_cons ?_
  refine xt_setm ?_
  ktf_call Me
  refine ⟨rfl, ?_⟩
  ktf_call Me
  refine ⟨by decide, by simp, by simp, ?_⟩
  show XS S n 47 nm47 _ [.int (i + 1), .lst (l.map .int), .int seed] _ _ _ _
  refine xs_cons ?_
  refine xt_if ?_
  refine tv_cmp ?_
  ktf_call Mlit
  refine ev_call ?_
  ktf_call Mlit
  refine cl_bi ?_
  refine av_cons ?_
  refine ev_subm ?_
  ktf_call Mlit
  refine ⟨rfl, ?_⟩
  ktf_call Mlit
  refine ⟨_, _, rfl, by decide, by decide, rfl, ?_⟩
  refine av_nil ?_
  refine ct_len_lst (by simp; omega) ?_
  ktf_call Me
  refine ⟨fun h => ?_, fun h => ?_⟩
  · have h := of_decide_eq_true h
    have h1 : i < l.length := by simpa using h
    refine xs_cons ?_
    refine xt_return ?_
    refine ev_bin ?_
    refine ev_sub ?_
    refine ev_subm ?_
    ktf_call Mlit
    refine ⟨rfl, ?_⟩
    ktf_call Mlit
    refine ⟨_, _, rfl, by decide, by decide, rfl, ?_⟩
    ktf_call Mlit
    obtain ⟨v, hv⟩ : ∃ v, l[i.toNat]? = some v := ⟨_, List.getElem?_eq_getElem (by omega)⟩
    refine sub_lst h0 (by omega) (by rw [List.getElem?_map, hv]; rfl) ?_
    ktf_call Me
    refine bin_mod (by omega) ?_
    have hr := fmod_range (a := v) hm
    exact hR _ _ hr.1 hr.2 ⟨_, _, _, rfl, by omega, hl, hs1, hs2⟩
  · refine xs_nil ?_
    refine xs_cons ?_
    refine xt_setm ?_
    refine ev_bin ?_
    refine ev_bin ?_
    refine ev_bin ?_
    refine ev_subm ?_
    ktf_call Mlit
    refine ⟨rfl, ?_⟩
    ktf_call Mlit
    refine ⟨_, _, rfl, by decide, by decide, rfl, ?_⟩
    ktf_call Mlit
    refine bin_mul (Fit.of_lt (m := 13) (by omega) (by decide)) (Fit.of_lt (m := 13) (by decide) (by decide)) ?_
    ktf_call Me
    refine bin_mod (by decide) ?_
    ktf_call Mlit
    refine ⟨rfl, ?_⟩
    ktf_call Mlit
    refine ⟨_, rfl, by decide, by simp, by simp, ?_⟩
    have hr := fmod_range (a := seed * 311 + 1429) (m := 7877) (by decide)
    generalize (seed * 311 + 1429).fmod 7877 = seed' at *
    show XS S n 47 nm47 _ [.int (i + 1), .lst (l.map .int), .int seed'] _ _ _ _
    refine xs_cons ?_
    refine xt_return ?_
    refine ev_bin ?_
    refine ev_bin ?_
    refine ev_subm ?_
    ktf_call Mlit
    refine ⟨rfl, ?_⟩
    ktf_call Mlit
    refine ⟨_, _, rfl, by decide, by decide, rfl, ?_⟩
    ktf_call Mlit
    refine bin_floordiv (by decide) (Fit.of_lt (m := 3) (by decide) (by decide)) ?_
    ktf_call Me
    refine bin_mod (by omega) ?_
    have hr2 := fmod_range (a := seed'.fdiv 3) hm
    exact hR _ _ hr2.1 hr2.2 ⟨_, _, _, rfl, by omega, hl, hr.1, hr.2⟩
theorem sum_range {M : Int} (hM : 0 ≤ M) : ∀ {l : List Int}, (∀ x ∈ l, 0 ≤ x ∧ x ≤ M) → 0 ≤ l.sum ∧ l.sum ≤ l.length * M
  | [], _ => by simp
  | x :: l, h => by
    have h1 := h x (.head _)
    have ih := sum_range hM (l := l) fun y hy => h y (.tail _ hy)
    rw [List.sum_cons, List.length_cons]
    have e : ((l.length + 1 : Nat) : Int) * M = l.length * M + M := by rw [Int.natCast_add, Int.add_mul]; simp
    rw [e]
    omega
theorem law_state_c {S : Static thePr} {n : Nat} {a : Addr} {ws : List Value} {l : List Int} {σ : List PV} {R : PV → List PV → Prop} (hl : S.g.IsList a ws.toArray) (hI : IntsAre ws l) (hsz : l.length ≤ 1000)
    (hR : ∀ (l' : List Int) (seed : Int), l'.length ≤ 24 → 0 ≤ seed → seed < 7877 → R (.nlst [.int 0, .lst (l'.map .int), .int seed]) σ) :
    CallTo S (n + 1) (.fn 46) [.raw (.ref a)] σ R := by
  refine call_fn rfl sok46 bind46_1 (by ktf_call Mini) ?_
  refine xs_cons ?_
  refine xt_comp_mod (by decide) (by decide) ?_
  ktf_call Me
  refine sub_raw_take hl hI hsz (by decide) ?_
  refine ⟨_, rfl, by simp; omega, ?_⟩
  ktf_call Mupd
  have e : ((l.take (24 : Int).toNat).map fun i => PV.int (i.fmod 1000003)) = ((l.take 24).map fun i => i.fmod 1000003).map .int := by rw [List.map_map]; rfl
  rw [e]
  have hlen : ((l.take 24).map fun i => i.fmod 1000003).length ≤ 24 := by simp; omega
  have hin : ∀ x ∈ ((l.take 24).map fun i => i.fmod 1000003), 0 ≤ x ∧ x ≤ 1000003 := by
    intro x hx
    obtain ⟨i, _, rfl⟩ := List.mem_map.mp hx
    have := fmod_range (a := i) (m := 1000003) (by decide)
    omega
  generalize ((l.take 24).map fun i => i.fmod 1000003) = l' at *
  have hs := sum_range (by decide) hin
  have hs2 : l'.sum ≤ 24 * 1000003 := Int.le_trans hs.2 (by omega)
  refine xs_cons ?_
  refine xt_return ?_
  refine ev_list_new ?_
  ktf_call Me
  refine ct_sum_ints ?_
  ktf_call Me
  refine bin_mul (Fit.of_lt (m := 30) (by omega) (by decide)) (Fit.of_lt (m := 30) (by decide) (by decide)) ?_
  ktf_call Me
  refine ct_len_lst (by simp; omega) ?_
  ktf_call Me
  refine bin_mul (Fit.of_lt (m := 30) (by simp; omega) (by decide)) (Fit.of_lt (m := 30) (by decide) (by decide)) ?_
  ktf_call Me
  refine bin_mod (by decide) ?_
  ktf_call Me
  have hr := fmod_range (a := l'.sum * 37 + ((l'.map PV.int).length : Nat) * 19 + 17) (m := 7877) (by decide)
  exact ⟨hR _ _ hlen hr.1 hr.2, Nat.le_of_ble_eq_true rfl⟩
theorem pick_base {i : Int} (h0 : 0 ≤ i) (h1 : i < 5) : ∃ b : Nat, ([PV.int 10, .int 10, .int 2, .int 8, .int 16] : List PV)[i.toNat]? = some (.int (b : Nat)) ∧ (b = 10 ∨ b = 2 ∨ b = 8 ∨ b = 16) := by
  have : i = 0 ∨ i = 1 ∨ i = 2 ∨ i = 3 ∨ i = 4 := by omega
  rcases this with rfl | rfl | rfl | rfl | rfl
  · exact ⟨10, rfl, by decide⟩
  · exact ⟨10, rfl, by decide⟩
  · exact ⟨2, rfl, by decide⟩
  · exact ⟨8, rfl, by decide⟩
  · exact ⟨16, rfl, by decide⟩
theorem pick_way {i : Int} (h0 : 0 ≤ i) (h1 : i < 5) : ∃ (r : Rnd) (c : Nat), (seqIndex? i (Str.ofString "nfcud").length).bind ((Str.ofString "nfcud").cps[·]?) = some c ∧ (⟨#[c]⟩ : Str) = r.str := by
  have : i = 0 ∨ i = 1 ∨ i = 2 ∨ i = 3 ∨ i = 4 := by omega
  rcases this with rfl | rfl | rfl | rfl | rfl
  · exact ⟨.n, 110, by decide +kernel, by decide +kernel⟩
  · exact ⟨.f, 102, by decide +kernel, by decide +kernel⟩
  · exact ⟨.c, 99, by decide +kernel, by decide +kernel⟩
  · exact ⟨.u, 117, by decide +kernel, by decide +kernel⟩
  · exact ⟨.d, 100, by decide +kernel, by decide +kernel⟩
theorem pick_lohi {i : Int} (h0 : 0 ≤ i) (h1 : i < 4) : ∃ low high : Option Int, ([PV.tup [.none, .none], .tup [.int (-3), .int 4], .tup [.int 0, .int 0], .tup [.int (-30), .int 60]] : List PV)[i.toNat]? = some (.tup [oint low, oint high]) := by
  have : i = 0 ∨ i = 1 ∨ i = 2 ∨ i = 3 := by omega
  rcases this with rfl | rfl | rfl | rfl
  · exact ⟨none, none, rfl⟩
  · exact ⟨some (-3), some 4, rfl⟩
  · exact ⟨some 0, some 0, rfl⟩
  · exact ⟨some (-30), some 60, rfl⟩
theorem cmp_eq_canon {S : Static thePr} {n m : Nat} {s e : Int} {R : PV → Prop} (h : R (.bool true)) : CmpTo S n .Eq (canon s m e) (canon s m e) R := cmp_eq_tup4 (by simpa using h)
theorem cmp_ne_canon {S : Static thePr} {n m : Nat} {s e : Int} {R : PV → Prop} (h : R (.bool false)) : CmpTo S n .NotEq (canon s m e) (canon s m e) R := cmp_ne_tup4 (by simpa using h)
theorem hex_occ {t : Nat} (h : t < 16) : Builtin.Str.occurrences (Str.ofString "0123456789abcdef") ⟨#[dc t]⟩ 0 (Str.ofString "0123456789abcdef").length 1 = t :: [] := by
  have : ∀ t : Fin 16, Builtin.Str.occurrences (Str.ofString "0123456789abcdef") ⟨#[dc t.val]⟩ 0 (Str.ofString "0123456789abcdef").length 1 = t.val :: [] := by decide +kernel
  exact this ⟨t, h⟩
theorem vl_take {b i c : Nat} {ds : List Nat} (h : ds[i]? = some c) : vl b (ds.take (i + 1)) = vl b (ds.take i) * b + dv c := by
  rw [List.take_add_one, h]
  show vl b (ds.take i ++ [c]) = _
  rw [vl_append, vl_cons]
  simp [vl]
theorem law_small_c {S : Static thePr} (D : Dct S) (C : Spc S) {n : Nat} {σ : List PV} {R : PV → List PV → Prop} (hs : StOk σ) (hR : ∀ q, StOk q → R (.bool true) q) :
    CallTo S (n + 8) (.fn 54) [.mref] σ R := by
  refine call_fn rfl sok54 bind54_1 (by ktf_call Mini) ?_
  refine xs_cons ?_
  ktf_call Msta
  ktf_call Me
  refine law_draw_c (by decide) hs ?_
  intro i1 q1 a1 b1 hs1
  ktf_call Me
  refine law_draw_c (by decide) hs1 ?_
  intro i2 q2 a2 b2 hs2
  ktf_call Me
  obtain ⟨w, hw⟩ : ∃ w : Nat, 1 + i1 = w := ⟨(1 + i1).toNat, by omega⟩
  obtain ⟨deep, hdeep⟩ : ∃ deep : Int, i2 - 10 = deep := ⟨_, rfl⟩
  rw [hw, hdeep]
  have hw0 : 0 < w := by omega
  have hw2 : w < 4096 := by omega
  have hd1 : -10 ≤ deep := by omega
  have hd2 : deep ≤ 40 := by omega
  clear hw hdeep a1 b1 a2 b2 hs1 hs
  refine ⟨?_, Nat.le_of_ble_eq_true rfl⟩
  ktf_call Me
  refine xs_cons ?_
  ktf_call Msta
  ktf_call Me
  refine law_draw_c (by decide) hs2 ?_
  intro i3 q3 a3 b3 hs3
  ktf_call Me
  generalize (i3 == 1) = minus at *
  clear a3 b3 hs2
  refine ⟨?_, Nat.le_of_ble_eq_true rfl⟩
  ktf_call Me
  refine law_draw_c (by decide) hs3 ?_
  intro i4 q4 a4 b4 hs4
  obtain ⟨b, hbi, hb⟩ := pick_base a4 b4
  refine sub_lst a4 (by omega) hbi ?_
  ktf_call Me
  refine law_draw_c (by decide) hs4 ?_
  intro i5 q5 a5 b5 hs5
  ktf_call Me
  obtain ⟨d, hd⟩ : ∃ d : Nat, 1 + i5 = d := ⟨(1 + i5).toNat, by omega⟩
  rw [hd]
  have hd3 : 1 ≤ d := by omega
  have hd4 : d ≤ 12 := by omega
  clear hd hbi a4 b4 a5 b5 hs3 hs4
  refine ⟨?_, Nat.le_of_ble_eq_true rfl⟩
  ktf_call Me
  refine xs_cons ?_
  ktf_call Msta
  ktf_call Me
  refine law_draw_c (by decide) hs5 ?_
  intro i6 q6 a6 b6 hs6
  obtain ⟨r, c, hc, hcr⟩ := pick_way a6 b6
  refine sub_str (by omega) (by omega) hc ?_
  rw [hcr]
  ktf_call Me
  refine law_draw_c (by decide) hs6 ?_
  intro i7 q7 a7 b7 hs7
  ktf_call Me
  generalize (i7 == 0) = strk at *
  refine law_draw_c (by decide) hs7 ?_
  intro i8 q8 a8 b8 hs8
  ktf_call Me
  generalize (i8 == 1) = shown at *
  clear hc hcr a6 b6 a7 b7 a8 b8 hs5 hs6 hs7
  refine ⟨?_, Nat.le_of_ble_eq_true rfl⟩
  ktf_call Me
  refine xs_cons ?_
  ktf_call Msta
  ktf_call Me
  refine ⟨?_, Nat.le_of_ble_eq_true rfl⟩
  ktf_call Me
  refine ⟨?_, Nat.le_of_ble_eq_true rfl⟩
  ktf_call Me
  refine ⟨?_, Nat.le_of_ble_eq_true rfl⟩
  ktf_call Me
  refine ⟨?_, Nat.le_of_ble_eq_true rfl⟩
  ktf_call Me
  refine ⟨?_, Nat.le_of_ble_eq_true rfl⟩
  ktf_call Me
  refine law_draw_c (by decide) hs8 ?_
  intro i9 q9 a9 b9 hs9
  obtain ⟨low, high, hlh⟩ := pick_lohi a9 b9
  refine sub_lst a9 (by omega) hlh ?_
  clear hlh a9 b9 hs8
  ktf_call Me
  refine xs_cons ?_
  ktf_call Msta
  ktf_call Me
  rw [max0]
  refine law_power_c (b := 2) (k := deep.toNat) (by decide) (by omega) ?_
  have hA2 : w * 2 ^ deep.toNat < 2 ^ 52 := lt_two_pow_mul (m := 12) (n := 40) hw2 (Nat.pow_le_pow_right (by decide) (by omega))
  have hB2 : 2 ^ (-deep).toNat ≤ 2 ^ 10 := Nat.pow_le_pow_right (by decide) (by omega)
  have hA0 : 0 < w * 2 ^ deep.toNat := Nat.mul_pos hw0 (two_pow_pos' _)
  have hB0 : 0 < 2 ^ (-deep).toNat := two_pow_pos' _
  refine bin_mul (fit_nat (m := 12) hw2 (by decide)) (fit_nat (m := 41) (Nat.pow_lt_pow_right (by decide) (by omega)) (by decide)) ?_
  rw [← Int.natCast_mul]
  ktf_call Me
  rw [max0]
  refine law_power_c (b := 2) (k := (-deep).toNat) (by decide) (by omega) ?_
  ktf_call Me
  refine ⟨?_, Nat.le_of_ble_eq_true rfl⟩
  ktf_call Me
  -- what is written
  obtain ⟨k, X, p, k1, k2, k3, k4, k5, k6, k7, hX, hpl, hlaid, hD0, hDb, hP1, hP2⟩ := small_facts (s := if minus then 1 else 0) (r := r) hb hd3 hd4 hw0 hw2 hd1 hd2
  have htold : ∀ (low high : Option Int), True := fun _ _ => trivial
  refine xs_cons ?_
  refine XT.mono (N := fun v q => q = q9 ∧ v = (some .mref :: some (.int (w : Nat)) :: some (.int deep) :: some (.bool minus) :: some (.int (b : Nat)) :: some (.int (d : Nat)) :: some (.str r.str) :: some (.bool strk) :: some (.bool shown) :: some (oint low) :: some (oint high) :: some (.int (w * 2 ^ deep.toNat : Nat)) :: some (.int (2 ^ (-deep).toNat : Nat)) ::
      some (.str (tx (textP (dgs b d (Dg b d X)) (Pl b d X p) d (loP d low) (hiP d high) strk shown minus b))) :: none :: none :: none :: none :: none :: none :: none :: none :: none :: none :: none :: none :: none :: none :: none :: none :: [])) (T := R) (B := fun _ _ => False) ?A ?B (fun _ _ h => h) (fun _ _ h => h)
  case A =>
    have hblw : bl w ≤ 12 := bl_le_of_lt (k := 12) hw2
    have htz : bl (od w) + tz w ≤ 12 := by have := bl_od hw0; omega
    cases minus with
    | true =>
      have hsw : sg (-((w : Nat) : Int)) = 1 := by unfold sg; rw [if_pos (by omega)]
      have haw : (-((w : Nat) : Int)).natAbs = w := by omega
      have hX : X = rnd 1 r (sbN b (d + 10) (od w) (deep + tz w)) (b ^ (k + 1 - d)) := hX
      ktf_call M
      refine law_tuple_c (z := -((w : Nat) : Int)) (by omega) (by rw [haw]; omega) ?_
      rw [hsw, haw]
      ktf_call Me
      refine to_str_c (n := n + 3) (s := 1) (M := od w) (E := deep + tz w) (b := b) (d := d) (k := k) hb (.inr rfl) (od_pos hw0) (by omega) hd3 (by omega) (by omega) (by omega) k1 k2 (by omega) k3 (by rw [← k5]; omega) (by rw [← k5]; omega) ?_
      rw [← hX, ← k5, dgs_Dg]
      ktf_call Mupd
      exact ⟨rfl, rfl⟩
    | false =>
      have hsw : sg (((w : Nat) : Int)) = 0 := by unfold sg; rw [if_neg (by omega)]
      have haw : (((w : Nat) : Int)).natAbs = w := by omega
      have hX : X = rnd 0 r (sbN b (d + 10) (od w) (deep + tz w)) (b ^ (k + 1 - d)) := hX
      ktf_call M
      refine law_tuple_c (z := ((w : Nat) : Int)) (by omega) (by rw [haw]; omega) ?_
      rw [hsw, haw]
      ktf_call Me
      refine to_str_c (n := n + 3) (s := 0) (M := od w) (E := deep + tz w) (b := b) (d := d) (k := k) hb (.inl rfl) (od_pos hw0) (by omega) hd3 (by omega) (by omega) (by omega) k1 k2 (by omega) k3 (by rw [← k5]; omega) (by rw [← k5]; omega) ?_
      rw [← hX, ← k5, dgs_Dg]
      ktf_call Mupd
      exact ⟨rfl, rfl⟩
  case B =>
    rintro v q ⟨rfl, rfl⟩
    have h400 : (2 : Nat) ^ 52 ≤ 2 ^ 400 := Nat.pow_le_pow_right (by decide) (by decide)
    have h401 : (2 : Nat) ^ 10 < 2 ^ 400 := Nat.pow_lt_pow_right (by decide) (by decide)
    refine xs_cons ?_
    ktf_call Msta
    ktf_call Me
    refine law_laid_c (n := n + 5) hA0 hB0 (by omega) (by omega) (by omega) (by omega) (by omega) ?_
    intro p' hp'
    have hpe : p' = p := isPlace_unique (two_le hb) hB0 hp' hpl
    subst hpe
    rw [hlaid]
    clear hlaid hX hpl hp' k1 k2 k3 k4 k5 k6 k7
    generalize Pl b d X p' = PL at *
    generalize Dg b d X = DD at *
    clear p' X k
    have hdl := dgs_len b d DD
    have hdg := dgs_isDg (b := b) (by omega) d DD
    have hvl : vl b (dgs b d DD) = DD := by rw [vl_dgs (by omega), Nat.mod_eq_of_lt hDb]
    ktf_call Me
    refine xs_cons ?_
    refine XT.mono (N := fun v q' => q' = q ∧ v = (some .mref :: some (.int (w : Nat)) :: some (.int deep) :: some (.bool minus) :: some (.int (b : Nat)) :: some (.int (d : Nat)) :: some (.str r.str) :: some (.bool strk) :: some (.bool shown) :: some (.int (loP d low)) :: some (.int (hiP d high)) :: some (.int (w * 2 ^ deep.toNat : Nat)) :: some (.int (2 ^ (-deep).toNat : Nat)) ::
        some (.str (tx (textP (dgs b d DD) PL d (loP d low) (hiP d high) strk shown minus b))) :: some (.str (tx (dgs b d DD))) :: some (.int PL) :: none :: none :: none :: none :: none :: none :: none :: none :: none :: none :: none :: none :: none :: none :: [])) (T := R) (B := fun _ _ => False) ?A2 ?B2 (fun _ _ h => h) (fun _ _ h => h)
    case A2 =>
      ktf_call Msta
      cases low with
      | none =>
        unfold oint
        ktf_call Me
        refine bin_floordiv (by decide) (Fit.of_lt (m := 3) (by decide) (by decide)) ?_
        rw [show ((d : Nat) : Int).fdiv 3 = ((d / 3 : Nat) : Int) from fdiv_nat d 3]
        ktf_call Me
        cases high with
        | none =>
          ktf_call Me
          refine ⟨?_, Nat.le_of_ble_eq_true rfl⟩
          ktf_call Me
          exact ⟨rfl, rfl⟩
        | some hi =>
          ktf_call Me
          refine ifff rfl ?_
          ktf_call Me
          refine ⟨?_, Nat.le_of_ble_eq_true rfl⟩
          ktf_call Me
          exact ⟨rfl, rfl⟩
      | some lo => 
        unfold oint
        ktf_call Me
        refine ifff rfl ?_
        ktf_call Me
        cases high with
        | none =>
          ktf_call Me
          refine ⟨?_, Nat.le_of_ble_eq_true rfl⟩
          ktf_call Me
          exact ⟨rfl, rfl⟩
        | some hi =>
          ktf_call Me
          refine ifff rfl ?_
          ktf_call Me
          refine ⟨?_, Nat.le_of_ble_eq_true rfl⟩
          ktf_call Me
          exact ⟨rfl, rfl⟩
    case B2 =>
      rintro v q' ⟨rfl, rfl⟩
      refine xs_cons ?_
      ktf_call Msta
      ktf_call Me
      refine law_text_c (n := n + 6) hdl hd3 (by omega) (by omega) (by omega) hb ?_
      ktf_call Me
      refine ifff (bne_self_eq_false _) ?_
      ktf_call M
      have hb16 : b ≤ 16 := by omega
      refine xt_for (items := fun i => ((tx (dgs b d DD)).cps[i]?).map fun c => .str ⟨#[c]⟩) (len := d)
        (fun i v q => q = q' ∧ ∃ o1, v = (some .mref :: some (.int (w : Nat)) :: some (.int deep) :: some (.bool minus) :: some (.int (b : Nat)) :: some (.int (d : Nat)) :: some (.str r.str) :: some (.bool strk) :: some (.bool shown) :: some (.int (loP d low)) :: some (.int (hiP d high)) :: some (.int (w * 2 ^ deep.toNat : Nat)) :: some (.int (2 ^ (-deep).toNat : Nat)) ::
        some (.str (tx (textP (dgs b d DD) PL d (loP d low) (hiP d high) strk shown minus b))) :: some (.str (tx (dgs b d DD))) :: some (.int PL) :: some (.int (vl b ((dgs b d DD).take i) : Nat)) :: o1 :: none :: none :: none :: none :: none :: none :: none :: none :: none :: none :: none :: none :: [])) ?_ ?_ ?_ ?_
      · ktf_call M
        exact ⟨iter_str, rfl, none, rfl⟩
      · intro i
        rw [show (tx (dgs b d DD)).cps[i]? = (dgs b d DD)[i]? by simp [tx], Option.map_eq_none_iff, List.getElem?_eq_none_iff, hdl]
      · rintro i x v q hi ⟨rfl, o1, rfl⟩
        rw [show (tx (dgs b d DD)).cps[i]? = (dgs b d DD)[i]? by simp [tx]] at hi
        cases hc : (dgs b d DD)[i]? with
        | none => rw [hc] at hi; cases hi
        | some c =>
          rw [hc] at hi
          cases hi
          obtain ⟨t, ht, rfl⟩ := hdg c (List.mem_of_getElem? hc)
          have hvt : vl b ((dgs b d DD).take i) < 2 ^ 48 := by
            have h1 := vl_lt (b := b) (by omega) (l := (dgs b d DD).take i) fun c hc => hdg c (List.mem_of_mem_take hc)
            have h2 : b ^ ((dgs b d DD).take i).length ≤ 2 ^ (4 * ((dgs b d DD).take i).length) := pow16 hb16
            have h3 : 2 ^ (4 * ((dgs b d DD).take i).length) ≤ 2 ^ 48 := Nat.pow_le_pow_right (by decide) (by rw [List.length_take]; omega)
            omega
          have hvs := vl_take (b := b) hc
          rw [dv_dc] at hvs
          ktf_call Mupd
          ktf_call M
          refine bin_mul (fit_nat (m := 48) hvt (by decide)) (fit_nat (m := 10) (by omega) (by decide)) ?_
          ktf_call M
          refine ct_index (i := t) (rest := []) (hex_occ (by omega)) ?_
          ktf_call M
          rw [hvs, Int.natCast_add, Int.natCast_mul]
          exact ⟨rfl, _, rfl⟩
      · rintro v q ⟨rfl, o1, rfl⟩
        rw [show (dgs b d DD).take d = dgs b d DD from List.take_of_length_le (by omega), hvl]
        obtain ⟨P, Q, e, j, t, hPQ, he, htxt, T, hv, hx⟩ := textP_told (low := loP d low) (high := hiP d high) (strk := strk) (shown := shown) (minus := minus) hb hdl hd3 (by omega) hdg (show -100 ≤ PL by omega) (show PL ≤ 100 by omega)
        rw [htxt]
        rw [hvl] at hv
        refine xs_cons ?_
        ktf_call Msta
        ktf_call Me
        refine law_draw_c (by decide) hs9 ?_
        intro i10 q10 a10 b10 hs10
        ktf_call Me
        obtain ⟨bits, hbits⟩ : ∃ bits : Nat, 1 + i10 = bits := ⟨(1 + i10).toNat, by omega⟩
        obtain ⟨sh, hsh⟩ : ∃ sh : Int, PL - d + 1 = sh := ⟨_, rfl⟩
        rw [hbits, hsh]
        rw [hsh] at hx
        have hbt0 : 0 < bits := by omega
        have hbt : bits ≤ 50 := by omega
        have hsh1 : -120 ≤ sh := by omega
        have hsh2 : sh ≤ 120 := by omega
        refine ⟨?_, Nat.le_of_ble_eq_true rfl⟩
        ktf_call Me
        refine xs_cons ?_
        ktf_call Msta
        ktf_call Me
        rw [max0]
        refine law_power_c (b := b) (k := sh.toNat) hb16 (by omega) ?_
        have hDD : DD < 2 ^ 48 := by
          have h2 : b ^ d ≤ 2 ^ (4 * d) := pow16 hb16
          have h3 : 2 ^ (4 * d) ≤ 2 ^ 48 := Nat.pow_le_pow_right (by decide) (by omega)
          omega
        have hpw : ∀ z : Nat, z ≤ 120 → b ^ z < 2 ^ 481 := fun z hz => by
          have h2 : b ^ z ≤ 2 ^ (4 * z) := pow16 hb16
          have h3 : 2 ^ (4 * z) < 2 ^ 481 := Nat.pow_lt_pow_right (by decide) (by omega)
          exact Nat.lt_of_le_of_lt h2 h3
        refine bin_mul (fit_nat (m := 48) hDD (by decide)) (fit_nat (m := 481) (hpw _ (by omega)) (by decide)) ?_
        rw [← Int.natCast_mul]
        ktf_call Me
        rw [max0]
        refine law_power_c (b := b) (k := (-sh).toNat) hb16 (by omega) ?_
        ktf_call Me
        refine ⟨?_, Nat.le_of_ble_eq_true rfl⟩
        ktf_call Me
        have hbp : 0 < b := by omega
        have hm0 : 0 < vl b (P ++ rs 48 Q) := by
          apply Nat.pos_of_ne_zero
          intro h
          rw [h, Nat.zero_mul] at hv
          have := Nat.mul_pos hD0 (Nat.pow_pos (n := j) hbp)
          omega
        have hratio := read_ratio hbp hv hx
        refine xs_cons ?_
        ktf_call Msta
        ktf_call Me
        refine from_str_c (n := n) D C T hPQ he hm0 hbt0 (by omega) ?_
        intro pv hpv
        have hpv2 := RndOf.ratio (Nat.pow_pos hbp) (Nat.pow_pos hbp) hratio hpv
        have hz1000 : DD * b ^ sh.toNat < 2 ^ 1000 := by
          have := lt_two_pow_mul hDD (Nat.le_of_lt (hpw sh.toNat (by omega)))
          exact Nat.lt_trans this (Nat.pow_lt_pow_right (by decide) (by decide))
        have hU1000 : b ^ (-sh).toNat < 2 ^ 1000 := Nat.lt_trans (hpw _ (by omega)) (Nat.pow_lt_pow_right (by decide) (by decide))
        have hz0 : 0 < DD * b ^ sh.toNat := Nat.mul_pos hD0 (Nat.pow_pos hbp)
        generalize DD * b ^ sh.toNat = ov at *
        ktf_call Me
        cases minus with
        | true =>
          have hsz : sg (-((ov : Nat) : Int)) = 1 := by unfold sg; rw [if_pos (by omega)]
          have haz : (-((ov : Nat) : Int)).natAbs = ov := by omega
          have hpv3 : RndOf 1 r bits ov (b ^ (-sh).toNat) 0 pv := hpv2
          ktf_call Me
          refine law_rounded_c (n := n + 6) (z := -((ov : Nat) : Int)) (by omega) (Nat.pow_pos hbp) (by rw [haz]; exact hz1000) hU1000 hbt0 (by omega) ?_
          intro pv2 hpv4
          rw [hsz, haz] at hpv4
          have hpe := RndOf.unique hbt0 (Nat.pow_pos hbp) hpv3 hpv4
          subst hpe
          obtain ⟨M, E, _, rfl⟩ := hpv3
          exact cmp_eq_canon (hR _ hs10)
        | false =>
          have hsz : sg (((ov : Nat) : Int)) = 0 := by unfold sg; rw [if_neg (by omega)]
          have haz : (((ov : Nat) : Int)).natAbs = ov := by omega
          have hpv3 : RndOf 0 r bits ov (b ^ (-sh).toNat) 0 pv := hpv2
          ktf_call Me
          refine law_rounded_c (n := n + 6) (z := ((ov : Nat) : Int)) (by omega) (Nat.pow_pos hbp) (by rw [haz]; exact hz1000) hU1000 hbt0 (by omega) ?_
          intro pv2 hpv4
          rw [hsz, haz] at hpv4
          have hpe := RndOf.unique hbt0 (Nat.pow_pos hbp) hpv3 hpv4
          subst hpe
          obtain ⟨M, E, _, rfl⟩ := hpv3
          exact cmp_eq_canon (hR _ hs10)
theorem law_top {S : Static thePr} (D : Dct S) (C : Spc S) {n : Nat} {a : Addr} {ws : List Value} {l : List Int} (hl : S.g.IsList a ws.toArray) (hI : IntsAre ws l) (hsz : l.length ≤ 1000) :
    ∀ L s, FS S none L 55 nm55 (some (.raw (.ref a)) :: none :: none :: none :: none :: none :: none :: none :: none :: none :: none :: none :: none :: none :: none :: none :: none :: none :: none :: none :: []) [] s → ∀ (A : Around) (Q : Flow → Shared → Prop) (E : Value → Shared → Prop), Room A (n + 9) →
      (∀ s' p v, p = .bool true → Rep S.fa none s'.heap p v → (∀ b o, S.g.get? b = some o → s'.heap.get? b = some o) → s' = { s with heap := s'.heap, toks := s'.toks } → Q (.ret v) s') →
      wpAny (model S.prog S.w) A (execs (FT 55).body (envK S 55 L)) Q E s := by
  refine top_adopt (T := fun p => p = .bool true) ?_
  ktf_call Me
  refine law_state_c (n := n + 8) hl hI hsz ?_
  intro l' seed hl1 hs1 hs2
  refine ⟨_, _, _, rfl, ?_, ?_⟩
  · intro p hp
    simp at hp
    subst hp
    rfl
  ktf_call Mupd
  have hst : StOk [.int 0, .lst (l'.map .int), .int seed] := ⟨_, _, _, rfl, by decide, hl1, hs1, hs2⟩
  generalize ([.int 0, .lst (l'.map .int), .int seed] : List PV) = σ at *
  refine xs_cons ?_
  refine xt_for (items := fun i => if i < 2 then some (.int (i : Nat)) else none) (len := 2)
    (fun i v q => StOk q ∧ ∃ o, v = (some (.raw (.ref a)) :: some .mref :: o :: none :: none :: none :: none :: none :: none :: none :: none :: none :: none :: none :: none :: none :: none :: none :: none :: none :: [])) ?_ ?_ ?_ ?_
  · ktf_call M
    exact ⟨iter_nat (k := 2) (by decide), hst, none, rfl⟩
  · intro i; by_cases h : i < 2 <;> simp [h] <;> omega
  · rintro i x v q hi ⟨hq, o, rfl⟩
    by_cases h : i < 2
    · simp [h] at hi
      subst hi
      ktf_call Mupd
      ktf_call M
      refine law_small_c (n := n + 1) D C hq ?_
      intro q2 hq2
      ktf_call M
      exact ⟨hq2, _, rfl⟩
    · simp [h] at hi
  · rintro v q ⟨hq, o, rfl⟩
    refine xs_cons ?_
    ktf_call Msta
    ktf_call Me
    refine law_draw_c (n := n + 8) (by decide) hq ?_
    intro i1 q1 a1 b1 hq1
    ktf_call Me
    obtain ⟨bits, hbits⟩ : ∃ bits : Nat, 1 + i1 = bits := ⟨(1 + i1).toNat, by omega⟩
    rw [hbits]
    have hb1 : 1 ≤ bits := by omega
    have hb2 : bits ≤ 53 := by omega
    clear hbits a1 b1 hq
    have e1 : ((bits : Nat) : Int) - 1 = ((bits - 1 : Nat) : Int) := by omega
    refine xs_cons ?_
    ktf_call Msta
    ktf_call Me
    rw [e1]
    refine law_power_c (b := 2) (k := bits - 1) (by decide) (by omega) ?_
    ktf_call Me
    refine law_draw_c (n := n + 8) (by decide) hq1 ?_
    intro i2 q2 a2 b2 hq2
    ktf_call Me
    refine bin_mul (Fit.of_lt (m := 50) (by omega) (by decide)) (Fit.of_lt (m := 50) (by decide) (by decide)) ?_
    ktf_call Me
    refine law_draw_c (n := n + 8) (by decide) hq2 ?_
    intro i3 q3 a3 b3 hq3
    ktf_call Me
    rw [e1]
    refine law_power_c (b := 2) (k := bits - 1) (by decide) (by omega) ?_
    have hpp := two_pow_pos' (bits - 1)
    refine bin_mod (by omega) ?_
    have hfr := fmod_range (a := i2 * 999999000001 + i3) (m := ((2 ^ (bits - 1) : Nat) : Int)) (by omega)
    obtain ⟨w, hw⟩ : ∃ w : Nat, ((2 ^ (bits - 1) : Nat) : Int) + (i2 * 999999000001 + i3).fmod ((2 ^ (bits - 1) : Nat) : Int) = w := ⟨(((2 ^ (bits - 1) : Nat) : Int) + (i2 * 999999000001 + i3).fmod ((2 ^ (bits - 1) : Nat) : Int)).toNat, by omega⟩
    have hpb : 2 ^ bits = 2 * 2 ^ (bits - 1) := by
      have : bits = (bits - 1) + 1 := by omega
      rw [this, Nat.pow_succ]; simp; omega
    have hw1 : 2 ^ (bits - 1) ≤ w := by omega
    have hw2 : w < 2 ^ bits := by omega
    ktf_call Me
    rw [hw]
    clear hw hfr a2 b2 a3 b3 hq1 hq2
    have hw0 : 0 < w := by omega
    refine xs_cons ?_
    refine XT.mono (N := fun v q => StOk q ∧ ∃ (s deep : Int), (s = 0 ∨ s = 1) ∧ -200 ≤ deep ∧ deep ≤ 200 ∧ v = (some (.raw (.ref a)) :: some .mref :: o :: some (.int (bits : Nat)) :: some (.int (w : Nat)) :: some (canon s w deep) :: none :: none :: none :: none :: none :: none :: none :: none :: none :: none :: none :: none :: none :: none :: [])) (T := fun p _ => flatR p = true ∧ p = .bool true) (B := fun _ _ => False) ?A ?B (fun _ _ h => h) (fun _ _ h => h)
    case A =>
      have hbw : bl w < 9000 := by have := bl_le_of_lt hw2; omega
      have hz1 : sg (-((w : Nat) : Int)) = 1 := by unfold sg; rw [if_pos (by omega)]
      have hz2 : sg ((w : Nat) : Int) = 0 := by unfold sg; rw [if_neg (by omega)]
      have ha1 : (-((w : Nat) : Int)).natAbs = w := by omega
      have ha2 : (((w : Nat) : Int)).natAbs = w := by omega
      ktf_call Msta
      ktf_call Me
      refine law_draw_c (n := n + 8) (by decide) hq3 ?_
      intro i4 q4 a4 b4 hq4
      ktf_call Me
      refine ⟨fun _ => ?_, fun _ => ?_⟩
      · ktf_call Me
        refine law_draw_c (n := n + 8) (by decide) hq4 ?_
        intro i5 q5 a5 b5 hq5
        ktf_call Me
        refine law_tuple_c (n := n + 8) (z := -((w : Nat) : Int)) (by omega) (by rw [ha1]; exact hbw) ?_
        rw [hz1, ha1]
        ktf_call Mupd
        exact ⟨hq5, 1, _, .inr rfl, by omega, by omega, rfl⟩
      · ktf_call Me
        refine law_draw_c (n := n + 8) (by decide) hq4 ?_
        intro i5 q5 a5 b5 hq5
        ktf_call Me
        refine law_tuple_c (n := n + 8) (z := ((w : Nat) : Int)) (by omega) (by rw [ha2]; exact hbw) ?_
        rw [hz2, ha2]
        ktf_call Mupd
        exact ⟨hq5, 0, _, .inl rfl, by omega, by omega, rfl⟩
    case B =>
      rintro v q ⟨hqs, s, deep, hs, hd1, hd2, rfl⟩
      obtain ⟨k, X, p, k1, k2, k3, k4, k5, k6, k7, hX, hD0, hDb, hP1, hP2, hread⟩ := great_facts (s := s) hb1 hb2 hw1 hw2 hd1 hd2
      obtain ⟨t1, t2, t3, t4⟩ := tab_rdps hb1 hb2
      have hblw : bl w ≤ 53 := by have := bl_le_of_lt hw2; omega
      have htz : bl (od w) + tz w ≤ 53 := by have := bl_od hw0; omega
      refine xs_cons ?_
      refine xt_if ?_
      ktf_call Me
      refine repr_dps_c (n := n + 7) (b := bits) (by omega) ?_
      ktf_call Me
      refine to_str2_c (n := n + 5) (s := s) (M := od w) (E := deep + tz w) (d := rdps bits) (k := k) hs (od_pos hw0) (by omega) t2 (by omega) (by omega) (by omega) k1 k2 (by omega) k3 (by rw [← k5]; omega) (by rw [← k5]; omega) ?_
      rw [← hX, ← k5, dgs_Dg, show (if X = 10 ^ rdps bits then p + 1 else p) = Pl 10 (rdps bits) X p from rfl]
      have hdl := dgs_len 10 (rdps bits) (Dg 10 (rdps bits) X)
      have hdg := dgs_isDg (b := 10) (by decide) (rdps bits) (Dg 10 (rdps bits) X)
      have hvl : vl 10 (dgs 10 (rdps bits) (Dg 10 (rdps bits) X)) = Dg 10 (rdps bits) X := by rw [vl_dgs (by decide), Nat.mod_eq_of_lt hDb]
      clear hX k1 k2 k3 k4 k5 k6 k7
      generalize Dg 10 (rdps bits) X = DD at *
      generalize Pl 10 (rdps bits) X p = PL at *
      obtain ⟨P, Q, e, j, t, hPQ, he, htxt, T, hv, hx⟩ := textP_told (b := 10) (low := loP (rdps bits) none) (high := hiP (rdps bits) none) (strk := true) (shown := false) (minus := decide (s = 1)) (.inl rfl) hdl t2 (by omega) hdg (show -100 ≤ PL by omega) (show PL ≤ 100 by omega)
      rw [htxt]
      rw [hvl] at hv
      have hm0 : 0 < vl 10 (P ++ rs 48 Q) := by
        apply Nat.pos_of_ne_zero
        intro h
        rw [h, Nat.zero_mul] at hv
        have := Nat.mul_pos hD0 (Nat.pow_pos (n := j) (show 0 < 10 by decide))
        omega
      have hr := hread _ _ _ _ hv hx
      ktf_call Me
      refine from_str_c (n := n + 2) (r := .n) D C T hPQ he hm0 (by omega) (by omega) ?_
      intro pv hpv
      have hsg : (if decide (s = 1) = true then (1 : Int) else 0) = s := by rcases hs with rfl | rfl <;> rfl
      rw [hsg] at hpv
      have hpe := RndOf.unique (by omega) (Nat.pow_pos (by decide)) hpv hr
      subst hpe
      ktf_call Me
      refine cmp_ne_canon ?_
      refine ⟨_, rfl, ?_⟩
      refine ifff rfl ?_
      refine xs_nil ?_
      refine xs_cons ?_
      ktf_call Msta
      ktf_call Me
      refine law_draw_c (n := n + 8) (by decide) hqs ?_
      intro i6 q6 a6 b6 hq6
      ktf_call Me
      have hi6 : i6 = 0 ∨ i6 = 1 ∨ i6 = 2 ∨ i6 = 3 := by omega
      rcases hi6 with rfl | rfl | rfl | rfl
      · refine xs_cons ?_
        ktf_call Msta
        ktf_call Me
        refine ⟨?_, Nat.le_of_ble_eq_true rfl⟩
        ktf_call Me
        refine sub_lst (by decide) (by decide) rfl ?_
        ktf_call Me
        refine law_draw_c (n := n + 8) (by decide) hq6 ?_
        intro i7 q7 a7 b7 hq7
        ktf_call Me
        obtain ⟨dd, hdd⟩ : ∃ dd : Nat, 1 + i7 = dd := ⟨(1 + i7).toNat, by omega⟩
        rw [hdd]
        refine to_str_zero (n := n + 8) (by omega) ?_
        ktf_call Me
        refine ⟨?_, Nat.le_of_ble_eq_true rfl⟩
        ktf_call Me
        refine sub_lst (by decide) (by decide) rfl ?_
        ktf_call Me
        exact ⟨rfl, by rw [beq_self_eq_true]⟩
      · refine xs_cons ?_
        ktf_call Msta
        ktf_call Me
        refine ⟨?_, Nat.le_of_ble_eq_true rfl⟩
        ktf_call Me
        refine sub_lst (by decide) (by decide) rfl ?_
        ktf_call Me
        refine law_draw_c (n := n + 8) (by decide) hq6 ?_
        intro i7 q7 a7 b7 hq7
        ktf_call Me
        obtain ⟨dd, hdd⟩ : ∃ dd : Nat, 1 + i7 = dd := ⟨(1 + i7).toNat, by omega⟩
        rw [hdd]
        refine to_str_inf (n := n + 8) ?_
        ktf_call Me
        refine ⟨?_, Nat.le_of_ble_eq_true rfl⟩
        ktf_call Me
        refine sub_lst (by decide) (by decide) rfl ?_
        ktf_call Me
        exact ⟨rfl, by rw [beq_self_eq_true]⟩
      · refine xs_cons ?_
        ktf_call Msta
        ktf_call Me
        refine ⟨?_, Nat.le_of_ble_eq_true rfl⟩
        ktf_call Me
        refine sub_lst (by decide) (by decide) rfl ?_
        ktf_call Me
        refine law_draw_c (n := n + 8) (by decide) hq6 ?_
        intro i7 q7 a7 b7 hq7
        ktf_call Me
        obtain ⟨dd, hdd⟩ : ∃ dd : Nat, 1 + i7 = dd := ⟨(1 + i7).toNat, by omega⟩
        rw [hdd]
        refine to_str_ninf (n := n + 8) ?_
        ktf_call Me
        refine ⟨?_, Nat.le_of_ble_eq_true rfl⟩
        ktf_call Me
        refine sub_lst (by decide) (by decide) rfl ?_
        ktf_call Me
        exact ⟨rfl, by rw [beq_self_eq_true]⟩
      · refine xs_cons ?_
        ktf_call Msta
        ktf_call Me
        refine ⟨?_, Nat.le_of_ble_eq_true rfl⟩
        ktf_call Me
        refine sub_lst (by decide) (by decide) rfl ?_
        ktf_call Me
        refine law_draw_c (n := n + 8) (by decide) hq6 ?_
        intro i7 q7 a7 b7 hq7
        ktf_call Me
        obtain ⟨dd, hdd⟩ : ∃ dd : Nat, 1 + i7 = dd := ⟨(1 + i7).toNat, by omega⟩
        rw [hdd]
        refine to_str_nan (n := n + 8) ?_
        ktf_call Me
        refine ⟨?_, Nat.le_of_ble_eq_true rfl⟩
        ktf_call Me
        refine sub_lst (by decide) (by decide) rfl ?_
        ktf_call Me
        exact ⟨rfl, by rw [beq_self_eq_true]⟩
-- written by gen_top.py
def faT (fl sz : Addr) : Nat → Addr
  | 4 => 21
  | 5 => 28
  | 7 => 36
  | 8 => 44
  | 16 => 51
  | 17 => 58
  | 26 => 76
  | 27 => 83
  | 28 => 91
  | 29 => 99
  | 30 => 107
  | 31 => 114
  | 33 => 130
  | 36 => 153
  | 39 => 170
  | 40 => 178
  | 41 => 186
  | 42 => 194
  | 44 => 203
  | 46 => 208
  | 47 => 215
  | 48 => 222
  | 49 => 229
  | 50 => 236
  | 51 => 243
  | 52 => 250
  | 53 => 257
  | 54 => 264
  | 1000 => 65
  | 1001 => 195
  | 55 => fl
  | 999 => sz
  | _ => 0
def cdT (cl : Value) : Nat → Value
  | 4 => .ref 20
  | 5 => .ref 27
  | 7 => .ref 35
  | 8 => .ref 43
  | 16 => .ref 50
  | 17 => .ref 57
  | 26 => .ref 75
  | 27 => .ref 82
  | 28 => .ref 90
  | 29 => .ref 98
  | 30 => .ref 106
  | 31 => .ref 113
  | 33 => .ref 129
  | 36 => .ref 152
  | 39 => .ref 169
  | 40 => .ref 177
  | 41 => .ref 185
  | 42 => .ref 193
  | 44 => .ref 202
  | 46 => .ref 207
  | 47 => .ref 214
  | 48 => .ref 221
  | 49 => .ref 228
  | 50 => .ref 235
  | 51 => .ref 242
  | 52 => .ref 249
  | 53 => .ref 256
  | 54 => .ref 263
  | 55 => cl
  | _ => .none
noncomputable def gEs (P : Params) : Array DictEntry := match (hd.heap_39 P).lookup 3 with
  | some ⟨_, _, .dict es _, _⟩ => es
  | _ => #[]
theorem mg_at {P : Params} {g : Heap} {mg : Str → Option Value} (KX : (hd.heap_39 P).In g) (hn : g.Ns mainGlobals mg) {x : Str} {v : Option Value} (h : nsFind (gEs P) x = v) : mg x = v := by
  obtain ⟨o, es, ep, h1, h2, _, h3⟩ := hn
  have h4 := KX 3 _ rfl
  rw [show mainGlobals = 3 from rfl] at h1
  rw [h1] at h4
  injection h4 with h4
  rw [h4] at h2
  injection h2 with h2 _
  rw [← h3, ← h2]
  exact h
section
variable {P : Params} {g : Heap} {fl : Addr} {cl : Value} (KX : (hd.heap_39 P).In g)
include KX
theorem fnAt4 : FnAt thePr g (faT fl g.objs.size) (cdT cl) 4 := ⟨⟨_, _, KX 21 _ rfl, rfl, rfl, rfl, rfl, rfl, rfl, rfl, rfl, rfl, .inl ⟨rfl, rfl⟩⟩, codeRec_of KX (by rfl)⟩
theorem fnAt5 : FnAt thePr g (faT fl g.objs.size) (cdT cl) 5 := ⟨⟨_, _, KX 28 _ rfl, rfl, rfl, rfl, rfl, rfl, rfl, rfl, rfl, rfl, .inl ⟨rfl, rfl⟩⟩, codeRec_of KX (by rfl)⟩
theorem fnAt7 : FnAt thePr g (faT fl g.objs.size) (cdT cl) 7 := ⟨⟨_, _, KX 36 _ rfl, rfl, rfl, rfl, rfl, rfl, rfl, rfl, rfl, rfl, .inr ⟨29, _, _, rfl, KX 29 _ rfl, ⟨_, _, rfl, ⟨_, rfl⟩, ⟨_, _, rfl, ⟨_, rfl⟩, rfl⟩⟩⟩⟩, codeRec_of KX (by rfl)⟩
theorem fnAt8 : FnAt thePr g (faT fl g.objs.size) (cdT cl) 8 := ⟨⟨_, _, KX 44 _ rfl, rfl, rfl, rfl, rfl, rfl, rfl, rfl, rfl, rfl, .inr ⟨37, _, _, rfl, KX 37 _ rfl, ⟨_, _, rfl, ⟨_, rfl⟩, ⟨_, _, rfl, ⟨_, rfl⟩, ⟨_, _, rfl, ⟨_, rfl⟩, rfl⟩⟩⟩⟩⟩, codeRec_of KX (by rfl)⟩
theorem fnAt16 : FnAt thePr g (faT fl g.objs.size) (cdT cl) 16 := ⟨⟨_, _, KX 51 _ rfl, rfl, rfl, rfl, rfl, rfl, rfl, rfl, rfl, rfl, .inl ⟨rfl, rfl⟩⟩, codeRec_of KX (by rfl)⟩
theorem fnAt17 : FnAt thePr g (faT fl g.objs.size) (cdT cl) 17 := ⟨⟨_, _, KX 58 _ rfl, rfl, rfl, rfl, rfl, rfl, rfl, rfl, rfl, rfl, .inl ⟨rfl, rfl⟩⟩, codeRec_of KX (by rfl)⟩
theorem fnAt26 : FnAt thePr g (faT fl g.objs.size) (cdT cl) 26 := ⟨⟨_, _, KX 76 _ rfl, rfl, rfl, rfl, rfl, rfl, rfl, rfl, rfl, rfl, .inl ⟨rfl, rfl⟩⟩, codeRec_of KX (by rfl)⟩
theorem fnAt27 : FnAt thePr g (faT fl g.objs.size) (cdT cl) 27 := ⟨⟨_, _, KX 83 _ rfl, rfl, rfl, rfl, rfl, rfl, rfl, rfl, rfl, rfl, .inl ⟨rfl, rfl⟩⟩, codeRec_of KX (by rfl)⟩
theorem fnAt28 : FnAt thePr g (faT fl g.objs.size) (cdT cl) 28 := ⟨⟨_, _, KX 91 _ rfl, rfl, rfl, rfl, rfl, rfl, rfl, rfl, rfl, rfl, .inr ⟨84, _, _, rfl, KX 84 _ rfl, ⟨_, _, rfl, ⟨_, rfl⟩, ⟨_, _, rfl, ⟨_, rfl⟩, rfl⟩⟩⟩⟩, codeRec_of KX (by rfl)⟩
theorem fnAt29 : FnAt thePr g (faT fl g.objs.size) (cdT cl) 29 := ⟨⟨_, _, KX 99 _ rfl, rfl, rfl, rfl, rfl, rfl, rfl, rfl, rfl, rfl, .inr ⟨92, _, _, rfl, KX 92 _ rfl, ⟨_, _, rfl, ⟨_, rfl⟩, ⟨_, _, rfl, ⟨_, rfl⟩, rfl⟩⟩⟩⟩, codeRec_of KX (by rfl)⟩
theorem fnAt30 : FnAt thePr g (faT fl g.objs.size) (cdT cl) 30 := ⟨⟨_, _, KX 107 _ rfl, rfl, rfl, rfl, rfl, rfl, rfl, rfl, rfl, rfl, .inr ⟨100, _, _, rfl, KX 100 _ rfl, ⟨_, _, rfl, ⟨_, rfl⟩, rfl⟩⟩⟩, codeRec_of KX (by rfl)⟩
theorem fnAt31 : FnAt thePr g (faT fl g.objs.size) (cdT cl) 31 := ⟨⟨_, _, KX 114 _ rfl, rfl, rfl, rfl, rfl, rfl, rfl, rfl, rfl, rfl, .inl ⟨rfl, rfl⟩⟩, codeRec_of KX (by rfl)⟩
theorem fnAt33 : FnAt thePr g (faT fl g.objs.size) (cdT cl) 33 := ⟨⟨_, _, KX 130 _ rfl, rfl, rfl, rfl, rfl, rfl, rfl, rfl, rfl, rfl, .inr ⟨123, _, _, rfl, KX 123 _ rfl, ⟨_, _, rfl, ⟨_, rfl⟩, ⟨_, _, rfl, ⟨_, rfl⟩, rfl⟩⟩⟩⟩, codeRec_of KX (by rfl)⟩
theorem fnAt36 : FnAt thePr g (faT fl g.objs.size) (cdT cl) 36 := ⟨⟨_, _, KX 153 _ rfl, rfl, rfl, rfl, rfl, rfl, rfl, rfl, rfl, rfl, .inr ⟨146, _, _, rfl, KX 146 _ rfl, ⟨_, _, rfl, ⟨_, rfl⟩, rfl⟩⟩⟩, codeRec_of KX (by rfl)⟩
theorem fnAt39 : FnAt thePr g (faT fl g.objs.size) (cdT cl) 39 := ⟨⟨_, _, KX 170 _ rfl, rfl, rfl, rfl, rfl, rfl, rfl, rfl, rfl, rfl, .inr ⟨163, _, _, rfl, KX 163 _ rfl, ⟨_, _, rfl, ⟨_, rfl⟩, rfl⟩⟩⟩, codeRec_of KX (by rfl)⟩
theorem fnAt40 : FnAt thePr g (faT fl g.objs.size) (cdT cl) 40 := ⟨⟨_, _, KX 178 _ rfl, rfl, rfl, rfl, rfl, rfl, rfl, rfl, rfl, rfl, .inr ⟨171, _, _, rfl, KX 171 _ rfl, ⟨_, _, rfl, ⟨_, rfl⟩, ⟨_, _, rfl, rfl, rfl⟩⟩⟩⟩, codeRec_of KX (by rfl)⟩
theorem fnAt41 : FnAt thePr g (faT fl g.objs.size) (cdT cl) 41 := ⟨⟨_, _, KX 186 _ rfl, rfl, rfl, rfl, rfl, rfl, rfl, rfl, rfl, rfl, .inr ⟨179, _, _, rfl, KX 179 _ rfl, ⟨_, _, rfl, rfl, ⟨_, _, rfl, rfl, ⟨_, _, rfl, rfl, ⟨_, _, rfl, rfl, ⟨_, _, rfl, ⟨_, rfl⟩, ⟨_, _, rfl, rfl, ⟨_, _, rfl, ⟨_, rfl⟩, rfl⟩⟩⟩⟩⟩⟩⟩⟩⟩, codeRec_of KX (by rfl)⟩
theorem fnAt42 : FnAt thePr g (faT fl g.objs.size) (cdT cl) 42 := ⟨⟨_, _, KX 194 _ rfl, rfl, rfl, rfl, rfl, rfl, rfl, rfl, rfl, rfl, .inr ⟨187, _, _, rfl, KX 187 _ rfl, ⟨_, _, rfl, ⟨_, rfl⟩, rfl⟩⟩⟩, codeRec_of KX (by rfl)⟩
theorem fnAt44 : FnAt thePr g (faT fl g.objs.size) (cdT cl) 44 := ⟨⟨_, _, KX 203 _ rfl, rfl, rfl, rfl, rfl, rfl, rfl, rfl, rfl, rfl, .inr ⟨196, _, _, rfl, KX 196 _ rfl, ⟨_, _, rfl, ⟨_, rfl⟩, ⟨_, _, rfl, ⟨_, rfl⟩, ⟨_, _, rfl, ⟨_, rfl⟩, rfl⟩⟩⟩⟩⟩, codeRec_of KX (by rfl)⟩
theorem fnAt46 : FnAt thePr g (faT fl g.objs.size) (cdT cl) 46 := ⟨⟨_, _, KX 208 _ rfl, rfl, rfl, rfl, rfl, rfl, rfl, rfl, rfl, rfl, .inl ⟨rfl, rfl⟩⟩, codeRec_of KX (by rfl)⟩
theorem fnAt47 : FnAt thePr g (faT fl g.objs.size) (cdT cl) 47 := ⟨⟨_, _, KX 215 _ rfl, rfl, rfl, rfl, rfl, rfl, rfl, rfl, rfl, rfl, .inl ⟨rfl, rfl⟩⟩, codeRec_of KX (by rfl)⟩
theorem fnAt48 : FnAt thePr g (faT fl g.objs.size) (cdT cl) 48 := ⟨⟨_, _, KX 222 _ rfl, rfl, rfl, rfl, rfl, rfl, rfl, rfl, rfl, rfl, .inl ⟨rfl, rfl⟩⟩, codeRec_of KX (by rfl)⟩
theorem fnAt49 : FnAt thePr g (faT fl g.objs.size) (cdT cl) 49 := ⟨⟨_, _, KX 229 _ rfl, rfl, rfl, rfl, rfl, rfl, rfl, rfl, rfl, rfl, .inl ⟨rfl, rfl⟩⟩, codeRec_of KX (by rfl)⟩
theorem fnAt50 : FnAt thePr g (faT fl g.objs.size) (cdT cl) 50 := ⟨⟨_, _, KX 236 _ rfl, rfl, rfl, rfl, rfl, rfl, rfl, rfl, rfl, rfl, .inl ⟨rfl, rfl⟩⟩, codeRec_of KX (by rfl)⟩
theorem fnAt51 : FnAt thePr g (faT fl g.objs.size) (cdT cl) 51 := ⟨⟨_, _, KX 243 _ rfl, rfl, rfl, rfl, rfl, rfl, rfl, rfl, rfl, rfl, .inl ⟨rfl, rfl⟩⟩, codeRec_of KX (by rfl)⟩
theorem fnAt52 : FnAt thePr g (faT fl g.objs.size) (cdT cl) 52 := ⟨⟨_, _, KX 250 _ rfl, rfl, rfl, rfl, rfl, rfl, rfl, rfl, rfl, rfl, .inl ⟨rfl, rfl⟩⟩, codeRec_of KX (by rfl)⟩
theorem fnAt53 : FnAt thePr g (faT fl g.objs.size) (cdT cl) 53 := ⟨⟨_, _, KX 257 _ rfl, rfl, rfl, rfl, rfl, rfl, rfl, rfl, rfl, rfl, .inl ⟨rfl, rfl⟩⟩, codeRec_of KX (by rfl)⟩
theorem fnAt54 : FnAt thePr g (faT fl g.objs.size) (cdT cl) 54 := ⟨⟨_, _, KX 264 _ rfl, rfl, rfl, rfl, rfl, rfl, rfl, rfl, rfl, rfl, .inl ⟨rfl, rfl⟩⟩, codeRec_of KX (by rfl)⟩
theorem fnAll : ∀ k, thePr.fns k = true → FnAt thePr g (faT fl g.objs.size) (cdT cl) k := by
  intro k hk
  have hm : k ∈ [4, 5, 7, 8, 16, 17, 26, 27, 28, 29, 30, 31, 33, 36, 39, 40, 41, 42, 44, 47, 46, 48, 49, 50, 51, 52, 53, 54] := by
    have h2 : fnTab k = true := hk
    unfold fnTab at h2
    simpa using h2
  simp only [List.mem_cons, List.not_mem_nil, or_false] at hm
  rcases hm with rfl | rfl | rfl | rfl | rfl | rfl | rfl | rfl | rfl | rfl | rfl | rfl | rfl | rfl | rfl | rfl | rfl | rfl | rfl | rfl | rfl | rfl | rfl | rfl | rfl | rfl | rfl | rfl
  · exact fnAt4 KX
  · exact fnAt5 KX
  · exact fnAt7 KX
  · exact fnAt8 KX
  · exact fnAt16 KX
  · exact fnAt17 KX
  · exact fnAt26 KX
  · exact fnAt27 KX
  · exact fnAt28 KX
  · exact fnAt29 KX
  · exact fnAt30 KX
  · exact fnAt31 KX
  · exact fnAt33 KX
  · exact fnAt36 KX
  · exact fnAt39 KX
  · exact fnAt40 KX
  · exact fnAt41 KX
  · exact fnAt42 KX
  · exact fnAt44 KX
  · exact fnAt47 KX
  · exact fnAt46 KX
  · exact fnAt48 KX
  · exact fnAt49 KX
  · exact fnAt50 KX
  · exact fnAt51 KX
  · exact fnAt52 KX
  · exact fnAt53 KX
  · exact fnAt54 KX
variable {mg : Str → Option Value} (hn : g.Ns mainGlobals mg)
include hn
theorem gloAll : ∀ x p, (x, p) ∈ thePr.glo → ∃ v, mg x = some v ∧ Rep (faT fl g.objs.size) none g p v := by
  have h : ∀ q ∈ gloTab, ∃ v, mg q.1 = some v ∧ Rep (faT fl g.objs.size) none g q.2 v := by
    refine List.forall_mem_cons.mpr ⟨⟨Value.int 0 187, mg_at KX hn (by kernel_rfl), _, rfl⟩, ?_⟩
    refine List.forall_mem_cons.mpr ⟨⟨Value.int 1 189, mg_at KX hn (by kernel_rfl), _, rfl⟩, ?_⟩
    refine List.forall_mem_cons.mpr ⟨⟨Value.int 5 191, mg_at KX hn (by kernel_rfl), _, rfl⟩, ?_⟩
    refine List.forall_mem_cons.mpr ⟨⟨Value.str (Str.ofString "0123456789abcdefghijklmnopqrstuvwxyz") 212, mg_at KX hn (by kernel_rfl), _, rfl⟩, ?_⟩
    refine List.forall_mem_cons.mpr ⟨⟨Value.str (Str.ofString "n") 245, mg_at KX hn (by kernel_rfl), _, rfl⟩, ?_⟩
    refine List.forall_mem_cons.mpr ⟨⟨Value.str (Str.ofString "f") 247, mg_at KX hn (by kernel_rfl), _, rfl⟩, ?_⟩
    refine List.forall_mem_cons.mpr ⟨⟨Value.str (Str.ofString "c") 249, mg_at KX hn (by kernel_rfl), _, rfl⟩, ?_⟩
    refine List.forall_mem_cons.mpr ⟨⟨Value.str (Str.ofString "u") 251, mg_at KX hn (by kernel_rfl), _, rfl⟩, ?_⟩
    refine List.forall_mem_cons.mpr ⟨⟨Value.str (Str.ofString "d") 253, mg_at KX hn (by kernel_rfl), _, rfl⟩, ?_⟩
    refine List.forall_mem_cons.mpr ⟨⟨Value.str (Str.ofString "d") 253, mg_at KX hn (by kernel_rfl), _, rfl⟩, ?_⟩
    refine List.forall_mem_cons.mpr ⟨⟨.ref 59, mg_at KX hn (by kernel_rfl), 59, _, _, rfl, nofun, KX 59 _ rfl, ⟨_, _, rfl, ⟨_, rfl⟩, ⟨_, _, rfl, ⟨_, rfl⟩, ⟨_, _, rfl, ⟨_, rfl⟩, ⟨_, _, rfl, ⟨_, rfl⟩, rfl⟩⟩⟩⟩⟩, ?_⟩
    refine List.forall_mem_cons.mpr ⟨⟨.ref 62, mg_at KX hn (by kernel_rfl), 62, _, _, rfl, nofun, KX 62 _ rfl, ⟨_, _, rfl, ⟨_, rfl⟩, ⟨_, _, rfl, ⟨_, rfl⟩, ⟨_, _, rfl, ⟨_, rfl⟩, ⟨_, _, rfl, ⟨_, rfl⟩, rfl⟩⟩⟩⟩⟩, ?_⟩
    refine List.forall_mem_cons.mpr ⟨⟨.ref 63, mg_at KX hn (by kernel_rfl), 63, _, _, rfl, nofun, KX 63 _ rfl, ⟨_, _, rfl, ⟨_, rfl⟩, ⟨_, _, rfl, ⟨_, rfl⟩, ⟨_, _, rfl, ⟨_, rfl⟩, ⟨_, _, rfl, ⟨_, rfl⟩, rfl⟩⟩⟩⟩⟩, ?_⟩
    refine List.forall_mem_cons.mpr ⟨⟨.ref 64, mg_at KX hn (by kernel_rfl), 64, _, _, rfl, nofun, KX 64 _ rfl, ⟨_, _, rfl, ⟨_, rfl⟩, ⟨_, _, rfl, ⟨_, rfl⟩, ⟨_, _, rfl, ⟨_, rfl⟩, ⟨_, _, rfl, ⟨_, rfl⟩, rfl⟩⟩⟩⟩⟩, ?_⟩
    refine List.forall_mem_cons.mpr ⟨⟨Value.int 33219280948873626 301, mg_at KX hn (by kernel_rfl), _, rfl⟩, ?_⟩
    refine List.forall_mem_cons.mpr ⟨⟨.ref 65, mg_at KX hn (by kernel_rfl), rfl⟩, ?_⟩
    refine List.forall_mem_cons.mpr ⟨⟨.ref 195, mg_at KX hn (by kernel_rfl), rfl⟩, ?_⟩
    refine List.forall_mem_cons.mpr ⟨⟨.ref 21, mg_at KX hn (by kernel_rfl), rfl⟩, ?_⟩
    refine List.forall_mem_cons.mpr ⟨⟨.ref 28, mg_at KX hn (by kernel_rfl), rfl⟩, ?_⟩
    refine List.forall_mem_cons.mpr ⟨⟨.ref 36, mg_at KX hn (by kernel_rfl), rfl⟩, ?_⟩
    refine List.forall_mem_cons.mpr ⟨⟨.ref 44, mg_at KX hn (by kernel_rfl), rfl⟩, ?_⟩
    refine List.forall_mem_cons.mpr ⟨⟨.ref 51, mg_at KX hn (by kernel_rfl), rfl⟩, ?_⟩
    refine List.forall_mem_cons.mpr ⟨⟨.ref 58, mg_at KX hn (by kernel_rfl), rfl⟩, ?_⟩
    refine List.forall_mem_cons.mpr ⟨⟨.ref 76, mg_at KX hn (by kernel_rfl), rfl⟩, ?_⟩
    refine List.forall_mem_cons.mpr ⟨⟨.ref 83, mg_at KX hn (by kernel_rfl), rfl⟩, ?_⟩
    refine List.forall_mem_cons.mpr ⟨⟨.ref 91, mg_at KX hn (by kernel_rfl), rfl⟩, ?_⟩
    refine List.forall_mem_cons.mpr ⟨⟨.ref 99, mg_at KX hn (by kernel_rfl), rfl⟩, ?_⟩
    refine List.forall_mem_cons.mpr ⟨⟨.ref 107, mg_at KX hn (by kernel_rfl), rfl⟩, ?_⟩
    refine List.forall_mem_cons.mpr ⟨⟨.ref 114, mg_at KX hn (by kernel_rfl), rfl⟩, ?_⟩
    refine List.forall_mem_cons.mpr ⟨⟨.ref 130, mg_at KX hn (by kernel_rfl), rfl⟩, ?_⟩
    refine List.forall_mem_cons.mpr ⟨⟨.ref 153, mg_at KX hn (by kernel_rfl), rfl⟩, ?_⟩
    refine List.forall_mem_cons.mpr ⟨⟨.ref 170, mg_at KX hn (by kernel_rfl), rfl⟩, ?_⟩
    refine List.forall_mem_cons.mpr ⟨⟨.ref 178, mg_at KX hn (by kernel_rfl), rfl⟩, ?_⟩
    refine List.forall_mem_cons.mpr ⟨⟨.ref 186, mg_at KX hn (by kernel_rfl), rfl⟩, ?_⟩
    refine List.forall_mem_cons.mpr ⟨⟨.ref 194, mg_at KX hn (by kernel_rfl), rfl⟩, ?_⟩
    refine List.forall_mem_cons.mpr ⟨⟨.ref 203, mg_at KX hn (by kernel_rfl), rfl⟩, ?_⟩
    refine List.forall_mem_cons.mpr ⟨⟨.ref 215, mg_at KX hn (by kernel_rfl), rfl⟩, ?_⟩
    refine List.forall_mem_cons.mpr ⟨⟨.ref 208, mg_at KX hn (by kernel_rfl), rfl⟩, ?_⟩
    refine List.forall_mem_cons.mpr ⟨⟨.ref 222, mg_at KX hn (by kernel_rfl), rfl⟩, ?_⟩
    refine List.forall_mem_cons.mpr ⟨⟨.ref 229, mg_at KX hn (by kernel_rfl), rfl⟩, ?_⟩
    refine List.forall_mem_cons.mpr ⟨⟨.ref 236, mg_at KX hn (by kernel_rfl), rfl⟩, ?_⟩
    refine List.forall_mem_cons.mpr ⟨⟨.ref 243, mg_at KX hn (by kernel_rfl), rfl⟩, ?_⟩
    refine List.forall_mem_cons.mpr ⟨⟨.ref 250, mg_at KX hn (by kernel_rfl), rfl⟩, ?_⟩
    refine List.forall_mem_cons.mpr ⟨⟨.ref 257, mg_at KX hn (by kernel_rfl), rfl⟩, ?_⟩
    refine List.forall_mem_cons.mpr ⟨⟨.ref 264, mg_at KX hn (by kernel_rfl), rfl⟩, ?_⟩
    exact fun _ h => nomatch h
  exact fun x p hp => h (x, p) hp
theorem bltAll : ∀ x, x ∈ thePr.blt → mg x = none ∧ x ≠ "__name__" := by
  have h : ∀ q ∈ bltTab, mg q = none ∧ q ≠ "__name__" := by
    refine List.forall_mem_cons.mpr ⟨⟨mg_at KX hn (by kernel_rfl), by decide +kernel⟩, ?_⟩
    refine List.forall_mem_cons.mpr ⟨⟨mg_at KX hn (by kernel_rfl), by decide +kernel⟩, ?_⟩
    refine List.forall_mem_cons.mpr ⟨⟨mg_at KX hn (by kernel_rfl), by decide +kernel⟩, ?_⟩
    refine List.forall_mem_cons.mpr ⟨⟨mg_at KX hn (by kernel_rfl), by decide +kernel⟩, ?_⟩
    refine List.forall_mem_cons.mpr ⟨⟨mg_at KX hn (by kernel_rfl), by decide +kernel⟩, ?_⟩
    refine List.forall_mem_cons.mpr ⟨⟨mg_at KX hn (by kernel_rfl), by decide +kernel⟩, ?_⟩
    refine List.forall_mem_cons.mpr ⟨⟨mg_at KX hn (by kernel_rfl), by decide +kernel⟩, ?_⟩
    refine List.forall_mem_cons.mpr ⟨⟨mg_at KX hn (by kernel_rfl), by decide +kernel⟩, ?_⟩
    refine List.forall_mem_cons.mpr ⟨⟨mg_at KX hn (by kernel_rfl), by decide +kernel⟩, ?_⟩
    refine List.forall_mem_cons.mpr ⟨⟨mg_at KX hn (by kernel_rfl), by decide +kernel⟩, ?_⟩
    refine List.forall_mem_cons.mpr ⟨⟨mg_at KX hn (by kernel_rfl), by decide +kernel⟩, ?_⟩
    exact fun _ h => nomatch h
  exact h
end
/-- the surroundings -/
def mkS (prog : Program) (w : World) (g : Heap) (mg mb : Str → Option Value) (fl : Addr) (cl : Value) (KX : (hd.heap_39 w.params).In g) (hg : g.Ns mainGlobals mg) (hb : g.Ns builtinsNs mb) (hlim : g.NoLimit) (hdig : g.NoDigits) (hbi : ∀ x : Str, x ≠ "__name__" → mb x = bootBuiltins x) : Static thePr where
  prog := prog
  w := w
  g := g
  mg := mg
  mb := mb
  hg := hg
  hb := hb
  hlim := hlim
  hdig := hdig
  hbi := hbi
  fa := faT fl g.objs.size
  cd := cdT cl
  hglo := gloAll KX hg
  hgno := bltAll KX hg
  hfn := fnAll KX
  hlo := rfl
theorem two_tup {fa : Nat → Addr} {h : Heap} {a : Addr} {n : Nat} {i j : Int} {t u : Tok} (hg : h.get? a = some (tupObj [.int i t, .int j u] n)) : Rep fa none h (.tup [.int i, .int j]) (.ref a) :=
  ⟨a, _, _, rfl, nofun, hg, _, _, rfl, ⟨_, rfl⟩, _, _, rfl, ⟨_, rfl⟩, rfl⟩
section
variable {prog : Program} {w : World} {g : Heap} {mg mb : Str → Option Value} {fl : Addr} {cl : Value} {KX : (hd.heap_39 w.params).In g} {hg : g.Ns mainGlobals mg} {hb : g.Ns builtinsNs mb} {hlim : g.NoLimit} {hdig : g.NoDigits} {hbi : ∀ x : Str, x ≠ "__name__" → mb x = bootBuiltins x}
noncomputable def dEs (P : Params) (a : Addr) : Array DictEntry := match (hd.heap_39 P).lookup a with
  | some ⟨_, _, .dict es _, _⟩ => es
  | _ => #[]
theorem keys65 {prog : Program} (w : World) : KeysOf (strKind prog w) (dEs w.params 65) := by
  intro e he
  have he : e ∈ (dEs w.params 65).toList := by simpa using he
  have h : ∀ e ∈ (dEs w.params 65).toList, ∃ k, (strKind prog w).is k e.key = true ∧ e.hash = (strKind prog w).hash k := by
    refine List.forall_mem_cons.mpr ⟨⟨_, strKind_is prog w (Str.ofString "f") _, rfl⟩, ?_⟩
    refine List.forall_mem_cons.mpr ⟨⟨_, strKind_is prog w (Str.ofString "c") _, rfl⟩, ?_⟩
    refine List.forall_mem_cons.mpr ⟨⟨_, strKind_is prog w (Str.ofString "d") _, rfl⟩, ?_⟩
    refine List.forall_mem_cons.mpr ⟨⟨_, strKind_is prog w (Str.ofString "u") _, rfl⟩, ?_⟩
    exact fun _ h => nomatch h
  exact h e he
theorem keys195 {prog : Program} (w : World) : KeysOf (strKind prog w) (dEs w.params 195) := by
  intro e he
  have he : e ∈ (dEs w.params 195).toList := by simpa using he
  have h : ∀ e ∈ (dEs w.params 195).toList, ∃ k, (strKind prog w).is k e.key = true ∧ e.hash = (strKind prog w).hash k := by
    refine List.forall_mem_cons.mpr ⟨⟨_, strKind_is prog w (Str.ofString "inf") _, rfl⟩, ?_⟩
    refine List.forall_mem_cons.mpr ⟨⟨_, strKind_is prog w (Str.ofString "+inf") _, rfl⟩, ?_⟩
    refine List.forall_mem_cons.mpr ⟨⟨_, strKind_is prog w (Str.ofString "-inf") _, rfl⟩, ?_⟩
    refine List.forall_mem_cons.mpr ⟨⟨_, strKind_is prog w (Str.ofString "nan") _, rfl⟩, ?_⟩
    refine List.forall_mem_cons.mpr ⟨⟨_, strKind_is prog w (Str.ofString "oo") _, rfl⟩, ?_⟩
    refine List.forall_mem_cons.mpr ⟨⟨_, strKind_is prog w (Str.ofString "+oo") _, rfl⟩, ?_⟩
    refine List.forall_mem_cons.mpr ⟨⟨_, strKind_is prog w (Str.ofString "-oo") _, rfl⟩, ?_⟩
    exact fun _ h => nomatch h
  exact h e he
theorem map65 {h : Heap} (hk : ∀ b o, g.get? b = some o → h.get? b = some o) (KX : (hd.heap_39 w.params).In g) : h.MapOf (strKind prog w) 65 (fun k => findBy (strKind prog w).is (dEs w.params 65) k) :=
  ⟨_, _, _, hk _ _ (KX 65 _ rfl), ⟨rfl, rfl, rfl⟩, rfl, keys65 w, fun _ => rfl⟩
theorem map195 {h : Heap} (hk : ∀ b o, g.get? b = some o → h.get? b = some o) (KX : (hd.heap_39 w.params).In g) : h.MapOf (strKind prog w) 195 (fun k => findBy (strKind prog w).is (dEs w.params 195) k) :=
  ⟨_, _, _, hk _ _ (KX 195 _ rfl), ⟨rfl, rfl, rfl⟩, rfl, keys195 w, fun _ => rfl⟩
theorem mkD : Dct (mkS prog w g mg mb fl cl KX hg hb hlim hdig hbi) where
  down := by
    intro n r R hr hR k ns vs σ μ L s a b F ra rb
    cases ra
    obtain ⟨t, rfl⟩ := rb
    have hk := F.hs.keep
    have hm := map65 (prog := prog) (w := w) (h := s.heap) hk KX
    refine ⟨⟨"dict", _, hm.typeIs, slot_dict_getitem.lookup⟩, fun A Q E rm hQ => ?_⟩
    have fin : ∀ (i j : Int) (t' u : Tok) (m : Nat) (a : Addr), findBy (strKind prog w).is (dEs w.params 65) r.str = some (.ref a) → g.get? a = some (tupObj [.int i t', .int j u] m) → R (.tup [.int i, .int j]) →
        wpAny (model prog w) A (getItem (.ref 65) (.str r.str t)) Q E s := fun i j t' u m a h1 h2 h3 =>
      wpAny_getItem_of (strKind_is prog w r.str t) hm h1 (hQ _ _ (.tup [.int i, .int j]) h3 F.toks .toks (Rep.of_none (g := g) hk F.mu_none (two_tup h2)))
    cases r with
    | n => exact absurd rfl hr
    | f => exact fin 1 0 _ _ _ 66 (by kernel_rfl) (KX 66 _ rfl) hR
    | c => exact fin 0 1 _ _ _ 67 (by kernel_rfl) (KX 67 _ rfl) hR
    | d => exact fin 1 1 _ _ _ 68 (by kernel_rfl) (KX 68 _ rfl) hR
    | u => exact fin 0 0 _ _ _ 69 (by kernel_rfl) (KX 69 _ rfl) hR
theorem mkC : Spc (mkS prog w g mg mb fl cl KX hg hb hlim hdig hbi) where
  no := by
    intro n x R hx hR k ns vs σ μ L s a b F ⟨t, ra⟩ rb A Q E rm hQ
    subst ra
    cases rb
    have hk := F.hs.keep
    have hm := map195 (prog := prog) (w := w) (h := s.heap) hk KX
    refine wpAny_in_of (strKind_is prog w x t) rfl hm ?_
    have hno : findBy (strKind prog w).is (dEs w.params 195) x = none := by
      unfold findBy
      rw [Option.map_eq_none_iff, Array.find?_eq_none]
      intro e he
      have he : e ∈ (dEs w.params 195).toList := by simpa using he
      have h : ∀ e ∈ (dEs w.params 195).toList, ∃ y u, e.key = .str y u ∧ 46 ∉ y.cps.toList := by
        refine List.forall_mem_cons.mpr ⟨⟨_, _, rfl, by decide +kernel⟩, ?_⟩
        refine List.forall_mem_cons.mpr ⟨⟨_, _, rfl, by decide +kernel⟩, ?_⟩
        refine List.forall_mem_cons.mpr ⟨⟨_, _, rfl, by decide +kernel⟩, ?_⟩
        refine List.forall_mem_cons.mpr ⟨⟨_, _, rfl, by decide +kernel⟩, ?_⟩
        refine List.forall_mem_cons.mpr ⟨⟨_, _, rfl, by decide +kernel⟩, ?_⟩
        refine List.forall_mem_cons.mpr ⟨⟨_, _, rfl, by decide +kernel⟩, ?_⟩
        refine List.forall_mem_cons.mpr ⟨⟨_, _, rfl, by decide +kernel⟩, ?_⟩
        exact fun _ h => nomatch h
      obtain ⟨y, u, e1, e2⟩ := h e he
      intro hi
      have hi : Value.isStrOf x e.key = true := hi
      obtain ⟨u2, e3⟩ := Value.isStrOf_shape hi
      rw [e1] at e3
      injection e3 with e3 _
      subst e3
      exact e2 hx
    show Q (.bool (findBy (strKind prog w).is (dEs w.params 195) x).isSome) _
    rw [hno]
    exact hQ _ _ (.bool false) hR F.toks .toks rfl
end
open PySem.W PyProof.Rows
theorem final : PySem.Challenge.rw_bw0033_01.Holds := hd (by
  k_go0
  all_goals
    have KX := ‹(hd.heap_39 _).In _›
    have T := ‹Top _ _ _ _ _ _›
    have F := ‹Fr _ _ _ _›
    have hL := ‹Heap.IsList _ _ _›
    have hI := ‹IntsAre _ _›
    have hgen := ‹_ = #[]›
    refine law_top (n := 0) (S := mkS _ _ _ _ _ _ _ KX T.g T.b T.nolimit T.nodigits T.builtins) mkD mkC hL hI (by omega) _ _ ?fs _ _ _ ?room ?fin
    case fs => exact ⟨sok55, ⟨_, F, ⟨_, rfl, rfl⟩, trivial⟩, (fun _ e => nomatch e), nofun⟩
    case room => exact ⟨by simp only [depth_deeper]; decide, by simp only [Around.deeper_units]; decide, rfl⟩
    case fin =>
      intro s' p v hp hr hk hrest
      subst hp
      cases hr
      refine ⟨.inl ⟨_, .bool true, [], rfl, ?_, .bool true, ?_, ?_⟩, hk, ?_, ?_⟩
      · intro cls; rfl
      · first | wrow_post | kc_post
      · exact unshared_nil
      · rw [hrest]
      · rw [hrest]; exact hgen)
end Mine
end
theorem PySem.Challenge.cw_bw0033_01_holds : PySem.Challenge.rw_bw0033_01.Holds :=
  Mine.final
